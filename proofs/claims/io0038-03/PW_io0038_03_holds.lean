import PyProof.Rows.All
import Wide.All
import OpenK.AllK
import Wide.FinOn
import Lean
import PySem.Challenge.RW_io0038_03
open PySem PySem.W PyProof.Rows PySem.Calls
set_option Elab.async false
set_option maxRecDepth 100000
set_option maxHeartbeats 8000000
namespace Mine
set_option maxRecDepth 100000 in
set_option maxHeartbeats 8000000 in
open_top hd for PySem.Challenge.rw_io0038_03
example : True := by w_top off; trivial
section
local macro_rules | `(tactic| k_room) => `(tactic| ktr_room)
local macro_rules | `(tactic| walk_at "my_enter") => `(tactic| (refine' Mine.enter (by with_reducible assumption) (by assumption) ?k6 ?k7 ?k8 ?k9 ?kB ?_ ?c2 ?c3 ?c4 ?c5; (case k6 => k_is); (case k7 => k_is); (case k8 => ktr_room); (case k9 => exact BindsTo.of_eq rfl); (case kB => exact locs rfl); (case c5 => decide); (case c2 => rfl); (case c3 => rfl); (case c4 => rfl); intro L' h₁ mean mg mb F N T'; dsimp only; k_fold))
local macro_rules | `(tactic| walk_at "my_list") => `(tactic| first | assumption | exact News.isList (by assumption) (by k_mem) | exact stays_list (Fr.keep (by assumption)) (by assumption) | exact stays_list (Fr.keep (by assumption)) (stays_list (Fr.keep (by assumption)) (by assumption)))
local macro_rules | `(tactic| walk_at "my_tup") => `(tactic| first | assumption | exact News.isTup (by assumption) (by k_mem) | exact stays_tup (Fr.keep (by assumption)) (by assumption) | exact stays_tup (Fr.keep (by assumption)) (stays_tup (Fr.keep (by assumption)) (by assumption)))
local macro_rules | `(tactic| walk_at "truthy ref") => `(tactic| ((with_reducible show wpAny _ _ (truthy (Value.ref _)) _ _ _); first | (refine Mine.truthy_list_ne (by walk_at "my_list") (by assumption) (by assumption) (by omega) ?_; intro tk1) | (refine Mine.truthy_list_nil (by walk_at "my_list") ?_; intro tk1) | (refine Mine.truthy_tup_nil (by walk_at "my_tup") ?_; intro tk1) | (refine Mine.truthy_empty (by walk_at "my_empty") ?_; intro tk1)))
local macro_rules | `(tactic| walk_at "call builtin:str.join") => `(tactic| ((with_reducible show wpAny _ _ (call (Value.builtin "str.join") [Value.str _ _, Value.ref _]) _ _ _); first | (refine join_listW (by walk_at "my_list") (by assumption) (by decide) (Mine.le_big (by assumption)) ?_; intro t2 tk2) | (refine join_tupleW (by walk_at "my_tup") (by assumption) (by decide) (Mine.le_big (by assumption)) ?_; intro t2 tk2)))
local macro_rules | `(tactic| walk_at "compareOp NotIn str ref") => `(tactic| ((with_reducible show wpAny _ _ (compareOp CmpOp.NotIn (Value.str _ _) (Value.ref _)) _ _ _); first | refine Mine.notin_sup_same (by walk_at "my_tup") ?_ | refine Mine.notin_sup_str (by walk_at "my_tup") (by assumption) ?_))
local macro_rules | `(tactic| walk_at "compareOp NotIn none ref") => `(tactic| ((with_reducible show wpAny _ _ (compareOp CmpOp.NotIn Value.none (Value.ref _)) _ _ _); refine Mine.notin_sup_none (by walk_at "my_tup") ?_))
local macro_rules | `(tactic| walk_at "compareOp NotIn ref ref") => `(tactic| ((with_reducible show wpAny _ _ (compareOp CmpOp.NotIn (Value.ref _) (Value.ref _)) _ _ _); refine Mine.notin_sup_tup (by walk_at "my_tup") (by walk_at "my_tup") (by ktr_units) ?_))
local macro_rules | `(tactic| walk_at "my_empty") => `(tactic| first | assumption | exact Or.inl (News.isList (by assumption) (by k_mem)) | exact Or.inr (News.isTup (by assumption) (by k_mem)) | exact Mine.Empty.keeps (Fr.keep (by assumption)) (by assumption) | exact Mine.Empty.keeps (Fr.keep (by assumption)) (Mine.Empty.keeps (Fr.keep (by assumption)) (by assumption)))
local macro_rules | `(tactic| walk_at "my_ret") => `(tactic| ((try k_unfold); (try dsimp only); refine Mine.ret_of (Fr.keep (by assumption)) ?_ rfl))
local macro_rules | `(tactic| walk_at "compareOp NotIn") => `(tactic| ((with_reducible show wpAny _ _ (compareOp CmpOp.NotIn _ (Value.ref _)) _ _ _); refine Mine.notin_sup_hidden (by walk_at "my_tup") (by first | assumption | exact Mine.Hidden.none | exact Mine.Hidden.sup) ?_))
local macro_rules | `(tactic| walk_at "call builtin:isinstance") => `(tactic| ((with_reducible show wpAny _ _ (call (Value.builtin "isinstance") [Value.ref _, Value.type "tuple"]) _ _ _); refine Mine.isi_tuple (by walk_at "my_tup") ?_))
local macro_rules | `(tactic| walk_at "call builtin:len") => `(tactic| ((with_reducible show wpAny _ _ (call (Value.builtin "len") [Value.ref _]) _ _ _); refine Mine.len_tup (by walk_at "my_tup") (by walk_at "my_size") ?_; intro t2 tk2))
local macro_rules | `(tactic| walk_at "binaryOp Mod str ref") => `(tactic| ((with_reducible show wpAny _ _ (binaryOp Operator.Mod (Value.str _ _) (Value.ref _)) _ _ _); refine Mine.mod_pair (by walk_at "my_tup") (by omega) (by omega) ?_; intro t2 tk2))
local macro_rules | `(tactic| walk_at "my_size") => `(tactic| first | exact Nat.le_of_ble_eq_true rfl | (show _ ≤ 2 ^ 24; (try have hlen9 := StrsAre.length (by assumption)); (try simp only [Array.length_toList] at *); omega) | decide)
local macro_rules | `(tactic| walk_at "binaryOp Mod str str") => `(tactic| ((with_reducible show wpAny _ _ (binaryOp Operator.Mod (Value.str _ _) (Value.str _ _)) _ _ _); refine Mine.mod_brace (Nat.le_trans (Mine.join_len_le (by decide) (by assumption)) (by decide)) ?_; intro t2 tk2))
local macro_rules | `(tactic| walk_at "my_steps") => `(tactic| repeat' (first | ((fail_if_success (with_reducible show wpAny _ _ (exec (Stmt.While _ _ _ _) _) _ _ _)); (fail_if_success (with_reducible show wpAny _ _ (exec (Stmt.For _ _ _ _ _) _) _ _ _)); (fail_if_success (with_reducible show wpAny _ _ (eval (PySem.Expr.ListComp _ _ _ _) _) _ _ _)); (fail_if_success (with_reducible show wpAny _ _ (exec (PySem.Stmt.Assign _ (PySem.Expr.ListComp _ _ _ _) _) _) _ _ _)); (fail_if_success (with_reducible show wpAny _ _ (call (Value.ref _) _) _ _ _)); (fail_if_success (with_reducible show wpAny _ _ (pyIter (Value.ref _)) _ _ _)); (fail_if_success (show LCg.CompSrc _ _ _ _ _ _ _ _ _ _ _ _ _ _)); first | (k_unfold; (try dsimp only)) | (k_end; wrow_close) | walk1 | (dsimp only; walk1) | (leave1; (try dsimp only)))))
local macro_rules | `(tactic| walk_at "my_enter2") => `(tactic| ((case k6 => k_is); (case k7 => k_is); (case k8 => ktr_room); (case k9 => exact BindsTo.of_eq rfl); (case kB => exact locs rfl); (case c5 => decide); (case c2 => rfl); (case c3 => rfl); (case c4 => rfl); intro L' h₁ mean mg mb F N T'; dsimp only [List.reverse, List.reverseAux, List.length] at F ⊢; k_fold))
local macro_rules | `(tactic| walk_at "my_map") => `(tactic| ((simp only [← Mine.mset_at]); rfl))
noncomputable abbrev P := PySem.Challenge.rw_io0038_03.row.prog
noncomputable abbrev V := Mine.hd.view_39
abbrev TopH (h : Heap) : Prop := ∃ mean mg mb, Top V (looseW V []) mean mg mb h
abbrev AA (dp : Nat) (outer : List Env) (gd : Option (List Code)) (un : Nat) : Around := { handled := none, depth := dp, frames := some outer, guards := gd, units := un }

/-- what a call of a def without a change hands back -/
def Ret (s : Shared) (Post : Value → Heap → Prop) (r : Result) (s' : Shared) : Prop :=
  ∃ v h' tk, r = .ok (.ret v) ∧ s' = { s with heap := h', toks := tk } ∧ s.heap.StaysIn h' ∧ Post v h'

/-- entering a def of the text -/
theorem enter {w : World} {A : Around} {R : Result → Shared → Prop} {s : Shared} {name qual : Str} {params : Arguments} {body : List Stmt} {scope : Scope} {dV kV doc pm cdv ct oc : Value} {an od : Option Addr} {osl : Array (Option Value)} {f : Addr} {args : Args} {binds : List (Str × Value)}
    (X : (Mine.hd.heap_39 w.params).In s.heap) (T : TopH s.heap)
    (ho : (Mine.hd.heap_39 w.params).lookup f = some ⟨oc, od, .func (fnOf name qual params body scope dV kV doc pm an cdv ct), osl⟩) (hcd : codeIn (Mine.hd.heap_39 w.params) cdv qual = true) (hroom : A.depth < recursionLimit)
    (hbind : BindsTo s (fnOf name qual params body scope dV kV doc pm an cdv ct) args binds) (hloc : ∀ y ∈ binds, scope.names.lookup y.1 = some .local)
    (h : ∀ L' h₁ mean mg mb, Fr s.heap L' h₁ (fun y => binds.reverse.lookup y) → News s.heap L' h₁ [] → Top V (looseW V []) mean mg mb s.heap →
      wpAny (model P w) (A.deeper (envOf qual scope L' f cdv)) (execs body (envOf qual scope L' f cdv))
        (fun fl s' => R (.ok (.ret (match fl with | .ret v => v | _ => .none))) s')
        (fun _ _ => False)
        { s with heap := h₁, toks := s.toks + binds.length })
    (hco : scope.isCoroutine = false) (hgen : scope.isGenerator = false) (hk : scope.kind = .function) (hcell : ∀ x ∈ scope.names, x.2 ≠ .cell) :
    codeAny (model P w) A (.call (.ref f) args) R s := by
  obtain ⟨mean, mg, mb, T⟩ := T
  refine codeAny_call_def (fd := fnOf name qual params body scope dV kV doc pm an cdv ct) (body := body) (binds := binds) hroom (X _ _ ho) rfl T.nolimit (codeRec_of X hcd) rfl hbind hcell hloc (fun h₁ hns hk₁ => ?_) hco hgen hk
  exact wpAny_mono (h _ h₁ mean mg mb ⟨hns, hk₁, Nat.le_refl _⟩ (fun _ hp => nomatch hp) T) (fun _ _ x => x) fun _ _ x => x.elim

section
variable {prog : Program} {w : World} {A : Around} {E : Value → Shared → Prop} {s : Shared}
theorem truthy_list_ne {l : Addr} {items : Array Value} {texts : List Str} {Q : Bool → Shared → Prop} (hl : s.heap.IsList l items) (hi : StrsAre items.toList texts) (hne : texts ≠ []) (hfit : texts.length ≤ 2 ^ 24)
    (h : ∀ tk, Q true { s with toks := tk }) : wpAny (model prog w) A (truthy (.ref l)) Q E s := by
  have hlen := StrsAre.length hi
  refine wpAny_truthy_list hl (by rw [Array.length_toList] at hlen; omega) ?_
  have : items.isEmpty = false := by
    cases items with
    | mk xs => cases xs with
      | nil => cases texts with
        | nil => exact absurd rfl hne
        | cons _ _ => cases hi
      | cons _ _ => rfl
  rw [this]
  exact h _
theorem truthy_list_nil {l : Addr} {Q : Bool → Shared → Prop} (hl : s.heap.IsList l #[])
    (h : ∀ tk, Q false { s with toks := tk }) : wpAny (model prog w) A (truthy (.ref l)) Q E s := by
  refine wpAny_truthy_list hl (by decide) ?_
  exact h _
theorem truthy_tup_nil {l : Addr} {Q : Bool → Shared → Prop} (hl : IsTup s.heap l #[])
    (h : ∀ tk, Q false { s with toks := tk }) : wpAny (model prog w) A (truthy (.ref l)) Q E s := by
  refine truthy_tuple hl (by decide) ?_
  exact h _
theorem ret_of {s s' : Shared} {v : Value} {Post : Value → Heap → Prop} (hs : s.heap.StaysIn s'.heap) (hp : Post v s'.heap) (he : s' = { s with heap := s'.heap, toks := s'.toks }) : Ret s Post (.ok (.ret v)) s' :=
  ⟨v, s'.heap, s'.toks, rfl, he, hs, hp⟩
end
section
variable {prog : Program} {w : World} {A : Around} {E : Value → Shared → Prop} {s : Shared}
theorem eqAt_none_none {A : Around} {s : Shared} : SeqAt.EqAt A s .none .none true := SeqAt.EqAt.same _
theorem notin_sup_str {t : Addr} {x sup : Str} {tk u : Tok} {Q : Value → Shared → Prop} (ht : IsTup s.heap t #[.none, .str sup u]) (hx : x ≠ sup) (h : Q (.bool true) s) :
    wpAny (model prog w) A (compareOp .NotIn (.str x tk) (.ref t)) Q E s := by
  refine SeqAt.notIn_tupleAt (fun _ => false) ht (fun y hy => ?_) (by simpa using h)
  have hy' : y = .none ∨ y = .str sup u := by simpa using hy
  rcases hy' with rfl | rfl
  · exact SeqAt.EqAt.none_str _ _
  · have := SeqAt.EqAt.str_str (A := A.in1) (s := s) sup u x tk
    rwa [show (sup == x) = false from by simpa using fun e : sup = x => hx e.symm] at this
theorem notin_sup_none {t : Addr} {sup : Str} {u : Tok} {Q : Value → Shared → Prop} (ht : IsTup s.heap t #[.none, .str sup u]) (h : Q (.bool false) s) :
    wpAny (model prog w) A (compareOp .NotIn .none (.ref t)) Q E s := by
  refine SeqAt.notIn_tupleAt (fun y => match y with | .none => true | _ => false) ht (fun y hy => ?_) (by simpa using h)
  have hy' : y = .none ∨ y = .str sup u := by simpa using hy
  rcases hy' with rfl | rfl
  · exact SeqAt.EqAt.same _
  · exact SeqAt.EqAt.str_none _ _
theorem notin_sup_same {t : Addr} {sup : Str} {u tk : Tok} {Q : Value → Shared → Prop} (ht : IsTup s.heap t #[.none, .str sup u]) (h : Q (.bool false) s) :
    wpAny (model prog w) A (compareOp .NotIn (.str sup tk) (.ref t)) Q E s := by
  refine SeqAt.notIn_tupleAt (fun y => match y with | .none => false | _ => true) ht (fun y hy => ?_) (by simpa using h)
  have hy' : y = .none ∨ y = .str sup u := by simpa using hy
  rcases hy' with rfl | rfl
  · exact SeqAt.EqAt.none_str _ _
  · have := SeqAt.EqAt.str_str (A := A.in1) (s := s) sup u sup tk
    rwa [show (sup == sup) = true from by simp] at this
theorem notin_sup_tup {t l : Addr} {sup : Str} {u : Tok} {items : Array Value} {Q : Value → Shared → Prop} (ht : IsTup s.heap t #[.none, .str sup u]) (hl : IsTup s.heap l items) (hu : A.units + 1 < cLine) (h : Q (.bool true) s) :
    wpAny (model prog w) A (compareOp .NotIn (.ref l) (.ref t)) Q E s := by
  refine SeqAt.notIn_tupleAt (fun _ => false) ht (fun y hy => ?_) (by simpa using h)
  have hy' : y = .none ∨ y = .str sup u := by simpa using hy
  rcases hy' with rfl | rfl
  · exact SeqAt.EqAt.none_tuple hl hu
  · exact SeqAt.EqAt.str_tuple _ _ hl hu
end
/-- a metavar or a dest that says nothing -/
def Hidden (v : Value) : Prop := v = .none ∨ ∃ t, v = .str "==SUPPRESS==" t
theorem Hidden.none : Hidden .none := .inl rfl
theorem Hidden.sup {t : Tok} : Hidden (.str "==SUPPRESS==" t) := .inr ⟨t, rfl⟩
/-- an empty list or tuple -/
def Empty (h : Heap) (o : Addr) : Prop := h.IsList o #[] ∨ IsTup h o #[]
theorem Empty.keeps {h h' : Heap} {o : Addr} (k : h.StaysIn h') (e : Empty h o) : Empty h' o := e.elim (fun x => .inl (stays_list k x)) fun x => .inr (stays_tup k x)
section
variable {prog : Program} {w : World} {A : Around} {E : Value → Shared → Prop} {s : Shared}
theorem truthy_empty {l : Addr} {Q : Bool → Shared → Prop} (hl : Empty s.heap l)
    (h : ∀ tk, Q false { s with toks := tk }) : wpAny (model prog w) A (truthy (.ref l)) Q E s := by
  rcases hl with hl | hl
  · exact truthy_list_nil hl h
  · exact truthy_tup_nil hl h
theorem notin_sup_hidden {t : Addr} {v : Value} {u : Tok} {Q : Value → Shared → Prop} (ht : IsTup s.heap t #[.none, .str "==SUPPRESS==" u]) (hv : Hidden v) (h : Q (.bool false) s) :
    wpAny (model prog w) A (compareOp .NotIn v (.ref t)) Q E s := by
  rcases hv with rfl | ⟨_, rfl⟩
  · exact notin_sup_none ht h
  · exact notin_sup_same ht h
end
theorem isi_nested_same {v t : Value} {dep : Int} {tk : Tok} {Q : Fin → Shared → Prop} {M : Model} {A : Around} {E : Value → Shared → Prop} {s : Shared} (ht : Looks M s.heap (typeOf v) t) (h : Q (.done (.ret (.bool true))) s) :
    wpAny M A (Builtin.«isinstance.nested» ⟨[v, t, .int dep tk], []⟩) Q E s := by
  obtain ⟨hh, g, d, tt, os⟩ := s
  unfold Builtin.«isinstance.nested»
  refine wpAny_bind (ht.at ?_)
  rw [if_pos (by simp)]
  exact wpAny_bind (wpAny_rule (wpAny_bind (wpAny_pure (wpAny_pure h))))
section
variable {prog : Program} {w : World} {A : Around} {E : Value → Shared → Prop} {s : Shared}
theorem isi_tuple {l : Addr} {items : Array Value} {Q : Value → Shared → Prop} (hl : IsTup s.heap l items) (h : Q (.bool true) s) :
    wpAny (model prog w) A (call (.builtin "isinstance") [.ref l, .type "tuple"]) Q E s :=
  call_isinstance (S := fun _ R s => (∀ M, Looks M s.heap (typeOf (.ref l)) (.type "tuple")) ∧ R (.ok (.ret (.bool true))) s)
    (fun _ _ _ _ _ hs => isinstance_outer (isi_nested_same (hs.1 _) hs.2) (fun e => nomatch e))
    ⟨fun M A Q E s' k q => wpAny_typeOf (by obtain ⟨o, ho, hc, _⟩ := hl; exact ⟨o, k _ _ ho, hc⟩) q, h⟩
theorem len_tup {l : Addr} {items : Array Value} {Q : Value → Shared → Prop} (hl : IsTup s.heap l items) (hsz : items.size ≤ 2 ^ 24) (h : ∀ t tk, Q (.int items.size t) { s with toks := tk }) :
    wpAny (model prog w) A (call (.builtin "len") [.ref l]) Q E s :=
  len_tuple hl (by omega) (h _ _)
theorem mod_pair {x y : Str} {tF t u : Tok} {b : Addr} {Q : Value → Shared → Prop} (hb : IsTup s.heap b #[.str x t, .str y u]) (hx : x.length ≤ 1000000) (hy : y.length ≤ 1000000)
    (h : ∀ t' k, Q (.str (x ++ "[, " ++ y ++ "]") t') { s with toks := k }) : wpAny (model prog w) A (binaryOp .Mod (.str "%s[, %s]" tF) (.ref b)) Q E s := by
  have hT : s.TypeIs (.ref b) "tuple" := by
    obtain ⟨o, ho, hc, _⟩ := hb
    exact ⟨o, ho, hc⟩
  have hF : ("%s[, %s]" : Str) = Str.mk #[37, 115, 91, 44, 32, 37, 115, 93] := by decide +kernel
  rw [hF]
  have hm : Meets (Builtin.«str.__mod__» ⟨[.str (Str.mk #[37, 115, 91, 44, 32, 37, 115, 93]) tF, .ref b], []⟩) (fun _ R s => IsTup s.heap b #[.str x t, .str y u] ∧ ∀ t' k, R (.ok (.ret (.str (x ++ "[, " ++ y ++ "]") t'))) { s with toks := k }) := by
    kpt_run
  exact KPt.bin_left (T := "str") (U := "tuple") (op := .Mod) (by decide) (typeIs_str s _ tF) hT F.fills_str_mod KPt.fills_tuple F.slot_str_mod
    (call_meets F.slot_str_mod (typeIs_str s _ tF) F.entry_str_mod (F.args_str_mod_2 _ _) hm ⟨hb, fun t' k => ⟨(fun e => nomatch e), h t' k⟩⟩)
end

theorem join_len (sep : Str) : ∀ ts : List Str, (Txt.join sep ts).length ≤ (ts.map (·.length)).sum + ts.length * sep.length
  | [] => by show (Str.mk #[]).length ≤ _; exact Nat.zero_le _
  | [x] => by show x.length ≤ _; simp
  | x :: y :: r => by
    have ih := join_len sep (y :: r)
    have e : Txt.join sep (x :: y :: r) = x ++ sep ++ Txt.join sep (y :: r) := by
      show Builtin.Str.glued sep (x :: y :: r) = x ++ sep ++ Builtin.Str.glued sep (y :: r)
      rw [StrLaws.glued_eq_join, StrLaws.glued_eq_join]; rfl
    rw [e, Str.length_append, Str.length_append, List.map_cons, List.sum_cons, List.length_cons, Nat.succ_mul]
    omega
theorem join_len_le {sep : Str} {ts : List Str} (hs : sep.length ≤ 2) (hw : (ts.map (·.length)).sum + ts.length ≤ 100000) : (Txt.join sep ts).length ≤ 300000 := by
  have h1 := join_len sep ts
  have h2 : ts.length * sep.length ≤ ts.length * 2 := Nat.mul_le_mul_left _ hs
  omega
section
variable {prog : Program} {w : World} {A : Around} {E : Value → Shared → Prop} {s : Shared}
theorem mod_brace {y : Str} {tF t : Tok} {Q : Value → Shared → Prop} (hy : y.length ≤ 1000000)
    (h : ∀ t' k, Q (.str ("{" ++ y ++ "}") t') { s with toks := k }) : wpAny (model prog w) A (binaryOp .Mod (.str "{%s}" tF) (.str y t)) Q E s := by
  have hF : ("{%s}" : Str) = Str.mk #[123, 37, 115, 125] := by decide +kernel
  refine KPc.mod_str (T := fun z => "{" ++ z ++ "}") hF hy (fun z hz => ?_) h
  kpc_run_s
end

theorem le_big {a : Nat} (h : a ≤ 100000) : a ≤ 1048576 := Nat.le_trans h (by decide)

/-- a name's value set in a list of names -/
def mset (x : Str) (v : Value) : List (Str × Value) → List (Str × Value)
  | [] => [(x, v)]
  | (y, u) :: r => if x == y then (y, v) :: r else (y, u) :: mset x v r
theorem mset_at (x : Str) (v : Value) (y : Str) : ∀ l : List (Str × Value), List.lookup y (mset x v l) = if y = x then some v else List.lookup y l
  | [] => by
    unfold mset
    by_cases h : y = x
    · subst h; simp [List.lookup]
    · rw [if_neg h]; simp [List.lookup, show (y == x) = false from by simpa using h]
  | (z, u) :: r => by
    unfold mset
    by_cases hz : x = z
    · subst hz
      simp only [BEq.rfl, if_true]
      by_cases h : y = x
      · subst h; simp [List.lookup]
      · rw [if_neg h]; simp [List.lookup, show (y == x) = false from by simpa using h]
    · rw [if_neg (by simpa using hz)]
      by_cases h : y = z
      · subst h
        rw [if_neg (fun e => hz e.symm)]
        simp [List.lookup]
      · rw [List.lookup_cons, List.lookup_cons, show (y == z) = false from by simpa using h]
        exact mset_at x v y r
theorem upd_lookup (x : Str) (v : Value) (l : List (Str × Value)) : (fun y => if y = x then some v else List.lookup y l) = fun y => List.lookup y (mset x v l) := by
  funext y; rw [mset_at]

section
variable {prog : Program} {w : World} {A : Around} {E : Value → Shared → Prop} {s : Shared}
theorem item_at {value slice : PySem.Expr} {l : Addr} {vs : Array Value} {k : Int} {u : Tok} {v : Value} {Q : Value → Shared → Prop}
    (hl : s.heap.IsList l vs) (h0 : 0 ≤ k) (hhi : k < 2 ^ 63) (hx : vs[k.toNat]? = some v) (h : Q v s)
    (hs : subscripted slice false (.ref l) (.int k u) = operate [.ref l, .int k u] (getItem (.ref l) (.int k u)) := by with_unfolding_all rfl) :
    wpAny (model prog w) A (subscriptTail value slice (.ref l) (.int k u)) Q E s :=
  tail_any hl.typeIs F.slot_list_getitem.lookup (wpAny_getItem_list hl h0 hhi hx h) hs
end
inductive BoolsAre : List Value → List Bool → Prop
  | nil : BoolsAre [] []
  | cons {b vs bs} : BoolsAre vs bs → BoolsAre (.bool b :: vs) (b :: bs)
theorem BoolsAre.length {vs : List Value} {bs : List Bool} (h : BoolsAre vs bs) : vs.length = bs.length := by
  induction h with
  | nil => rfl
  | cons _ ih => simp [ih]
theorem BoolsAre.get {vs : List Value} {bs : List Bool} (h : BoolsAre vs bs) : ∀ k, k < bs.length → vs[k]? = some (.bool (bs.getD k false)) := by
  induction h with
  | nil => intro k hk; exact absurd hk (Nat.not_lt_zero _)
  | cons _ ih =>
    intro k hk
    cases k with
    | zero => rfl
    | succ k => simpa using ih k (by simpa using hk)
section
variable {prog : Program} {w : World} {A : Around} {E : Value → Shared → Prop} {s : Shared}
theorem item_bools {value slice : PySem.Expr} {l : Addr} {vs : Array Value} {bs : List Bool} {k : Int} {u : Tok} {Q : Value → Shared → Prop}
    (hl : s.heap.IsList l vs) (hb : BoolsAre vs.toList bs) (h0 : 0 ≤ k) (hhi : k < bs.length) (hn : bs.length ≤ 2 ^ 24) (h : Q (.bool (bs.getD k.toNat false)) s)
    (hs : subscripted slice false (.ref l) (.int k u) = operate [.ref l, .int k u] (getItem (.ref l) (.int k u)) := by with_unfolding_all rfl) :
    wpAny (model prog w) A (subscriptTail value slice (.ref l) (.int k u)) Q E s :=
  item_at hl h0 (by omega) (by rw [← Array.getElem?_toList]; exact hb.get _ (by omega)) h hs
end

end
section
theorem join_snoc' (sep a : Str) (l : List Str) : Txt.join sep (l ++ [a]) = if l = [] then a else Txt.join sep l ++ sep ++ a := by
  show Builtin.Str.glued sep (l ++ [a]) = if l = [] then a else Builtin.Str.glued sep l ++ sep ++ a
  rw [StrLaws.glued_eq_join, StrLaws.glued_eq_join]
  exact PyProof.Rows.FinIter.join_snoc sep a l
theorem join_more (sep p q : Str) (l : List Str) : Txt.join sep (l ++ [p ++ q]) = Txt.join sep (l ++ [p]) ++ q := by
  rw [join_snoc', join_snoc']
  split
  · rfl
  · rw [← Str.append_assoc]
theorem str_empty : Str.ofString "" = Str.empty := by decide +kernel
theorem join_new (sep p : Str) (l : List Str) : Txt.join sep ((l ++ [p]) ++ [Str.ofString ""]) = Txt.join sep (l ++ [p]) ++ sep := by
  rw [join_snoc' sep (Str.ofString "") (l ++ [p]), if_neg (by simp), str_empty, Str.append_empty]
theorem item_nat (x : Str) (i : Nat) (h : i < x.length) : (Txt.item x (i : Int)).cps.toList = (x.cps.toList.drop i).take 1 := by
  unfold Txt.item Txt.charAt seqIndex?
  have h' : i < x.cps.size := h
  simp only [show ¬ ((i : Int) < 0) from by omega, if_false]
  rw [if_pos (by simp; exact h)]
  simp only [Option.bind_some, Int.toNat_natCast]
  rw [Array.getElem?_eq_getElem h']
  rw [List.drop_eq_getElem_cons (by simpa using h')]
  simp
theorem slice_clip (x : Str) (i j : Nat) (hj : x.length ≤ j) : Txt.slice x (some (i : Int)) (some (j : Int)) = Txt.slice x (some (i : Int)) (some (x.length : Int)) := by
  have : Builtin.Str.strSliceIndices (some (i : Int)) (some (j : Int)) 1 x.length = Builtin.Str.strSliceIndices (some (i : Int)) (some (x.length : Int)) 1 x.length := by
    unfold Builtin.Str.strSliceIndices
    simp only [show ¬ ((j : Int) < 0) from by omega, show ¬ ((x.length : Int) < 0) from by omega, if_false]
    rw [show min (j : Int) (x.length : Int) = x.length from by omega, show min (x.length : Int) (x.length : Int) = x.length from by omega]
    rfl
  unfold Txt.slice
  rw [this]
theorem slice_nat (x : Str) (i j : Nat) (h : i ≤ j) (hi : i ≤ x.length) : (Txt.slice x (some (i : Int)) (some (j : Int))).cps.toList = (x.cps.toList.drop i).take (j - i) := by
  rcases Nat.le_total j x.length with hj | hj
  · have e := eq_of_beq (slice_closesL (x := x) (i := (i : Int)) (j := (j : Int)) (by omega) (by omega) (by omega))
    rw [e]
    simp only [Int.toNat_natCast]
    rw [show ((j : Int) - (i : Int)).toNat = j - i from by omega]
  · rw [slice_clip x i j hj]
    have e := eq_of_beq (slice_closesL (x := x) (i := (i : Int)) (j := (x.length : Int)) (by omega) (by omega) (by omega))
    rw [e]
    simp only [Int.toNat_natCast]
    rw [show ((x.length : Int) - (i : Int)).toNat = x.length - i from by omega]
    have hl : (x.cps.toList.drop i).length = x.length - i := by simp [Str.length]
    rw [List.take_of_length_le (by omega), List.take_of_length_le (by omega)]
theorem slice_from (x : Str) (i : Nat) (hi : i ≤ x.length) : (Txt.slice x (some (i : Int)) none).cps.toList = x.cps.toList.drop i := by
  rw [slice_from_eq (b := x.length) (by omega) (by omega) rfl]
  simp only [Int.toNat_natCast]
  have hl : (x.cps.toList.drop i).length = x.length - i := by simp [Str.length]
  rw [List.take_of_length_le (by omega)]
theorem slice_to (x : Str) (j : Nat) (hj : j ≤ x.length) : (Txt.slice x none (some (j : Int))).cps.toList = x.cps.toList.take j := by
  have e := eq_of_beq (slice_closes_toL (x := x) (j := (j : Int)) (by omega) (by omega))
  rw [e]
  simp
theorem str_ext {a b : Str} (h : a.cps.toList = b.cps.toList) : a = b := Str.ext' (Array.toList_inj.mp h)
theorem toList_append (a b : Str) : (a ++ b).cps.toList = a.cps.toList ++ b.cps.toList := by rw [Str.cps_append]; simp
theorem StrsAre.snoc {vs : List Value} {ys : List Str} (h : StrsAre vs ys) (y : Str) (t : Tok) : StrsAre (vs ++ [.str y t]) (ys ++ [y]) := by
  induction h with
  | nil => exact .cons _ _ .nil
  | cons _ _ _ ih => exact .cons _ _ ih
theorem join_len_eq (sep : Str) : ∀ ts : List Str, ts ≠ [] → (Txt.join sep ts).length + sep.length = (ts.map (·.length)).sum + ts.length * sep.length
  | [], h => absurd rfl h
  | [x], _ => by show x.length + sep.length = _; simp
  | x :: y :: r, _ => by
    have ih := join_len_eq sep (y :: r) (by simp)
    have e : Txt.join sep (x :: y :: r) = x ++ sep ++ Txt.join sep (y :: r) := by
      show Builtin.Str.glued sep (x :: y :: r) = x ++ sep ++ Builtin.Str.glued sep (y :: r)
      rw [StrLaws.glued_eq_join, StrLaws.glued_eq_join]; rfl
    rw [e, Str.length_append, Str.length_append, List.map_cons, List.sum_cons, List.length_cons, Nat.succ_mul]
    omega
theorem cut_weight {sep T : Str} {ts : List Str} (h : ts ≠ []) (hj : Txt.join sep ts = T) (hs : 0 < sep.length) (hs2 : sep.length ≤ 2) (hT : T.length ≤ 100) : (ts.map (·.length)).sum + ts.length ≤ 100000 := by
  have e := join_len_eq sep ts h
  rw [hj] at e
  have : ts.length ≤ ts.length * sep.length := Nat.le_mul_of_pos_right _ hs
  omega

end
section
section
open Builtin Builtin.Str
theorem mp_owner : Manifest.owners.lookup (String.ofList ['p', 'a', 'm'].reverse) = some Manifest.sig_map := by kernel_rfl
theorem mp_slot_next : Slot "map" "__next__" "map.__next__" :=
  .of (owner := "map") (n := "__next__") (by rw [typeLookup_type, builtinLookup_eq_fast]; kernel_rfl) (by decide +kernel) (by decide +kernel) (by decide +kernel)
    (by first | exact .inl (by decide +kernel) | exact .inr (by decide +kernel)) (by rw [isSubtype_type]; kernel_rfl)
theorem mp_entry_next : entryFor table "map.__next__" = some Builtin.«map.__next__» := entryFor_of_tree (by kernel_rfl)
theorem mp_args_next (a : Value) : argsOk "map.__next__" ⟨[a], []⟩ := by
  unfold argsOk; rw [signature?_of (id := "map.__next__") (n := ['_', '_', 't', 'x', 'e', 'n', '_', '_']) (o := ['p', 'a', 'm']) (by kernel_rfl) mp_owner]; kernel_rfl
theorem mp_slot_iter : Slot "map" "__iter__" "map.__iter__" :=
  .of (owner := "map") (n := "__iter__") (by rw [typeLookup_type, builtinLookup_eq_fast]; kernel_rfl) (by decide +kernel) (by decide +kernel) (by decide +kernel)
    (by first | exact .inl (by decide +kernel) | exact .inr (by decide +kernel)) (by rw [isSubtype_type]; kernel_rfl)
theorem mp_entry_iter : entryFor table "map.__iter__" = some Builtin.«dict_keyiterator.__iter__» :=
  entryFor_alias (id' := "dict_keyiterator.__iter__") (by kernel_rfl) (by first | rfl | decide +kernel | (unfold String.splitOn; simp +decide [String.splitOnAux])) (by decide +kernel) (by kernel_rfl)
theorem mp_args_iter (a : Value) : argsOk "map.__iter__" ⟨[a], []⟩ := by
  unfold argsOk; rw [signature?_of (id := "map.__iter__") (n := ['_', '_', 'r', 'e', 't', 'i', '_', '_']) (o := ['p', 'a', 'm']) (by kernel_rfl) mp_owner]; kernel_rfl
theorem mp_slot_init : Slot "map" "__init__" "object.__init__" :=
  .of (owner := "object") (n := "__init__") (by rw [typeLookup_type, builtinLookup_eq_fast]; kernel_rfl) (by decide +kernel) (by decide +kernel) (by decide +kernel)
    (by first | exact .inl (by decide +kernel) | exact .inr (by decide +kernel)) (by rw [isSubtype_type]; kernel_rfl)
theorem mp_mro : mroOf (.type "map") = pure [.type "map", .type "object"] := by rw [mroOf_type]; kernel_rfl
theorem mp_lookup_new : typeLookup (.type "map") "__new__" = pure (some (.builtin "map.__new__")) := by rw [typeLookup_type, builtinLookup_eq_fast]; kernel_rfl
theorem mp_called : TypeCalled "map" "map.__new__" "object.__init__" :=
  ⟨by decide +kernel, by decide +kernel, ⟨_, _, mp_mro⟩, madeBy_type mp_mro mp_lookup_new (by decide +kernel), by decide +kernel, by rw [isSubtype_type]; kernel_rfl, mp_slot_init⟩
theorem mp_typeCall (a b : Value) : checkTypeCall "map" ⟨[a, b], []⟩ = pure () := by kernel_rfl
theorem mp_newCall (a b : Value) : checkBuiltinCall "map.__new__" ⟨[.type "map", a, b], []⟩ = pure () := by kernel_rfl
theorem mp_entry_new : entryFor table "map.__new__" = some Builtin.«map.__new__» := entryFor_of_tree (by kernel_rfl)
theorem mp_sub : isSubtype (.type "map") (.type "map") = pure true := by rw [isSubtype_type]; kernel_rfl
theorem mp_nolen : typeLookup (.type "map") "__len__" = pure none := by rw [typeLookup_type, builtinLookup_eq_fast]; kernel_rfl
theorem mp_nohint : typeLookup (.type "map") "__length_hint__" = pure none := by rw [typeLookup_type, builtinLookup_eq_fast]; kernel_rfl

abbrev IsMap (h : Heap) (z TI : Addr) (f : Value) : Prop := h.get? z = some { cls := .type "map", dict := none, data := .fields #[.ref TI, f], slots := #[] }
abbrev IsOne (h : Heap) (T : Addr) (a : Value) : Prop := h.get? T = some { cls := .type "tuple", data := .seq #[a] }

/-- str(v) gives y, the heap may grow -/
def StrGives (prog : Program) (w : World) (A : Around) (s : Shared) (v : Value) (y : Str) : Prop :=
  ∀ (Q : Value → Shared → Prop) (E : Value → Shared → Prop), (∀ h' t tk, s.toks ≤ tk → s.heap.StaysIn h' → Q (.str y t) { s with heap := h', toks := tk }) → wpAny (model prog w) A (call (.type "str") [v]) Q E s
theorem StrGives.str {prog : Program} {w : World} {A : Around} {s : Shared} {x : Str} {t : Tok} : StrGives prog w A s (.str x t) x := fun _ _ h => PySem.P.str_of_str (h s.heap t s.toks (Nat.le_refl _) fun _ _ e => e)

section
variable {prog : Program} {w : World} {A : Around} {E : Value → Shared → Prop} {s : Shared}
theorem map_next_item {z TI i l : Addr} {k : Nat} {xs : Array Value} {x : Value} {y : Str} {Q : Value → Shared → Prop}
    (hz : IsMap s.heap z TI (.type "str")) (hTI : IsOne s.heap TI (.ref i)) (hi : s.heap.IsListIter i l k) (hl : s.heap.IsList l xs) (hx : xs[k]? = some x) (hiz : z ≠ i)
    (hs : ∀ h', Heap.SameBut i s.heap h' → StrGives prog w A { s with heap := h' } x y)
    (hQ : ∀ h₁ h' t tk, h₁.IsListIter i l (k + 1) → Heap.SameBut i s.heap h₁ → h₁.StaysIn h' → s.toks ≤ tk → Q (.str y t) { s with heap := h', toks := tk }) :
    wpAny (model prog w) A (Builtin.«map.__next__» ⟨[.ref z], []⟩) (fun fin s' => ∃ v, fin = .done (.ret v) ∧ Q v s') E s := by
  show wpAny _ _ (field (.ref z) 0 >>= _) _ _ _
  refine wpAny_bind (wpAny_field hz rfl (x := .ref TI) rfl ?_)
  refine wpAny_bind (wpAny_seqItems hTI rfl ?_)
  show wpAny _ _ (forIn (#[Value.ref i] : Array Value) _ _ >>= _) _ _ _
  refine wpAny_bind ?_
  simp only [List.forIn_toArray, List.forIn_cons, List.forIn_nil]
  refine wpAny_bind (wpAny_bind (wpAny_holding ?_))
  refine wpAny_nextOf_list_item hi hl hx fun h₁ hi₁ hs₁ => ?_
  refine wpAny_pure (wpAny_pure ?_)
  refine wpAny_bind (wpAny_field (hs₁.extBut _ _ hiz hz) rfl (x := .type "str") rfl ?_)
  refine wpAny_bind (wpAny_holding ?_)
  refine hs h₁ hs₁ _ _ fun h' t tk htk hk => ?_
  refine wpAny_bind (wpAny_letGo ?_)
  exact wpAny_pure ⟨_, rfl, hQ h₁ h' t tk hi₁ hs₁ hk htk⟩

theorem map_next_end {z TI i l : Addr} {k : Nat} {xs : Array Value} {Q : Fin → Shared → Prop} (hh : A.handled = none)
    (hz : IsMap s.heap z TI (.type "str")) (hTI : IsOne s.heap TI (.ref i)) (hi : s.heap.IsListIter i l k) (hl : s.heap.IsList l xs) (hx : xs[k]? = none)
    (hE : ∀ h' e, Heap.ExtBut i s.heap h' → (∃ o, h'.get? e = some o ∧ o.cls = .type "StopIteration") → E (.ref e) { s with heap := h' }) :
    wpAny (model prog w) A (Builtin.«map.__next__» ⟨[.ref z], []⟩) Q E s := by
  show wpAny _ _ (field (.ref z) 0 >>= _) _ _ _
  refine wpAny_bind (wpAny_field hz rfl (x := .ref TI) rfl ?_)
  refine wpAny_bind (wpAny_seqItems hTI rfl ?_)
  show wpAny _ _ (forIn (#[Value.ref i] : Array Value) _ _ >>= _) _ _ _
  refine wpAny_bind ?_
  simp only [List.forIn_toArray, List.forIn_cons, List.forIn_nil]
  refine wpAny_bind (wpAny_bind (wpAny_holding ?_))
  exact wpAny_nextOf_list_end hh hi hl hx fun h' e hk he => hE h' e hk he

/-- what holds of the heap along the walk: all of h0 but the inner iterator -/
def MapSt (h0 : Heap) (i l : Addr) (k : Nat) (s : Shared) : Prop := (∀ b o, b ≠ i → h0.get? b = some o → s.heap.get? b = some o) ∧ s.heap.IsListIter i l k

theorem mapWalks (hh : A.handled = none) (h0 : Heap) (z TI i l : Addr) (xs : Array Value) (ys : Nat → Str)
    (hz : IsMap h0 z TI (.type "str")) (hTI : IsOne h0 TI (.ref i)) (hl : h0.IsList l xs) (hi : i < h0.objs.size) (nz : z ≠ i) (nT : TI ≠ i) (nl : l ≠ i)
    (hs : ∀ (k : Nat) x, xs[k]? = some x → ∀ s : Shared, (∀ b o, b ≠ i → h0.get? b = some o → s.heap.get? b = some o) → StrGives prog w A.in1 s x (ys k)) :
    WalksS prog w A z (List.range h0.objs.size) [i] (fun a b => b = a) xs.size (fun k v => ∃ t, v = .str (ys k) t) (MapSt h0 i l) where
  sub := fun b hb => by
    obtain rfl : b = i := by simpa using hb
    exact List.mem_range.mpr hi
  grefl := fun _ => rfl
  gtrans := fun _ _ _ h1 h2 => h2.trans h1
  frame := fun k s h' tk st _ hk => by
    refine ⟨fun b o hb e => hk b (List.mem_range.mpr (Heap.lt_size e)) o (st.1 b o hb e), ?_⟩
    obtain ⟨o, ho, r⟩ := st.2
    exact ⟨o, hk i (List.mem_range.mpr hi) o ho, r⟩
  item := fun k s Q E hk st hQ => by
    obtain ⟨st1, st2⟩ := st
    have hx : xs[k]? = some xs[k] := Array.getElem?_eq_getElem hk
    have hz' : IsMap s.heap z TI (.type "str") := st1 _ _ nz hz
    have hT : s.TypeIs (.ref z) "map" := ⟨_, hz', rfl⟩
    unfold pyNext
    refine wpAny_bind (wpAny_attempt (wpAny_callSpecial?_slot (name := Str.ofString "__next__") hT mp_slot_next
      (wpAny_call_entry mp_slot_next hT mp_entry_next (map_next_item (y := ys k) (Q := fun v s' => wpAny (model prog w) A (pure (some v)) Q E s') hz' (st1 _ _ nT hTI) st2 (hl.at fun o e => st1 _ _ nl e) hx nz (fun h' hs' => ?_) fun h₁ h' t tk a1 a2 a3 a4 => ?_) (mp_args_next _))))
    · exact hs k _ hx _ fun b o hb e => hs'.extBut _ _ hb (st1 b o hb e)
    · refine wpAny_pure (hQ _ _ ⟨t, rfl⟩ ⟨fun b o hb e => a3 _ _ (a2.extBut _ _ hb (st1 b o hb e)), ?_⟩ ⟨fun b o hb e => a3 _ _ (a2.extBut _ _ (by simpa using hb) e), rfl, rfl, rfl, a4⟩)
      obtain ⟨o, ho, r⟩ := a1
      exact ⟨o, a3 _ _ ho, r⟩
  done := fun s Q E st hQ => by
    obtain ⟨st1, st2⟩ := st
    have hx : xs[xs.size]? = none := Array.getElem?_eq_none (Nat.le_refl _)
    have hz' : IsMap s.heap z TI (.type "str") := st1 _ _ nz hz
    have hT : s.TypeIs (.ref z) "map" := ⟨_, hz', rfl⟩
    unfold pyNext
    refine wpAny_bind (wpAny_attempt (wpAny_callSpecial?_slot (name := Str.ofString "__next__") hT mp_slot_next
      (wpAny_call_entry mp_slot_next hT mp_entry_next (map_next_end (by exact hh) hz' (st1 _ _ nT hTI) st2 (hl.at fun o e => st1 _ _ nl e) hx (fun h' e hk he => ?_)) (mp_args_next _))))
    obtain ⟨o, ho, hc⟩ := he
    refine wpAny_bind (wpAny_isInstance (T := "StopIteration") (b := true) ⟨o, ho, hc⟩ isSubtype_stop ?_)
    exact wpAny_pure (hQ _ ⟨fun b o hb e => hk _ _ (by simpa using hb) e, rfl, rfl, rfl, Nat.le_refl _⟩)
  self := fun k s Q E st hQ => by
    have hz' : IsMap s.heap z TI (.type "str") := st.1 _ _ nz hz
    have hT : s.TypeIs (.ref z) "map" := ⟨_, hz', rfl⟩
    refine wpAny_pyIter_slot hT mp_slot_iter (wpAny_call_entry mp_slot_iter hT mp_entry_iter ?_ (mp_args_iter _))
    show wpAny _ _ (ret (.ref z)) _ _ s
    exact wpAny_pure ⟨_, rfl, "map", _, hT, mp_slot_next.lookup, hQ⟩

theorem collect_map {I : Addr} {fp wr : List Addr} {G : Array GenState → Array GenState → Prop} {n : Nat} {P : Nat → Value → Prop} {St : Nat → Shared → Prop} {Q : List Value → Shared → Prop}
    (W : WalksS prog w A.in1 I fp wr G n P St) (hT : ∀ i s, St i s → s.TypeIs (.ref I) "map") (hst : St 0 s) (hfp : ∀ b ∈ fp, b < s.heap.objs.size) (hI : I ∈ fp)
    (hQ : ∀ s' acc, Moved wr G s s' → ItemsOf P acc n → Q acc.toList s') (hn : n ≤ sizeLine) : wpAny (model prog w) A (collect (.ref I)) Q E s := by
  have hSf : s.heap.objs.size ∉ fp := fun hm => Nat.lt_irrefl _ (hfp _ hm)
  have hSI : s.heap.objs.size ≠ I := fun e => hSf (e ▸ hI)
  unfold collect
  refine wpAny_bind (wpAny_runValue (codeAny_builtin F.entry_proto_collect ?_))
  rw [Around.under_plainId F.plain_proto_collect _]
  show wpAny _ A.in1 (newList [] >>= fun l => again (.builtin "list.__iadd__" ⟨[l, .ref I], []⟩)) _ _ s
  refine wpAny_bind (wpAny_newObj_type ?_)
  refine wpAny_pure ⟨plainId_quiet F.plain_list_iadd _, codeAny_builtin F.entry_list_iadd ?_⟩
  rw [Around.under_plainId F.plain_list_iadd _]
  have hst₁ := W.frame 0 s (s.heap.push { cls := .type "list", data := .seq ([] : List Value).toArray }) s.toks hst (Nat.le_refl _) fun b _ o e => Heap.get?_push_of_some _ e
  show wpAny _ A.in1 (Builtin.List.listExtendWith (.ref s.heap.objs.size) (.ref I) (.ref s.heap.objs.size)) _ _ _
  unfold Builtin.List.listExtendWith
  refine wpAny_bind (wpAny_typeOf (hT 0 _ hst₁) ?_)
  have h1 : Builtin.List.listSameRef (.ref s.heap.objs.size) (.ref I) = false := by simp [Builtin.List.listSameRef, hSI]
  have h2 : (Value.type "map" == Value.type "list") = false := by decide
  have h3 : (Value.type "map" == Value.type "tuple") = false := by decide
  simp only [h1, h2, h3, Bool.or_false, Bool.false_eq_true, if_false]
  refine wpAny_bind (W.self 0 _ _ _ hst₁ ?_)
  refine wpAny_bind (wpAny_holding ?_)
  unfold Builtin.List.listLengthHint
  refine wpAny_bind (wpAny_specialOf (hT 0 _ hst₁) mp_nolen ?_)
  show wpAny _ A.in1 (specialOf (Value.ref I) (Str.ofString "__length_hint__") >>= _) _ _ _
  refine wpAny_bind (wpAny_specialOf (hT 0 _ hst₁) mp_nohint ?_)
  refine wpAny_pure ?_
  show wpAny _ A.in1 (rule "list.extend.makes-room" >>= fun _ => Builtin.List.listTouch (.ref s.heap.objs.size) >>= fun _ =>
    again (.builtin "list.extend.loop" ⟨[.ref s.heap.objs.size, .ref I, .ref s.heap.objs.size], []⟩)) _ _ _
  refine wpAny_bind (wpAny_rule ?_)
  have hS₁ : (s.heap.push { cls := .type "list", data := .seq ([] : List Value).toArray }).get? s.heap.objs.size = some { cls := .type "list", data := .seq ([] : List Value).toArray } := Heap.get?_push_size _ rfl
  refine wpAny_bind ?_
  show wpAny _ A.in1 (updateSeq s.heap.objs.size (·.push .none) >>= fun _ => updateSeq s.heap.objs.size (·.pop)) _ _ _
  refine wpAny_bind (wpAny_updateSeq hS₁ rfl ?_)
  have hS₂ := Heap.get?_update_self (Obj.mapSeq (·.push Value.none)) hS₁ rfl
  refine wpAny_updateSeq hS₂ rfl ?_
  have hS₃ := Heap.get?_update_self (Obj.mapSeq (·.pop)) hS₂ rfl
  have oth : ∀ b o, b ≠ s.heap.objs.size → (s.heap.push { cls := .type "list", data := .seq ([] : List Value).toArray }).get? b = some o →
      (((s.heap.push { cls := .type "list", data := .seq ([] : List Value).toArray }).update s.heap.objs.size (Obj.mapSeq (·.push Value.none))).update s.heap.objs.size (Obj.mapSeq (·.pop))).get? b = some o :=
    fun b o hb e => (Heap.get?_update_other _ _ (Ne.symm hb)).trans ((Heap.get?_update_other _ _ (Ne.symm hb)).trans e)
  refine wpAny_pure ⟨plainId_quiet F.plain_extend_loop _, codeAny_extend_loopS W hn _ hSf _ n 0 _ _ _ rfl (Nat.zero_le _)
    (W.frame 0 ({ s with heap := s.heap.push { cls := .type "list", data := .seq ([] : List Value).toArray } } : Shared) _ s.toks hst₁ (Nat.le_refl _) fun b hb o e => oth b o (fun h => hSf (h ▸ hb)) e) hS₃ (ItemsOf.nil P) fun s' acc' c' hm hS' hacc => ?_⟩
  show wpAny _ A (load s.heap.objs.size >>= _) _ _ s'
  refine wpAny_bind (wpAny_load hS' ?_)
  refine wpAny_pure (hQ s' acc' (Moved.drop_new (o := { cls := .type "list", data := .seq ([] : List Value).toArray }) (tk := s.toks) (Moved.trans W.gtrans ((Moved.refl W.grefl).then_heap (by first | exact Nat.le_refl _ | exact Nat.le_succ _ | omega) fun b o hb e => ?_) hm) (Nat.le_refl _)) hacc)
  exact oth b o (fun h => hb (h ▸ List.mem_cons_self)) e

/-- sep.join(map(str, ..)) -/
theorem join_map {x : Str} {t : Tok} (hh : A.handled = none) {z TI i l : Addr} {xs : Array Value} {ys : List Str} {Q : Value → Shared → Prop}
    (hz : IsMap s.heap z TI (.type "str")) (hTI : IsOne s.heap TI (.ref i)) (hi : s.heap.IsListIter i l 0) (hl : s.heap.IsList l xs) (nz : z ≠ i) (nT : TI ≠ i) (nl : l ≠ i) (hlen : xs.size = ys.length)
    (hs : ∀ (k : Nat) x y, xs[k]? = some x → ys[k]? = some y → ∀ s' : Shared, (∀ b o, b ≠ i → s.heap.get? b = some o → s'.heap.get? b = some o) → StrGives prog w A.in1.in1.in1.in1 s' x y)
    (hok : JoinOk x ys = true) (hn : ys.length ≤ sizeLine)
    (hq : ∀ h' t' tk, (∀ b o, b ≠ i → s.heap.get? b = some o → h'.get? b = some o) → Q (.str (Txt.join x ys) t') { s with heap := h', toks := tk }) :
    wpAny (model prog w) A (call (.builtin "str.join") [.str x t, .ref z]) Q E s := by
  have hT : s.TypeIs (.ref z) "map" := ⟨_, hz, rfl⟩
  have hilt : i < s.heap.objs.size := by obtain ⟨o, ho, _⟩ := hi; exact Heap.lt_size ho
  have hy : ∀ k (hk : k < xs.size), ys[k]? = some (ys.getD k Str.empty) := fun k hk => by
    rw [List.getD_eq_getElem?_getD, List.getElem?_eq_getElem (by omega)]; rfl
  have W : WalksS prog w A.in1.in1 z (List.range s.heap.objs.size) [i] (fun a b => b = a) xs.size (fun k v => ∃ t, v = .str (ys.getD k Str.empty) t) (MapSt s.heap i l) :=
    mapWalks (A := A.in1.in1) hh s.heap z TI i l xs (fun k => ys.getD k Str.empty) hz hTI hl hilt nz nT nl fun k x hx s' hk => by
      have hlt : k < xs.size := by
        rcases Nat.lt_or_ge k xs.size with h | h
        · exact h
        · rw [Array.getElem?_eq_none h] at hx; cases hx
      have hG := hs k x _ hx (hy k hlt) s' hk
      intro Q E hQ
      exact wpAny_of_in1 (hG Q E hQ)
  have hst : MapSt s.heap i l 0 s := ⟨fun _ _ _ e => e, hi⟩
  refine wpAny_call (codeAny_call_builtin F.slot_str_join.plain F.entry_str_join (F.slot_str_join.check _ _ _ _ _ _ _ _ (typeIs_str _ _ _) (F.args_str_join_2 _ _) ?_))
  rw [join_tree_other]
  refine wpAny_bind (wpAny_typeOf hT ?_)
  show wpAny _ A.in1 ((pyIter (.ref z)).tryCatch _ >>= fun it => collect it >>= fun items => joinTail x items) _ _ s
  refine wpAny_bind (wpAny_tryCatch (W.of_in1.self 0 s _ _ hst ?_))
  refine wpAny_bind (collect_map W (fun k s st => ⟨_, st.1 _ _ nz hz, rfl⟩) hst (fun b hb => List.mem_range.mp hb) (List.mem_range.mpr (Heap.lt_size hz)) (fun s' acc hm hacc => ?_) (by rw [hlen]; exact hn))
  obtain ⟨L, hL⟩ := exists_strValues acc.toList fun v hv => by
    obtain ⟨j, hj, rfl⟩ := Array.mem_iff_getElem.mp (Array.mem_toList_iff.mp hv)
    obtain ⟨t, e⟩ := hacc.2 j _ (Array.getElem?_eq_getElem hj)
    exact ⟨_, t, e⟩
  have hLy : L.map (·.1) = ys := by
    have hlL : L.length = acc.size := by
      have := congrArg List.length hL
      simpa [strValues] using this
    apply List.ext_getElem?
    intro k
    rcases Nat.lt_or_ge k ys.length with hk | hk
    · have hk' : k < acc.size := by rw [hacc.1, hlen]; exact hk
      obtain ⟨t, e⟩ := hacc.2 k _ (Array.getElem?_eq_getElem hk')
      have e2 : (strValues L)[k]? = some acc[k] := by rw [hL]; simp [hk']
      rw [e] at e2
      rw [List.getElem?_map]
      unfold strValues at e2
      rw [List.getElem?_map] at e2
      rw [hy k (by rw [hlen]; exact hk)]
      cases hLk : L[k]? with
      | none => rw [hLk] at e2; cases e2
      | some p =>
        rw [hLk] at e2
        simp only [Option.map_some, Option.some.injEq, Value.str.injEq] at e2 ⊢
        exact e2.1
    · rw [List.getElem?_eq_none (by rw [List.length_map, hlL, hacc.1, hlen]; exact hk), List.getElem?_eq_none hk]
  rw [← hL]
  rw [← hLy] at hok
  have hok' := hok
  unfold JoinOk at hok
  rw [Bool.not_eq_true'] at hok
  have g : Gives (joinTail x (strValues L)) (joinMade x L) := by
    have g0 := gives_joinTail x L hok
    cases L with
    | nil => exact g0
    | cons p r => cases r with
      | nil => exact g0
      | cons q r' => exact g0
  obtain ⟨mh, mg, md, mo, mt⟩ := hm
  have hs' : s' = { s with heap := s'.heap, toks := s'.toks } := by
    obtain ⟨h, gg, d, t, o⟩ := s'
    simp only at mg md mo
    subst mg md mo
    rfl
  refine g prog w A (wants Q E) s' (post_join L ⟨joinFit_length hok, fun t' k => ?_⟩)
  rw [hs', hLy]
  exact hq _ _ _ fun b o hb e => mh b o (by simpa using hb) e

abbrev mapH1 (h : Heap) (l : Addr) : Heap := h.push { cls := .type "list_iterator", data := .fields #[.ref l, .int 0 0] }
abbrev mapH2 (h : Heap) (l : Addr) : Heap := (mapH1 h l).push { cls := .type "tuple", data := .seq #[.ref h.objs.size] }
abbrev mapH3 (h : Heap) (l : Addr) (f : Value) : Heap := (mapH2 h l).push { cls := .type "map", data := .fields #[.ref (mapH1 h l).objs.size, f] }
theorem meets_map_new (l : Addr) (f : Value) (xs : Array Value) :
    Meets (Builtin.«map.__new__» ⟨[.type "map", f, .ref l], []⟩) (fun _ R s => s.heap.IsList l xs ∧
      R (.ok (.ret (.ref (mapH2 s.heap l).objs.size))) { s with heap := mapH3 s.heap l f }) :=
  .of_wp fun prog w A R s h => by
    obtain ⟨hp, g, d, tk, os⟩ := s; obtain ⟨hl1, h⟩ := h
    have hsub := mp_sub
    have hL1 : Heap.IsList (Shared.heap ⟨hp, g, d, tk, os⟩) l xs := hl1
    wp_walk using wpAny_pyIter_list hL1
    exact ⟨_, rfl, h⟩

theorem call_map {l : Addr} {f : Value} {xs : Array Value} {Q : Value → Shared → Prop} (hl : s.heap.IsList l xs)
    (h : ∀ h', IsMap h' (s.heap.objs.size + 2) (s.heap.objs.size + 1) f → IsOne h' (s.heap.objs.size + 1) (.ref s.heap.objs.size) → h'.IsListIter s.heap.objs.size l 0 →
      s.heap.StaysIn h' → Q (.ref (s.heap.objs.size + 2)) { s with heap := h' }) :
    wpAny (model prog w) A (call (.type "map") [f, .ref l]) Q E s := by
  refine callType_new mp_called (by decide) (mp_typeCall _ _) (mp_newCall _ _) (fun obj => F.args_object_init_3 obj _ _) mp_entry_new
    (meets_map_new l f xs) ⟨hl, ?_⟩
  have z1 : (mapH1 s.heap l).objs.size = s.heap.objs.size + 1 := Heap.size_push ..
  have z2 : (mapH2 s.heap l).objs.size = s.heap.objs.size + 2 := by rw [Heap.size_push, z1]
  have g3 : (mapH3 s.heap l f).get? (mapH2 s.heap l).objs.size = some _ := Heap.get?_push_size _ rfl
  have g2 : (mapH3 s.heap l f).get? (mapH1 s.heap l).objs.size = some _ := Heap.get?_push_of_some _ (Heap.get?_push_size _ rfl)
  have g1 : (mapH3 s.heap l f).get? s.heap.objs.size = some _ := Heap.get?_push_of_some _ (Heap.get?_push_of_some _ (Heap.get?_push_size _ rfl))
  show _ ∧ _
  rw [z2, z1] at g3
  rw [z1] at g2
  rw [z2]
  exact ⟨⟨_, g3, rfl⟩, h _ g3 g2 ⟨_, g1, rfl, rfl⟩ fun c o x => Heap.get?_push_of_some _ (Heap.get?_push_of_some _ (Heap.get?_push_of_some _ x))⟩
end
end
/-- a map object over str and a list stands ready -/
def MapReady (h₀ : Heap) (L : Addr) (h : Heap) (news : List (Addr × Obj)) (z l : Addr) (xs : Array Value) : Prop :=
  ∃ TI i, IsMap h z TI (.type "str") ∧ IsOne h TI (.ref i) ∧ h.IsListIter i l 0 ∧ h.IsList l xs ∧ z ≠ i ∧ TI ≠ i ∧ l ≠ i ∧ i ≠ L ∧ h₀.get? i = none ∧ ∀ p ∈ news, p.1 ≠ i
section
variable {prog : Program} {w : World} {A : Around} {E : Value → Shared → Prop} {s : Shared} {h₀ : Heap} {L : Addr} {m : Str → Option Value} {news : List (Addr × Obj)}
theorem map_N {l : Addr} {xs : Array Value} {Q : Value → Shared → Prop} (F : Fr h₀ L s.heap m) (N : News h₀ L s.heap news) (hl : s.heap.IsList l xs)
    (h : ∀ h' z, Fr h₀ L h' m → News h₀ L h' news → MapReady h₀ L h' news z l xs → Q (.ref z) { s with heap := h' }) :
    wpAny (model prog w) A (call (.type "map") [.type "str", .ref l]) Q E s := by
  refine call_map hl fun h' a1 a2 a3 a4 => ?_
  have nL : s.heap.objs.size ≠ L := Nat.ne_of_gt F.ns.lt
  obtain ⟨o, ho, _⟩ := id hl
  refine h h' _ (F.keeps a4) (fun p hp => ⟨a4 _ _ (N p hp).1, (N p hp).2⟩) ⟨s.heap.objs.size + 1, s.heap.objs.size, a1, a2, a3, stays_list a4 hl, neN (a := s.heap.objs.size + 2) (b := s.heap.objs.size) (by omega), neN (a := s.heap.objs.size + 1) (b := s.heap.objs.size) (by omega), Nat.ne_of_lt (Heap.lt_size ho), nL, none_at_size F, fun p hp => Nat.ne_of_lt (Heap.lt_size (N p hp).1)⟩
theorem join_map_N {x : Str} {t : Tok} {z l : Addr} {xs : Array Value} {ys : List Str} {Q : Value → Shared → Prop} (F : Fr h₀ L s.heap m) (N : News h₀ L s.heap news) (MR : MapReady h₀ L s.heap news z l xs) (hh : A.handled = none)
    (hi : StrsAre xs.toList ys) (hsep : x.length ≤ 16) (hw : (ys.map (·.length)).sum + ys.length ≤ 1048576)
    (hq : ∀ h' t' tk, Fr h₀ L h' m → News h₀ L h' news → Q (.str (Txt.join x ys) t') { s with heap := h', toks := tk }) :
    wpAny (model prog w) A (call (.builtin "str.join") [.str x t, .ref z]) Q E s := by
  obtain ⟨TI, i, m1, m2, m3, m4, n1, n2, n3, n4, n5, n6⟩ := MR
  have hlen := StrsAre.length hi
  rw [Array.length_toList] at hlen
  refine join_map hh m1 m2 m3 m4 n1 n2 n3 hlen (fun k v y hv hy s' _ => ?_) (joinOk_of_weight hw hsep) (by rw [sizeLine_eq]; omega) fun h' t' tk hk => ?_
  · have : ∃ t, v = .str y t := by
      have key : ∀ (vs : List Value) (zs : List Str), StrsAre vs zs → ∀ k : Nat, vs[k]? = some v → zs[k]? = some y → ∃ t, v = .str y t := by
        intro vs zs hz
        induction hz with
        | nil => intro k hk _; simp at hk
        | cons =>
          rename_i ih
          intro k hk hy
          cases k with
          | zero => simp at hk hy; subst hk hy; exact ⟨_, rfl⟩
          | succ k => exact ih k (by simpa using hk) (by simpa using hy)
      exact key _ _ hi k (by rw [Array.getElem?_toList]; exact hv) hy
    obtain ⟨t, rfl⟩ := this
    exact StrGives.str
  · obtain ⟨oL, es, ep, hL, r⟩ := F.ns
    refine hq h' t' tk ⟨⟨oL, es, ep, hk _ _ (Ne.symm n4) hL, r⟩, fun b o e => hk b o (fun q => by rw [q, n5] at e; cases e) (F.keep b o e), F.above⟩ fun p hp => ⟨hk _ _ (n6 p hp) (N p hp).1, (N p hp).2⟩
end

end
section
/-- a turn's end: what it hands back, or the next turn's state -/
def TurnH (h₀ : Heap) (L : Addr) (s : Shared) (Q : Flow → Shared → Prop) (St' : Heap → Prop) (J' : (Str → Option Value) → Heap → Prop) (f : Flow) (s' : Shared) : Prop :=
  match f with
  | .ret v => Q (.ret v) s'
  | .brk => Q .next s'
  | _ => ∃ h' tk' m', s' = { s with heap := h', toks := tk' } ∧ St' h' ∧ Fr h₀ L h' m' ∧ J' m' h'
theorem TurnH.intro {h₀ : Heap} {L : Addr} {s : Shared} {Q : Flow → Shared → Prop} {St' : Heap → Prop} {J' : (Str → Option Value) → Heap → Prop} {h' : Heap} {tk' : Nat} {m' : Str → Option Value}
    (F : Fr h₀ L h' m') (st : St' h') (j : J' m' h') : TurnH h₀ L s Q St' J' .next { s with heap := h', toks := tk' } := ⟨h', tk', m', rfl, st, F, j⟩
theorem TurnH.cont {h₀ : Heap} {L : Addr} {s : Shared} {Q : Flow → Shared → Prop} {St' : Heap → Prop} {J' : (Str → Option Value) → Heap → Prop} {h' : Heap} {tk' : Nat} {m' : Str → Option Value}
    (F : Fr h₀ L h' m') (st : St' h') (j : J' m' h') : TurnH h₀ L s Q St' J' .cont { s with heap := h', toks := tk' } := ⟨h', tk', m', rfl, st, F, j⟩
theorem TurnH.ret {h₀ : Heap} {L : Addr} {s s' : Shared} {Q : Flow → Shared → Prop} {St' : Heap → Prop} {J' : (Str → Option Value) → Heap → Prop} {v : Value} (q : Q (.ret v) s') : TurnH h₀ L s Q St' J' (.ret v) s' := q

section
variable {prog : Program} {w : World} {A : Around} {s : Shared} {env : Env} {h₀ : Heap} {E : Value → Shared → Prop} {Q : Flow → Shared → Prop}
theorem loop_heap {x : Str} {px : Pos} {body : List Stmt} {I : Addr} {fp wr : List Addr} {n : Nat} {P : Nat → Value → Prop} {St : Nat → Heap → Prop} {m₀ : Str → Option Value}
    (J : Nat → (Str → Option Value) → Heap → Prop) (W : Walks prog w A I fp wr n P St) (hx : env.kindOf x = some .local)
    (hp : (env.scope.kind == .class || (env.scope.kind == .module && env.locals != env.globals)) = false)
    (hLf : env.locals ∉ fp) (hwr : ∀ b ∈ wr, h₀.get? b = none) (hst : St 0 s.heap) (F : Fr h₀ env.locals s.heap m₀) (h0 : J 0 m₀ s.heap)
    (hJ : ∀ i m h h', J i m h → (∀ b o, b ∉ wr → b ≠ env.locals → h.get? b = some o → h'.get? b = some o) → J i m h')
    (turn : ∀ i v m₁ h tk, i < n → P i v → J i m₁ h → St (i + 1) h → Fr h₀ env.locals h (fun y => if y = x then some v else m₁ y) →
      wpAny (model prog w) A (execs body env) (TurnH h₀ env.locals s Q (St (i + 1)) (J (i + 1))) E { s with heap := h, toks := tk })
    (done : ∀ m₁ h tk, J n m₁ h → Fr h₀ env.locals h m₁ → Q .next { s with heap := h, toks := tk })
    (hE : PassesOwn (model prog w) A env E) :
    codeAny (model prog w) A (.forLoop (.Name x px) (.ref I) body [] env) (fun r s' => match r with | .ok f => Q f s' | .error e => cameBackBy (model prog w) A env E e s') s := by
  have hLw : env.locals ∉ wr := fun h => hLf (W.sub _ h)
  have old : ∀ b o, h₀.get? b = some o → b ∉ wr := fun b o e hb => by rw [hwr b hb] at e; cases e
  refine codeAny_forLoop (fun k s' => ∃ h' tk m' i, s' = { s with heap := h', toks := tk } ∧ St i h' ∧ Fr h₀ env.locals h' m' ∧ J i m' h' ∧ i ≤ n ∧ k = n + 1 - i) ?_ (n + 1)
    ⟨s.heap, s.toks, m₀, 0, rfl, hst, F, h0, Nat.zero_le _, rfl⟩
  rintro k s' ⟨h', tk, m', i, rfl, hst', F', hJ', hi, rfl⟩
  have next : ∀ h₁ : Heap, (∀ b o, b ∉ wr → h'.get? b = some o → h₁.get? b = some o) → Fr h₀ env.locals h₁ m' := fun h₁ hk₁ =>
    ⟨F'.ns.at' fun o e => hk₁ _ o hLw e, fun b o e => hk₁ b o (old b o e) (F'.keep b o e), F'.above⟩
  by_cases hlt : i < n
  · refine W.item i _ _ _ hlt hst' fun v h₁ tk₁ hP hst₁ hk₁ => ?_
    have F₁ := next h₁ hk₁
    refine wpAny_assign_Name (wpAny_storeName_local hx F₁.ns (fun h₂ hn₂ hs₂ => ?_) hp)
    have F₂ := F₁.set hn₂ hs₂
    have hst₂ : St (i + 1) h₂ := W.frame _ _ _ hst₁ fun b hb o e => (hs₂.2 b fun q => hLf (q ▸ hb)).trans e
    have hJ₂ : J i m' h₂ := hJ i m' h' h₂ hJ' fun b o hb hL e => (hs₂.2 b hL).trans (hk₁ b o hb e)
    refine wpAny_passesOwn hE (wpAny_mono (turn i v m' h₂ _ hlt hP hJ₂ hst₂ F₂) (fun f s₃ h₃ => ?_) fun _ _ e => e)
    cases f with
    | ret v => exact h₃
    | brk => exact h₃
    | cont =>
      obtain ⟨h₃', tk₃, m₂, rfl, st₃, F₃, J₃⟩ := h₃
      exact ⟨n + 1 - (i + 1), by omega, h₃', tk₃, m₂, i + 1, rfl, st₃, F₃, J₃, hlt, rfl⟩
    | next =>
      obtain ⟨h₃', tk₃, m₂, rfl, st₃, F₃, J₃⟩ := h₃
      exact ⟨n + 1 - (i + 1), by omega, h₃', tk₃, m₂, i + 1, rfl, st₃, F₃, J₃, hlt, rfl⟩
  · have hin : i = n := by omega
    subst hin
    refine W.done _ _ _ hst' fun h₁ tk₁ hk₁ => wpAny_execs_nil ?_
    exact done m' h₁ tk₁ (hJ _ _ _ _ hJ' fun b o hb _ e => hk₁ b o hb e) (next h₁ hk₁)

theorem Fr.ne_list {L l : Addr} {h : Heap} {m : Str → Option Value} {items : Array Value} (F : Fr h₀ L h m) (hl : h.IsList l items) : l ≠ L := by
  intro e
  obtain ⟨o, es, ep, ho, hd, _⟩ := F.ns
  obtain ⟨o', ho', _, n, hd'⟩ := hl
  rw [e, ho] at ho'
  cases ho'
  rw [hd] at hd'
  cases hd'

/-- for x in a list -/
theorem iter_list {x : Str} {px : Pos} {body : List Stmt} {l : Addr} {items : Array Value} {m₀ : Str → Option Value}
    (J : Nat → (Str → Option Value) → Heap → Prop) (hl : s.heap.IsList l items) (F : Fr h₀ env.locals s.heap m₀) (h0 : J 0 m₀ s.heap)
    (hJ : ∀ i m h h', J i m h → (∀ b o, b ≠ s.heap.objs.size → b ≠ env.locals → h.get? b = some o → h'.get? b = some o) → J i m h')
    (turn : ∀ i v m₁ h tk, items[i]? = some v → J i m₁ h → h.IsListIter s.heap.objs.size l (i + 1) → h.IsList l items → h₀.get? s.heap.objs.size = none → s.heap.objs.size ≠ env.locals → Fr h₀ env.locals h (fun y => if y = x then some v else m₁ y) →
      wpAny (model prog w) A (execs body env) (TurnH h₀ env.locals s Q (fun h' => h'.IsListIter s.heap.objs.size l (i + 1) ∧ h'.IsList l items) (J (i + 1))) E { s with heap := h, toks := tk })
    (done : ∀ m₁ h tk, J items.size m₁ h → Fr h₀ env.locals h m₁ → Q .next { s with heap := h, toks := tk })
    (hh : A.handled = none := by rfl) (hx : env.kindOf x = some .local := by rfl)
    (hp : (env.scope.kind == .class || (env.scope.kind == .module && env.locals != env.globals)) = false := by rfl)
    (hE : PassesOwn (model prog w) A env E := by passes_own) :
    wpAny (model prog w) A (pyIter (.ref l)) (fun it s₂ => codeAny (model prog w) A (.forLoop (.Name x px) it body [] env) (fun r s' => match r with | .ok f => Q f s' | .error e => cameBackBy (model prog w) A env E e s') s₂) E s := by
  refine wpAny_pyIter_list hl ?_
  have hne : l ≠ s.heap.objs.size := by obtain ⟨o, ho, _⟩ := hl; exact Nat.ne_of_lt (Heap.lt_size ho)
  have hIL : s.heap.objs.size ≠ env.locals := Nat.ne_of_gt F.ns.lt
  have W := Walks.list (prog := prog) (w := w) hh s.heap.objs.size l hne items
  have st0 : (fun (i : Nat) (h : Heap) => h.IsListIter s.heap.objs.size l i ∧ h.IsList l items) 0 (s.heap.push { cls := .type "list_iterator", data := .fields #[.ref l, .int 0 0] }) :=
    ⟨⟨_, Heap.get?_push_size _ rfl, rfl, rfl⟩, hl.at fun o e => Heap.get?_push_of_some _ e⟩
  refine loop_heap (s := { s with heap := s.heap.push { cls := .type "list_iterator", data := .fields #[.ref l, .int 0 0] } }) J W hx hp ?_ ?_ st0 (F.push _) (hJ _ _ _ _ h0 fun b o _ _ e => Heap.get?_push_of_some _ e) ?_ ?_ ?_ hE
  · intro hm
    rcases List.mem_cons.mp hm with e | hm
    · exact hIL e.symm
    · exact Fr.ne_list F hl (List.mem_singleton.mp hm).symm
  · intro b hb
    rw [List.mem_singleton.mp hb]
    exact none_at_size F
  · intro i m h h' j k
    exact hJ i m h h' j fun b o hb hL e => k b o (by simpa using hb) hL e
  · intro i v m₁ h tk hi hP j st F₁
    exact turn i v m₁ h tk hP j st.1 st.2 (none_at_size F) hIL F₁
  · intro m₁ h tk j F₁
    exact done m₁ h tk j F₁

/-- for x in range(..), a step of c -/
theorem iter_range {x : Str} {px : Pos} {body : List Stmt} {r : Addr} {a b c : Int} {t u v : Tok} {n : Nat} {m₀ : Str → Option Value}
    (J : Nat → (Str → Option Value) → Heap → Prop) (hr : IsRange s.heap r a b c t u v) (hsm : Builtin.Range.small a b c = true) (hn : Builtin.Range.rangeSize a b c = ((n : Nat) : Int)) (F : Fr h₀ env.locals s.heap m₀) (h0 : J 0 m₀ s.heap)
    (hJ : ∀ i m h h', J i m h → (∀ b o, b ≠ s.heap.objs.size → b ≠ env.locals → h.get? b = some o → h'.get? b = some o) → J i m h')
    (turn : ∀ (i : Nat) m₁ h tk t, i < n → J i m₁ h → IsRangeIter h s.heap.objs.size (a + ((i + 1 : Nat) : Int) * c) ((n : Int) - ((i + 1 : Nat) : Int)) c → h₀.get? s.heap.objs.size = none → s.heap.objs.size ≠ env.locals → Fr h₀ env.locals h (fun y => if y = x then some (.int (a + (i : Int) * c) t) else m₁ y) →
      wpAny (model prog w) A (execs body env) (TurnH h₀ env.locals s Q (fun h' => IsRangeIter h' s.heap.objs.size (a + ((i + 1 : Nat) : Int) * c) ((n : Int) - ((i + 1 : Nat) : Int)) c) (J (i + 1))) E { s with heap := h, toks := tk })
    (done : ∀ m₁ h tk, J n m₁ h → Fr h₀ env.locals h m₁ → Q .next { s with heap := h, toks := tk })
    (hh : A.handled = none := by rfl) (hx : env.kindOf x = some .local := by rfl)
    (hp : (env.scope.kind == .class || (env.scope.kind == .module && env.locals != env.globals)) = false := by rfl)
    (hE : PassesOwn (model prog w) A env E := by passes_own) :
    wpAny (model prog w) A (pyIter (.ref r)) (fun it s₂ => codeAny (model prog w) A (.forLoop (.Name x px) it body [] env) (fun r s' => match r with | .ok f => Q f s' | .error e => cameBackBy (model prog w) A env E e s') s₂) E s := by
  refine wpAny_pyIter_range hr hsm ?_
  have hIL : s.heap.objs.size ≠ env.locals := Nat.ne_of_gt F.ns.lt
  have W := Walks.range (prog := prog) (w := w) hh s.heap.objs.size a c n
  have st0 : (fun (i : Nat) (h : Heap) => IsRangeIter h s.heap.objs.size (a + (i : Nat) * c) ((n : Int) - (i : Nat)) c) 0 (s.heap.push { cls := .type "range_iterator", data := .fields #[rawInt a, rawInt (Builtin.Range.rangeSize a b c), rawInt c] }) := by
    have e : (s.heap.push { cls := .type "range_iterator", data := .fields #[rawInt a, rawInt (Builtin.Range.rangeSize a b c), rawInt c] }).get? s.heap.objs.size = some _ := Heap.get?_push_size _ rfl
    show IsRangeIter _ _ (a + ((0 : Nat) : Int) * c) ((n : Int) - ((0 : Nat) : Int)) c
    rw [show a + ((0 : Nat) : Int) * c = a from by simp, show (n : Int) - ((0 : Nat) : Int) = (n : Int) from by simp, ← hn]
    exact e
  refine loop_heap (s := { s with heap := s.heap.push { cls := .type "range_iterator", data := .fields #[rawInt a, rawInt (Builtin.Range.rangeSize a b c), rawInt c] } }) J W hx hp ?_ ?_ st0 (F.push _) (hJ _ _ _ _ h0 fun b o _ _ e => Heap.get?_push_of_some _ e) ?_ ?_ ?_ hE
  · intro hm
    exact hIL (List.mem_singleton.mp hm).symm
  · intro b hb
    rw [List.mem_singleton.mp hb]
    exact none_at_size F
  · intro i m h h' j k
    exact hJ i m h h' j fun b o hb hL e => k b o (by simpa using hb) hL e
  · rintro i v m₁ h tk hi ⟨t, rfl⟩ j st F₁
    exact turn i m₁ h tk t hi j st (none_at_size F) hIL F₁
  · intro m₁ h tk j F₁
    exact done m₁ h tk j F₁
end

/-- a comprehension's elements, each by what holds of it -/
theorem comp_rest {prog : Program} {w : World} {A : Around} {h₀ : Heap} {L : Addr} {m : Str → Option Value} {env : Env} {elt : PySem.Expr} {x : Str} {scope : Scope} {cl : List (Str × Addr)} {s : Shared} {S : List (Addr × Obj) → Prop} {P : Nat → Value → Prop} {Fin : List Value → List (Addr × Obj) → Prop} {news : List (Addr × Obj)} {n : Nat} (R : Nat → Value → Prop)
    (turn : ∀ i v I oI C oC D m₂ ys h tk (E' : Value → Shared → Prop), i < n → P i v → LCg.NsObj oC m₂ → m₂ x = some v → Fr h₀ L h m → News h₀ L h ((I, oI) :: (C, oC) :: (D, LCg.lst ys) :: news) → LCg.Off3 I C D news → ((@Ne Nat I C) ∧ (@Ne Nat I D) ∧ (@Ne Nat C D)) →
      wpAny (model prog w) A (eval elt (compEnvC scope cl C env)) (LCg.CompEnd h₀ L m { s with heap := h, toks := tk } I oI C oC D (LCg.lst ys) S (fun y news' => news' = news ∧ R i y)) E' { s with heap := h, toks := tk })
    (fin : ∀ ys : List Value, ys.length = n → (∀ i (h : i < ys.length), R i ys[i]) → Fin ys news) : LCg.CompRest prog w A h₀ L m env elt x scope cl s S P Fin n 0 [] news := by
  have key : ∀ (j i : Nat) (ys : List Value), i + j = n → ys.length = i → (∀ k (h : k < ys.length), R k ys[k]) → LCg.CompRest prog w A h₀ L m env elt x scope cl s S P Fin j i ys news := by
    intro j
    induction j with
    | zero =>
      intro i ys hi hl hy
      exact LCg.CompRest.zero (fin ys (by omega) hy)
    | succ j ih =>
      intro i ys hi hl hy
      refine LCg.CompRest.succ ?_
      intro v I oI C oC D m₂ h tk E' hv hC hx F N off ne
      refine wpAny_mono (turn i v I oI C oC D m₂ ys h tk E' (by omega) hv hC hx F N off ne) (fun y s₂ hq => ?_) fun _ _ e => e
      obtain ⟨h', tk', nw, e, F', N', off', hS, rfl, hy'⟩ := hq
      refine ⟨h', tk', _, e, F', N', off', hS, ih (i + 1) _ (by omega) (by simp [hl]) ?_⟩
      intro k hk
      rcases Nat.lt_or_ge k ys.length with hlt | hge
      · rw [List.getElem_append_left hlt]; exact hy k hlt
      · have : k = ys.length := by simp at hk; omega
        subst this
        rw [List.getElem_append_right (Nat.le_refl _)]
        simpa [hl] using hy'
  exact key n 0 [] (by omega) rfl (fun k hk => absurd hk (Nat.not_lt_zero _))
section
variable {prog : Program} {w : World} {A : Around} {s : Shared} {env : Env} {h₀ : Heap} {E : Value → Shared → Prop} {Q : Flow → Shared → Prop}
theorem Fr.ne_tup {L l : Addr} {h : Heap} {m : Str → Option Value} {items : Array Value} (F : Fr h₀ L h m) (hl : IsTup h l items) : l ≠ L := by
  intro e
  obtain ⟨o, es, ep, ho, hd, _⟩ := F.ns
  obtain ⟨o', ho', _, n, hd'⟩ := hl
  rw [e, ho] at ho'
  cases ho'
  rw [hd] at hd'
  cases hd'
/-- for x in a tuple -/
theorem iter_tup {x : Str} {px : Pos} {body : List Stmt} {l : Addr} {items : Array Value} {m₀ : Str → Option Value}
    (J : Nat → (Str → Option Value) → Heap → Prop) (hl : IsTup s.heap l items) (F : Fr h₀ env.locals s.heap m₀) (h0 : J 0 m₀ s.heap)
    (hJ : ∀ i m h h', J i m h → (∀ b o, b ≠ s.heap.objs.size → b ≠ env.locals → h.get? b = some o → h'.get? b = some o) → J i m h')
    (turn : ∀ i v m₁ h tk, items[i]? = some v → J i m₁ h → h.IsTupleIter s.heap.objs.size l (i + 1) → IsTup h l items → h₀.get? s.heap.objs.size = none → s.heap.objs.size ≠ env.locals → Fr h₀ env.locals h (fun y => if y = x then some v else m₁ y) →
      wpAny (model prog w) A (execs body env) (TurnH h₀ env.locals s Q (fun h' => h'.IsTupleIter s.heap.objs.size l (i + 1) ∧ IsTup h' l items) (J (i + 1))) E { s with heap := h, toks := tk })
    (done : ∀ m₁ h tk, J items.size m₁ h → Fr h₀ env.locals h m₁ → Q .next { s with heap := h, toks := tk })
    (hh : A.handled = none := by rfl) (hx : env.kindOf x = some .local := by rfl)
    (hp : (env.scope.kind == .class || (env.scope.kind == .module && env.locals != env.globals)) = false := by rfl)
    (hE : PassesOwn (model prog w) A env E := by passes_own) :
    wpAny (model prog w) A (pyIter (.ref l)) (fun it s₂ => codeAny (model prog w) A (.forLoop (.Name x px) it body [] env) (fun r s' => match r with | .ok f => Q f s' | .error e => cameBackBy (model prog w) A env E e s') s₂) E s := by
  refine wpAny_pyIter_tuple hl ?_
  have hne : l ≠ s.heap.objs.size := by obtain ⟨o, ho, _⟩ := hl; exact Nat.ne_of_lt (Heap.lt_size ho)
  have hIL : s.heap.objs.size ≠ env.locals := Nat.ne_of_gt F.ns.lt
  have W := Walks.tuple (prog := prog) (w := w) hh s.heap.objs.size l hne items
  have st0 : (fun (i : Nat) (h : Heap) => h.IsTupleIter s.heap.objs.size l i ∧ h.IsTuple l items) 0 (s.heap.push { cls := .type "tuple_iterator", data := .fields #[.ref l, .int 0 0] }) :=
    ⟨⟨_, Heap.get?_push_size _ rfl, rfl, rfl⟩, stays_tup (fun b o e => Heap.get?_push_of_some _ e) hl⟩
  refine loop_heap (s := { s with heap := s.heap.push { cls := .type "tuple_iterator", data := .fields #[.ref l, .int 0 0] } }) J W hx hp ?_ ?_ st0 (F.push _) (hJ _ _ _ _ h0 fun b o _ _ e => Heap.get?_push_of_some _ e) ?_ ?_ ?_ hE
  · intro hm
    rcases List.mem_cons.mp hm with e | hm
    · exact hIL e.symm
    · exact Fr.ne_tup F hl (List.mem_singleton.mp hm).symm
  · intro b hb
    rw [List.mem_singleton.mp hb]
    exact none_at_size F
  · intro i m h h' j k
    exact hJ i m h h' j fun b o hb hL e => k b o (by simpa using hb) hL e
  · intro i v m₁ h tk hi hP j st F₁
    exact turn i v m₁ h tk hP j st.1 st.2 (none_at_size F) hIL F₁
  · intro m₁ h tk j F₁
    exact done m₁ h tk j F₁
end
theorem News.stays {h₀ h h' : Heap} {L : Addr} {news : List (Addr × Obj)} (N : News h₀ L h news) (k : h.StaysIn h') : News h₀ L h' news := fun p hp => ⟨k _ _ (N p hp).1, (N p hp).2⟩
theorem News.but {h₀ h h' : Heap} {L I : Addr} {news : List (Addr × Obj)} (N : News h₀ L h news) (hI : ∀ p ∈ news, p.1 ≠ I) (k : ∀ b o, b ≠ I → b ≠ L → h.get? b = some o → h'.get? b = some o) : News h₀ L h' news := fun p hp => ⟨k _ _ (hI p hp) (N p hp).2.1 (N p hp).1, (N p hp).2⟩
theorem News.old {h₀ h : Heap} {L : Addr} {news : List (Addr × Obj)} (N : News h₀ L h news) : ∀ p ∈ news, p.1 ≠ h.objs.size := fun p hp => Nat.ne_of_lt (Heap.lt_size (N p hp).1)
theorem News.add {h₀ h : Heap} {L : Addr} {p : Addr × Obj} {news : List (Addr × Obj)} (N : News h₀ L h news) (a : h.get? p.1 = some p.2) (b : p.1 ≠ L) (c : h₀.get? p.1 = none) : News h₀ L h (p :: news) := fun q hq => by
  rcases List.mem_cons.mp hq with rfl | hq
  · exact ⟨a, b, c⟩
  · exact N q hq
/-- a call of a def by its contract -/
theorem call_of {w : World} {A : Around} {s : Shared} {E : Value → Shared → Prop} {Q : Value → Shared → Prop} {h₀ : Heap} {L : Addr} {m : Str → Option Value} {news : List (Addr × Obj)} {f : Value} {args : List Value} {Post : Value → Heap → Prop}
    (hc : codeAny (model P w) A (.call f ⟨args, []⟩) (Ret s Post) s) (F : Fr h₀ L s.heap m) (N : News h₀ L s.heap news)
    (h : ∀ v h' tk, Fr h₀ L h' m → News h₀ L h' news → s.heap.StaysIn h' → Post v h' → Q v { s with heap := h', toks := tk }) :
    wpAny (model P w) A (call f args) Q E s := by
  refine wpAny_call (codeAny_mono hc ?_)
  rintro r s' ⟨v, h', tk, rfl, rfl, hs, hp⟩
  exact h v h' tk (F.keeps hs) (News.stays N hs) hs hp
theorem call_at {w : World} {A₀ : Around} {dp un : Nat} {outer : List Env} {gd : Option (List Code)} {base h₀ : Heap} {cn : Str} {cs : Scope} {L a : Addr} {ccd : Value} {s : Shared} {E : Value → Shared → Prop} {Q : Value → Shared → Prop} {m : Str → Option Value} {news : List (Addr × Obj)} {f : Value} {args : List Value} {Post : Value → Heap → Prop}
    (B : Below A₀ base outer h₀) (F : Fr h₀ L s.heap m) (N : News h₀ L s.heap news) (hA : A₀ = AA dp outer gd un) (hk : cs.kind = .function)
    (hc : Below (AA (dp + 1) (envOf cn cs L a ccd :: outer) gd (un + 3)) base (envOf cn cs L a ccd :: outer) s.heap → codeAny (model P w) (AA (dp + 1) (envOf cn cs L a ccd :: outer) gd (un + 3)) (.call f ⟨args, []⟩) (Ret s Post) s)
    (h : ∀ v h' tk, Fr h₀ L h' m → News h₀ L h' news → s.heap.StaysIn h' → Post v h' → Q v { s with heap := h', toks := tk }) :
    wpAny (model P w) (A₀.deeper (envOf cn cs L a ccd)) (call f args) Q E s := by
  subst hA
  exact call_of (hc (Below.push B F hk)) F N h
theorem News.fresh {h₀ h h' : Heap} {L l : Addr} {m : Str → Option Value} {o : Obj} {news : List (Addr × Obj)} (F : Fr h₀ L h m) (N : News h₀ L h' news) (hn : h.get? l = none) (hl : h'.get? l = some o) : News h₀ L h' ((l, o) :: news) := by
  refine News.add N hl ?_ ?_
  · intro e
    obtain ⟨oL, es, ep, hL, _⟩ := F.ns
    rw [← show l = L from e, hn] at hL
    cases hL
  · cases q : h₀.get? l with
    | none => rfl
    | some o' => have := F.keep _ _ q; rw [hn] at this; cases this
/-- an item of a list at an open place, by what holds of all its items -/
theorem item_any {prog : Program} {w : World} {A : Around} {s : Shared} {E : Value → Shared → Prop} {value slice : PySem.Expr} {l : Addr} {vs : Array Value} {k : Int} {u : Tok} {Q : Value → Shared → Prop} (C : Value → Prop)
    (hl : s.heap.IsList l vs) (h0 : 0 ≤ k) (hk : k < (vs.size : Int)) (hn : vs.size ≤ 100) (hC : ∀ v ∈ vs.toList, C v) (h : ∀ v, C v → Q v s)
    (hs : subscripted slice false (.ref l) (.int k u) = operate [.ref l, .int k u] (getItem (.ref l) (.int k u)) := by with_unfolding_all rfl) :
    wpAny (model prog w) A (subscriptTail value slice (.ref l) (.int k u)) Q E s := by
  have hk' : k.toNat < vs.size := by omega
  exact item_at hl h0 (by omega) (Array.getElem?_eq_getElem hk') (h _ (hC _ (by simp))) hs
def NargsOk (k : Nat) (n : Value) : Prop := n = .none ∨ (∃ i t, n = .int i t) ∨ (∃ x t, n = .str x t ∧ x ≠ "+" ∧ (x = "*" → k ≠ 2))
theorem NargsOk.str {k : Nat} {x : Str} {t : Tok} (h : x ≠ "+") (h' : x = "*" → k ≠ 2) : NargsOk k (.str x t) := .inr (.inr ⟨x, t, rfl, h, h'⟩)
theorem nargs_all {k : Nat} {i : Int} {t1 t2 t3 t4 : Tok} {z : Str} (hz : z ≠ "+") (hz' : z = "*" → k ≠ 2) : ∀ v ∈ (#[.none, .str "?" t1, .int i t2, .str "A..." t3, .str z t4] : Array Value).toList, NargsOk k v := by
  intro v hv
  simp at hv
  rcases hv with rfl | rfl | rfl | rfl | rfl
  · exact .inl rfl
  · exact .str (by decide) (fun e => absurd e (by decide))
  · exact .inr (.inl ⟨_, _, rfl⟩)
  · exact .str (by decide) (fun e => absurd e (by decide))
  · exact .str hz hz'
/-- a block that goes on, by what holds of its names and its ledger -/
def Goes (h₀ : Heap) (L : Addr) (s : Shared) (LED : List (Addr × Obj)) (C : (Str → Option Value) → Prop) (fl : Flow) (s' : Shared) : Prop :=
  fl = .next ∧ ∃ h' tk m', s' = { s with heap := h', toks := tk } ∧ Fr h₀ L h' m' ∧ News h₀ L h' LED ∧ C m'
theorem Goes.intro {h₀ h' : Heap} {L : Addr} {s : Shared} {LED news : List (Addr × Obj)} {C : (Str → Option Value) → Prop} {m' : Str → Option Value} {tk : Nat} (F : Fr h₀ L h' m') (N : News h₀ L h' news) (hs : ∀ p ∈ LED, p ∈ news) (c : C m') : Goes h₀ L s LED C .next { s with heap := h', toks := tk } :=
  ⟨rfl, h', tk, m', rfl, F, fun p hp => N p (hs p hp), c⟩
theorem item_nargs {prog : Program} {w : World} {A : Around} {s : Shared} {E : Value → Shared → Prop} {value slice : PySem.Expr} {l : Addr} {vs : Array Value} {k : Int} {u : Tok} {its : List Value} {ps : List Str} {Q : Value → Shared → Prop} (_hS : StrsAre its ps)
    (hl : s.heap.IsList l vs) (h0 : 0 ≤ k) (hk : k < (vs.size : Int)) (hn : vs.size ≤ 100) (hC : ∀ v ∈ vs.toList, NargsOk ps.length v) (h : ∀ v, NargsOk ps.length v → Q v s)
    (hs : subscripted slice false (.ref l) (.int k u) = operate [.ref l, .int k u] (getItem (.ref l) (.int k u)) := by with_unfolding_all rfl) :
    wpAny (model prog w) A (subscriptTail value slice (.ref l) (.int k u)) Q E s := item_any (NargsOk ps.length) hl h0 hk hn hC h hs

end
section
def bodyOf : Stmt → List Stmt
  | .FunctionDef _ _ b _ _ _ _ _ _ _ => b
  | _ => []
def scopeOf : Stmt → Scope
  | .FunctionDef _ _ _ _ _ _ s _ _ _ => s
  | _ => default
def forBody : Stmt → List Stmt
  | .For _ _ b _ _ => b
  | _ => []
noncomputable def lawD (k : Nat) : Stmt := PySem.Challenge.pw_io0038_03.main.body.getD k (.Pass default)
noncomputable def stOf (k j : Nat) : Stmt := (bodyOf (lawD k)).getD j (.Pass default)

end
section
local macro_rules | `(tactic| k_room) => `(tactic| ktr_room)
local macro_rules | `(tactic| walk_at "my_enter") => `(tactic| (refine' Mine.enter (by with_reducible assumption) (by assumption) ?k6 ?k7 ?k8 ?k9 ?kB ?_ ?c2 ?c3 ?c4 ?c5; (case k6 => k_is); (case k7 => k_is); (case k8 => ktr_room); (case k9 => exact BindsTo.of_eq rfl); (case kB => exact locs rfl); (case c5 => decide); (case c2 => rfl); (case c3 => rfl); (case c4 => rfl); intro L' h₁ mean mg mb F N T'; dsimp only; k_fold))
local macro_rules | `(tactic| walk_at "my_list") => `(tactic| first | assumption | exact News.isList (by assumption) (by k_mem) | exact stays_list (Fr.keep (by assumption)) (by assumption) | exact stays_list (Fr.keep (by assumption)) (stays_list (Fr.keep (by assumption)) (by assumption)))
local macro_rules | `(tactic| walk_at "my_tup") => `(tactic| first | assumption | exact News.isTup (by assumption) (by k_mem) | exact stays_tup (Fr.keep (by assumption)) (by assumption) | exact stays_tup (Fr.keep (by assumption)) (stays_tup (Fr.keep (by assumption)) (by assumption)))
local macro_rules | `(tactic| walk_at "truthy ref") => `(tactic| ((with_reducible show wpAny _ _ (truthy (Value.ref _)) _ _ _); first | (refine Mine.truthy_list_ne (by walk_at "my_list") (by assumption) (by assumption) (by omega) ?_; intro tk1) | (refine Mine.truthy_list_nil (by walk_at "my_list") ?_; intro tk1) | (refine Mine.truthy_tup_nil (by walk_at "my_tup") ?_; intro tk1) | (refine Mine.truthy_empty (by walk_at "my_empty") ?_; intro tk1)))
local macro_rules | `(tactic| walk_at "call builtin:str.join") => `(tactic| ((with_reducible show wpAny _ _ (call (Value.builtin "str.join") [Value.str _ _, Value.ref _]) _ _ _); first | (refine join_listW (by walk_at "my_list") (by assumption) (by decide) (Mine.le_big (by assumption)) ?_; intro t2 tk2) | (refine join_tupleW (by walk_at "my_tup") (by assumption) (by decide) (Mine.le_big (by assumption)) ?_; intro t2 tk2)))
local macro_rules | `(tactic| walk_at "compareOp NotIn str ref") => `(tactic| ((with_reducible show wpAny _ _ (compareOp CmpOp.NotIn (Value.str _ _) (Value.ref _)) _ _ _); first | refine Mine.notin_sup_same (by walk_at "my_tup") ?_ | refine Mine.notin_sup_str (by walk_at "my_tup") (by assumption) ?_))
local macro_rules | `(tactic| walk_at "compareOp NotIn none ref") => `(tactic| ((with_reducible show wpAny _ _ (compareOp CmpOp.NotIn Value.none (Value.ref _)) _ _ _); refine Mine.notin_sup_none (by walk_at "my_tup") ?_))
local macro_rules | `(tactic| walk_at "compareOp NotIn ref ref") => `(tactic| ((with_reducible show wpAny _ _ (compareOp CmpOp.NotIn (Value.ref _) (Value.ref _)) _ _ _); refine Mine.notin_sup_tup (by walk_at "my_tup") (by walk_at "my_tup") (by ktr_units) ?_))
local macro_rules | `(tactic| walk_at "my_empty") => `(tactic| first | assumption | exact Or.inl (News.isList (by assumption) (by k_mem)) | exact Or.inr (News.isTup (by assumption) (by k_mem)) | exact Mine.Empty.keeps (Fr.keep (by assumption)) (by assumption) | exact Mine.Empty.keeps (Fr.keep (by assumption)) (Mine.Empty.keeps (Fr.keep (by assumption)) (by assumption)))
local macro_rules | `(tactic| walk_at "my_ret") => `(tactic| ((try k_unfold); (try dsimp only); refine Mine.ret_of (Fr.keep (by assumption)) ?_ rfl))
local macro_rules | `(tactic| walk_at "compareOp NotIn") => `(tactic| ((with_reducible show wpAny _ _ (compareOp CmpOp.NotIn _ (Value.ref _)) _ _ _); refine Mine.notin_sup_hidden (by walk_at "my_tup") (by first | assumption | exact Mine.Hidden.none | exact Mine.Hidden.sup) ?_))
local macro_rules | `(tactic| walk_at "call builtin:isinstance") => `(tactic| ((with_reducible show wpAny _ _ (call (Value.builtin "isinstance") [Value.ref _, Value.type "tuple"]) _ _ _); refine Mine.isi_tuple (by walk_at "my_tup") ?_))
local macro_rules | `(tactic| walk_at "call builtin:len") => `(tactic| ((with_reducible show wpAny _ _ (call (Value.builtin "len") [Value.ref _]) _ _ _); refine Mine.len_tup (by walk_at "my_tup") (by walk_at "my_size") ?_; intro t2 tk2))
local macro_rules | `(tactic| walk_at "binaryOp Mod str ref") => `(tactic| ((with_reducible show wpAny _ _ (binaryOp Operator.Mod (Value.str _ _) (Value.ref _)) _ _ _); refine Mine.mod_pair (by walk_at "my_tup") (by omega) (by omega) ?_; intro t2 tk2))
local macro_rules | `(tactic| walk_at "my_size") => `(tactic| first | exact Nat.le_of_ble_eq_true rfl | (show _ ≤ 2 ^ 24; (try have hlen9 := StrsAre.length (by assumption)); (try simp only [Array.length_toList] at *); omega) | decide)
local macro_rules | `(tactic| walk_at "binaryOp Mod str str") => `(tactic| ((with_reducible show wpAny _ _ (binaryOp Operator.Mod (Value.str _ _) (Value.str _ _)) _ _ _); refine Mine.mod_brace (Nat.le_trans (Mine.join_len_le (by decide) (by assumption)) (by decide)) ?_; intro t2 tk2))
local macro_rules | `(tactic| walk_at "my_steps") => `(tactic| repeat' (first | ((fail_if_success (with_reducible show wpAny _ _ (exec (Stmt.While _ _ _ _) _) _ _ _)); (fail_if_success (with_reducible show wpAny _ _ (exec (Stmt.For _ _ _ _ _) _) _ _ _)); (fail_if_success (with_reducible show wpAny _ _ (eval (PySem.Expr.ListComp _ _ _ _) _) _ _ _)); (fail_if_success (with_reducible show wpAny _ _ (exec (PySem.Stmt.Assign _ (PySem.Expr.ListComp _ _ _ _) _) _) _ _ _)); (fail_if_success (with_reducible show wpAny _ _ (call (Value.ref _) _) _ _ _)); (fail_if_success (with_reducible show wpAny _ _ (pyIter (Value.ref _)) _ _ _)); (fail_if_success (show LCg.CompSrc _ _ _ _ _ _ _ _ _ _ _ _ _ _)); first | (k_unfold; (try dsimp only)) | (k_end; wrow_close) | walk1 | (dsimp only; walk1) | (leave1; (try dsimp only)))))
local macro_rules | `(tactic| walk_at "my_enter2") => `(tactic| ((case k6 => k_is); (case k7 => k_is); (case k8 => ktr_room); (case k9 => exact BindsTo.of_eq rfl); (case kB => exact locs rfl); (case c5 => decide); (case c2 => rfl); (case c3 => rfl); (case c4 => rfl); intro L' h₁ mean mg mb F N T'; dsimp only [List.reverse, List.reverseAux, List.length] at F ⊢; k_fold))
local macro_rules | `(tactic| walk_at "my_map") => `(tactic| ((simp only [← Mine.mset_at]); rfl))
theorem law_name_A {w : World} {dp un : Nat} {outer : List Env} {gd : Option (List Code)} {base : Heap} {s : Shared} {o : Addr} {m n d c : Value} {items : Array Value} {texts : List Str}
   (X : (Mine.hd.heap_39 w.params).In s.heap) (T : TopH s.heap) (B : Below (AA dp outer gd un) base outer s.heap) (hd : dp + 10 < recursionLimit) (hu : un + 100 < cLine)
   (hl : s.heap.IsList o items) (hi : StrsAre items.toList texts) (hne : texts ≠ []) (hw : (texts.map (·.length)).sum + texts.length ≤ 100000) :
   codeAny (model P w) (AA dp outer gd un) (.call (.ref 77) ⟨[.ref o, m, n, d, c], []⟩) (Ret s fun v _ => ∃ t, v = .str (Txt.join "/" texts) t) s := by
  walk_at "my_enter"
  k_steps
  all_goals (walk_at "my_ret"; exact ⟨_, rfl⟩)

end
section
local macro_rules | `(tactic| k_room) => `(tactic| ktr_room)
local macro_rules | `(tactic| walk_at "my_enter") => `(tactic| (refine' Mine.enter (by with_reducible assumption) (by assumption) ?k6 ?k7 ?k8 ?k9 ?kB ?_ ?c2 ?c3 ?c4 ?c5; (case k6 => k_is); (case k7 => k_is); (case k8 => ktr_room); (case k9 => exact BindsTo.of_eq rfl); (case kB => exact locs rfl); (case c5 => decide); (case c2 => rfl); (case c3 => rfl); (case c4 => rfl); intro L' h₁ mean mg mb F N T'; dsimp only; k_fold))
local macro_rules | `(tactic| walk_at "my_list") => `(tactic| first | assumption | exact News.isList (by assumption) (by k_mem) | exact stays_list (Fr.keep (by assumption)) (by assumption) | exact stays_list (Fr.keep (by assumption)) (stays_list (Fr.keep (by assumption)) (by assumption)))
local macro_rules | `(tactic| walk_at "my_tup") => `(tactic| first | assumption | exact News.isTup (by assumption) (by k_mem) | exact stays_tup (Fr.keep (by assumption)) (by assumption) | exact stays_tup (Fr.keep (by assumption)) (stays_tup (Fr.keep (by assumption)) (by assumption)))
local macro_rules | `(tactic| walk_at "truthy ref") => `(tactic| ((with_reducible show wpAny _ _ (truthy (Value.ref _)) _ _ _); first | (refine Mine.truthy_list_ne (by walk_at "my_list") (by assumption) (by assumption) (by omega) ?_; intro tk1) | (refine Mine.truthy_list_nil (by walk_at "my_list") ?_; intro tk1) | (refine Mine.truthy_tup_nil (by walk_at "my_tup") ?_; intro tk1) | (refine Mine.truthy_empty (by walk_at "my_empty") ?_; intro tk1)))
local macro_rules | `(tactic| walk_at "call builtin:str.join") => `(tactic| ((with_reducible show wpAny _ _ (call (Value.builtin "str.join") [Value.str _ _, Value.ref _]) _ _ _); first | (refine join_listW (by walk_at "my_list") (by assumption) (by decide) (Mine.le_big (by assumption)) ?_; intro t2 tk2) | (refine join_tupleW (by walk_at "my_tup") (by assumption) (by decide) (Mine.le_big (by assumption)) ?_; intro t2 tk2)))
local macro_rules | `(tactic| walk_at "compareOp NotIn str ref") => `(tactic| ((with_reducible show wpAny _ _ (compareOp CmpOp.NotIn (Value.str _ _) (Value.ref _)) _ _ _); first | refine Mine.notin_sup_same (by walk_at "my_tup") ?_ | refine Mine.notin_sup_str (by walk_at "my_tup") (by assumption) ?_))
local macro_rules | `(tactic| walk_at "compareOp NotIn none ref") => `(tactic| ((with_reducible show wpAny _ _ (compareOp CmpOp.NotIn Value.none (Value.ref _)) _ _ _); refine Mine.notin_sup_none (by walk_at "my_tup") ?_))
local macro_rules | `(tactic| walk_at "compareOp NotIn ref ref") => `(tactic| ((with_reducible show wpAny _ _ (compareOp CmpOp.NotIn (Value.ref _) (Value.ref _)) _ _ _); refine Mine.notin_sup_tup (by walk_at "my_tup") (by walk_at "my_tup") (by ktr_units) ?_))
local macro_rules | `(tactic| walk_at "my_empty") => `(tactic| first | assumption | exact Or.inl (News.isList (by assumption) (by k_mem)) | exact Or.inr (News.isTup (by assumption) (by k_mem)) | exact Mine.Empty.keeps (Fr.keep (by assumption)) (by assumption) | exact Mine.Empty.keeps (Fr.keep (by assumption)) (Mine.Empty.keeps (Fr.keep (by assumption)) (by assumption)))
local macro_rules | `(tactic| walk_at "my_ret") => `(tactic| ((try k_unfold); (try dsimp only); refine Mine.ret_of (Fr.keep (by assumption)) ?_ rfl))
local macro_rules | `(tactic| walk_at "compareOp NotIn") => `(tactic| ((with_reducible show wpAny _ _ (compareOp CmpOp.NotIn _ (Value.ref _)) _ _ _); refine Mine.notin_sup_hidden (by walk_at "my_tup") (by first | assumption | exact Mine.Hidden.none | exact Mine.Hidden.sup) ?_))
local macro_rules | `(tactic| walk_at "call builtin:isinstance") => `(tactic| ((with_reducible show wpAny _ _ (call (Value.builtin "isinstance") [Value.ref _, Value.type "tuple"]) _ _ _); refine Mine.isi_tuple (by walk_at "my_tup") ?_))
local macro_rules | `(tactic| walk_at "call builtin:len") => `(tactic| ((with_reducible show wpAny _ _ (call (Value.builtin "len") [Value.ref _]) _ _ _); refine Mine.len_tup (by walk_at "my_tup") (by walk_at "my_size") ?_; intro t2 tk2))
local macro_rules | `(tactic| walk_at "binaryOp Mod str ref") => `(tactic| ((with_reducible show wpAny _ _ (binaryOp Operator.Mod (Value.str _ _) (Value.ref _)) _ _ _); refine Mine.mod_pair (by walk_at "my_tup") (by omega) (by omega) ?_; intro t2 tk2))
local macro_rules | `(tactic| walk_at "my_size") => `(tactic| first | exact Nat.le_of_ble_eq_true rfl | (show _ ≤ 2 ^ 24; (try have hlen9 := StrsAre.length (by assumption)); (try simp only [Array.length_toList] at *); omega) | decide)
local macro_rules | `(tactic| walk_at "binaryOp Mod str str") => `(tactic| ((with_reducible show wpAny _ _ (binaryOp Operator.Mod (Value.str _ _) (Value.str _ _)) _ _ _); refine Mine.mod_brace (Nat.le_trans (Mine.join_len_le (by decide) (by assumption)) (by decide)) ?_; intro t2 tk2))
local macro_rules | `(tactic| walk_at "my_steps") => `(tactic| repeat' (first | ((fail_if_success (with_reducible show wpAny _ _ (exec (Stmt.While _ _ _ _) _) _ _ _)); (fail_if_success (with_reducible show wpAny _ _ (exec (Stmt.For _ _ _ _ _) _) _ _ _)); (fail_if_success (with_reducible show wpAny _ _ (eval (PySem.Expr.ListComp _ _ _ _) _) _ _ _)); (fail_if_success (with_reducible show wpAny _ _ (exec (PySem.Stmt.Assign _ (PySem.Expr.ListComp _ _ _ _) _) _) _ _ _)); (fail_if_success (with_reducible show wpAny _ _ (call (Value.ref _) _) _ _ _)); (fail_if_success (with_reducible show wpAny _ _ (pyIter (Value.ref _)) _ _ _)); (fail_if_success (show LCg.CompSrc _ _ _ _ _ _ _ _ _ _ _ _ _ _)); first | (k_unfold; (try dsimp only)) | (k_end; wrow_close) | walk1 | (dsimp only; walk1) | (leave1; (try dsimp only)))))
local macro_rules | `(tactic| walk_at "my_enter2") => `(tactic| ((case k6 => k_is); (case k7 => k_is); (case k8 => ktr_room); (case k9 => exact BindsTo.of_eq rfl); (case kB => exact locs rfl); (case c5 => decide); (case c2 => rfl); (case c3 => rfl); (case c4 => rfl); intro L' h₁ mean mg mb F N T'; dsimp only [List.reverse, List.reverseAux, List.length] at F ⊢; k_fold))
local macro_rules | `(tactic| walk_at "my_map") => `(tactic| ((simp only [← Mine.mset_at]); rfl))
local macro_rules | `(tactic| walk_at "call type:map") => `(tactic| ((with_reducible show wpAny _ _ (call (Value.type "map") [Value.type "str", Value.ref _]) _ _ _); refine Mine.map_N (by assumption) (by assumption) (by walk_at "my_list") ?_; intro h1 z1 F1 N1 MR1))
local macro_rules | `(tactic| walk_at "call builtin:str.join") => `(tactic| ((with_reducible show wpAny _ _ (call (Value.builtin "str.join") [Value.str _ _, Value.ref _]) _ _ _); refine Mine.join_map_N (by assumption) (by assumption) (by assumption) rfl (by assumption) (by decide) (Mine.le_big (by assumption)) ?_; intro h2 t2 tk2 F2 N2))
theorem law_name_D {w : World} {dp un : Nat} {outer : List Env} {gd : Option (List Code)} {base : Heap} {s : Shared} {o c : Addr} {m n d : Value} {items : Array Value} {texts : List Str}
   (X : (Mine.hd.heap_39 w.params).In s.heap) (T : TopH s.heap) (B : Below (AA dp outer gd un) base outer s.heap) (hd : dp + 10 < recursionLimit) (hu : un + 100 < cLine)
   (hl0 : Empty s.heap o) (hm : Hidden m) (hdd : Hidden d) (hl : s.heap.IsList c items) (hi : StrsAre items.toList texts) (hne : texts ≠ []) (hw : (texts.map (·.length)).sum + texts.length ≤ 100000) :
   codeAny (model P w) (AA dp outer gd un) (.call (.ref 77) ⟨[.ref o, m, n, d, .ref c], []⟩) (Ret s fun v _ => ∃ t, v = .str ("{" ++ Txt.join "," texts ++ "}") t) s := by
  rcases hm with rfl | ⟨t1, rfl⟩ <;> rcases hdd with rfl | ⟨t2, rfl⟩
  all_goals walk_at "my_enter"
  all_goals k_steps
  all_goals (walk_at "my_ret"; exact ⟨_, rfl⟩)

end
section
local macro_rules | `(tactic| k_room) => `(tactic| ktr_room)
local macro_rules | `(tactic| walk_at "my_enter") => `(tactic| (refine' Mine.enter (by with_reducible assumption) (by assumption) ?k6 ?k7 ?k8 ?k9 ?kB ?_ ?c2 ?c3 ?c4 ?c5; (case k6 => k_is); (case k7 => k_is); (case k8 => ktr_room); (case k9 => exact BindsTo.of_eq rfl); (case kB => exact locs rfl); (case c5 => decide); (case c2 => rfl); (case c3 => rfl); (case c4 => rfl); intro L' h₁ mean mg mb F N T'; dsimp only; k_fold))
local macro_rules | `(tactic| walk_at "my_list") => `(tactic| first | assumption | exact News.isList (by assumption) (by k_mem) | exact stays_list (Fr.keep (by assumption)) (by assumption) | exact stays_list (Fr.keep (by assumption)) (stays_list (Fr.keep (by assumption)) (by assumption)))
local macro_rules | `(tactic| walk_at "my_tup") => `(tactic| first | assumption | exact News.isTup (by assumption) (by k_mem) | exact stays_tup (Fr.keep (by assumption)) (by assumption) | exact stays_tup (Fr.keep (by assumption)) (stays_tup (Fr.keep (by assumption)) (by assumption)))
local macro_rules | `(tactic| walk_at "truthy ref") => `(tactic| ((with_reducible show wpAny _ _ (truthy (Value.ref _)) _ _ _); first | (refine Mine.truthy_list_ne (by walk_at "my_list") (by assumption) (by assumption) (by omega) ?_; intro tk1) | (refine Mine.truthy_list_nil (by walk_at "my_list") ?_; intro tk1) | (refine Mine.truthy_tup_nil (by walk_at "my_tup") ?_; intro tk1) | (refine Mine.truthy_empty (by walk_at "my_empty") ?_; intro tk1)))
local macro_rules | `(tactic| walk_at "call builtin:str.join") => `(tactic| ((with_reducible show wpAny _ _ (call (Value.builtin "str.join") [Value.str _ _, Value.ref _]) _ _ _); first | (refine join_listW (by walk_at "my_list") (by assumption) (by decide) (Mine.le_big (by assumption)) ?_; intro t2 tk2) | (refine join_tupleW (by walk_at "my_tup") (by assumption) (by decide) (Mine.le_big (by assumption)) ?_; intro t2 tk2)))
local macro_rules | `(tactic| walk_at "compareOp NotIn str ref") => `(tactic| ((with_reducible show wpAny _ _ (compareOp CmpOp.NotIn (Value.str _ _) (Value.ref _)) _ _ _); first | refine Mine.notin_sup_same (by walk_at "my_tup") ?_ | refine Mine.notin_sup_str (by walk_at "my_tup") (by assumption) ?_))
local macro_rules | `(tactic| walk_at "compareOp NotIn none ref") => `(tactic| ((with_reducible show wpAny _ _ (compareOp CmpOp.NotIn Value.none (Value.ref _)) _ _ _); refine Mine.notin_sup_none (by walk_at "my_tup") ?_))
local macro_rules | `(tactic| walk_at "compareOp NotIn ref ref") => `(tactic| ((with_reducible show wpAny _ _ (compareOp CmpOp.NotIn (Value.ref _) (Value.ref _)) _ _ _); refine Mine.notin_sup_tup (by walk_at "my_tup") (by walk_at "my_tup") (by ktr_units) ?_))
local macro_rules | `(tactic| walk_at "my_empty") => `(tactic| first | assumption | exact Or.inl (News.isList (by assumption) (by k_mem)) | exact Or.inr (News.isTup (by assumption) (by k_mem)) | exact Mine.Empty.keeps (Fr.keep (by assumption)) (by assumption) | exact Mine.Empty.keeps (Fr.keep (by assumption)) (Mine.Empty.keeps (Fr.keep (by assumption)) (by assumption)))
local macro_rules | `(tactic| walk_at "my_ret") => `(tactic| ((try k_unfold); (try dsimp only); refine Mine.ret_of (Fr.keep (by assumption)) ?_ rfl))
local macro_rules | `(tactic| walk_at "compareOp NotIn") => `(tactic| ((with_reducible show wpAny _ _ (compareOp CmpOp.NotIn _ (Value.ref _)) _ _ _); refine Mine.notin_sup_hidden (by walk_at "my_tup") (by first | assumption | exact Mine.Hidden.none | exact Mine.Hidden.sup) ?_))
local macro_rules | `(tactic| walk_at "call builtin:isinstance") => `(tactic| ((with_reducible show wpAny _ _ (call (Value.builtin "isinstance") [Value.ref _, Value.type "tuple"]) _ _ _); refine Mine.isi_tuple (by walk_at "my_tup") ?_))
local macro_rules | `(tactic| walk_at "call builtin:len") => `(tactic| ((with_reducible show wpAny _ _ (call (Value.builtin "len") [Value.ref _]) _ _ _); refine Mine.len_tup (by walk_at "my_tup") (by walk_at "my_size") ?_; intro t2 tk2))
local macro_rules | `(tactic| walk_at "binaryOp Mod str ref") => `(tactic| ((with_reducible show wpAny _ _ (binaryOp Operator.Mod (Value.str _ _) (Value.ref _)) _ _ _); refine Mine.mod_pair (by walk_at "my_tup") (by omega) (by omega) ?_; intro t2 tk2))
local macro_rules | `(tactic| walk_at "my_size") => `(tactic| first | exact Nat.le_of_ble_eq_true rfl | (show _ ≤ 2 ^ 24; (try have hlen9 := StrsAre.length (by assumption)); (try simp only [Array.length_toList] at *); omega) | decide)
local macro_rules | `(tactic| walk_at "binaryOp Mod str str") => `(tactic| ((with_reducible show wpAny _ _ (binaryOp Operator.Mod (Value.str _ _) (Value.str _ _)) _ _ _); refine Mine.mod_brace (Nat.le_trans (Mine.join_len_le (by decide) (by assumption)) (by decide)) ?_; intro t2 tk2))
local macro_rules | `(tactic| walk_at "my_steps") => `(tactic| repeat' (first | ((fail_if_success (with_reducible show wpAny _ _ (exec (Stmt.While _ _ _ _) _) _ _ _)); (fail_if_success (with_reducible show wpAny _ _ (exec (Stmt.For _ _ _ _ _) _) _ _ _)); (fail_if_success (with_reducible show wpAny _ _ (eval (PySem.Expr.ListComp _ _ _ _) _) _ _ _)); (fail_if_success (with_reducible show wpAny _ _ (exec (PySem.Stmt.Assign _ (PySem.Expr.ListComp _ _ _ _) _) _) _ _ _)); (fail_if_success (with_reducible show wpAny _ _ (call (Value.ref _) _) _ _ _)); (fail_if_success (with_reducible show wpAny _ _ (pyIter (Value.ref _)) _ _ _)); (fail_if_success (show LCg.CompSrc _ _ _ _ _ _ _ _ _ _ _ _ _ _)); first | (k_unfold; (try dsimp only)) | (k_end; wrow_close) | walk1 | (dsimp only; walk1) | (leave1; (try dsimp only)))))
local macro_rules | `(tactic| walk_at "my_enter2") => `(tactic| ((case k6 => k_is); (case k7 => k_is); (case k8 => ktr_room); (case k9 => exact BindsTo.of_eq rfl); (case kB => exact locs rfl); (case c5 => decide); (case c2 => rfl); (case c3 => rfl); (case c4 => rfl); intro L' h₁ mean mg mb F N T'; dsimp only [List.reverse, List.reverseAux, List.length] at F ⊢; k_fold))
local macro_rules | `(tactic| walk_at "my_map") => `(tactic| ((simp only [← Mine.mset_at]); rfl))
theorem law_name_E {w : World} {dp un : Nat} {outer : List Env} {gd : Option (List Code)} {base : Heap} {s : Shared} {o m : Addr} {d c : Value} {x y nx : Str} {t u nt : Tok}
   (X : (Mine.hd.heap_39 w.params).In s.heap) (T : TopH s.heap) (B : Below (AA dp outer gd un) base outer s.heap) (hd : dp + 10 < recursionLimit) (hu : un + 100 < cLine)
   (hl0 : Empty s.heap o) (hl : IsTup s.heap m #[.str x t, .str y u]) (hn : nx = "*" ∨ nx = "+") (hw : x.length + y.length ≤ 100000) :
   codeAny (model P w) (AA dp outer gd un) (.call (.ref 77) ⟨[.ref o, .ref m, .str nx nt, d, c], []⟩) (Ret s fun v _ => ∃ t, v = .str (x ++ "[, " ++ y ++ "]") t) s := by
  rcases hn with rfl | rfl
  all_goals walk_at "my_enter"
  all_goals k_steps
  all_goals try (walk_at "my_ret"; exact ⟨_, rfl⟩)

  all_goals w_report

end
section
local macro_rules | `(tactic| k_room) => `(tactic| ktr_room)
local macro_rules | `(tactic| walk_at "my_enter") => `(tactic| (refine' Mine.enter (by with_reducible assumption) (by assumption) ?k6 ?k7 ?k8 ?k9 ?kB ?_ ?c2 ?c3 ?c4 ?c5; (case k6 => k_is); (case k7 => k_is); (case k8 => ktr_room); (case k9 => exact BindsTo.of_eq rfl); (case kB => exact locs rfl); (case c5 => decide); (case c2 => rfl); (case c3 => rfl); (case c4 => rfl); intro L' h₁ mean mg mb F N T'; dsimp only; k_fold))
local macro_rules | `(tactic| walk_at "my_list") => `(tactic| first | assumption | exact News.isList (by assumption) (by k_mem) | exact stays_list (Fr.keep (by assumption)) (by assumption) | exact stays_list (Fr.keep (by assumption)) (stays_list (Fr.keep (by assumption)) (by assumption)))
local macro_rules | `(tactic| walk_at "my_tup") => `(tactic| first | assumption | exact News.isTup (by assumption) (by k_mem) | exact stays_tup (Fr.keep (by assumption)) (by assumption) | exact stays_tup (Fr.keep (by assumption)) (stays_tup (Fr.keep (by assumption)) (by assumption)))
local macro_rules | `(tactic| walk_at "truthy ref") => `(tactic| ((with_reducible show wpAny _ _ (truthy (Value.ref _)) _ _ _); first | (refine Mine.truthy_list_ne (by walk_at "my_list") (by assumption) (by assumption) (by omega) ?_; intro tk1) | (refine Mine.truthy_list_nil (by walk_at "my_list") ?_; intro tk1) | (refine Mine.truthy_tup_nil (by walk_at "my_tup") ?_; intro tk1) | (refine Mine.truthy_empty (by walk_at "my_empty") ?_; intro tk1)))
local macro_rules | `(tactic| walk_at "call builtin:str.join") => `(tactic| ((with_reducible show wpAny _ _ (call (Value.builtin "str.join") [Value.str _ _, Value.ref _]) _ _ _); first | (refine join_listW (by walk_at "my_list") (by assumption) (by decide) (Mine.le_big (by assumption)) ?_; intro t2 tk2) | (refine join_tupleW (by walk_at "my_tup") (by assumption) (by decide) (Mine.le_big (by assumption)) ?_; intro t2 tk2)))
local macro_rules | `(tactic| walk_at "compareOp NotIn str ref") => `(tactic| ((with_reducible show wpAny _ _ (compareOp CmpOp.NotIn (Value.str _ _) (Value.ref _)) _ _ _); first | refine Mine.notin_sup_same (by walk_at "my_tup") ?_ | refine Mine.notin_sup_str (by walk_at "my_tup") (by assumption) ?_))
local macro_rules | `(tactic| walk_at "compareOp NotIn none ref") => `(tactic| ((with_reducible show wpAny _ _ (compareOp CmpOp.NotIn Value.none (Value.ref _)) _ _ _); refine Mine.notin_sup_none (by walk_at "my_tup") ?_))
local macro_rules | `(tactic| walk_at "compareOp NotIn ref ref") => `(tactic| ((with_reducible show wpAny _ _ (compareOp CmpOp.NotIn (Value.ref _) (Value.ref _)) _ _ _); refine Mine.notin_sup_tup (by walk_at "my_tup") (by walk_at "my_tup") (by ktr_units) ?_))
local macro_rules | `(tactic| walk_at "my_empty") => `(tactic| first | assumption | exact Or.inl (News.isList (by assumption) (by k_mem)) | exact Or.inr (News.isTup (by assumption) (by k_mem)) | exact Mine.Empty.keeps (Fr.keep (by assumption)) (by assumption) | exact Mine.Empty.keeps (Fr.keep (by assumption)) (Mine.Empty.keeps (Fr.keep (by assumption)) (by assumption)))
local macro_rules | `(tactic| walk_at "my_ret") => `(tactic| ((try k_unfold); (try dsimp only); refine Mine.ret_of (Fr.keep (by assumption)) ?_ rfl))
local macro_rules | `(tactic| walk_at "compareOp NotIn") => `(tactic| ((with_reducible show wpAny _ _ (compareOp CmpOp.NotIn _ (Value.ref _)) _ _ _); refine Mine.notin_sup_hidden (by walk_at "my_tup") (by first | assumption | exact Mine.Hidden.none | exact Mine.Hidden.sup) ?_))
local macro_rules | `(tactic| walk_at "call builtin:isinstance") => `(tactic| ((with_reducible show wpAny _ _ (call (Value.builtin "isinstance") [Value.ref _, Value.type "tuple"]) _ _ _); refine Mine.isi_tuple (by walk_at "my_tup") ?_))
local macro_rules | `(tactic| walk_at "call builtin:len") => `(tactic| ((with_reducible show wpAny _ _ (call (Value.builtin "len") [Value.ref _]) _ _ _); refine Mine.len_tup (by walk_at "my_tup") (by walk_at "my_size") ?_; intro t2 tk2))
local macro_rules | `(tactic| walk_at "binaryOp Mod str ref") => `(tactic| ((with_reducible show wpAny _ _ (binaryOp Operator.Mod (Value.str _ _) (Value.ref _)) _ _ _); refine Mine.mod_pair (by walk_at "my_tup") (by omega) (by omega) ?_; intro t2 tk2))
local macro_rules | `(tactic| walk_at "my_size") => `(tactic| first | exact Nat.le_of_ble_eq_true rfl | (show _ ≤ 2 ^ 24; (try have hlen9 := StrsAre.length (by assumption)); (try simp only [Array.length_toList] at *); omega) | decide)
local macro_rules | `(tactic| walk_at "binaryOp Mod str str") => `(tactic| ((with_reducible show wpAny _ _ (binaryOp Operator.Mod (Value.str _ _) (Value.str _ _)) _ _ _); refine Mine.mod_brace (Nat.le_trans (Mine.join_len_le (by decide) (by assumption)) (by decide)) ?_; intro t2 tk2))
local macro_rules | `(tactic| walk_at "my_steps") => `(tactic| repeat' (first | ((fail_if_success (with_reducible show wpAny _ _ (exec (Stmt.While _ _ _ _) _) _ _ _)); (fail_if_success (with_reducible show wpAny _ _ (exec (Stmt.For _ _ _ _ _) _) _ _ _)); (fail_if_success (with_reducible show wpAny _ _ (eval (PySem.Expr.ListComp _ _ _ _) _) _ _ _)); (fail_if_success (with_reducible show wpAny _ _ (exec (PySem.Stmt.Assign _ (PySem.Expr.ListComp _ _ _ _) _) _) _ _ _)); (fail_if_success (with_reducible show wpAny _ _ (call (Value.ref _) _) _ _ _)); (fail_if_success (with_reducible show wpAny _ _ (pyIter (Value.ref _)) _ _ _)); (fail_if_success (show LCg.CompSrc _ _ _ _ _ _ _ _ _ _ _ _ _ _)); first | (k_unfold; (try dsimp only)) | (k_end; wrow_close) | walk1 | (dsimp only; walk1) | (leave1; (try dsimp only)))))
local macro_rules | `(tactic| walk_at "my_enter2") => `(tactic| ((case k6 => k_is); (case k7 => k_is); (case k8 => ktr_room); (case k9 => exact BindsTo.of_eq rfl); (case kB => exact locs rfl); (case c5 => decide); (case c2 => rfl); (case c3 => rfl); (case c4 => rfl); intro L' h₁ mean mg mb F N T'; dsimp only [List.reverse, List.reverseAux, List.length] at F ⊢; k_fold))
local macro_rules | `(tactic| walk_at "my_map") => `(tactic| ((simp only [← Mine.mset_at]); rfl))
theorem law_name_F {w : World} {dp un : Nat} {outer : List Env} {gd : Option (List Code)} {base : Heap} {s : Shared} {o m : Addr} {n d c : Value} {items : Array Value} {texts : List Str}
   (X : (Mine.hd.heap_39 w.params).In s.heap) (T : TopH s.heap) (B : Below (AA dp outer gd un) base outer s.heap) (hd : dp + 10 < recursionLimit) (hu : un + 100 < cLine)
   (hl0 : Empty s.heap o) (hl : IsTup s.heap m items) (hi : StrsAre items.toList texts) (hw : (texts.map (·.length)).sum + texts.length ≤ 100000) (hn : n = .none ∨ (∃ i t, n = .int i t) ∨ (∃ x t, n = .str x t ∧ x ≠ "+" ∧ (x = "*" → texts.length ≠ 2))) :
   codeAny (model P w) (AA dp outer gd un) (.call (.ref 77) ⟨[.ref o, .ref m, n, d, c], []⟩) (Ret s fun v _ => ∃ t, v = .str (Txt.join ", " texts) t) s := by
  rcases hn with rfl | ⟨i, ti, rfl⟩ | ⟨x, tx, rfl, hx1, hx2⟩
  all_goals walk_at "my_enter"
  all_goals k_steps
  all_goals (try (walk_at "my_ret"; exact ⟨_, rfl⟩))
  all_goals exfalso
  all_goals (rename @Eq Bool _ true => ha)
  all_goals first | exact hx1 (eq_of_beq ha) | (rename @Eq Int _ 2 => hb; have hlen := StrsAre.length hi; rw [Array.length_toList] at hlen; exact hx2 (eq_of_beq ha) (by omega)) | trace_state

end
section
local macro_rules | `(tactic| k_room) => `(tactic| ktr_room)
local macro_rules | `(tactic| walk_at "my_enter") => `(tactic| (refine' Mine.enter (by with_reducible assumption) (by assumption) ?k6 ?k7 ?k8 ?k9 ?kB ?_ ?c2 ?c3 ?c4 ?c5; (case k6 => k_is); (case k7 => k_is); (case k8 => ktr_room); (case k9 => exact BindsTo.of_eq rfl); (case kB => exact locs rfl); (case c5 => decide); (case c2 => rfl); (case c3 => rfl); (case c4 => rfl); intro L' h₁ mean mg mb F N T'; dsimp only; k_fold))
local macro_rules | `(tactic| walk_at "my_list") => `(tactic| first | assumption | exact News.isList (by assumption) (by k_mem) | exact stays_list (Fr.keep (by assumption)) (by assumption) | exact stays_list (Fr.keep (by assumption)) (stays_list (Fr.keep (by assumption)) (by assumption)))
local macro_rules | `(tactic| walk_at "my_tup") => `(tactic| first | assumption | exact News.isTup (by assumption) (by k_mem) | exact stays_tup (Fr.keep (by assumption)) (by assumption) | exact stays_tup (Fr.keep (by assumption)) (stays_tup (Fr.keep (by assumption)) (by assumption)))
local macro_rules | `(tactic| walk_at "truthy ref") => `(tactic| ((with_reducible show wpAny _ _ (truthy (Value.ref _)) _ _ _); first | (refine Mine.truthy_list_ne (by walk_at "my_list") (by assumption) (by assumption) (by omega) ?_; intro tk1) | (refine Mine.truthy_list_nil (by walk_at "my_list") ?_; intro tk1) | (refine Mine.truthy_tup_nil (by walk_at "my_tup") ?_; intro tk1) | (refine Mine.truthy_empty (by walk_at "my_empty") ?_; intro tk1)))
local macro_rules | `(tactic| walk_at "call builtin:str.join") => `(tactic| ((with_reducible show wpAny _ _ (call (Value.builtin "str.join") [Value.str _ _, Value.ref _]) _ _ _); first | (refine join_listW (by walk_at "my_list") (by assumption) (by decide) (Mine.le_big (by assumption)) ?_; intro t2 tk2) | (refine join_tupleW (by walk_at "my_tup") (by assumption) (by decide) (Mine.le_big (by assumption)) ?_; intro t2 tk2)))
local macro_rules | `(tactic| walk_at "compareOp NotIn str ref") => `(tactic| ((with_reducible show wpAny _ _ (compareOp CmpOp.NotIn (Value.str _ _) (Value.ref _)) _ _ _); first | refine Mine.notin_sup_same (by walk_at "my_tup") ?_ | refine Mine.notin_sup_str (by walk_at "my_tup") (by assumption) ?_))
local macro_rules | `(tactic| walk_at "compareOp NotIn none ref") => `(tactic| ((with_reducible show wpAny _ _ (compareOp CmpOp.NotIn Value.none (Value.ref _)) _ _ _); refine Mine.notin_sup_none (by walk_at "my_tup") ?_))
local macro_rules | `(tactic| walk_at "compareOp NotIn ref ref") => `(tactic| ((with_reducible show wpAny _ _ (compareOp CmpOp.NotIn (Value.ref _) (Value.ref _)) _ _ _); refine Mine.notin_sup_tup (by walk_at "my_tup") (by walk_at "my_tup") (by ktr_units) ?_))
local macro_rules | `(tactic| walk_at "my_empty") => `(tactic| first | assumption | exact Or.inl (News.isList (by assumption) (by k_mem)) | exact Or.inr (News.isTup (by assumption) (by k_mem)) | exact Mine.Empty.keeps (Fr.keep (by assumption)) (by assumption) | exact Mine.Empty.keeps (Fr.keep (by assumption)) (Mine.Empty.keeps (Fr.keep (by assumption)) (by assumption)))
local macro_rules | `(tactic| walk_at "my_ret") => `(tactic| ((try k_unfold); (try dsimp only); refine Mine.ret_of (Fr.keep (by assumption)) ?_ rfl))
local macro_rules | `(tactic| walk_at "compareOp NotIn") => `(tactic| ((with_reducible show wpAny _ _ (compareOp CmpOp.NotIn _ (Value.ref _)) _ _ _); refine Mine.notin_sup_hidden (by walk_at "my_tup") (by first | assumption | exact Mine.Hidden.none | exact Mine.Hidden.sup) ?_))
local macro_rules | `(tactic| walk_at "call builtin:isinstance") => `(tactic| ((with_reducible show wpAny _ _ (call (Value.builtin "isinstance") [Value.ref _, Value.type "tuple"]) _ _ _); refine Mine.isi_tuple (by walk_at "my_tup") ?_))
local macro_rules | `(tactic| walk_at "call builtin:len") => `(tactic| ((with_reducible show wpAny _ _ (call (Value.builtin "len") [Value.ref _]) _ _ _); refine Mine.len_tup (by walk_at "my_tup") (by walk_at "my_size") ?_; intro t2 tk2))
local macro_rules | `(tactic| walk_at "binaryOp Mod str ref") => `(tactic| ((with_reducible show wpAny _ _ (binaryOp Operator.Mod (Value.str _ _) (Value.ref _)) _ _ _); refine Mine.mod_pair (by walk_at "my_tup") (by omega) (by omega) ?_; intro t2 tk2))
local macro_rules | `(tactic| walk_at "my_size") => `(tactic| first | exact Nat.le_of_ble_eq_true rfl | (show _ ≤ 2 ^ 24; (try have hlen9 := StrsAre.length (by assumption)); (try simp only [Array.length_toList] at *); omega) | decide)
local macro_rules | `(tactic| walk_at "binaryOp Mod str str") => `(tactic| ((with_reducible show wpAny _ _ (binaryOp Operator.Mod (Value.str _ _) (Value.str _ _)) _ _ _); refine Mine.mod_brace (Nat.le_trans (Mine.join_len_le (by decide) (by assumption)) (by decide)) ?_; intro t2 tk2))
local macro_rules | `(tactic| walk_at "my_steps") => `(tactic| repeat' (first | ((fail_if_success (with_reducible show wpAny _ _ (exec (Stmt.While _ _ _ _) _) _ _ _)); (fail_if_success (with_reducible show wpAny _ _ (exec (Stmt.For _ _ _ _ _) _) _ _ _)); (fail_if_success (with_reducible show wpAny _ _ (eval (PySem.Expr.ListComp _ _ _ _) _) _ _ _)); (fail_if_success (with_reducible show wpAny _ _ (exec (PySem.Stmt.Assign _ (PySem.Expr.ListComp _ _ _ _) _) _) _ _ _)); (fail_if_success (with_reducible show wpAny _ _ (call (Value.ref _) _) _ _ _)); (fail_if_success (with_reducible show wpAny _ _ (pyIter (Value.ref _)) _ _ _)); (fail_if_success (show LCg.CompSrc _ _ _ _ _ _ _ _ _ _ _ _ _ _)); first | (k_unfold; (try dsimp only)) | (k_end; wrow_close) | walk1 | (dsimp only; walk1) | (leave1; (try dsimp only)))))
local macro_rules | `(tactic| walk_at "my_enter2") => `(tactic| ((case k6 => k_is); (case k7 => k_is); (case k8 => ktr_room); (case k9 => exact BindsTo.of_eq rfl); (case kB => exact locs rfl); (case c5 => decide); (case c2 => rfl); (case c3 => rfl); (case c4 => rfl); intro L' h₁ mean mg mb F N T'; dsimp only [List.reverse, List.reverseAux, List.length] at F ⊢; k_fold))
local macro_rules | `(tactic| walk_at "my_map") => `(tactic| ((simp only [← Mine.mset_at]); rfl))
local macro_rules | `(tactic| walk_at "subscriptTail") => `(tactic| ((with_reducible show wpAny _ _ (subscriptTail _ _ (Value.ref _) (Value.int _ _)) _ _ _); refine Mine.item_bools (by walk_at "my_list") (by assumption) (by omega) (by omega) (by omega) ?_))
local macro_rules | `(tactic| walk_at "binaryOp Add ref ref") => `(tactic| ((with_reducible show wpAny _ _ (binaryOp Operator.Add (Value.ref _) (Value.ref _)) _ _ _); refine' add_arrays ?k1 ?k2 ?k3 ?k4 ?_ ?k5; (case k1 => assumption); (case k2 => assumption); (case k3 => walk_at "my_list"); (case k4 => walk_at "my_list"); (case k5 => walk_at "my_fit"); intro h5 F5 N5))
local macro_rules | `(tactic| walk_at "my_fit") => `(tactic| (rw [sizeLine_eq]; (try simp only [List.size_toArray, List.length_append, List.length_cons, List.length_nil]); omega))
local macro_rules | `(tactic| walk_at "inplaceOp Add str str") => `(tactic| ((with_reducible show wpAny _ _ (inplaceOp Operator.Add (Value.str _ _) (Value.str _ _)) _ _ _); refine iadd_str (hsz := ?hsz) ?_; (case hsz => walk_at "my_fit"); intro _ _))
def cutJ (T M : Str) (fl l : Addr) (tT tM : Tok) (n : Nat) (m : Str → Option Value) (news : List (Addr × Obj)) : Prop :=
  ∃ (i : Nat) (ps : List Str) (p : Str) (its : Array Value) (k : Nat) (tp ti : Tok), n = T.length - i ∧ i ≤ T.length ∧
    m = (fun y => List.lookup y [(Str.ofString "mark", .str M tM), (Str.ofString "flags", .ref fl), (Str.ofString "text", .str T tT), (Str.ofString "i", .int i ti), (Str.ofString "piece", .str p tp), (Str.ofString "pieces", .ref l)]) ∧
    news = [(l, W.listOf its k)] ∧ StrsAre its.toList ps ∧ ps.length ≤ i ∧ p.length ≤ i ∧ (Txt.join M (ps ++ [p])).cps.toList = T.cps.toList.take i

theorem law_cut {w : World} {dp un : Nat} {outer : List Env} {gd : Option (List Code)} {base : Heap} {s : Shared} {fl : Addr} {T M : Str} {tT tM : Tok} {items : Array Value} {bs : List Bool}
   (X : (Mine.hd.heap_39 w.params).In s.heap) (T' : TopH s.heap) (B : Below (AA dp outer gd un) base outer s.heap) (hd : dp + 10 < recursionLimit) (hu : un + 100 < cLine)
   (hl : s.heap.IsList fl items) (hb : BoolsAre items.toList bs) (hlen : bs.length = T.length) (hT : T.length ≤ 100) (hM : M.length ≤ 2) (hM0 : 0 < M.length) :
   codeAny (model P w) (AA dp outer gd un) (.call (.ref 84) ⟨[.str T tT, .ref fl, .str M tM], []⟩) (Ret s fun v h' => ∃ l its k ps, v = .ref l ∧ h'.get? l = some { cls := .type "list", data := .seq its.toArray k } ∧ s.heap.get? l = none ∧ StrsAre its ps ∧ ps ≠ [] ∧ Txt.join M ps = T) s := by
  refine' Mine.enter (binds := [(Str.ofString "text", .str T tT), (Str.ofString "flags", .ref fl), (Str.ofString "mark", .str M tM)]) (by with_reducible assumption) (by assumption) ?k6 ?k7 ?k8 ?k9 ?kB ?_ ?c2 ?c3 ?c4 ?c5
  walk_at "my_enter2"
  walk_at "my_steps"
  rename News _ _ _ _ => N1
  rename Fr _ _ _ _ => F1
  refine' While_inv (cutJ T M fl _ tT tM) F1 (news := [_]) (fun p hp => N1 p (.tail _ hp)) ⟨0, [], Str.ofString "", #[], 0, ?a, ?b, rfl, Nat.zero_le _, ?c, rfl, .nil, Nat.zero_le _, Nat.zero_le _, rfl⟩ ?_ ?_
  case c => walk_at "my_map"
  rotate_left
  rotate_left
  · rintro n m₁ news₁ h₁ tk₁ F₁ N₁ ⟨i, ps, p, its, k, tp, ti, rfl, hi, rfl, rfl, hits, hps, hpl, hjoin⟩
    have hitl : its.size ≤ 100 := by have := StrsAre.length hits; rw [Array.length_toList] at this; omega
    walk_at "my_steps"
    · -- a mark, and it is cut there
      rename (_ == _) = true => hm
      have hm' : Txt.slice T (some (i : Int)) (some ((i : Int) + (M.length : Int))) = M := eq_of_beq hm
      have hsl : M.cps.toList = (T.cps.toList.drop i).take M.length := by
        have h2 := slice_nat T i (i + M.length) (by omega) hi
        rw [show ((i + M.length : Nat) : Int) = (i : Int) + (M.length : Int) from by omega, hm', Nat.add_sub_cancel_left] at h2
        exact h2
      have hML : M.cps.toList.length = M.length := by simp [Str.length]
      have hTL : T.cps.toList.length = T.length := by simp [Str.length]
      have hle : i + M.length ≤ T.length := by
        have h3 := congrArg List.length hsl
        rw [List.length_take, List.length_drop, hML, hTL] at h3
        omega
      refine' WhileStep.intro (by assumption) (by assumption) (n' := T.length - (i + M.length)) (by omega) ⟨i + M.length, ps ++ [p], Str.ofString "", its.push (.str p tp), ?y1, ?y2, ?y3, rfl, hle, ?y4, ?y5, ?y6, ?y7, ?y8, ?y9⟩
      case y4 => walk_at "my_map"
      case y5 => rfl
      case y6 => rw [Array.toList_push]; exact StrsAre.snoc hits p tp
      case y7 => simp; omega
      case y8 => exact Nat.zero_le _
      case y9 => rw [join_new, toList_append, hjoin, hsl, ← List.take_add]
    · have hML : M.cps.toList.length = M.length := by simp [Str.length]
      have hTL : T.cps.toList.length = T.length := by simp [Str.length]
      refine' WhileStep.intro (by assumption) (by assumption) (n' := T.length - (i + 1)) (by omega) ⟨i + 1, ps, p ++ Txt.item T (i : Int), its, k, _, _, rfl, by omega, by walk_at "my_map", rfl, hits, by omega, ?_, ?_⟩
      · rw [Str.length_append]; have : (Txt.item T (i : Int)).length = 1 := rfl; omega
      · rw [join_more, toList_append, hjoin, item_nat T i (by omega), ← List.take_add]
    · have hML : M.cps.toList.length = M.length := by simp [Str.length]
      have hTL : T.cps.toList.length = T.length := by simp [Str.length]
      refine' WhileStep.intro (by assumption) (by assumption) (n' := T.length - (i + 1)) (by omega) ⟨i + 1, ps, p ++ Txt.item T (i : Int), its, k, _, _, rfl, by omega, by walk_at "my_map", rfl, hits, by omega, ?_, ?_⟩
      · rw [Str.length_append]; have : (Txt.item T (i : Int)).length = 1 := rfl; omega
      · rw [join_more, toList_append, hjoin, item_nat T i (by omega), ← List.take_add]
    · -- the end
      have hiT : i = T.length := by omega
      walk_at "my_ret"
      rename News _ _ _ _ => Nz
      obtain ⟨n1, n2, n3⟩ := Nz _ (.head _)
      refine ⟨_, _, _, ps ++ [p], rfl, n1, n3, ?_, by simp, ?_⟩
      · exact StrsAre.snoc hits p tp
      · apply str_ext
        rw [hjoin, hiT, List.take_of_length_le (by simp [Str.length])]
  · passes_own

end
section
local macro_rules | `(tactic| k_room) => `(tactic| ktr_room)
local macro_rules | `(tactic| walk_at "my_enter") => `(tactic| (refine' Mine.enter (by with_reducible assumption) (by assumption) ?k6 ?k7 ?k8 ?k9 ?kB ?_ ?c2 ?c3 ?c4 ?c5; (case k6 => k_is); (case k7 => k_is); (case k8 => ktr_room); (case k9 => exact BindsTo.of_eq rfl); (case kB => exact locs rfl); (case c5 => decide); (case c2 => rfl); (case c3 => rfl); (case c4 => rfl); intro L' h₁ mean mg mb F N T'; dsimp only; k_fold))
local macro_rules | `(tactic| walk_at "my_list") => `(tactic| first | assumption | exact News.isList (by assumption) (by k_mem) | exact stays_list (Fr.keep (by assumption)) (by assumption) | exact stays_list (Fr.keep (by assumption)) (stays_list (Fr.keep (by assumption)) (by assumption)))
local macro_rules | `(tactic| walk_at "my_tup") => `(tactic| first | assumption | exact News.isTup (by assumption) (by k_mem) | exact stays_tup (Fr.keep (by assumption)) (by assumption) | exact stays_tup (Fr.keep (by assumption)) (stays_tup (Fr.keep (by assumption)) (by assumption)))
local macro_rules | `(tactic| walk_at "truthy ref") => `(tactic| ((with_reducible show wpAny _ _ (truthy (Value.ref _)) _ _ _); first | (refine Mine.truthy_list_ne (by walk_at "my_list") (by assumption) (by assumption) (by omega) ?_; intro tk1) | (refine Mine.truthy_list_nil (by walk_at "my_list") ?_; intro tk1) | (refine Mine.truthy_tup_nil (by walk_at "my_tup") ?_; intro tk1) | (refine Mine.truthy_empty (by walk_at "my_empty") ?_; intro tk1)))
local macro_rules | `(tactic| walk_at "call builtin:str.join") => `(tactic| ((with_reducible show wpAny _ _ (call (Value.builtin "str.join") [Value.str _ _, Value.ref _]) _ _ _); first | (refine join_listW (by walk_at "my_list") (by assumption) (by decide) (Mine.le_big (by assumption)) ?_; intro t2 tk2) | (refine join_tupleW (by walk_at "my_tup") (by assumption) (by decide) (Mine.le_big (by assumption)) ?_; intro t2 tk2)))
local macro_rules | `(tactic| walk_at "compareOp NotIn str ref") => `(tactic| ((with_reducible show wpAny _ _ (compareOp CmpOp.NotIn (Value.str _ _) (Value.ref _)) _ _ _); first | refine Mine.notin_sup_same (by walk_at "my_tup") ?_ | refine Mine.notin_sup_str (by walk_at "my_tup") (by assumption) ?_))
local macro_rules | `(tactic| walk_at "compareOp NotIn none ref") => `(tactic| ((with_reducible show wpAny _ _ (compareOp CmpOp.NotIn Value.none (Value.ref _)) _ _ _); refine Mine.notin_sup_none (by walk_at "my_tup") ?_))
local macro_rules | `(tactic| walk_at "compareOp NotIn ref ref") => `(tactic| ((with_reducible show wpAny _ _ (compareOp CmpOp.NotIn (Value.ref _) (Value.ref _)) _ _ _); refine Mine.notin_sup_tup (by walk_at "my_tup") (by walk_at "my_tup") (by ktr_units) ?_))
local macro_rules | `(tactic| walk_at "my_empty") => `(tactic| first | assumption | exact Or.inl (News.isList (by assumption) (by k_mem)) | exact Or.inr (News.isTup (by assumption) (by k_mem)) | exact Mine.Empty.keeps (Fr.keep (by assumption)) (by assumption) | exact Mine.Empty.keeps (Fr.keep (by assumption)) (Mine.Empty.keeps (Fr.keep (by assumption)) (by assumption)))
local macro_rules | `(tactic| walk_at "my_ret") => `(tactic| ((try k_unfold); (try dsimp only); refine Mine.ret_of (Fr.keep (by assumption)) ?_ rfl))
local macro_rules | `(tactic| walk_at "compareOp NotIn") => `(tactic| ((with_reducible show wpAny _ _ (compareOp CmpOp.NotIn _ (Value.ref _)) _ _ _); refine Mine.notin_sup_hidden (by walk_at "my_tup") (by first | assumption | exact Mine.Hidden.none | exact Mine.Hidden.sup) ?_))
local macro_rules | `(tactic| walk_at "call builtin:isinstance") => `(tactic| ((with_reducible show wpAny _ _ (call (Value.builtin "isinstance") [Value.ref _, Value.type "tuple"]) _ _ _); refine Mine.isi_tuple (by walk_at "my_tup") ?_))
local macro_rules | `(tactic| walk_at "call builtin:len") => `(tactic| ((with_reducible show wpAny _ _ (call (Value.builtin "len") [Value.ref _]) _ _ _); refine Mine.len_tup (by walk_at "my_tup") (by walk_at "my_size") ?_; intro t2 tk2))
local macro_rules | `(tactic| walk_at "binaryOp Mod str ref") => `(tactic| ((with_reducible show wpAny _ _ (binaryOp Operator.Mod (Value.str _ _) (Value.ref _)) _ _ _); refine Mine.mod_pair (by walk_at "my_tup") (by omega) (by omega) ?_; intro t2 tk2))
local macro_rules | `(tactic| walk_at "my_size") => `(tactic| first | exact Nat.le_of_ble_eq_true rfl | (show _ ≤ 2 ^ 24; (try have hlen9 := StrsAre.length (by assumption)); (try simp only [Array.length_toList] at *); omega) | decide)
local macro_rules | `(tactic| walk_at "binaryOp Mod str str") => `(tactic| ((with_reducible show wpAny _ _ (binaryOp Operator.Mod (Value.str _ _) (Value.str _ _)) _ _ _); refine Mine.mod_brace (Nat.le_trans (Mine.join_len_le (by decide) (by assumption)) (by decide)) ?_; intro t2 tk2))
local macro_rules | `(tactic| walk_at "my_steps") => `(tactic| repeat' (first | ((fail_if_success (with_reducible show wpAny _ _ (exec (Stmt.While _ _ _ _) _) _ _ _)); (fail_if_success (with_reducible show wpAny _ _ (exec (Stmt.For _ _ _ _ _) _) _ _ _)); (fail_if_success (with_reducible show wpAny _ _ (eval (PySem.Expr.ListComp _ _ _ _) _) _ _ _)); (fail_if_success (with_reducible show wpAny _ _ (exec (PySem.Stmt.Assign _ (PySem.Expr.ListComp _ _ _ _) _) _) _ _ _)); (fail_if_success (with_reducible show wpAny _ _ (call (Value.ref _) _) _ _ _)); (fail_if_success (with_reducible show wpAny _ _ (pyIter (Value.ref _)) _ _ _)); (fail_if_success (show LCg.CompSrc _ _ _ _ _ _ _ _ _ _ _ _ _ _)); first | (k_unfold; (try dsimp only)) | (k_end; wrow_close) | walk1 | (dsimp only; walk1) | (leave1; (try dsimp only)))))
local macro_rules | `(tactic| walk_at "my_enter2") => `(tactic| ((case k6 => k_is); (case k7 => k_is); (case k8 => ktr_room); (case k9 => exact BindsTo.of_eq rfl); (case kB => exact locs rfl); (case c5 => decide); (case c2 => rfl); (case c3 => rfl); (case c4 => rfl); intro L' h₁ mean mg mb F N T'; dsimp only [List.reverse, List.reverseAux, List.length] at F ⊢; k_fold))
local macro_rules | `(tactic| walk_at "my_map") => `(tactic| ((simp only [← Mine.mset_at]); rfl))
local macro_rules | `(tactic| walk_at "my_ctx") => `(tactic| first | (with_reducible assumption) | exact Frag.In.keeps (by assumption) (Fr.keep (by assumption)) | exact ⟨_, _, _, Top.keeps (by assumption) (Fr.keep (by assumption))⟩)
local macro_rules | `(tactic| walk_at "my_cut") => `(tactic| (refine' Mine.call_at (by assumption) (by assumption) (by assumption) (by rfl) (by rfl) (fun BB => Mine.law_cut ?X ?T BB ?hd ?hu ?hl ?hb ?hlen ?hT ?hM ?hM0) ?_; (case X => walk_at "my_ctx"); (case T => walk_at "my_ctx"); (case hd => decide); (case hu => ktr_units); (case hl => walk_at "my_list"); (case hb => assumption); (case hlen => assumption); (case hT => omega); (case hM => decide); (case hM0 => decide); (rintro v1 h1 tk1 F1 N1 st1 ⟨l1, its1, k1, ps1, hv1, hl1, hl2, hs1, hne1, hj1⟩); subst hv1; (have N2 := Mine.News.fresh (by assumption) N1 hl2 hl1); (have hw1 := Mine.cut_weight hne1 hj1 (by decide) (by decide) (by assumption)); clear N1))
local macro_rules | `(tactic| walk_at "my_name") => `(tactic| (refine' Mine.call_at (by assumption) (by assumption) (by assumption) (by rfl) (by rfl) (fun BB => Mine.law_name_A ?X ?T BB ?hd ?hu ?hl ?hi ?hne ?hw) ?_; (case X => walk_at "my_ctx"); (case T => walk_at "my_ctx"); (case hd => decide); (case hu => ktr_units); (case hl => walk_at "my_list"); (case hi => assumption); (case hne => assumption); (case hw => assumption); (rintro v2 h2 tk2 F2 N2 st2 ⟨t2, hv2⟩); subst hv2))
local macro_rules | `(tactic| walk_at "my_nargs") => `(tactic| first | assumption | exact Or.inl rfl | exact Or.inr (Or.inl ⟨_, _, rfl⟩) | exact Or.inr (Or.inr ⟨_, _, rfl, by decide, fun e => absurd e (by decide)⟩) | (refine Or.inr (Or.inr ⟨_, _, rfl, by decide, fun _ => ?_⟩); (have hlen9 := StrsAre.length (by assumption)); omega))
local macro_rules | `(tactic| walk_at "my_nameF") => `(tactic| (refine' Mine.call_at (by assumption) (by assumption) (by assumption) (by rfl) (by rfl) (fun BB => Mine.law_name_F ?X ?T BB ?hd ?hu ?hl0 ?hl ?hi ?hw ?hn) ?_; (case X => walk_at "my_ctx"); (case T => walk_at "my_ctx"); (case hd => decide); (case hu => ktr_units); (case hl0 => walk_at "my_empty"); (case hl => walk_at "my_tup"); (case hi => assumption); (case hw => assumption); (case hn => walk_at "my_nargs"); (rintro v2 h2 tk2 F2 N2 st2 ⟨t2, hv2⟩); subst hv2))
local macro_rules | `(tactic| walk_at "my_nameD") => `(tactic| (refine' Mine.call_at (by assumption) (by assumption) (by assumption) (by rfl) (by rfl) (fun BB => Mine.law_name_D ?X ?T BB ?hd ?hu ?hl0 Mine.Hidden.none Mine.Hidden.none ?hl ?hi ?hne ?hw) ?_; (case X => walk_at "my_ctx"); (case T => walk_at "my_ctx"); (case hd => decide); (case hu => ktr_units); (case hl0 => walk_at "my_empty"); (case hl => walk_at "my_list"); (case hi => assumption); (case hne => assumption); (case hw => assumption); (rintro v2 h2 tk2 F2 N2 st2 ⟨t2, hv2⟩); subst hv2))
local macro_rules | `(tactic| walk_at "my_bad") => `(tactic| (exfalso; (rename (bne _ _ = true) => hbad); rw [bne_iff_ne] at hbad; first | (with_reducible exact hbad rfl) | exact hbad (by with_reducible assumption) | exact hbad (by assumption) | exact hbad (congrArg (fun z => PySem.Str.ofString "{" ++ z ++ PySem.Str.ofString "}") (by assumption))))
local macro_rules | `(tactic| walk_at "subscriptTail") => `(tactic| ((with_reducible show wpAny _ _ (subscriptTail _ _ (Value.ref _) (Value.int _ _)) _ _ _); refine' Mine.item_nargs (by assumption) ?hl ?h0 ?hk ?hn ?hC ?_; (case hl => walk_at "my_list"); (case hC => first | exact Mine.nargs_all (by decide) (fun e => absurd e (by decide)) | (refine Mine.nargs_all (by decide) (fun _ => ?_); omega)); (case h0 => exact Int.fmod_nonneg_of_pos _ (by decide)); (case hk => exact Int.fmod_lt_of_pos _ (by decide)); (case hn => exact Nat.le_of_ble_eq_true rfl); intro v6 hv6))
theorem turn03 {w : World} {base h₀ : Heap} {L a cd' : Addr} {s : Shared} {f a1 a2 : Addr} {T : Str} {tT : Tok} {ex : List (Str × Value)} {its : Array Value} {nums : List Value} {nf kn : Nat} {ns : List Int} {bs : List Bool} {LED : List (Addr × Obj)}
    (B : Below callerA base [] h₀) (X : (Mine.hd.heap_39 w.params).In h₀) (TT : TopH h₀)
    (F : Fr h₀ L s.heap (fun y => if y = Str.ofString "flags" then some (.ref f) else List.lookup y ((Str.ofString "script", .ref a1) :: (Str.ofString "numbers", .ref a2) :: (Str.ofString "text", .str T tT) :: ex)))
    (N : News h₀ L s.heap ((f, W.listOf its nf) :: (a2, W.listOf nums.toArray kn) :: LED)) (hb : BoolsAre its.toList bs) (hbl : bs.length = T.length) (hT : T.length ≤ 100) (hns : IntsAre nums ns) (hne : 0 < ns.length) (hn70 : ns.length ≤ 70) :
    wpAny (model P w) (callerA.deeper (envOf (Str.ofString "law") (scopeOf (lawD 11)) L a (.ref cd'))) (execs (forBody (stOf 11 2)) (envOf (Str.ofString "law") (scopeOf (lawD 11)) L a (.ref cd')))
      (Goes h₀ L s LED fun m' => ∃ ex', m' = fun y => List.lookup y ((Str.ofString "script", .ref a1) :: (Str.ofString "numbers", .ref a2) :: (Str.ofString "text", .str T tT) :: ex'))
      (fun _ _ => False) s := by
  obtain ⟨mean, mg, mb, TT⟩ := TT
  conv in (forBody _) => whnf
  conv in (occs := *) (scopeOf _) => all_goals whnf
  k_fold
  walk_at "my_steps"
  walk_at "my_cut"
  walk_at "my_steps"
  walk_at "my_name"
  walk_at "my_steps"
  · walk_at "my_bad"
  walk_at "my_cut"
  walk_at "my_steps"
  all_goals walk_at "my_nameF"
  all_goals walk_at "my_steps"
  all_goals try (walk_at "my_bad"; done)
  all_goals walk_at "my_cut"
  all_goals walk_at "my_steps"
  all_goals walk_at "my_nameD"
  all_goals walk_at "my_steps"
  all_goals try (walk_at "my_bad"; done)
  all_goals (refine Goes.intro (by assumption) (by assumption) (fun p hp => ?_) ⟨_, by walk_at "my_map"⟩; repeat' (first | exact hp | refine List.Mem.tail _ ?_))

end
section
local macro_rules | `(tactic| k_room) => `(tactic| ktr_room)
local macro_rules | `(tactic| walk_at "my_enter") => `(tactic| (refine' Mine.enter (by with_reducible assumption) (by assumption) ?k6 ?k7 ?k8 ?k9 ?kB ?_ ?c2 ?c3 ?c4 ?c5; (case k6 => k_is); (case k7 => k_is); (case k8 => ktr_room); (case k9 => exact BindsTo.of_eq rfl); (case kB => exact locs rfl); (case c5 => decide); (case c2 => rfl); (case c3 => rfl); (case c4 => rfl); intro L' h₁ mean mg mb F N T'; dsimp only; k_fold))
local macro_rules | `(tactic| walk_at "my_list") => `(tactic| first | assumption | exact News.isList (by assumption) (by k_mem) | exact stays_list (Fr.keep (by assumption)) (by assumption) | exact stays_list (Fr.keep (by assumption)) (stays_list (Fr.keep (by assumption)) (by assumption)))
local macro_rules | `(tactic| walk_at "my_tup") => `(tactic| first | assumption | exact News.isTup (by assumption) (by k_mem) | exact stays_tup (Fr.keep (by assumption)) (by assumption) | exact stays_tup (Fr.keep (by assumption)) (stays_tup (Fr.keep (by assumption)) (by assumption)))
local macro_rules | `(tactic| walk_at "truthy ref") => `(tactic| ((with_reducible show wpAny _ _ (truthy (Value.ref _)) _ _ _); first | (refine Mine.truthy_list_ne (by walk_at "my_list") (by assumption) (by assumption) (by omega) ?_; intro tk1) | (refine Mine.truthy_list_nil (by walk_at "my_list") ?_; intro tk1) | (refine Mine.truthy_tup_nil (by walk_at "my_tup") ?_; intro tk1) | (refine Mine.truthy_empty (by walk_at "my_empty") ?_; intro tk1)))
local macro_rules | `(tactic| walk_at "call builtin:str.join") => `(tactic| ((with_reducible show wpAny _ _ (call (Value.builtin "str.join") [Value.str _ _, Value.ref _]) _ _ _); first | (refine join_listW (by walk_at "my_list") (by assumption) (by decide) (Mine.le_big (by assumption)) ?_; intro t2 tk2) | (refine join_tupleW (by walk_at "my_tup") (by assumption) (by decide) (Mine.le_big (by assumption)) ?_; intro t2 tk2)))
local macro_rules | `(tactic| walk_at "compareOp NotIn str ref") => `(tactic| ((with_reducible show wpAny _ _ (compareOp CmpOp.NotIn (Value.str _ _) (Value.ref _)) _ _ _); first | refine Mine.notin_sup_same (by walk_at "my_tup") ?_ | refine Mine.notin_sup_str (by walk_at "my_tup") (by assumption) ?_))
local macro_rules | `(tactic| walk_at "compareOp NotIn none ref") => `(tactic| ((with_reducible show wpAny _ _ (compareOp CmpOp.NotIn Value.none (Value.ref _)) _ _ _); refine Mine.notin_sup_none (by walk_at "my_tup") ?_))
local macro_rules | `(tactic| walk_at "compareOp NotIn ref ref") => `(tactic| ((with_reducible show wpAny _ _ (compareOp CmpOp.NotIn (Value.ref _) (Value.ref _)) _ _ _); refine Mine.notin_sup_tup (by walk_at "my_tup") (by walk_at "my_tup") (by ktr_units) ?_))
local macro_rules | `(tactic| walk_at "my_empty") => `(tactic| first | assumption | exact Or.inl (News.isList (by assumption) (by k_mem)) | exact Or.inr (News.isTup (by assumption) (by k_mem)) | exact Mine.Empty.keeps (Fr.keep (by assumption)) (by assumption) | exact Mine.Empty.keeps (Fr.keep (by assumption)) (Mine.Empty.keeps (Fr.keep (by assumption)) (by assumption)))
local macro_rules | `(tactic| walk_at "my_ret") => `(tactic| ((try k_unfold); (try dsimp only); refine Mine.ret_of (Fr.keep (by assumption)) ?_ rfl))
local macro_rules | `(tactic| walk_at "compareOp NotIn") => `(tactic| ((with_reducible show wpAny _ _ (compareOp CmpOp.NotIn _ (Value.ref _)) _ _ _); refine Mine.notin_sup_hidden (by walk_at "my_tup") (by first | assumption | exact Mine.Hidden.none | exact Mine.Hidden.sup) ?_))
local macro_rules | `(tactic| walk_at "call builtin:isinstance") => `(tactic| ((with_reducible show wpAny _ _ (call (Value.builtin "isinstance") [Value.ref _, Value.type "tuple"]) _ _ _); refine Mine.isi_tuple (by walk_at "my_tup") ?_))
local macro_rules | `(tactic| walk_at "call builtin:len") => `(tactic| ((with_reducible show wpAny _ _ (call (Value.builtin "len") [Value.ref _]) _ _ _); refine Mine.len_tup (by walk_at "my_tup") (by walk_at "my_size") ?_; intro t2 tk2))
local macro_rules | `(tactic| walk_at "binaryOp Mod str ref") => `(tactic| ((with_reducible show wpAny _ _ (binaryOp Operator.Mod (Value.str _ _) (Value.ref _)) _ _ _); refine Mine.mod_pair (by walk_at "my_tup") (by omega) (by omega) ?_; intro t2 tk2))
local macro_rules | `(tactic| walk_at "my_size") => `(tactic| first | exact Nat.le_of_ble_eq_true rfl | (show _ ≤ 2 ^ 24; (try have hlen9 := StrsAre.length (by assumption)); (try simp only [Array.length_toList] at *); omega) | decide)
local macro_rules | `(tactic| walk_at "binaryOp Mod str str") => `(tactic| ((with_reducible show wpAny _ _ (binaryOp Operator.Mod (Value.str _ _) (Value.str _ _)) _ _ _); refine Mine.mod_brace (Nat.le_trans (Mine.join_len_le (by decide) (by assumption)) (by decide)) ?_; intro t2 tk2))
local macro_rules | `(tactic| walk_at "my_steps") => `(tactic| repeat' (first | ((fail_if_success (with_reducible show wpAny _ _ (exec (Stmt.While _ _ _ _) _) _ _ _)); (fail_if_success (with_reducible show wpAny _ _ (exec (Stmt.For _ _ _ _ _) _) _ _ _)); (fail_if_success (with_reducible show wpAny _ _ (eval (PySem.Expr.ListComp _ _ _ _) _) _ _ _)); (fail_if_success (with_reducible show wpAny _ _ (exec (PySem.Stmt.Assign _ (PySem.Expr.ListComp _ _ _ _) _) _) _ _ _)); (fail_if_success (with_reducible show wpAny _ _ (call (Value.ref _) _) _ _ _)); (fail_if_success (with_reducible show wpAny _ _ (pyIter (Value.ref _)) _ _ _)); (fail_if_success (show LCg.CompSrc _ _ _ _ _ _ _ _ _ _ _ _ _ _)); first | (k_unfold; (try dsimp only)) | (k_end; wrow_close) | walk1 | (dsimp only; walk1) | (leave1; (try dsimp only)))))
local macro_rules | `(tactic| walk_at "my_enter2") => `(tactic| ((case k6 => k_is); (case k7 => k_is); (case k8 => ktr_room); (case k9 => exact BindsTo.of_eq rfl); (case kB => exact locs rfl); (case c5 => decide); (case c2 => rfl); (case c3 => rfl); (case c4 => rfl); intro L' h₁ mean mg mb F N T'; dsimp only [List.reverse, List.reverseAux, List.length] at F ⊢; k_fold))
local macro_rules | `(tactic| walk_at "my_map") => `(tactic| ((simp only [← Mine.mset_at]); rfl))
local macro_rules | `(tactic| walk_at "my_ctx") => `(tactic| first | (with_reducible assumption) | exact Frag.In.keeps (by assumption) (Fr.keep (by assumption)) | exact ⟨_, _, _, Top.keeps (by assumption) (Fr.keep (by assumption))⟩)
local macro_rules | `(tactic| walk_at "my_nameE") => `(tactic| (refine' Mine.call_at (by assumption) (by assumption) (by assumption) (by rfl) (by rfl) (fun BB => Mine.law_name_E ?X ?T BB ?hd ?hu ?hl0 ?hl ?hn ?hw) ?_; (case X => walk_at "my_ctx"); (case T => walk_at "my_ctx"); (case hd => decide); (case hu => ktr_units); (case hl0 => walk_at "my_empty"); (case hl => walk_at "my_tup"); (case hn => assumption); (case hw => omega); (rintro v2 h2 tk2 F2 N2 st2 ⟨t2, hv2⟩); subst hv2))
local macro_rules | `(tactic| walk_at "my_bad") => `(tactic| (exfalso; (rename (bne _ _ = true) => hbad); rw [bne_iff_ne] at hbad; first | (with_reducible exact hbad rfl) | exact hbad (by with_reducible assumption) | exact hbad (by assumption) | exact hbad (congrArg (fun z => PySem.Str.ofString "{" ++ z ++ PySem.Str.ofString "}") (by assumption))))
theorem br_len : Str.length ("[, " : Str) = 3 := by decide +kernel
theorem pair_text {T : Str} {k : Nat} (hk : k ≤ T.length) (h : Txt.slice T (some (k : Int)) (some ((k : Int) + 3)) = "[, ") :
    Txt.slice T none (some (k : Int)) ++ "[, " ++ Txt.slice T (some ((k : Int) + 3)) none = T := by
  have h2 := slice_nat T k (k + 3) (by omega) hk
  rw [show ((k + 3 : Nat) : Int) = (k : Int) + 3 from by omega, h, Nat.add_sub_cancel_left] at h2
  have hTL : T.cps.toList.length = T.length := by simp [Str.length]
  have hle : k + 3 ≤ T.length := by
    have h3 := congrArg List.length h2
    rw [List.length_take, List.length_drop, hTL] at h3
    have h4 : (PySem.Str.ofString "[, ").cps.toList.length = 3 := by decide +kernel
    rw [h4] at h3
    omega
  apply str_ext
  rw [toList_append, toList_append, slice_to T k hk, h2, show (k : Int) + 3 = ((k + 3 : Nat) : Int) from by omega, slice_from T (k + 3) hle, ← List.take_add, List.take_append_drop]
theorem sign_pm (k : Nat) : Txt.item "*+" (((k : Int)).fmod 2) = "*" ∨ Txt.item "*+" (((k : Int)).fmod 2) = "+" := by
  have h0 := Int.fmod_nonneg_of_pos (k : Int) (b := 2) (by decide)
  have h1 := Int.fmod_lt_of_pos (k : Int) (b := 2) (by decide)
  generalize ((k : Int)).fmod 2 = z at *
  have : z = 0 ∨ z = 1 := by omega
  rcases this with rfl | rfl
  · exact .inl (by decide +kernel)
  · exact .inr (by decide +kernel)
theorem turn03b {w : World} {base h₀ : Heap} {L a cd' : Addr} {s : Shared} {a1 a2 : Addr} {T : Str} {tT ti : Tok} {ex : List (Str × Value)} {k : Nat} {LED : List (Addr × Obj)}
    (B : Below callerA base [] h₀) (X : (Mine.hd.heap_39 w.params).In h₀) (TT : TopH h₀)
    (F : Fr h₀ L s.heap (fun y => if y = Str.ofString "i" then some (.int (k : Int) ti) else List.lookup y ((Str.ofString "script", .ref a1) :: (Str.ofString "numbers", .ref a2) :: (Str.ofString "text", .str T tT) :: ex)))
    (N : News h₀ L s.heap LED) (hT : T.length ≤ 100) (hk : k < T.length) :
    wpAny (model P w) (callerA.deeper (envOf (Str.ofString "law") (scopeOf (lawD 11)) L a (.ref cd'))) (execs (forBody (stOf 11 3)) (envOf (Str.ofString "law") (scopeOf (lawD 11)) L a (.ref cd')))
      (Goes h₀ L s LED fun m' => ∃ ex', m' = fun y => List.lookup y ((Str.ofString "script", .ref a1) :: (Str.ofString "numbers", .ref a2) :: (Str.ofString "text", .str T tT) :: ex'))
      (fun _ _ => False) s := by
  have hx1 : (Txt.slice T none (some (k : Int))).length ≤ T.length := Txt.slice_le _ _ _
  have hx2 : (Txt.slice T (some ((k : Int) + 3)) none).length ≤ T.length := Txt.slice_le _ _ _
  have hpm := sign_pm k
  obtain ⟨mean, mg, mb, TT⟩ := TT
  conv in (forBody _) => whnf
  conv in (occs := *) (scopeOf _) => all_goals whnf
  show wpAny (model P w) _ _ _ _ _
  k_fold
  walk_at "my_steps"
  · rename (Txt.slice T _ _ == _) = true => hsl
    have hpt := pair_text (Nat.le_of_lt hk) (eq_of_beq hsl)
    walk_at "my_nameE"
    rw [hpt]
    walk_at "my_steps"
    · exfalso; rename_i hbad; exact absurd hbad (by rw [bne_self_eq_false]; exact Bool.false_ne_true)
    (refine Goes.intro (by assumption) (by assumption) (fun p hp => ?_) ⟨_, by walk_at "my_map"⟩; repeat' (first | exact hp | refine List.Mem.tail _ ?_))
  · (refine Goes.intro (by assumption) (by assumption) (fun p hp => ?_) ⟨_, by walk_at "my_map"⟩; repeat' (first | exact hp | refine List.Mem.tail _ ?_))

end
section
local macro_rules | `(tactic| k_room) => `(tactic| ktr_room)
local macro_rules | `(tactic| walk_at "my_enter") => `(tactic| (refine' Mine.enter (by with_reducible assumption) (by assumption) ?k6 ?k7 ?k8 ?k9 ?kB ?_ ?c2 ?c3 ?c4 ?c5; (case k6 => k_is); (case k7 => k_is); (case k8 => ktr_room); (case k9 => exact BindsTo.of_eq rfl); (case kB => exact locs rfl); (case c5 => decide); (case c2 => rfl); (case c3 => rfl); (case c4 => rfl); intro L' h₁ mean mg mb F N T'; dsimp only; k_fold))
local macro_rules | `(tactic| walk_at "my_list") => `(tactic| first | assumption | exact News.isList (by assumption) (by k_mem) | exact stays_list (Fr.keep (by assumption)) (by assumption) | exact stays_list (Fr.keep (by assumption)) (stays_list (Fr.keep (by assumption)) (by assumption)))
local macro_rules | `(tactic| walk_at "my_tup") => `(tactic| first | assumption | exact News.isTup (by assumption) (by k_mem) | exact stays_tup (Fr.keep (by assumption)) (by assumption) | exact stays_tup (Fr.keep (by assumption)) (stays_tup (Fr.keep (by assumption)) (by assumption)))
local macro_rules | `(tactic| walk_at "truthy ref") => `(tactic| ((with_reducible show wpAny _ _ (truthy (Value.ref _)) _ _ _); first | (refine Mine.truthy_list_ne (by walk_at "my_list") (by assumption) (by assumption) (by omega) ?_; intro tk1) | (refine Mine.truthy_list_nil (by walk_at "my_list") ?_; intro tk1) | (refine Mine.truthy_tup_nil (by walk_at "my_tup") ?_; intro tk1) | (refine Mine.truthy_empty (by walk_at "my_empty") ?_; intro tk1)))
local macro_rules | `(tactic| walk_at "call builtin:str.join") => `(tactic| ((with_reducible show wpAny _ _ (call (Value.builtin "str.join") [Value.str _ _, Value.ref _]) _ _ _); first | (refine join_listW (by walk_at "my_list") (by assumption) (by decide) (Mine.le_big (by assumption)) ?_; intro t2 tk2) | (refine join_tupleW (by walk_at "my_tup") (by assumption) (by decide) (Mine.le_big (by assumption)) ?_; intro t2 tk2)))
local macro_rules | `(tactic| walk_at "compareOp NotIn str ref") => `(tactic| ((with_reducible show wpAny _ _ (compareOp CmpOp.NotIn (Value.str _ _) (Value.ref _)) _ _ _); first | refine Mine.notin_sup_same (by walk_at "my_tup") ?_ | refine Mine.notin_sup_str (by walk_at "my_tup") (by assumption) ?_))
local macro_rules | `(tactic| walk_at "compareOp NotIn none ref") => `(tactic| ((with_reducible show wpAny _ _ (compareOp CmpOp.NotIn Value.none (Value.ref _)) _ _ _); refine Mine.notin_sup_none (by walk_at "my_tup") ?_))
local macro_rules | `(tactic| walk_at "compareOp NotIn ref ref") => `(tactic| ((with_reducible show wpAny _ _ (compareOp CmpOp.NotIn (Value.ref _) (Value.ref _)) _ _ _); refine Mine.notin_sup_tup (by walk_at "my_tup") (by walk_at "my_tup") (by ktr_units) ?_))
local macro_rules | `(tactic| walk_at "my_empty") => `(tactic| first | assumption | exact Or.inl (News.isList (by assumption) (by k_mem)) | exact Or.inr (News.isTup (by assumption) (by k_mem)) | exact Mine.Empty.keeps (Fr.keep (by assumption)) (by assumption) | exact Mine.Empty.keeps (Fr.keep (by assumption)) (Mine.Empty.keeps (Fr.keep (by assumption)) (by assumption)))
local macro_rules | `(tactic| walk_at "my_ret") => `(tactic| ((try k_unfold); (try dsimp only); refine Mine.ret_of (Fr.keep (by assumption)) ?_ rfl))
local macro_rules | `(tactic| walk_at "compareOp NotIn") => `(tactic| ((with_reducible show wpAny _ _ (compareOp CmpOp.NotIn _ (Value.ref _)) _ _ _); refine Mine.notin_sup_hidden (by walk_at "my_tup") (by first | assumption | exact Mine.Hidden.none | exact Mine.Hidden.sup) ?_))
local macro_rules | `(tactic| walk_at "call builtin:isinstance") => `(tactic| ((with_reducible show wpAny _ _ (call (Value.builtin "isinstance") [Value.ref _, Value.type "tuple"]) _ _ _); refine Mine.isi_tuple (by walk_at "my_tup") ?_))
local macro_rules | `(tactic| walk_at "call builtin:len") => `(tactic| ((with_reducible show wpAny _ _ (call (Value.builtin "len") [Value.ref _]) _ _ _); refine Mine.len_tup (by walk_at "my_tup") (by walk_at "my_size") ?_; intro t2 tk2))
local macro_rules | `(tactic| walk_at "binaryOp Mod str ref") => `(tactic| ((with_reducible show wpAny _ _ (binaryOp Operator.Mod (Value.str _ _) (Value.ref _)) _ _ _); refine Mine.mod_pair (by walk_at "my_tup") (by omega) (by omega) ?_; intro t2 tk2))
local macro_rules | `(tactic| walk_at "my_size") => `(tactic| first | exact Nat.le_of_ble_eq_true rfl | (show _ ≤ 2 ^ 24; (try have hlen9 := StrsAre.length (by assumption)); (try simp only [Array.length_toList] at *); omega) | decide)
local macro_rules | `(tactic| walk_at "binaryOp Mod str str") => `(tactic| ((with_reducible show wpAny _ _ (binaryOp Operator.Mod (Value.str _ _) (Value.str _ _)) _ _ _); refine Mine.mod_brace (Nat.le_trans (Mine.join_len_le (by decide) (by assumption)) (by decide)) ?_; intro t2 tk2))
local macro_rules | `(tactic| walk_at "my_steps") => `(tactic| repeat' (first | ((fail_if_success (with_reducible show wpAny _ _ (exec (Stmt.While _ _ _ _) _) _ _ _)); (fail_if_success (with_reducible show wpAny _ _ (exec (Stmt.For _ _ _ _ _) _) _ _ _)); (fail_if_success (with_reducible show wpAny _ _ (eval (PySem.Expr.ListComp _ _ _ _) _) _ _ _)); (fail_if_success (with_reducible show wpAny _ _ (exec (PySem.Stmt.Assign _ (PySem.Expr.ListComp _ _ _ _) _) _) _ _ _)); (fail_if_success (with_reducible show wpAny _ _ (call (Value.ref _) _) _ _ _)); (fail_if_success (with_reducible show wpAny _ _ (pyIter (Value.ref _)) _ _ _)); (fail_if_success (show LCg.CompSrc _ _ _ _ _ _ _ _ _ _ _ _ _ _)); first | (k_unfold; (try dsimp only)) | (k_end; wrow_close) | walk1 | (dsimp only; walk1) | (leave1; (try dsimp only)))))
local macro_rules | `(tactic| walk_at "my_enter2") => `(tactic| ((case k6 => k_is); (case k7 => k_is); (case k8 => ktr_room); (case k9 => exact BindsTo.of_eq rfl); (case kB => exact locs rfl); (case c5 => decide); (case c2 => rfl); (case c3 => rfl); (case c4 => rfl); intro L' h₁ mean mg mb F N T'; dsimp only [List.reverse, List.reverseAux, List.length] at F ⊢; k_fold))
local macro_rules | `(tactic| walk_at "my_map") => `(tactic| ((simp only [← Mine.mset_at]); rfl))
theorem strs_ones : ∀ (ys : List Value), (∀ i (h : i < ys.length), ∃ c t, ys[i] = .str ⟨#[c]⟩ t) → ∃ texts, StrsAre ys texts ∧ texts.length = ys.length ∧ (texts.map (·.length)).sum = ys.length ∧ (Txt.join "" texts).length = ys.length
  | [], _ => ⟨[], .nil, rfl, rfl, rfl⟩
  | y :: ys, h => by
    obtain ⟨c, t, hy⟩ := h 0 (by simp)
    obtain ⟨texts, h1, h2, h3, h4⟩ := strs_ones ys fun i hi => h (i + 1) (Nat.succ_lt_succ hi)
    simp only [List.getElem_cons_zero] at hy
    subst hy
    refine ⟨⟨#[c]⟩ :: texts, .cons _ _ h1, by simp [h2], by rw [List.map_cons, List.sum_cons, h3, List.length_cons]; exact Nat.add_comm _ _, ?_⟩
    cases texts with
    | nil => simp at h2; cases ys with
      | nil => rfl
      | cons _ _ => simp at h2
    | cons z r =>
      have e : Txt.join "" (⟨#[c]⟩ :: z :: r) = ⟨#[c]⟩ ++ "" ++ Txt.join "" (z :: r) := by
        show Builtin.Str.glued "" (⟨#[c]⟩ :: z :: r) = ⟨#[c]⟩ ++ "" ++ Builtin.Str.glued "" (z :: r)
        rw [StrLaws.glued_eq_join, StrLaws.glued_eq_join]; rfl
      rw [e, Str.length_append, Str.length_append, h4]
      have e1 : (Str.mk #[c]).length = 1 := rfl
      have e2 : Str.length ("" : Str) = 0 := by decide +kernel
      rw [e1, e2, List.length_cons]; omega

theorem bools_of : ∀ (ys : List Value), (∀ i (h : i < ys.length), ∃ b, ys[i] = .bool b) → ∃ bs, BoolsAre ys bs ∧ bs.length = ys.length
  | [], _ => ⟨[], .nil, rfl⟩
  | y :: ys, h => by
    obtain ⟨b, hy⟩ := h 0 (by simp)
    obtain ⟨bs, h1, h2⟩ := bools_of ys fun i hi => h (i + 1) (Nat.succ_lt_succ hi)
    simp only [List.getElem_cons_zero] at hy
    subst hy
    exact ⟨b :: bs, .cons h1, by simp [h2]⟩
theorem flags3 {h₀ h : Heap} {L f1 f2 f3 : Addr} {news : List (Addr × Obj)} {ys1 ys2 ys3 : List Value} {bs1 bs2 bs3 : List Bool} {k i : Nat} {v : Value} (N : News h₀ L h news)
    (m1 : (f1, LCg.lst ys1) ∈ news) (m2 : (f2, LCg.lst ys2) ∈ news) (m3 : (f3, LCg.lst ys3) ∈ news) (b1 : BoolsAre ys1 bs1) (b2 : BoolsAre ys2 bs2) (b3 : BoolsAre ys3 bs3)
    (k1 : bs1.length = k) (k2 : bs2.length = k) (k3 : bs3.length = k) (hv : (#[.ref f1, .ref f2, .ref f3] : Array Value)[i]? = some v) :
    ∃ f its bs n, v = .ref f ∧ News h₀ L h [(f, W.listOf its n)] ∧ BoolsAre its.toList bs ∧ bs.length = k := by
  have sg : ∀ {f : Addr} {o : Obj}, (f, o) ∈ news → News h₀ L h [(f, o)] := fun hm p hp => by
    rw [List.mem_singleton.mp hp]; exact N _ hm
  rcases i with _ | _ | _ | i
  · exact ⟨_, _, bs1, _, by simpa using hv.symm, sg m1, b1, k1⟩
  · exact ⟨_, _, bs2, _, by simpa using hv.symm, sg m2, b2, k2⟩
  · exact ⟨_, _, bs3, _, by simpa using hv.symm, sg m3, b3, k3⟩
  · simp at hv
theorem newsOf {h₀ h : Heap} {L a : Addr} {news : List (Addr × Obj)} {nums : List Value} {ns : List Int} {k : Nat} (N : News h₀ L h news) (hm : (a, W.listOf nums.toArray k) ∈ news) (_h : IntsAre nums ns) :
    h.get? ((a, W.listOf nums.toArray k) : Addr × Obj).1 = some ((a, W.listOf nums.toArray k) : Addr × Obj).2 ∧ ((a, W.listOf nums.toArray k) : Addr × Obj).1 ≠ L ∧ h₀.get? ((a, W.listOf nums.toArray k) : Addr × Obj).1 = none := N _ hm
theorem law_holds : PySem.Challenge.rw_io0038_03.Holds := Mine.hd (by
  k_go0
  (all_goals try k_fold)
  walk_at "my_steps"
  k_dflt (refine LCg.ListComp_U (F₀ := by k_asm) (by with_unfolding_all rfl) (by decide) (by rfl) (by decide) (by rfl) ?_)
  walk_at "my_steps"
  rename IntsAre _ (_ ++ _) => hNums
  rename ¬ _ < _ => hmost
  have hnl := hNums.length
  refine LCg.CompSrc.ledger (by rfl) (by k_asm) (by k_asm) (by k_mem) (by rw [sizeLine_eq]; simp at hnl hmost ⊢; omega) ?_
  intro g'
  refine comp_rest (fun i y => ∃ c t, y = .str ⟨#[c]⟩ t) ?_ ?_
  · intro i v I oI C oC D m₂ ys h tk E' hi hP hC hx F N off ne
    obtain ⟨k, t, rfl, hk⟩ := IntsAre.at hNums i v (by simpa using hP)
    simp only [LCg.Off3, and_true] at off
    walk_at "my_steps"
    all_goals trace_state
    all_goals w_report
  · intro ys hlen hR
    obtain ⟨texts, hS, htl, hsum, hjl⟩ := strs_ones ys hR
    have hn70 : ys.length ≤ 70 := by rw [hlen]; simp at hnl hmost ⊢; omega
    have hw : (texts.map (·.length)).sum + texts.length ≤ 100000 := by rw [hsum, htl]; omega
    walk_at "my_steps"
    clear hR hS hsum
    generalize hTx : Txt.join (Str.ofString "") texts = T at *
    refine wpAny_For ?_
    walk_at "my_steps"
    k_dflt (refine LCg.ListComp_U (F₀ := by k_asm) (by with_unfolding_all rfl) (by decide) (by rfl) (by decide) (by rfl) ?_)
    walk_at "my_steps"
    refine LCg.CompSrc.ledger (by rfl) (by k_asm) (by k_asm) (by k_mem) (by rw [sizeLine_eq]; simp at hnl hmost ⊢; omega) ?_
    intro g1
    refine comp_rest (fun i y => ∃ b, y = .bool b) ?_ ?_
    · intro i v I oI C oC D m₂ zs h tk E' hi hP hC hx F N off ne
      obtain ⟨k, t, rfl, hk⟩ := IntsAre.at hNums i v (by simpa using hP)
      simp only [LCg.Off3, and_true] at off
      walk_at "my_steps"
    intro ys1 hlen1 hR
    obtain ⟨bs1, hB1, hbl1⟩ := bools_of ys1 hR
    clear hR
    have hbT1 : bs1.length = T.length := by rw [hbl1, hjl, hlen1, hlen]
    walk_at "my_steps"
    k_dflt (refine LCg.ListComp_U (F₀ := by k_asm) (by with_unfolding_all rfl) (by decide) (by rfl) (by decide) (by rfl) ?_)
    walk_at "my_steps"
    refine LCg.CompSrc.ledger (by rfl) (by k_asm) (by k_asm) (by k_mem) (by rw [sizeLine_eq]; simp at hnl hmost ⊢; omega) ?_
    intro g2
    refine comp_rest (fun i y => ∃ b, y = .bool b) ?_ ?_
    · intro i v I oI C oC D m₂ zs h tk E' hi hP hC hx F N off ne
      obtain ⟨k, t, rfl, hk⟩ := IntsAre.at hNums i v (by simpa using hP)
      simp only [LCg.Off3, and_true] at off
      walk_at "my_steps"
    intro ys2 hlen2 hR
    obtain ⟨bs2, hB2, hbl2⟩ := bools_of ys2 hR
    clear hR
    have hbT2 : bs2.length = T.length := by rw [hbl2, hjl, hlen2, hlen]
    walk_at "my_steps"
    k_dflt (refine LCg.ListComp_U (F₀ := by k_asm) (by with_unfolding_all rfl) (by decide) (by rfl) (by decide) (by rfl) ?_)
    walk_at "my_steps"
    refine LCg.CompSrc.ledger (by rfl) (by k_asm) (by k_asm) (by k_mem) (by rw [sizeLine_eq]; simp at hnl hmost ⊢; omega) ?_
    intro g3
    refine comp_rest (fun i y => ∃ b, y = .bool b) ?_ ?_
    · intro i v I oI C oC D m₂ zs h tk E' hi hP hC hx F N off ne
      obtain ⟨k, t, rfl, hk⟩ := IntsAre.at hNums i v (by simpa using hP)
      simp only [LCg.Off3, and_true] at off
      walk_at "my_steps"
    intro ys3 hlen3 hR
    obtain ⟨bs3, hB3, hbl3⟩ := bools_of ys3 hR
    clear hR
    have hbT3 : bs3.length = T.length := by rw [hbl3, hjl, hlen3, hlen]
    walk_at "my_steps"
    rename News _ _ _ _ => NL
    rename Fr _ _ _ _ => FL
    rename Below _ _ _ _ => KB
    have hS70 : T.length ≤ 100 := by omega
    refine iter_tup (fun _ m h => (∃ ex, m = fun y => List.lookup y ((Str.ofString "script", Value.ref _) :: (Str.ofString "numbers", Value.ref _) :: (Str.ofString "text", Value.str T _) :: ex)) ∧ News _ _ h _) (by walk_at "my_tup") FL ⟨⟨[], by walk_at "my_map"⟩, NL⟩ ?_ ?_ ?_
    · intro i m h h' hj hk
      exact ⟨hj.1, News.but hj.2 (News.old NL) hk⟩
    · intro i v m₁ h tk hv hj hI hl hI0 hIL F₁
      obtain ⟨⟨ex, rfl⟩, N₁⟩ := hj
      obtain ⟨oI, hoI, hIr⟩ := id hI
      have N₂ := News.add N₁ (p := (_, oI)) hoI hIL hI0
      obtain ⟨f, its, bs, nf, rfl, hfm, hfB, hfl⟩ := flags3 N₁ (by k_mem) (by k_mem) (by k_mem) hB1 hB2 hB3 hbT1 hbT2 hbT3 hv
      have hnm := newsOf N₁ (by k_mem) (hNums)
      have N₃ := News.add (News.add N₂ hnm.1 hnm.2.1 hnm.2.2) (p := (f, W.listOf its nf)) (hfm _ (.head _)).1 (hfm _ (.head _)).2.1 (hfm _ (.head _)).2.2
      refine wpAny_mono (turn03 KB (by assumption) ⟨_, _, _, by assumption⟩ F₁ N₃ hfB hfl hS70 hNums (by simp) (by simp at hnl hmost ⊢; omega)) (fun fl s' hg => ?_) (fun _ _ e => e.elim)
      obtain ⟨rfl, h', tk', m', rfl, F', N', ex', rfl⟩ := hg
      exact TurnH.intro F' ⟨⟨oI, (N' _ (.head _)).1, hIr⟩, News.isTup (fun p hp => N' p (.tail _ hp)) (by k_mem)⟩ ⟨⟨ex', rfl⟩, fun p hp => N' p (.tail _ hp)⟩
    · intro m₁ h tk hj F₁
      obtain ⟨⟨ex, rfl⟩, N₁⟩ := hj
      clear NL FL
      walk_at "my_steps"
      refine wpAny_For ?_
      walk_at "my_steps"
      rename IsRange _ _ _ _ _ _ _ _ => hrng
      rename News _ _ _ _ => NL
      rename Fr _ _ _ _ => FL
      refine iter_range (n := T.length) (fun _ m h => (∃ ex, m = fun y => List.lookup y ((Str.ofString "script", Value.ref _) :: (Str.ofString "numbers", Value.ref _) :: (Str.ofString "text", Value.str T _) :: ex)) ∧ News _ _ h _) hrng (small_one (by omega) (by omega) (by omega) (by omega)) (by rw [rangeSize_nat]; omega) FL ⟨⟨_, rfl⟩, NL⟩ ?_ ?_ ?_
      · intro i m h h' hj hk
        exact ⟨hj.1, News.but hj.2 (News.old NL) hk⟩
      · intro i m₁ h tk t hi hj hI hI0 hIL F₁
        obtain ⟨⟨ex, rfl⟩, N₁⟩ := hj
        have N₂ := News.add N₁ (p := (_, _)) hI hIL hI0
        simp only [Int.mul_one, Int.zero_add] at F₁
        refine wpAny_mono (turn03b KB (by assumption) ⟨_, _, _, by assumption⟩ F₁ N₂ hS70 hi) (fun fl s' hg => ?_) (fun _ _ e => e.elim)
        obtain ⟨rfl, h', tk', m', rfl, F', N', ex', rfl⟩ := hg
        exact TurnH.intro F' (N' _ (.head _)).1 ⟨⟨ex', rfl⟩, fun p hp => N' p (.tail _ hp)⟩
      · intro m₁ h tk hj F₁
        obtain ⟨⟨ex, rfl⟩, N₁⟩ := hj
        clear NL FL
        walk_at "my_steps")

end
end Mine

theorem PySem.Challenge.cw_io0038_03_holds : PySem.Challenge.rw_io0038_03.Holds :=
  Mine.law_holds
