import PyProof.Rows.All
import Wide.All
import OpenK.AllK
import Wide.FinOn
import Lean
import PySem.Challenge.RW_ab6014_01
set_option Elab.async false
set_option maxRecDepth 100000
set_option maxHeartbeats 8000000
set_option rowWalk.seconds 0
set_option linter.unusedSectionVars false
set_option linter.unusedVariables false
set_option linter.unusedSimpArgs false
namespace Mine
open PySem PySem.W PyProof.Rows
open_top hd for PySem.Challenge.rw_ab6014_01
theorem quiet : True := by
  w_top off
  k_with_none
  trivial

section
open PySem PySem.W PyProof.Rows


/-- what a call of the def at f gives back: one plain value, the ledger as it was -/
abbrev Gives (w : World) (mean : ExcName → Option Value) (mg mb : Str → Option Value) (f : Addr) (dpn unn : Nat) (news : List (Addr × Obj)) (vs : List Value) (R : Tok → Value) : Prop :=
  ∀ (dp un : Nat) (gd : Option (List Code)) (cn : Str) (cs : Scope) (a : Addr) (ccd : Value) (cl : List (Str × Addr)) (outer : List Env) (A₀ : Around) (base h₀ : Heap) (L : Addr) (m : Str → Option Value) (s : Shared) (Q E : Value → Shared → Prop),
    Below A₀ base outer h₀ → Fr h₀ L s.heap m → (hd.heap_39 w.params).In h₀ → News h₀ L s.heap news → Top hd.view_39 (looseW hd.view_39 [Str.ofString "_law_ROWS"]) mean mg mb h₀ → cs.kind = .function →
    dp + dpn < recursionLimit → un + unn < cLine → 
    (∀ (t : Tok) (h' : Heap) (tk' : Nat), Fr h₀ L h' m → News h₀ L h' news → Q (R t) { s with heap := h', toks := tk' }) →
    wpAny (model PySem.Challenge.rw_ab6014_01.row.prog w) (ktrTop dp un gd cn cs L a ccd cl outer) (call (.ref f) vs) Q E s
end

section
open PySem PySem.W PyProof.Rows
section
variable {prog : Program} {w : World} {A : Around} {E : Value → Shared → Prop} {s : Shared}
theorem sub_str_str : isSubtype (.type "str") (.type "str") = pure true := by rw [isSubtype_type]; kernel_rfl
theorem sub_bytes_str : isSubtype (.type "bytes") (.type "str") = pure false := by rw [isSubtype_type]; kernel_rfl
theorem sub_bytes_bytes : isSubtype (.type "bytes") (.type "bytes") = pure true := by rw [isSubtype_type]; kernel_rfl
theorem kind_nested : builtinKind "issubclass.nested" = none := by decide +kernel
theorem plain_nested : plainId "issubclass.nested" = true := by decide +kernel
theorem args_nested (a b c : Value) : argsOk "issubclass.nested" ⟨[a, b, c], []⟩ := by unfold argsOk; kernel_rfl
theorem type_of_str : typeOf (.type "str") = pure (.type "type") := by first | rfl | decide +kernel | kernel_rfl
theorem type_of_bytes : typeOf (.type "bytes") = pure (.type "type") := by first | rfl | decide +kernel | kernel_rfl

theorem nested_type {X T : String} {k : Value} {dep : Int} {tk : Tok} {b : Bool} {Q : Fin → Shared → Prop} (hk : k = .int dep tk) (hX9 : typeOf (.type X) = pure (.type "type")) (hT : typeOf (.type T) = pure (.type "type"))
    (hsub : isSubtype (.type X) (.type T) = pure b) (hq : Q (.done (.ret (.bool b))) s) :
    wpAny (model prog w) A (Builtin.«issubclass.nested» ⟨[.type X, .type T, k], []⟩) Q E s := by
  subst hk
  repeat (any_goals (first | assumption | (rw [if_pos hT]) | (rw [hsub]) | wp_step))

def SubAll (X : String) : List Value → List Bool → Prop
  | [], [] => True
  | c :: cs, v :: vs => (∃ T, c = .type T ∧ typeOf (.type T) = pure (.type "type") ∧ isSubtype (.type X) (.type T) = pure v) ∧ SubAll X cs vs
  | _, _ => False

theorem issub_items {X : String} {dep : Int} (hX : typeOf (.type X) = pure (.type "type")) : ∀ (cs : List Value) (vs : List Bool) (s : Shared) (Q : Option Fin × Unit → Shared → Prop),
    SubAll X cs vs → (∀ tk, Q (if vs.any id then some (.done (.ret (.bool true))) else none, ()) { s with toks := tk }) →
    wpAny (model prog w) A (forIn cs ((none : Option Fin), ()) fun c _ => do
      if ← truthy (← call (.builtin "issubclass.nested") [.type X, c, rawInt (dep + 1)]) then
        let r ← ret (.bool true)
        pure (ForInStep.done (some r, ()))
      else pure (ForInStep.yield (none, ()))) Q E s
  | [], [], s, Q, _, h => wpAny_pure (h s.toks)
  | c :: cs, v :: vs, s, Q, ⟨ha, hr⟩, h => by
    obtain ⟨T, rfl, hT, hs⟩ := ha
    rw [List.forIn_cons]
    refine wpAny_bind (wpAny_bind (call_function_meets (S := fun _ R s => R (.ok (.ret (.bool v))) s) kind_nested plain_nested F.entry_issubclass_nested (args_nested _ _ _) (fun _ _ _ _ _ h => nested_type (dep := dep + 1) (tk := 0) rfl hX hT hs h) ?_))
    show wpAny _ _ (truthy (.bool v) >>= _) _ _ _
    refine wpAny_bind (m := truthy (.bool v)) (wpAny_pure ?_)
    cases v with
    | true => exact wpAny_bind (wpAny_pure (wpAny_pure (wpAny_pure (h s.toks))))
    | false => exact wpAny_pure (issub_items hX cs vs _ Q hr fun tk => h tk)

theorem issub_nested_tuple {X : String} {tp : Addr} {cs : List Value} {vs : List Bool} {tk : Tok} {Q : Fin → Shared → Prop} (hX : typeOf (.type X) = pure (.type "type"))
    (htp : s.heap.get? tp = some { cls := .type "tuple", data := .seq cs.toArray }) (ha : SubAll X cs vs)
    (hq : ∀ tk', Q (.done (.ret (.bool (vs.any id)))) { s with toks := tk' }) : wpAny (model prog w) A (Builtin.«issubclass.nested» ⟨[.type X, .ref tp, .int 0 tk], []⟩) Q E s := by
  obtain ⟨h, g, d, t, os⟩ := s
  have hT2 : (⟨h, g, d, t, os⟩ : Shared).TypeIs (.ref tp) "tuple" := ⟨_, htp, rfl⟩
  have f1 := F.isi_sub_tuple
  repeat (any_goals (first | assumption | wp_step))
  refine wpAny_arrayLoop ?_
  simp only [Option.getD_some, List.toList_toArray]
  refine issub_items (dep := 0) hX cs vs _ _ ha fun tk' => ?_
  cases hv : vs.any id with
  | true =>
    simp only [if_true]
    repeat (any_goals (first | assumption | wp_step))
    exact hv ▸ hq tk'
  | false =>
    simp only [Bool.false_eq_true, if_false]
    repeat (any_goals (first | assumption | wp_step))
    exact hv ▸ hq tk'

theorem issub_tuple {X : String} {tp : Addr} {cs : List Value} {vs : List Bool} {Q : Value → Shared → Prop} (hX : typeOf (.type X) = pure (.type "type")) (ha : SubAll X cs vs)
    (htp : s.heap.get? tp = some { cls := .type "tuple", data := .seq cs.toArray })
    (hq : ∀ tk, Q (.bool (vs.any id)) { s with toks := tk }) : wpAny (model prog w) A (call (.builtin "issubclass") [.type X, .ref tp]) Q E s :=
  call_issubclass (S := fun _ R s => s.heap.get? tp = some { cls := .type "tuple", data := .seq cs.toArray } ∧ ∀ tk, R (.ok (.ret (.bool (vs.any id)))) { s with toks := tk }) (fun _ _ _ _ _ h => issubclass_outer (issub_nested_tuple hX h.1 ha h.2)) ⟨htp, hq⟩
end
end

section
variable {prog : Program} {w : World} {A : Around} {E : Value → Shared → Prop} {s : Shared} {h₀ : Heap} {L tp : Addr} {news : List (Addr × Obj)} {Q : Value → Shared → Prop}
theorem issub_strK (N : News h₀ L s.heap news) (hm : (tp, { cls := .type "tuple", data := .seq [Value.type "str", .type "bytes"].toArray }) ∈ news) (hq : ∀ tk, Q (.bool true) { s with toks := tk }) :
    wpAny (model prog w) A (call (.builtin "issubclass") [.type "str", .ref tp]) Q E s :=
  issub_tuple (cs := [.type "str", .type "bytes"]) (vs := [true, false]) type_of_str ⟨⟨"str", rfl, type_of_str, sub_str_str⟩, ⟨"bytes", rfl, type_of_bytes, by rw [isSubtype_type]; kernel_rfl⟩, trivial⟩ (N _ hm).1 hq
theorem issub_bytesK (N : News h₀ L s.heap news) (hm : (tp, { cls := .type "tuple", data := .seq [Value.type "str", .type "bytes"].toArray }) ∈ news) (hq : ∀ tk, Q (.bool true) { s with toks := tk }) :
    wpAny (model prog w) A (call (.builtin "issubclass") [.type "bytes", .ref tp]) Q E s :=
  issub_tuple (cs := [.type "str", .type "bytes"]) (vs := [false, true]) type_of_bytes ⟨⟨"str", rfl, type_of_str, sub_bytes_str⟩, ⟨"bytes", rfl, type_of_bytes, sub_bytes_bytes⟩, trivial⟩ (N _ hm).1 hq
end
local macro_rules | `(tactic| walk_at "call builtin:issubclass") => `(tactic| (k_here; k_dflt (first
  | (refine' issub_strK ?k1 ?k2 ?_; (case k1 => k_asm); (case k2 => k_mem); k_whole)
  | (refine' issub_bytesK ?k1 ?k2 ?_; (case k1 => k_asm); (case k2 => k_mem); k_whole)); intro _))
local macro_rules | `(tactic| walk_at "call type:type") => `(tactic| ((with_reducible show wpAny _ _ (call _ [Value.bytes _ _]) _ _ _); refine call_type_of (Tx := "bytes") rfl (by decide +kernel) ?_))
theorem Gives.use {w : World} {mean : ExcName → Option Value} {mg mb : Str → Option Value} {f : Addr} {dpn unn : Nat} {news : List (Addr × Obj)} {vs : List Value} {R : Tok → Value} (g : Gives w mean mg mb f dpn unn news vs R)
    {dp un : Nat} {gd : Option (List Code)} {cn : Str} {cs : Scope} {a : Addr} {ccd : Value} {cl : List (Str × Addr)} {outer : List Env} {A₀ : Around} {base h₀ : Heap} {L : Addr} {m : Str → Option Value} {s : Shared} {Q E : Value → Shared → Prop}
    (k1 : Below A₀ base outer h₀) (k2 : Fr h₀ L s.heap m) (k3 : (hd.heap_39 w.params).In h₀) (k4 : News h₀ L s.heap news) (k5 : Top hd.view_39 (looseW hd.view_39 [Str.ofString "_law_ROWS"]) mean mg mb h₀) (kK : cs.kind = .function)
    (kd : dp + dpn < recursionLimit) (ku : un + unn < cLine)
    (kR : ∀ (t : Tok) (h' : Heap) (tk' : Nat), Fr h₀ L h' m → News h₀ L h' news → Q (R t) { s with heap := h', toks := tk' }) :
    wpAny (model PySem.Challenge.rw_ab6014_01.row.prog w) (ktrTop dp un gd cn cs L a ccd cl outer) (call (.ref f) vs) Q E s := g _ _ _ _ _ _ _ _ _ _ _ _ _ _ _ _ _ k1 k2 k3 k4 k5 kK kd ku kR
local macro_rules | `(tactic| ktr_call $e:term $_x:term) => `(tactic| (k_dflt (refine' Gives.use $e ?k1 ?k2 ?k3 ?k4 ?k5 ?kK ?kd ?ku ?_; (case k1 => k_asm); (case k2 => k_asm); (case k3 => k_asm); (case k4 => k_asm); (case k5 => k_asm); (case kK => first | exact rfl | assumption); (case kd => ktr_room); (case ku => ktr_units)); intro t9 h9 tk9 F9 N9; (try dsimp only); (try k_fold)))
local macro_rules | `(tactic| cell_enter) => `(tactic| (refine' code_def ?k1 ?k2 ?k3 ?k4 ?k5 ?kA ?kF ?kK ?k6 ?k7 ?k8 ?k9 ?kB ?_ ?c2 ?c3 ?c4 ?c5; (case kA => exact rfl); (case kF => exact rfl); (case kK => first | exact rfl | assumption); (case k1 => k_asm); (case k2 => k_asm); (case k3 => k_asm); (case k4 => k_asm); (case k5 => k_asm); (case k6 => k_is); (case k7 => k_is); (case k8 => ktr_room); (case k9 => exact BindsTo.of_eq rfl); (case c5 => decide); (case kB => exact locs rfl); (case c2 => exact rfl); (case c3 => exact rfl); (case c4 => exact rfl); k_whole; intro g' L' h' FG' F' N' B' X' T'; (try dsimp only); (try k_lift B'); (try k_fold)))

theorem g_fspath (w : World) (mean : ExcName → Option Value) (mg mb : Str → Option Value) (news : List (Addr × Obj)) (x : Str) (t : Tok) :
    Gives w mean mg mb 94 3 30 news [.str x t] (fun _ => .str x t) := by
  unfold Gives
  k_fill
  intros
  rename_i hret
  refine wpAny_call ?_
  k_dflt cell_enter
  k_steps
  all_goals (refine' hret 0 _ _ ?_ ?_ <;> (first | k_asm | exact cb_drop (by assumption) (by kcj_all)))
theorem g_fspathB (w : World) (mean : ExcName → Option Value) (mg mb : Str → Option Value) (news : List (Addr × Obj)) (x : Array UInt8) (t : Tok) :
    Gives w mean mg mb 94 3 30 news [.bytes x t] (fun _ => .bytes x t) := by
  unfold Gives
  k_fill
  intros
  rename_i hret
  refine wpAny_call ?_
  k_dflt cell_enter
  k_steps
  all_goals (refine' hret 0 _ _ ?_ ?_ <;> (first | k_asm | exact cb_drop (by assumption) (by kcj_all)))
local macro_rules | `(tactic| walk_at "call ref") => `(tactic| (k_here; first
  | ((with_reducible show wpAny _ _ (call (Value.ref 94) [Value.str _ _]) _ _ _); ktr_call (g_fspath _ _ _ _ _ _ _) 0)
  | ((with_reducible show wpAny _ _ (call (Value.ref 94) [Value.bytes _ _]) _ _ _); ktr_call (g_fspathB _ _ _ _ _ _ _) 0)))

section
open PySem PySem.W PyProof.Rows PySem.Calls PyProof.V PySem.Spec
section
variable {prog : Program} {w : World} {A : Around} {E : Value → Shared → Prop} {s : Shared} {env : Env} {h₀ : Heap} {x : Str} {body : List Stmt} {Q : Flow → Shared → Prop}

def TurnEnd (h₀ : Heap) (L : Addr) (x : Str) (m₀ : Str → Option Value) (d : Addr) (tl : List (Addr × Obj)) (J : Obj → Prop) (s₁ s₂ : Shared) : Prop :=
  ∃ h' tk m' o' news', s₂ = { s₁ with heap := h', toks := tk } ∧ Fr h₀ L h' m' ∧ (∀ z, z ≠ x → m' z = m₀ z) ∧ News h₀ L h' news' ∧ (∀ p ∈ (d, o') :: tl, p ∈ news') ∧ J o'
def TurnPost (h₀ : Heap) (L : Addr) (x : Str) (m₀ : Str → Option Value) (d : Addr) (tl : List (Addr × Obj)) (J : Obj → Prop) (s₁ : Shared) (Q : Flow → Shared → Prop) (f : Flow) (s₂ : Shared) : Prop :=
  match f with
  | .ret v => Q (.ret v) s₂
  | .brk => Q .next s₂
  | _ => TurnEnd h₀ L x m₀ d tl J s₁ s₂
theorem TurnEnd.intro {L : Addr} {m₀ m' : Str → Option Value} {d : Addr} {tl news' : List (Addr × Obj)} {J : Obj → Prop} {s₁ : Shared} {h' : Heap} {tk : Nat} {o' : Obj} (F : Fr h₀ L h' m') (N : News h₀ L h' news') (hm : ∀ z, z ≠ x → m' z = m₀ z)
    (hn : ∀ p ∈ (d, o') :: tl, p ∈ news') (hj : J o') : TurnEnd h₀ L x m₀ d tl J s₁ { s₁ with heap := h', toks := tk } := ⟨h', tk, m', o', news', rfl, F, hm, N, hn, hj⟩

theorem loop_vals {l d : Addr} {vs : List Value} {nn : Nat} {m₀ : Str → Option Value} {o₀ : Obj} {tl : List (Addr × Obj)} (J : Nat → Obj → Prop)
    (hh : A.handled = none) (hl : (l, W.listOf vs.toArray nn) ∈ tl) (htl : ∀ p ∈ tl, p.1 ≠ d) (F : Fr h₀ env.locals s.heap m₀) (N : News h₀ env.locals s.heap ((d, o₀) :: tl)) (hj : J 0 o₀)
    (turn : ∀ i v o h tk own, vs[i]? = some v → J i o → (∀ p ∈ tl ++ own, p.1 ≠ d) → Fr h₀ env.locals h (fun y => if y = x then some v else m₀ y) → News h₀ env.locals h ((d, o) :: (tl ++ own)) →
      wpAny (model prog w) A (execs body env) (TurnPost h₀ env.locals x m₀ d (tl ++ own) (J (i + 1)) { s with heap := h, toks := tk } Q) E { s with heap := h, toks := tk })
    (done : ∀ (u : Str → Option Value) o h tk, J vs.length o → Fr h₀ env.locals h (fun y => if y = x then u y else m₀ y) → News h₀ env.locals h ((d, o) :: tl) → Q .next { s with heap := h, toks := tk }) :
    wpAny (model prog w) A (pyIter (.ref l)) (fun it s₂ => LoopAtV prog w A h₀ env x body Q E it s₂) E s := by
  refine kdl_iter (fun i m nx => ∃ o, nx = (d, o) :: tl ∧ J i o ∧ ∀ z, z ≠ x → m z = m₀ z) hh (List.mem_cons_of_mem _ hl) F N ⟨o₀, rfl, hj, fun _ _ => rfl⟩ ?_ ?_
  · rintro i v m₁ nx h tk own hv hoff hln ⟨o, rfl, hJ, hm⟩ F₁ N₁
    have em : (fun y => if y = x then some v else m₁ y) = fun y => if y = x then some v else m₀ y := by
      funext y
      by_cases hy : y = x
      · rw [if_pos hy, if_pos hy]
      · rw [if_neg hy, if_neg hy]; exact hm y hy
    rw [em] at F₁
    refine wpAny_mono (turn i v o h tk own hv hJ (fun p hp => (List.mem_append.mp hp).elim (htl p) fun h => hoff p h d (.head _)) F₁ N₁) (fun f s₂ p => ?_) fun _ _ e => e
    have fin : TurnEnd h₀ env.locals x m₀ d (tl ++ own) (J (i + 1)) { s with heap := h, toks := tk } s₂ →
        InvEndG h₀ env.locals (fun m' nx => (l, W.listOf vs.toArray nn) ∈ nx ∧ ∃ o, nx = (d, o) :: tl ∧ J (i + 1) o ∧ ∀ z, z ≠ x → m' z = m₀ z) own { s with heap := h, toks := tk } s₂ := by
      rintro ⟨h', tk', m', o', news', e, F', hm', N', hn, hj'⟩
      refine ⟨h', tk', m', news', (d, o') :: tl, e, F', N', ?_, ?_, ?_, List.mem_cons_of_mem _ hl, o', rfl, hj', hm'⟩
      · intro p hp
        refine hn p ?_
        rcases List.mem_cons.mp hp with rfl | hp
        · exact .head _
        · exact List.mem_cons_of_mem _ (List.mem_append.mpr (.inl hp))
      · exact fun p hp => hn p (List.mem_cons_of_mem _ (List.mem_append.mpr (.inr hp)))
      · exact hoff
    cases f with
    | ret v => exact p
    | brk => exact p
    | next => exact fin p
    | cont => exact fin p
  · rintro m₁ nx h tk ⟨o, rfl, hJ, hm⟩ F₁ N₁
    refine done m₁ o h tk hJ ?_ N₁
    have em : (fun y => if y = x then m₁ y else m₀ y) = m₁ := by
      funext y
      by_cases hy : y = x
      · rw [if_pos hy]
      · rw [if_neg hy]; exact (hm y hy).symm
    rw [em]
    exact F₁
end

section
variable {prog : Program} {w : World} {A : Around} {E : Value → Shared → Prop} {s : Shared} {h₀ : Heap} {L d : Addr} {m : Str → Option Value} {news tl : List (Addr × Obj)} {vp : List Value} {v : Value} {k : Nat}
theorem truthy_snoc {Q : Bool → Shared → Prop} (N : News h₀ L s.heap news) (hm : (d, W.listOf (vp ++ [v]).toArray k) ∈ news) (hb : vp.length ≤ 100000) (h : ∀ tk, Q true { s with toks := tk }) :
    wpAny (model prog w) A (truthy (.ref d)) Q E s := by
  refine wpAny_truthy_list (items := (vp ++ [v]).toArray) ⟨_, (N _ hm).1, rfl, _, rfl⟩ (by rw [List.size_toArray, List.length_append]; simp; omega) ?_
  have : (!(vp ++ [v]).toArray.isEmpty) = true := by simp
  rw [this]; exact h _
theorem last_snoc {t : Tok} {Q : Value → Shared → Prop} (N : News h₀ L s.heap news) (hm : (d, W.listOf (vp ++ [v]).toArray k) ∈ news) (h : Q v s) :
    wpAny (model prog w) A (getItem (.ref d) (.int (-1) t)) Q E s := by
  refine wpAny_getItem_list_neg (items := (vp ++ [v]).toArray) ⟨_, (N _ hm).1, rfl, _, rfl⟩ (by decide) (by rw [List.size_toArray, List.length_append]; simp; omega) (by decide) ?_ h
  have e : ((-1 : Int) + ((vp ++ [v]).toArray.size : Int)).toNat = vp.length := by rw [List.size_toArray, List.length_append]; simp; omega
  rw [e]; simp
theorem lastTail_snoc {value slice : PySem.Expr} {t : Tok} {Q : Value → Shared → Prop} (N : News h₀ L s.heap news) (hm : (d, W.listOf (vp ++ [v]).toArray k) ∈ news) (h : Q v s)
    (hs : subscripted slice false (.ref d) (.int (-1) t) = operate [.ref d, .int (-1) t] (getItem (.ref d) (.int (-1) t)) := by with_unfolding_all rfl) :
    wpAny (model prog w) A (subscriptTail value slice (.ref d) (.int (-1) t)) Q E s :=
  have hl : s.heap.IsList d (vp ++ [v]).toArray := ⟨_, (N _ hm).1, rfl, _, rfl⟩
  tail_any hl.typeIs slot_list_getitem.lookup (last_snoc N hm h) hs
theorem append_H {us : List Value} {Q : Value → Shared → Prop} (F : Fr h₀ L s.heap m) (N : News h₀ L s.heap ((d, W.listOf us.toArray k) :: tl)) (ht : ∀ p ∈ tl, p.1 ≠ d) (hb : us.length ≤ 100000)
    (h : ∀ h', Fr h₀ L h' m → News h₀ L h' ((d, W.listOf (us ++ [v]).toArray (k + 1)) :: tl) → Q .none { s with heap := h' }) : wpAny (model prog w) A (call (.builtin "list.append") [.ref d, v]) Q E s := by
  refine append_K F N (Upd.head ht) ?_ (by rw [List.size_toArray, sizeLine_eq]; omega)
  intro h' F' N'
  refine h h' F' ?_
  have e : us.toArray.push v = (us ++ [v]).toArray := by simp
  rw [← e]; exact N'
theorem pop_H {Q : Value → Shared → Prop} (F : Fr h₀ L s.heap m) (N : News h₀ L s.heap ((d, W.listOf (vp ++ [v]).toArray k) :: tl)) (ht : ∀ p ∈ tl, p.1 ≠ d) (hb : vp.length ≤ 100000)
    (h : ∀ h', Fr h₀ L h' m → News h₀ L h' ((d, W.listOf vp.toArray (k + 1)) :: tl) → Q v { s with heap := h' }) : wpAny (model prog w) A (call (.builtin "list.pop") [.ref d]) Q E s :=
  kl_pop F N (kpa_last v vp) (Upd.head ht) (by rw [List.toList_toArray, List.length_append, sizeLine_eq]; simp; omega) h
theorem sa_nil {us : List Value} (h : StrsAre us []) : us = [] := h.nil_inv
theorem sa_snoc : ∀ {us : List Value} {ys : List Str} {y : Str}, StrsAre us (ys ++ [y]) → ∃ up t, us = up ++ [.str y t] ∧ StrsAre up ys
  | us, [], y, h => by
    obtain ⟨t, r, rfl, h'⟩ := h.cons_inv
    cases h'.nil_inv
    exact ⟨[], t, rfl, .nil⟩
  | us, z :: ys, y, h => by
    obtain ⟨t, r, rfl, h'⟩ := StrsAre.cons_inv (xs := ys ++ [y]) h
    obtain ⟨up, t', rfl, h2⟩ := sa_snoc h'
    exact ⟨.str z t :: up, t', rfl, .cons _ _ h2⟩
theorem allLt_mem {d : Addr} {l : List (Addr × Obj)} (h : AllLt d l) : ∀ p ∈ l, p.1 ≠ d := by
  induction l with
  | nil => intro p hp; cases hp
  | cons q r ih =>
    obtain ⟨h1, h2⟩ := h
    intro p hp
    rcases List.mem_cons.mp hp with e | hp
    · rw [e]; exact Nat.ne_of_lt h1
    · exact ih h2 p hp
end

def nstep (us : List Str) (c : Str) : List Str :=
  if ((c.length : Int) != 0) = false then us
  else if (c == Str.ofString ".") = true then us
  else if (c != Str.ofString "..") = true then us ++ [c]
  else match us.getLast? with
    | none => us ++ [c]
    | some y => if (y == Str.ofString "..") = true then us ++ [c] else us.dropLast
section
variable {us : List Str} {c y : Str}
theorem n1 (h : (c.length : Int) = 0) : nstep us c = us := if_pos (by rw [h]; rfl)
theorem n2 (h : (c == Str.ofString ".") = true) : nstep us c = us := by
  unfold nstep
  by_cases h0 : ((c.length : Int) != 0) = false
  · rw [if_pos h0]
  · rw [if_neg h0, if_pos h]
theorem n3 (h1 : (c.length : Int) ≠ 0) (h2 : (c == Str.ofString ".") = false) (h3 : (c != Str.ofString "..") = true) : nstep us c = us ++ [c] := by
  unfold nstep
  rw [if_neg (by simpa using h1), if_neg (by rw [h2]; decide), if_pos h3]
theorem n4 (h1 : (c.length : Int) ≠ 0) (h2 : (c == Str.ofString ".") = false) : nstep [] c = [] ++ [c] := by
  unfold nstep
  rw [if_neg (by simpa using h1), if_neg (by rw [h2]; decide)]
  split <;> rfl
theorem n5 (h1 : (c.length : Int) ≠ 0) (h2 : (c == Str.ofString ".") = false) (h4 : (y == Str.ofString "..") = true) : nstep (us ++ [y]) c = us ++ [y] ++ [c] := by
  unfold nstep
  rw [if_neg (by simpa using h1), if_neg (by rw [h2]; decide), List.getLast?_concat]
  split
  · rfl
  · exact if_pos h4
theorem n6 (h1 : (c.length : Int) ≠ 0) (h2 : (c == Str.ofString ".") = false) (h3 : (c != Str.ofString "..") = false) (h4 : (y == Str.ofString "..") = false) : nstep (us ++ [y]) c = us := by
  unfold nstep
  rw [if_neg (by simpa using h1), if_neg (by rw [h2]; decide), if_neg (by rw [h3]; decide), List.getLast?_concat]
  show (if _ then _ else _) = _
  rw [if_neg (by rw [h4]; decide), List.dropLast_concat]
theorem nstep_or (us : List Str) (c : Str) : nstep us c = us ∨ nstep us c = us ++ [c] ∨ nstep us c = us.dropLast := by
  unfold nstep
  split
  · exact .inl rfl
  · split
    · exact .inl rfl
    · split
      · exact .inr (.inl rfl)
      · split
        · exact .inr (.inl rfl)
        · split
          · exact .inr (.inl rfl)
          · exact .inr (.inr rfl)
end
theorem take_fold {cs : List Str} {i : Nat} {c : Str} (h : cs[i]? = some c) : (cs.take (i + 1)).foldl nstep [] = nstep ((cs.take i).foldl nstep []) c := by
  rw [List.take_add_one, h, List.foldl_append, Option.toList_some, List.foldl_cons, List.foldl_nil]
def wt (us : List Str) : Nat := (us.map (·.length)).sum
theorem wt_snoc (us : List Str) (c : Str) : wt (us ++ [c]) = wt us + c.length := by simp [wt]
theorem fold_wt : ∀ (cs us : List Str), (∀ c ∈ cs, c.length ≤ 1000) → wt (cs.foldl nstep us) ≤ wt us + cs.length * 1000 ∧ (cs.foldl nstep us).length ≤ us.length + cs.length
  | [], us, _ => ⟨by simp, by simp⟩
  | c :: cs, us, h => by
    have ih := fold_wt cs (nstep us c) fun x hx => h x (.tail _ hx)
    have hc := h c (.head _)
    have key : wt (nstep us c) ≤ wt us + c.length ∧ (nstep us c).length ≤ us.length + 1 := by
      rcases nstep_or us c with e | e | e
      · rw [e]; omega
      · rw [e, wt_snoc]; simp
      · rw [e]
        rcases List.eq_nil_or_concat us with rfl | ⟨us', y, rfl⟩
        · simp [wt]
        · rw [List.concat_eq_append, List.dropLast_concat, wt_snoc]; simp; omega
    rw [List.foldl_cons, List.length_cons]
    omega
theorem len_join_wt (us : List Str) : (Txt.join (Str.ofString "/") us).length ≤ wt us + us.length := by
  show (Builtin.Str.glued (Str.ofString "/") us).length ≤ _
  rw [StrLaws.glued_eq_join]
  cases us with
  | nil => show (Str.empty).length ≤ _; simp [Str.empty, Str.length]
  | cons a l =>
    rw [len_join_cons]
    have h1 : l.length * (Str.ofString "/").length = l.length := by rw [show (Str.ofString "/").length = 1 from by decide]; omega
    rw [h1]
    simp only [wt, List.length_cons]
    omega
theorem empty_append (y : Str) : Str.ofString "" ++ y = y := Str.ext' (by
  rw [Str.cps_append]
  have : (Str.ofString "").cps = #[] := by decide
  rw [this]; simp)
theorem add_empty {prog : Program} {w : World} {A : Around} {E : Value → Shared → Prop} {s : Shared} {y : Str} {t u : Tok} {Q : Value → Shared → Prop} (hy : y.length ≤ 16777216)
    (h : ∀ t' k, Q (.str y t') { s with toks := k }) : wpAny (model prog w) A (binaryOp .Add (.str (Str.ofString "") t) (.str y u)) Q E s :=
  KXadd.add (K := 0) (by decide) hy (by omega) fun t' k _ => by rw [empty_append]; exact h t' k
def nres (cs : List Str) : Str :=
  if ((Txt.join (Str.ofString "/") (cs.foldl nstep [])).length : Int) = 0 then Str.ofString "." else Txt.join (Str.ofString "/") (cs.foldl nstep [])
end

section
open PySem PySem.W PyProof.Rows PySem.Calls PyProof.V PySem.Spec
section
variable {prog : Program} {w : World} {A : Around} {E : Value → Shared → Prop} {s : Shared} {env : Env} {h₀ : Heap} {x : Str} {body : List Stmt} {Q : Flow → Shared → Prop}
theorem iter_tup {l : Addr} {its : Array Value} {m₀ : Str → Option Value} {news : List (Addr × Obj)} (J : Nat → (Str → Option Value) → List (Addr × Obj) → Prop)
    (hh : A.handled = none) (ht : s.heap.IsTuple l its) (hlL : l ≠ env.locals) (hnl : ∀ p ∈ news, p.1 ≠ l) (F : Fr h₀ env.locals s.heap m₀) (N : News h₀ env.locals s.heap news) (hj : J 0 m₀ news)
    (turn : ∀ i v m₁ news₁ h tk own, i < its.size → its[i]? = some v → news₁.map (·.1) = news.map (·.1) → OwnOff own (news.map (·.1)) → J i m₁ news₁ → Fr h₀ env.locals h (fun y => if y = x then some v else m₁ y) → News h₀ env.locals h (news₁ ++ own) →
      wpAny (model prog w) A (execs body env) (InvPostN h₀ env.locals (J (i + 1)) own (news.map (·.1)) { s with heap := h, toks := tk } Q) E { s with heap := h, toks := tk })
    (done : ∀ m₁ news₁ h tk, J its.size m₁ news₁ → Fr h₀ env.locals h m₁ → News h₀ env.locals h news₁ → Q .next { s with heap := h, toks := tk }) :
    wpAny (model prog w) A (pyIter (.ref l)) (fun it s₂ => LoopAtV prog w A h₀ env x body Q E it s₂) E s := by
  obtain ⟨o, ho, _⟩ := id ht
  have hne : l ≠ s.heap.objs.size := Nat.ne_of_lt (Heap.lt_size ho)
  refine wpAny_pyIter_tuple ht ?_
  refine loop_invN J (Walks.tuple hh s.heap.objs.size l hne its) ?_ ?_ ?_ ?_ ⟨⟨_, Heap.get?_push_size _ rfl, rfl, rfl⟩, ht.at fun o e => Heap.get?_push_of_some _ e⟩ (F.push _) (fun p hp => ⟨Heap.get?_push_of_some _ (N p hp).1, (N p hp).2⟩) hj turn done
  · intro hm
    rcases List.mem_cons.mp hm with e | hm
    · exact absurd F.ns.lt (e ▸ Nat.lt_irrefl _)
    · exact hlL (List.mem_singleton.mp hm).symm
  · intro b hb
    rw [List.mem_singleton.mp hb]
    exact next_is_new F
  · intro p hp hI
    exact absurd (Heap.lt_size (N p hp).1) ((List.mem_singleton.mp hI) ▸ Nat.lt_irrefl _)
  · intro p hp hI
    rcases List.mem_cons.mp hI with e | hm
    · exact absurd (Heap.lt_size (N p hp).1) (e ▸ Nat.lt_irrefl _)
    · exact hnl p hp (List.mem_singleton.mp hm)
theorem iter_tup1 {l : Addr} {v : Value} {m₀ : Str → Option Value} {news : List (Addr × Obj)} (R : (Str → Option Value) → Prop)
    (hh : A.handled = none) (ht : s.heap.IsTuple l #[v]) (hlL : l ≠ env.locals) (hnl : ∀ p ∈ news, p.1 ≠ l) (F : Fr h₀ env.locals s.heap m₀) (N : News h₀ env.locals s.heap news)
    (turn : ∀ h tk own, OwnOff own (news.map (·.1)) → Fr h₀ env.locals h (fun y => if y = x then some v else m₀ y) → News h₀ env.locals h (news ++ own) →
      wpAny (model prog w) A (execs body env) (InvPostN h₀ env.locals (fun m nx => nx = news ∧ R m) own (news.map (·.1)) { s with heap := h, toks := tk } Q) E { s with heap := h, toks := tk })
    (done : ∀ m₁ h tk, R m₁ → Fr h₀ env.locals h m₁ → News h₀ env.locals h news → Q .next { s with heap := h, toks := tk }) :
    wpAny (model prog w) A (pyIter (.ref l)) (fun it s₂ => LoopAtV prog w A h₀ env x body Q E it s₂) E s := by
  refine iter_tup (fun i m nx => nx = news ∧ (i = 0 → m = m₀) ∧ (i = 1 → R m)) hh ht hlL hnl F N ⟨rfl, fun _ => rfl, fun h => absurd h (by decide)⟩ ?_ ?_
  · rintro i u m₁ news₁ h tk own hi hv _ hoff ⟨rfl, h0, _⟩ F N
    have hi0 : i = 0 := Nat.lt_one_iff.mp hi
    subst hi0
    cases h0 rfl
    cases Option.some.inj hv
    refine wpAny_mono (turn h tk own hoff F N) (fun f s₂ p => ?_) fun _ _ e => e
    have fin : InvEndN h₀ env.locals (fun m nx => nx = news₁ ∧ R m) own (news₁.map (·.1)) { s with heap := h, toks := tk } s₂ →
        InvEndN h₀ env.locals (fun m nx => nx = news₁ ∧ (0 + 1 = 0 → m = m₀) ∧ (0 + 1 = 1 → R m)) own (news₁.map (·.1)) { s with heap := h, toks := tk } s₂ := by
      rintro ⟨h', tk', m', news', nx, e, F', N', hn, ho, ha, hm, hR⟩
      exact ⟨h', tk', m', news', nx, e, F', N', hn, ho, ha, hm, fun h => absurd h (by decide), fun _ => hR⟩
    cases f with
    | ret v => exact p
    | brk => exact p
    | next => exact fin p
    | cont => exact fin p
  · rintro m₁ news₁ h tk ⟨rfl, _, h1⟩ F N
    exact done m₁ h tk (h1 rfl) F N
theorem map_same {m : Str → Option Value} {y : Str} {v : Value} (h : m y = some v) : (fun z => if z = y then some v else m z) = m := by
  funext z
  by_cases e : z = y
  · rw [if_pos e, e, h]
  · rw [if_neg e]
end
end

section
open PySem PySem.W PyProof.Rows PySem.Calls PyProof.V PySem.Spec
section
variable {prog : Program} {w : World} {A : Around} {E : Value → Shared → Prop} {s : Shared} {h₀ : Heap} {L l b : Addr} {m : Str → Option Value} {news : List (Addr × Obj)} {vs ws : List Value} {v : Value} {k : Nat} {Q : Value → Shared → Prop}
theorem foldl_rep (v : Value) : ∀ (n : Nat) (a : Array Value), List.foldl (fun x1 x2 => x1 ++ x2) a (List.replicate n #[v]) = a ++ (List.replicate n v).toArray
  | 0, a => by simp
  | n + 1, a => by
    rw [List.replicate_succ, List.foldl_cons, foldl_rep v n, List.replicate_succ]
    apply Array.toList_inj.mp
    simp
theorem mul_one {n : Nat} {u : Tok} (F : Fr h₀ L s.heap m) (N : News h₀ L s.heap news) (hl : (l, W.listOf #[v] k) ∈ news) (hn : n ≤ 1000)
    (h : ∀ D h', Fr h₀ L h' m → News h₀ L h' ((D, W.listOf (List.replicate n v).toArray 0) :: news) → (∀ p ∈ news, p.1 < D) → Q (.ref D) { s with heap := h' }) :
    wpAny (model prog w) A (binaryOp .Mult (.ref l) (.int (n : Int) u)) Q E s := by
  refine mul_list F N (N _ hl).1 (by omega) (by omega) (by simp; omega) fun h' F' N' => h _ h' F' ?_ fun p hp => Heap.lt_size (N p hp).1
  have e : List.foldl (fun x1 x2 => x1 ++ x2) (#[] : Array Value) (List.replicate (if (#[v] : Array Value).isEmpty = true then 0 else (n : Int).toNat) #[v]) = (List.replicate n v).toArray := by
    rw [if_neg (by simp), Int.toNat_natCast, foldl_rep]
    simp
  rw [e] at N'
  exact N'
theorem add_two (F : Fr h₀ L s.heap m) (N : News h₀ L s.heap news) (hl : s.heap.IsList l vs.toArray) (hb : s.heap.IsList b ws.toArray) (hsz : vs.length + ws.length ≤ 10000)
    (h : ∀ D h', Fr h₀ L h' m → News h₀ L h' ((D, W.listOf (vs ++ ws).toArray 0) :: news) → (∀ p ∈ news, p.1 < D) → Q (.ref D) { s with heap := h' }) :
    wpAny (model prog w) A (binaryOp .Add (.ref l) (.ref b)) Q E s :=
  add_lists F N hl hb (fun h' F' N' => h _ h' F' N' fun p hp => Heap.lt_size (N p hp).1) (by rw [sizeLine_eq]; omega)
theorem sa_rep (y : Str) (t : Tok) : ∀ n : Nat, StrsAre (List.replicate n (.str y t)) (List.replicate n y)
  | 0 => .nil
  | n + 1 => .cons _ _ (sa_rep y t n)
theorem sa_ups {us : List Str} (n : Nat) (t : Tok) (h : StrsAre vs us) : StrsAre (List.replicate n (Value.str (Str.ofString "..") t) ++ vs) (List.replicate n (Str.ofString "..") ++ us) := StrsAre.append' (sa_rep _ t n) h
theorem wt_ups : ∀ (n : Nat) (us : List Str), wt (List.replicate n (Str.ofString "..") ++ us) = 2 * n + wt us
  | 0, us => by simp
  | n + 1, us => by
    have ih := wt_ups n us
    rw [List.replicate_succ, List.cons_append]
    show (Str.ofString "..").length + wt (List.replicate n (Str.ofString "..") ++ us) = _
    rw [ih, show (Str.ofString "..").length = 2 from by decide]
    omega
end
/-- the text of a walk: n steps up, the names us below -/
def walkTxt (n : Nat) (us : List Str) : Str :=
  if (Txt.join (Str.ofString "/") (List.replicate n (Str.ofString "..") ++ us) != Str.ofString "") = true then Txt.join (Str.ofString "/") (List.replicate n (Str.ofString "..") ++ us) else Str.ofString "."
end

section
open PySem PySem.W PyProof.Rows PySem.Calls PyProof.V PySem.Spec
section
variable {prog : Program} {w : World} {A : Around} {E : Value → Shared → Prop} {s : Shared} {h₀ : Heap} {L a : Addr} {m mg mb : Str → Option Value} {news : List (Addr × Obj)} {cn : Str} {cs : Scope} {ccd : Value} {K : Frag} {p : Program} {loose : List Str}
def codes (y : Str) : List Int := y.cps.toList.map fun (c : Nat) => (c : Int)
theorem ints_codes : ∀ {vs ys : List Value} {cs : List Nat}, Paired (fun v r => ∃ c u u', v = Value.str ⟨#[c]⟩ u ∧ r = Value.int (c : Nat) u') vs ys → vs.length = cs.length → (∀ (j : Nat) v, vs[j]? = some v → ∃ c u, cs[j]? = some c ∧ v = Value.str ⟨#[c]⟩ u) → IntsAre ys (cs.map fun (c : Nat) => (c : Int))
  | _, _, [], .nil, _, _ => .nil
  | _ :: _, _ :: _, [], .cons _ _, h, _ => by cases h
  | _, _, _ :: _, .nil, h, _ => by cases h
  | v :: vs, r :: ys, c :: cs, .cons h1 h2, hl, hP => by
    obtain ⟨c1, u1, u', e1, e2⟩ := h1
    obtain ⟨c', u2, hc, e3⟩ := hP 0 v rfl
    simp only [List.getElem?_cons_zero, Option.some.injEq] at hc
    rw [e1] at e3
    have hcc : c1 = c' := by
      have := congrArg (fun v => match v with | Value.str x _ => x.cps | _ => #[]) e3
      simpa using this
    rw [e2, List.map_cons, hc, ← hcc]
    exact .cons _ _ (ints_codes h2 (by simpa using hl) fun j v hv => by simpa using hP (j + 1) v (by simpa using hv))

theorem comp_ord {px p1 p2 p3 p4 pos : Pos} {scope : Scope} {y : Str} {t : Tok} {Q : Value → Shared → Prop} (F : Fr h₀ L s.heap m) (N : News h₀ L s.heap news) (X : K.In h₀) (T : TopRead p loose mg mb h₀)
    (hh : A.handled = none) (e : nsIn K mainGlobals (Str.ofString "ord") = some none) (hm : m (Str.ofString "text") = some (.str y t)) (hsz : y.length ≤ 16777216)
    (h : ∀ D (ys : List Value) n h' tk, Fr h₀ L h' m → News h₀ L h' ((D, W.listOf ys.toArray n) :: news) → (∀ p ∈ news, p.1 ≠ D) → IntsAre ys (codes y) → Q (.ref D) { s with heap := h', toks := tk })
    (hfree : ∀ y ∈ scope.names, y.2 ≠ .free) (hcell : ∀ y ∈ scope.names, y.2 ≠ .cell) (hkind : scope.kind = .function)
    (hnames : ∀ y ∈ scope.names, y.2 = .local → scope.names.lookup y.1 = some .local) (hx : scope.names.lookup (Str.ofString "sign") = some .local) (ho : scope.names.lookup (Str.ofString "ord") = some .globalImplicit)
    (hk : cs.kind = .function) (hl : (envOf cn cs L a ccd).kindOf (Str.ofString "text") = some .local) :
    wpAny (model prog w) A (eval (.ListComp (.Call (.Name (Str.ofString "ord") p1) [.Name (Str.ofString "sign") p2] [] p3) [⟨.Name (Str.ofString "sign") px, .Name (Str.ofString "text") p4, [], 0⟩] scope pos) (envOf cn cs L a ccd)) Q E s := by
  refine wpAny_ListComp_walk (fun _ => true) (fun v r => ∃ c u u', v = Value.str ⟨#[c]⟩ u ∧ r = Value.int (c : Nat) u') hfree hcell hkind hnames hx ?_ (fun _ => rfl)
  refine ld F hm ?_ hk hl
  refine wpAny_pyIter_str fun o St W hst => ?_
  have up : ∀ (h' : Heap), (∀ b o', b ∉ [s.heap.objs.size] → (s.heap.push o).get? b = some o' → h'.get? b = some o') → ∀ b o', s.heap.get? b = some o' → h'.get? b = some o' :=
    fun h' hk b o' e => hk b o' (old_not_new e) (Heap.get?_push_of_some _ e)
  refine ⟨s.heap.objs.size, [s.heap.objs.size], [s.heap.objs.size], y.cps.size, SignAt y, St, rfl, W A hh, (by rw [sizeLine_eq]; exact hsz), hst, ?_, ⟨?_, ?_⟩, ?_⟩
  · intro b hb
    show b < (s.heap.push o).objs.size
    rw [Heap.size_push, List.mem_singleton.mp hb]
    exact Nat.lt_succ_self _
  · intro C i v s₃ m₃ E' hP hn hm _ _
    exact wpAny_pure ⟨rfl, ⟨_, _, rfl, fun _ _ e => e⟩⟩
  · intro C i v s₃ m₃ E' hP hp hn hm hkeep _
    obtain ⟨c, u, _, rfl⟩ := hP
    have k0 : ∀ b o', h₀.get? b = some o' → s₃.heap.get? b = some o' := fun b o' e => up s₃.heap hkeep b o' (F.keep b o' e)
    refine Call_Name1 ?_
    refine Calls.Name_function_global hkind ho (Calls.loadGlobal_builtin (T.g.keeps k0) (mg_none_of X T.g e) (T.b.keeps k0) (show mb (Str.ofString "ord") = some (.builtin "ord") from (T.builtins _ (by decide)).trans (by first | rfl | decide | decide +kernel)) ?_) (by decide)
    refine callWith_builtin1 ?_
    refine wpAny_Name (wpAny_loadName_local hkind hx hn hm ?_) (by decide)
    refine P.ord_of_char ⟨⟨c, u, _, rfl, rfl⟩, ⟨_, _, rfl, fun _ _ e => e⟩⟩
  · intro D h' tk ys vs hnew hlD hplD hlen hP hF hk
    obtain ⟨n, hn⟩ := hplD
    have hD : ∀ b o', s.heap.get? b = some o' → b ≠ D := by
      rintro b o' e rfl
      rw [Heap.get?_push_of_some _ e] at hnew
      cases hnew
    have hL : L ≠ D := by
      obtain ⟨oL, _, _, ho, _⟩ := F.ns
      exact hD L oL ho
    have h0 : h₀.get? D = none := by
      cases e : h₀.get? D with
      | none => rfl
      | some o' => exact absurd rfl (hD D o' (F.keep _ _ e))
    refine h D ys.toList n h' tk (F.keeps (up h' hk)) ?_ (fun p hp => hD _ _ (N p hp).1) ?_
    · intro q hq
      rcases List.mem_cons.mp hq with rfl | hq
      · exact ⟨by rw [Array.toArray_toList]; exact hn, Ne.symm hL, h0⟩
      · exact ⟨up h' hk _ _ (N q hq).1, (N q hq).2⟩
    · rw [show vs.filter (fun _ => true) = vs from List.filter_eq_self.mpr fun _ _ => rfl] at hF
      refine ints_codes hF (by rw [hlen]; simp) fun j v hv => ?_
      obtain ⟨c, u, hc, rfl⟩ := hP j v hv
      exact ⟨c, u, by simpa using hc, rfl⟩
theorem bytes_ints {l : Addr} {vs : List Value} {ns : List Int} {n : Nat} {Q : Value → Shared → Prop} (F : Fr h₀ L s.heap m) (N : News h₀ L s.heap news) (hl : (l, W.listOf vs.toArray n) ∈ news) (hi : IntsAre vs ns) (hr : ∀ n ∈ ns, 0 ≤ n ∧ n < 256) (hz : ns.length ≤ 100000) (hh : A.handled = none)
    (h : ∀ h' t k, Fr h₀ L h' m → News h₀ L h' news → Q (.bytes (byteArr ns) t) { s with heap := h', toks := k }) : wpAny (model prog w) A (call (.type "bytes") [.ref l]) Q E s :=
  call_bytes_ints (News.isList N hl) hi hr (by rw [hi.length, sizeLine_eq]; omega) hh fun h' t k hk => h h' t k (F.keeps hk) (N.grown hk)
theorem ret_of {R : Tok → Value} {v : Value} {Q : Value → Shared → Prop} {t : Tok} {h' : Heap} {tk' : Nat} (hret : ∀ (t : Tok) (h' : Heap) (tk' : Nat), Fr h₀ L h' m → News h₀ L h' news → Q (R t) { s with heap := h', toks := tk' }) (e : v = R t) (F : Fr h₀ L h' m) (N : News h₀ L h' news) :
    Q v { s with heap := h', toks := tk' } := by
  rw [e]; exact hret t h' tk' F N
end
end

section
open PySem PySem.W PyProof.Rows
abbrev Wk := Nat × List Str
def okName (n : Str) : Bool := n == Str.ofString "a" || n == Str.ofString "b" || n == Str.ofString "ab" || n == Str.ofString "a.b"
def okL (l : List Str) : Prop := ∀ n ∈ l, okName n = true
/-- a walk of a size up to n whose names are of the four -/
def okN (n : Nat) (p : Wk) : Prop := p.1 ≤ n ∧ p.2.length ≤ n ∧ okL p.2
def due (p q : Wk) : Wk := if q.1 ≤ p.2.length then (p.1, p.2.take (p.2.length - q.1) ++ q.2) else (p.1 + q.1 - p.2.length, q.2)
/-- a walk spelled, as text or as bytes -/
def wv (o : Bool) (p : Wk) (t : Tok) : Value := if o = true then .bytes (PySem.byteArr (codes (walkTxt p.1 p.2))) t else .str (walkTxt p.1 p.2) t
theorem handed_wv (o : Bool) (p : Wk) (t : Tok) : handedIn (wv o p t) = true := by unfold wv; cases o <;> rfl
abbrev tupO (e : Int) (t : Tok) (l : Addr) : Obj := { cls := .type "tuple", data := .seq #[.int e t, .ref l] }
/-- what a call of the def at f gives back: a walk with P, as a tuple of an int and a list, both in the ledger -/
abbrev GivesW (w : World) (mean : ExcName → Option Value) (mg mb : Str → Option Value) (f : Addr) (dpn unn : Nat) (news : List (Addr × Obj)) (vs : List Value) (P : Nat → List Str → Prop) : Prop :=
  ∀ (dp un : Nat) (gd : Option (List Code)) (cn : Str) (cs : Scope) (a : Addr) (ccd : Value) (cl : List (Str × Addr)) (outer : List Env) (A₀ : Around) (base h₀ : Heap) (L : Addr) (m : Str → Option Value) (s : Shared) (Q E : Value → Shared → Prop),
    Below A₀ base outer h₀ → Fr h₀ L s.heap m → (hd.heap_39 w.params).In h₀ → News h₀ L s.heap news → Top hd.view_39 (looseW hd.view_39 [Str.ofString "_law_ROWS"]) mean mg mb h₀ → cs.kind = .function →
    dp + dpn < recursionLimit → un + unn < cLine →
    (∀ (T l : Addr) (e : Int) (t : Tok) (ws : List Value) (k : Nat) (i : Nat) (us : List Str) (h' : Heap) (tk' : Nat), e = (i : Int) → StrsAre ws us → P i us → Fr h₀ L h' m → News h₀ L h' ((T, tupO e t l) :: (l, W.listOf ws.toArray k) :: news) → Q (.ref T) { s with heap := h', toks := tk' }) →
    wpAny (model PySem.Challenge.rw_ab6014_01.row.prog w) (ktrTop dp un gd cn cs L a ccd cl outer) (call (.ref f) vs) Q E s
theorem GivesW.use {w : World} {mean : ExcName → Option Value} {mg mb : Str → Option Value} {f : Addr} {dpn unn : Nat} {news : List (Addr × Obj)} {vs : List Value} {P : Nat → List Str → Prop} (g : GivesW w mean mg mb f dpn unn news vs P)
    {dp un : Nat} {gd : Option (List Code)} {cn : Str} {cs : Scope} {a : Addr} {ccd : Value} {cl : List (Str × Addr)} {outer : List Env} {A₀ : Around} {base h₀ : Heap} {L : Addr} {m : Str → Option Value} {s : Shared} {Q E : Value → Shared → Prop}
    (k1 : Below A₀ base outer h₀) (k2 : Fr h₀ L s.heap m) (k3 : (hd.heap_39 w.params).In h₀) (k4 : News h₀ L s.heap news) (k5 : Top hd.view_39 (looseW hd.view_39 [Str.ofString "_law_ROWS"]) mean mg mb h₀) (kK : cs.kind = .function)
    (kd : dp + dpn < recursionLimit) (ku : un + unn < cLine)
    (kR : ∀ (T l : Addr) (e : Int) (t : Tok) (ws : List Value) (k : Nat) (i : Nat) (us : List Str) (h' : Heap) (tk' : Nat), e = (i : Int) → StrsAre ws us → P i us → Fr h₀ L h' m → News h₀ L h' ((T, tupO e t l) :: (l, W.listOf ws.toArray k) :: news) → Q (.ref T) { s with heap := h', toks := tk' }) :
    wpAny (model PySem.Challenge.rw_ab6014_01.row.prog w) (ktrTop dp un gd cn cs L a ccd cl outer) (call (.ref f) vs) Q E s := g _ _ _ _ _ _ _ _ _ _ _ _ _ _ _ _ _ k1 k2 k3 k4 k5 kK kd ku kR
/-- what a call of the def at f gives back: a walk with P, spelled -/
abbrev GivesV (w : World) (mean : ExcName → Option Value) (mg mb : Str → Option Value) (f : Addr) (dpn unn : Nat) (news : List (Addr × Obj)) (vs : List Value) (o : Bool) (P : Nat → List Str → Prop) : Prop :=
  ∀ (dp un : Nat) (gd : Option (List Code)) (cn : Str) (cs : Scope) (a : Addr) (ccd : Value) (cl : List (Str × Addr)) (outer : List Env) (A₀ : Around) (base h₀ : Heap) (L : Addr) (m : Str → Option Value) (s : Shared) (Q E : Value → Shared → Prop),
    Below A₀ base outer h₀ → Fr h₀ L s.heap m → (hd.heap_39 w.params).In h₀ → News h₀ L s.heap news → Top hd.view_39 (looseW hd.view_39 [Str.ofString "_law_ROWS"]) mean mg mb h₀ → cs.kind = .function →
    dp + dpn < recursionLimit → un + unn < cLine →
    (∀ (t : Tok) (i : Nat) (us : List Str) (h' : Heap) (tk' : Nat), P i us → Fr h₀ L h' m → News h₀ L h' news → Q (wv o (i, us) t) { s with heap := h', toks := tk' }) →
    wpAny (model PySem.Challenge.rw_ab6014_01.row.prog w) (ktrTop dp un gd cn cs L a ccd cl outer) (call (.ref f) vs) Q E s
theorem GivesV.use {w : World} {mean : ExcName → Option Value} {mg mb : Str → Option Value} {f : Addr} {dpn unn : Nat} {news : List (Addr × Obj)} {vs : List Value} {o : Bool} {P : Nat → List Str → Prop} (g : GivesV w mean mg mb f dpn unn news vs o P)
    {dp un : Nat} {gd : Option (List Code)} {cn : Str} {cs : Scope} {a : Addr} {ccd : Value} {cl : List (Str × Addr)} {outer : List Env} {A₀ : Around} {base h₀ : Heap} {L : Addr} {m : Str → Option Value} {s : Shared} {Q E : Value → Shared → Prop}
    (k1 : Below A₀ base outer h₀) (k2 : Fr h₀ L s.heap m) (k3 : (hd.heap_39 w.params).In h₀) (k4 : News h₀ L s.heap news) (k5 : Top hd.view_39 (looseW hd.view_39 [Str.ofString "_law_ROWS"]) mean mg mb h₀) (kK : cs.kind = .function)
    (kd : dp + dpn < recursionLimit) (ku : un + unn < cLine)
    (kR : ∀ (t : Tok) (i : Nat) (us : List Str) (h' : Heap) (tk' : Nat), P i us → Fr h₀ L h' m → News h₀ L h' news → Q (wv o (i, us) t) { s with heap := h', toks := tk' }) :
    wpAny (model PySem.Challenge.rw_ab6014_01.row.prog w) (ktrTop dp un gd cn cs L a ccd cl outer) (call (.ref f) vs) Q E s := g _ _ _ _ _ _ _ _ _ _ _ _ _ _ _ _ _ k1 k2 k3 k4 k5 kK kd ku kR
theorem okL_nil : okL [] := fun _ h => nomatch h
theorem okL_append {a b : List Str} (ha : okL a) (hb : okL b) : okL (a ++ b) := fun n hn => (List.mem_append.mp hn).elim (ha n) (hb n)
theorem okL_take {a : List Str} (k : Nat) (ha : okL a) : okL (a.take k) := fun n hn => ha n (List.mem_of_mem_take hn)
theorem okL_rep {y : Str} (k : Nat) (hy : okName y = true) : okL (List.replicate k y) := fun n hn => by rw [(List.mem_replicate.mp hn).2]; exact hy
theorem due_fst_le (p q : Wk) : (due p q).1 ≤ p.1 + q.1 := by
  unfold due; split
  · exact Nat.le_add_right _ _
  · exact Nat.sub_le _ _
theorem due_len_le (p q : Wk) : (due p q).2.length ≤ p.2.length + q.2.length := by
  unfold due; split
  · rw [List.length_append, List.length_take]; have := Nat.min_le_right (p.2.length - q.1) p.2.length; omega
  · exact Nat.le_add_left _ _
theorem due_ok {p q : Wk} (hp : okL p.2) (hq : okL q.2) : okL (due p q).2 := by
  unfold due; split
  · exact okL_append (okL_take _ hp) hq
  · exact hq
theorem due_all {p q : Wk} (hp : okL p.2) (hq : okL q.2) : (due p q).1 ≤ p.1 + q.1 ∧ (due p q).2.length ≤ p.2.length + q.2.length ∧ okL (due p q).2 := ⟨due_fst_le p q, due_len_le p q, due_ok hp hq⟩
theorem okN_mk {n i : Nat} {l : List Str} (h1 : i ≤ n) (h2 : l.length ≤ n) (h3 : okL l) : okN n (i, l) := ⟨h1, h2, h3⟩
theorem due_len (i n : Nat) (l w : List Str) (h : l.length = n) : due (i, l) (n, w) = (i, w) := by
  unfold due
  rw [if_pos (Nat.le_of_eq h.symm)]
  simp [h]
theorem due_idem (i : Nat) (l : List Str) : due (i, l) (i, l) = (i, l) ↔ i = l.length := by
  refine ⟨fun h => ?_, fun h => due_len i i l l h.symm⟩
  unfold due at h
  split at h
  · have h2 := congrArg (fun p : Wk => p.2.length) h
    simp only [List.length_append, List.length_take] at h2
    simp only at *
    omega
  · have h2 := congrArg (fun p : Wk => p.1) h
    simp only at *
    omega
theorem due_dot (i u : Nat) (w r : List Str) : due (i, w) (u, r) = (0, []) ↔ i = 0 ∧ r = [] ∧ u = w.length := by
  constructor
  · intro h
    unfold due at h
    split at h
    · rename_i hu
      have h1 := congrArg (fun p : Wk => p.1) h
      have h2 := congrArg (fun p : Wk => p.2) h
      simp only [List.append_eq_nil_iff] at h1 h2
      have h3 := congrArg List.length h2.1
      simp only [List.length_take, List.length_nil] at h3
      simp only at hu
      exact ⟨h1, h2.2, by omega⟩
    · rename_i hu
      have h1 := congrArg (fun p : Wk => p.1) h
      simp only at h1 hu
      omega
  · rintro ⟨rfl, rfl, rfl⟩
    exact due_len _ _ _ _ rfl
theorem due_xzx (i u : Nat) (w r : List Str) : due (due (i, w) (u, r)) (i, w) = (i, w) ↔ u ≤ w.length ∧ w.length + r.length = i + u := by
  have key : ∀ (k : Nat) (l : List Str), due (k, l) (i, w) = (i, w) ↔ (k = i ∧ l.length = i) ∨ (l.length < i ∧ k + i - l.length = i) := by
    intro k l
    unfold due
    split
    · rename_i h
      simp only at h
      constructor
      · intro h'
        have h1 := congrArg (fun p : Wk => p.1) h'
        have h2 := congrArg (fun p : Wk => p.2.length) h'
        simp only [List.length_append, List.length_take] at h1 h2
        left; omega
      · rintro (⟨rfl, h2⟩ | h2)
        · simp [h2]
        · omega
    · rename_i h
      simp only at h
      constructor
      · intro h'
        have h1 := congrArg (fun p : Wk => p.1) h'
        simp only at h1
        right; omega
      · rintro (h2 | h2)
        · omega
        · rw [h2.2]
  by_cases hu : u ≤ w.length
  · have e : due (i, w) (u, r) = (i, w.take (w.length - u) ++ r) := if_pos hu
    rw [e, key, List.length_append, List.length_take]
    omega
  · have e : due (i, w) (u, r) = (i + u - w.length, r) := if_neg hu
    rw [e, key]
    omega
theorem due_zxz (i u : Nat) (w r : List Str) (h1 : u ≤ w.length) (h2 : w.length + r.length = i + u) : due (u, r) (due (i, w) (u, r)) = (u, r) ↔ u = w.length ∧ r.length = i := by
  have e : due (i, w) (u, r) = (i, w.take (w.length - u) ++ r) := if_pos h1
  rw [e]
  constructor
  · intro h'
    unfold due at h'
    split at h'
    · rename_i h
      have h3 := congrArg (fun p : Wk => p.2.length) h'
      simp only [List.length_append, List.length_take] at h3 h
      omega
    · rename_i h
      have h3 := congrArg (fun p : Wk => p.1) h'
      simp only at h3 h
      omega
  · rintro ⟨rfl, h3⟩
    rw [Nat.sub_self, List.take_zero, List.nil_append]
    exact due_len _ _ _ _ h3
end

section
open PySem PySem.W PyProof.Rows
local macro_rules | `(tactic| walk_at "truthy str") => `(tactic| (k_here; (refine KXt.truthy (by assumption) (by assumption) ?_); intro _))
local macro_rules | `(tactic| walk_at "call ref") => `(tactic| (k_here; (with_reducible show wpAny _ _ (call (Value.ref 122) [_]) _ _ _); refine wpAny_call ?_; k_dflt cell_enter))
local macro_rules | `(tactic| walk_at "call builtin:str.split") => `(tactic| (k_here; (refine KSpl.split1 (by k_asm) (by k_asm) (by decide) ?_ (by assumption)); (intro D' l' h' k' e' a' F' N' l1); (try k_lt l1)))
local macro_rules | `(tactic| walk_at "truthy str") => `(tactic| (k_here; (refine SBL.truthy (by omega) ?_)))
local macro_rules | `(tactic| walk_at "truthy ref") => `(tactic| (k_here; k_dflt (refine' truthy_snoc ?k1 ?k2 ?k3 ?_; (case k1 => k_asm); (case k2 => k_mem); (case k3 => omega)); intro _))
local macro_rules | `(tactic| walk_at "subscriptTail Name UnaryOp ref int") => `(tactic| (k_here; (with_reducible show wpAny _ _ (subscriptTail _ _ (Value.ref _) (Value.int _ _)) _ _ _); k_dflt (refine' lastTail_snoc ?k1 ?k2 ?_; (case k1 => k_asm); (case k2 => k_mem))))
local macro_rules | `(tactic| walk_at "call builtin:list.append") => `(tactic| (k_here; k_dflt (refine' append_H ?k1 ?k2 ?k3 ?k4 ?_; (case k1 => k_asm); (case k2 => k_asm); (case k3 => assumption); (case k4 => (simp only [List.length_append, List.length_cons, List.length_nil]; omega))); intro h' F' N'; (try k_sweep)))
local macro_rules | `(tactic| walk_at "call builtin:list.pop") => `(tactic| (k_here; k_dflt (refine' pop_H ?k1 ?k2 ?k3 ?k4 ?_; (case k1 => k_asm); (case k2 => k_asm); (case k3 => assumption); (case k4 => omega)); intro h' F' N'; (try k_sweep)))
local macro_rules | `(tactic| walk_at "call builtin:str.join") => `(tactic| (k_here; k_dflt (refine' join_listW ?k1 ?k2 ?k3 ?k4 ?_; (case k1 => exact News.isList (by k_asm) (by k_mem)); (case k2 => assumption); (case k3 => decide); (case k4 => (simp only [wt, List.map_nil, List.sum_nil, List.length_nil] at *; omega))); intro _ _))
local macro_rules | `(tactic| walk_at "binaryOp Add str str") => `(tactic| (k_here; (with_reducible show wpAny _ _ (binaryOp _ (Value.str (Str.ofString "") _) (Value.str (Txt.join _ _) _)) _ _ _); refine add_empty (by omega) ?_; intro _ _))
theorem g_normpath (w : World) (mean : ExcName → Option Value) (mg mb : Str → Option Value) (news : List (Addr × Obj)) (x : Str) (t : Tok) 
   (h0 : ((x.length : Int) != 0) = true) (hsz : x.length ≤ 16777216) (hsz2 : x.length + 2 ≤ sizeLine) (hs : (Txt.slice x none (some 1) != Str.ofString "/") = true) (hcs : ∀ c ∈ Txt.split x (Str.ofString "/"), c.length ≤ 1000) (hcn : (Txt.split x (Str.ofString "/")).length ≤ 1000) :
    Gives w mean mg mb 129 6 60 news [.str x t] (fun t => .str (nres (Txt.split x (Str.ofString "/"))) t) := by
  unfold Gives
  k_fill
  intros
  rename_i hret
  refine wpAny_call ?_
  k_dflt cell_enter
  k_steps
  (rename Fr _ _ _ _ => lF'); (with_unfolding_all refine' For_invVF lF' ?k1 ?k2 ?_; (case k1 => exact rfl); (case k2 => exact rfl); k_whole)
  rename (List.map _ _ = Txt.split _ _) => e9
  rename StrsAre _ _ => a9
  rename List (Str × Tok) => l'
  k_steps
  rename (_ ∧ _ ∧ AllLt _ _) => l9
  refine' loop_vals (vs := strValues _) (fun i o => ∃ us vs k, us = (((Txt.split x (Str.ofString "/"))).take i).foldl nstep [] ∧ StrsAre vs us ∧ o = W.listOf vs.toArray k) ?q1 ?q2 ?q2a ?q3 ?q4 ?q5 ?q6 ?q7
  case q1 => exact rfl
  case q3 => k_asm
  case q4 => k_asm
  case q2 => k_mem
  case q2a => 
    intro p hp
    rcases List.mem_cons.mp hp with rfl | hp
    · exact Nat.ne_of_lt l9.1
    · rcases List.mem_cons.mp hp with rfl | hp
      · exact Nat.ne_of_lt l9.2.1
      · exact allLt_mem l9.2.2 _ hp
  case q5 => exact ⟨[], [], 0, rfl, by exact .nil, rfl⟩
  · rintro i v o h tk own hv ⟨us, vs, k, hus, hvs, rfl⟩ hoff F N
    obtain ⟨c, tc, rfl, hc⟩ := StrsAre.item a9 i v hv
    rw [e9] at hc
    have hc1 : c.length ≤ 1000 := hcs c (List.mem_of_getElem? hc)
    have hi : i < 1000 := Nat.lt_of_lt_of_le (List.getElem?_eq_some_iff.mp hc).1 hcn
    have hf := take_fold hc
    have hw := (fold_wt ((Txt.split x (Str.ofString "/")).take i) [] fun c hc => hcs c (List.mem_of_mem_take hc)).2
    rw [← hus] at hf hw
    have hvl : us.length ≤ i := Nat.le_trans hw (by rw [List.length_nil, Nat.zero_add, List.length_take]; exact Nat.min_le_left _ _)
    clear hus hw
    rcases List.eq_nil_or_concat us with rfl | ⟨us', y, rfl⟩
    · cases sa_nil hvs
      k_steps
      all_goals (refine TurnEnd.intro (by k_asm) (by k_asm) (fun z hz => if_neg hz) (fun p hp => hp) ⟨_, _, _, hf.symm, ?_, rfl⟩)
      all_goals first
        | (rw [n1 (by assumption)]; exact hvs)
        | (rw [n2 (by assumption)]; exact hvs)
        | (rw [n4 (by assumption) (by assumption)]; exact StrsAre.append' hvs (.cons _ _ .nil))
    · rw [List.concat_eq_append] at hf hvs hvl
      rw [List.length_append, List.length_cons, List.length_nil] at hvl
      obtain ⟨vp, ty, rfl, hvp⟩ := sa_snoc hvs
      have hvn := hvp.length
      k_steps
      all_goals (refine TurnEnd.intro (by k_asm) (by k_asm) (fun z hz => if_neg hz) (fun p hp => hp) ⟨_, _, _, hf.symm, ?_, rfl⟩)
      all_goals first
        | (rw [n1 (by assumption)]; exact hvs)
        | (rw [n2 (by assumption)]; exact hvs)
        | (rw [n3 (by assumption) (by assumption) (by assumption)]; exact StrsAre.append' hvs (.cons _ _ .nil))
        | (rw [n5 (by assumption) (by assumption) (by assumption)]; exact StrsAre.append' hvs (.cons _ _ .nil))
        | (rw [n6 (by assumption) (by assumption) (by assumption) (by assumption)]; exact hvp)
  · rintro u o h tk ⟨us, vs, k, hus, hvs, rfl⟩ F N
    have hlen : (strValues l').length = (Txt.split x (Str.ofString "/")).length := by rw [a9.length, e9]
    rw [hlen, List.take_length] at hus
    have hw := fold_wt (Txt.split x (Str.ofString "/")) [] hcs
    rw [← hus] at hw
    have hj := len_join_wt us
    have hj2 : (Txt.join (Str.ofString "/") us).length ≤ 1100000 := by simp only [wt, List.map_nil, List.sum_nil, List.length_nil] at hw hj; omega
    clear hj
    k_steps
    all_goals (refine' cb_retS hret ?e1 ?e2 ?e3; (case e2 => k_asm); (case e3 => (first | k_asm | exact cb_drop (by assumption) (by kcj_all))); (case e1 => (unfold nres; rw [← hus]; first | rw [if_pos (by assumption)] | rw [if_neg (by assumption)])))
end

section
open PySem PySem.W PyProof.Rows
local macro_rules | `(tactic| walk_at "call ref") => `(tactic| (k_here; (with_reducible show wpAny _ _ (call (Value.ref 108) [_]) _ _ _); refine wpAny_call ?_; k_dflt cell_enter))
theorem g_join (w : World) (mean : ExcName → Option Value) (mg mb : Str → Option Value) (news : List (Addr × Obj)) (x y : Str) (t u : Tok) (hx : x.length ≤ 1000) (hx0 : 1 ≤ x.length) (hy : y.length ≤ 1000) (hst : Txt.startswith y (Str.ofString "/") = false) (hen : Txt.endswith x (Str.ofString "/") = false) :
    Gives w mean mg mb 115 6 60 news [.str x t, .str y u] (fun t => .str (x ++ (Str.ofString "/" ++ y)) t) := by
  unfold Gives
  k_fill
  intros
  rename_i hret
  refine wpAny_call ?_
  k_dflt (refine' kp_rest ?k1 ?k2 ?k3 ?k4 ?k5 ?kA ?kF ?kK ?k6 ?k7 ?k8 ?kV ?kP ?kG ?kB ?_ ?c2 ?c3 ?c4 ?c5; (case kA => exact rfl); (case kF => exact rfl); (case kK => first | exact rfl | assumption); (case k1 => k_asm); (case k2 => k_asm); (case k3 => k_asm); (case k4 => k_asm); (case k5 => k_asm); (case k6 => k_is); (case k7 => k_is); (case k8 => ktr_room); (case kV => kl_lit); (case kP => exact rfl); (case kG => exact fun _ => rfl); (case kB => exact fun _ => locs rfl); (case c5 => decide); (case c2 => exact rfl); (case c3 => exact rfl); (case c4 => exact rfl); k_whole; intro D' g' L' h' l1 FG' F' N' B' X' T'; (try k_lt l1); (try dsimp only); (try k_lift B'); (try k_fold))
  k_steps
  (rename Fr _ _ _ _ => lF'); (with_unfolding_all refine' For_invVF lF' ?k1 ?k2 ?_; (case k1 => exact rfl); (case k2 => exact rfl); k_whole)
  k_steps
  rename (News _ _ _ _) => N8
  have hD := (N8 _ (.head _))
  refine' iter_tup1 (v := Value.str y u) (fun m => ∃ t', m (Str.ofString "path") = some (.str (x ++ (Str.ofString "/" ++ y)) t')) ?q1 ?q2 ?q3 ?q4 ?q5 ?q6 ?q8 ?q9
  case q1 => exact rfl
  case q2 => exact ⟨_, hD.1, rfl, 0, rfl⟩
  case q3 => exact hD.2.1
  case q4 => exact fun p hp => Nat.ne_of_lt (l1 p hp)
  case q5 => k_asm
  case q6 => exact cb_drop N8 (fun p hp => List.mem_cons_of_mem _ hp)
  · intro h tk own hoff F N
    k_steps
    all_goals first
      | exact absurd (hst.symm.trans (by assumption)) (by decide)
      | exact absurd (hen.symm.trans (by assumption)) (by decide)
      | (refine' InvEndN.intro (nx := news) (by k_asm) (by k_asm) ⟨rfl, _, rfl⟩ rfl ?_ ?_ <;> intro p hp <;> first | exact List.mem_append.mpr (.inl hp) | exact List.mem_append.mpr (.inr hp))
  · rintro m₁ h tk ⟨t', ht⟩ F N
    rw [← map_same ht] at F
    k_steps
    all_goals (refine' cb_retS hret ?e1 ?e2 ?e3; (case e2 => k_asm); (case e3 => (first | k_asm | exact cb_drop (by assumption) (by kcj_all))); (case e1 => rfl))
end

section
open PySem PySem.W PyProof.Rows
local macro_rules | `(tactic| k_mem) => `(tactic| first | (with_reducible_and_instances exact List.Mem.head _) | (with_reducible_and_instances assumption) | (refine' List.Mem.tail _ ?_; k_mem))
local macro_rules | `(tactic| walk_at "subscriptTail") => `(tactic| (k_here; (with_reducible show wpAny _ _ (subscriptTail _ _ (Value.ref _) (Value.int _ _)) _ _ _); k_dflt (refine' item_tupleT ?k1 ?k2 ?k3 ?k4 ?k5 ?_; (case k1 => exact News.isTup (by k_asm) (by k_mem)); (case k2 => decide); (case k3 => decide); (case k4 => exact rfl); (case k5 => exact rfl))))
local macro_rules | `(tactic| walk_at "binaryOp Mult ref int") => `(tactic| (k_here; k_dflt (refine' mul_one ?k1 ?k2 ?k3 ?k4 ?_; (case k1 => k_asm); (case k2 => k_asm); (case k3 => k_mem); (case k4 => omega); k_whole); intro D' h' F' N' l1; (try k_lt l1); (try k_sweep)))
theorem list_or {g h : Heap} {L l : Addr} {m : Str → Option Value} {K : Frag} {news news' : List (Addr × Obj)} {vs : List Value} {k : Nat} (F : Fr g L h m) (N : News g L h news') (X : K.In g) (hl : (l, W.listOf vs.toArray k) ∈ news ∨ K.lookup l = some (W.listOf vs.toArray k)) (hs : ∀ p ∈ news, p ∈ news') :
    h.IsList l vs.toArray := by
  rcases hl with hl | hl
  · exact News.isList N (hs _ hl)
  · exact ⟨_, F.keep _ _ (X _ _ hl), rfl, _, rfl⟩
local macro_rules | `(tactic| walk_at "binaryOp Add ref ref") => `(tactic| (k_here; k_dflt (refine' add_two ?k1 ?k2 ?k3 ?k4 ?k5 ?_; (case k1 => k_asm); (case k2 => k_asm); (case k3 => exact News.isList (by k_asm) (by k_mem)); (case k4 => exact list_or (by k_asm) (by k_asm) (by k_asm) (by assumption) (by kcj_all)); (case k5 => (rw [List.length_replicate]; omega)); k_whole); intro D' h' F' N' l1; (try k_lt l1); (try k_sweep)))
local macro_rules | `(tactic| walk_at "call builtin:str.join") => `(tactic| (k_here; k_dflt (refine' join_listW ?k1 ?k2 ?k3 ?k4 ?_; (case k1 => exact News.isList (by k_asm) (by k_mem)); (case k2 => exact sa_ups _ _ (by assumption)); (case k3 => decide); (case k4 => (show wt _ + _ ≤ _; rw [wt_ups, List.length_append, List.length_replicate]; omega))); intro _ _))
theorem g_spell (w : World) (mean : ExcName → Option Value) (mg mb : Str → Option Value) (news : List (Addr × Obj)) (T l : Addr) (i : Nat) (ti : Tok) (vs : List Value) (us : List Str) (k : Nat) (hi : i ≤ 30) (hvs : StrsAre vs us)
   (hn : us.length ≤ 100) (hvn : vs.length ≤ 100) (hw : wt us ≤ 1000)
   (hT : (T, ({ cls := .type "tuple", data := .seq #[.int i ti, .ref l] } : Obj)) ∈ news) (hl : (l, W.listOf vs.toArray k) ∈ news ∨ (hd.heap_39 w.params).lookup l = some (W.listOf vs.toArray k)) :
    Gives w mean mg mb 157 6 60 news [.ref T, .bool false] (fun t => .str (walkTxt i us) t) := by
  unfold Gives
  k_fill
  intros
  rename_i hret
  refine wpAny_call ?_
  k_dflt cell_enter
  k_steps
  all_goals (refine' cb_retS hret ?e1 ?e2 ?e3; (case e2 => k_asm); (case e3 => (first | k_asm | exact cb_drop (by assumption) (by kcj_all))); (case e1 => (unfold walkTxt; first | rw [if_pos (by assumption)] | rw [if_neg (by simp only [*]; decide)])))
local macro_rules | `(tactic| walk_at "eval ListComp") => `(tactic| (k_here; k_dflt (refine' comp_ord ?k1 ?k2 ?k3 ?k4 ?k5 ?k6 ?k7 ?k8 ?_ ?c1 ?c2 ?c3 ?c4 ?c5 ?c6 ?c7 ?c8; (case k1 => k_asm); (case k2 => k_asm); (case k3 => k_asm); (case k4 => exact topRead_of (by k_asm)); (case k5 => exact rfl); (case k6 => k_is); (case k7 => exact rfl); (case k8 => first | omega | decide); (case c1 => decide); (case c2 => decide); (case c3 => exact rfl); (case c4 => decide); (case c5 => exact rfl); (case c6 => exact rfl); (case c7 => exact rfl); (case c8 => exact rfl)); intro D' ys' n' h' tk' F' N' ne' i'))
theorem codes_dot : ∀ n ∈ codes (Str.ofString "."), 0 ≤ n ∧ n < 256 := by decide
theorem codes_len (y : Str) : (codes y).length = y.length := by simp [codes, Str.length]
local macro_rules | `(tactic| walk_at "call type:bytes") => `(tactic| (k_here; k_dflt (refine' bytes_ints ?k1 ?k2 ?k3 ?k4 ?k5 ?k6 ?k7 ?_; (case k1 => k_asm); (case k2 => k_asm); (case k3 => k_mem); (case k4 => assumption); (case k5 => first | assumption | exact codes_dot); (case k6 => (rw [codes_len]; first | omega | decide)); (case k7 => exact rfl)); intro h' t' tk' F' N'))
theorem g_spellB (w : World) (mean : ExcName → Option Value) (mg mb : Str → Option Value) (news : List (Addr × Obj)) (T l : Addr) (i : Nat) (ti : Tok) (vs : List Value) (us : List Str) (k : Nat) (hi : i ≤ 30) (hvs : StrsAre vs us)
   (hn : us.length ≤ 100) (hvn : vs.length ≤ 100) (hw : wt us ≤ 1000) (hc : ∀ n ∈ codes (Txt.join (Str.ofString "/") (List.replicate i (Str.ofString "..") ++ us)), 0 ≤ n ∧ n < 256) 
   (hT : (T, ({ cls := .type "tuple", data := .seq #[.int i ti, .ref l] } : Obj)) ∈ news) (hl : (l, W.listOf vs.toArray k) ∈ news ∨ (hd.heap_39 w.params).lookup l = some (W.listOf vs.toArray k)) :
    Gives w mean mg mb 157 6 60 news [.ref T, .bool true] (fun t => .bytes (byteArr (codes (walkTxt i us))) t) := by
  unfold Gives
  k_fill
  intros
  rename_i hret
  refine wpAny_call ?_
  k_dflt cell_enter
  have hj := len_join_wt (List.replicate i (Str.ofString "..") ++ us)
  rw [wt_ups, List.length_append, List.length_replicate] at hj
  have hj2 : (Txt.join (Str.ofString "/") (List.replicate i (Str.ofString "..") ++ us)).length ≤ 10000 := by omega
  clear hj
  k_steps
  all_goals (refine' ret_of hret ?e1 ?e2 ?e3; (case e2 => k_asm); (case e3 => (first | k_asm | exact cb_drop (by assumption) (by kcj_all))); (case e1 => (unfold walkTxt; first | rw [if_pos (by assumption)] | rw [if_neg (by simp only [*]; decide)])))
end

section
open PySem PySem.W PyProof.Rows PySem.Calls PyProof.V PySem.Spec
theorem ints_split : ∀ {vs : List Value} {ns : List Int}, IntsAre vs ns → 4 ≤ ns.length → ∃ a b c d ta tb tc td rest, vs = Value.int a ta :: Value.int b tb :: Value.int c tc :: Value.int d td :: rest
  | _, _, .cons a ta (.cons b tb (.cons c tc (.cons d td (vs := rest) _))), _ => ⟨a, b, c, d, ta, tb, tc, td, rest, rfl⟩
  | _, _, .nil, h => absurd h (by simp)
  | _, _, .cons _ _ .nil, h => absurd h (by simp)
  | _, _, .cons _ _ (.cons _ _ .nil), h => absurd h (by simp)
  | _, _, .cons _ _ (.cons _ _ (.cons _ _ .nil)), h => absurd h (by simp)
theorem four_of {vs : List Value} {ns : List Int} (h : IntsAre vs (ns ++ [17, 6, 5, 27])) : ∃ a b c d ta tb tc td rest, vs = Value.int a ta :: Value.int b tb :: Value.int c tc :: Value.int d td :: rest :=
  ints_split h (by rw [List.length_append]; exact Nat.le_add_left 4 _)
theorem pick_take (l : List Value) (k : Nat) : kms_pick l none (some (k : Int)) = l.take k := by
  unfold kms_pick kms_lo kms_hi
  simp only [List.drop_zero, Nat.sub_zero]
  rw [if_neg (by omega), Int.toNat_natCast]
  rcases Nat.le_total k l.length with h | h
  · rw [Nat.min_eq_left h]
  · rw [Nat.min_eq_right h, List.take_of_length_le (Nat.le_refl _), List.take_of_length_le h]
section
variable {prog : Program} {w : World} {A : Around} {E : Value → Shared → Prop} {s : Shared} {h₀ : Heap} {L l : Addr} {m : Str → Option Value} {news : List (Addr × Obj)} {value slice : PySem.Expr} {vs : List Value} {n : Nat} {Q : Value → Shared → Prop}
theorem slice_upto {k : Nat} {e : Int} {u : Tok} (F : Fr h₀ L s.heap m) (N : News h₀ L s.heap news) (hl : (l, W.listOf vs.toArray n) ∈ news) (he : e = k)
    (h : ∀ D h', Fr h₀ L h' m → News h₀ L h' ((D, W.listOf (vs.take k).toArray 0) :: news) → (∀ p ∈ news, p.1 < D) → Q (.ref D) { s with heap := h' })
    (hs : subscripted slice false (.ref l) (.ref s.heap.objs.size) = operate [.ref s.heap.objs.size, .ref l] (getItem (.ref l) (.ref s.heap.objs.size))) (hz : vs.length ≤ 100000) :
    wpAny (model prog w) A (subscriptTail value slice (.ref l) (.ref s.heap.objs.size)) Q E { s with heap := s.heap.push { cls := .type "slice", data := .fields #[.none, .int e u, .none] } } := by
  subst he
  have hL : s.heap.IsList l vs.toArray := News.isList N hl
  refine tail_any (Heap.IsList.typeIs (s := { s with heap := s.heap.push { cls := .type "slice", data := .fields #[.none, .int (k : Int) u, .none] } }) (hL.push _)) list_getitem_lookup
    (wpAny_getItem_list_slice (hL.push _) (Heap.IsSliceOf.new ..) .none (.int _ _) .none (by simp) ?_ (by rw [List.size_toArray, sizeLine_eq]; omega)) hs
  have N1 := News.push (F.push { cls := .type "slice", data := .fields #[.none, .int (k : Int) u, .none] }) (N.grown fun _ _ e => Heap.get?_push_of_some _ e) { cls := .type "list", data := .seq (slicePick vs.toArray none (some (k : Int)) none) }
  rw [Heap.size_push] at N1
  show Q (.ref (s.heap.push _).objs.size) _
  rw [Heap.size_push]
  refine h _ _ ((F.push _).push _) ?_ fun p hp => Nat.lt_succ_of_lt (Heap.lt_size (N p hp).1)
  have e : slicePick vs.toArray none (some (k : Int)) none = (vs.take k).toArray := by rw [kms_pick_eq, List.toList_toArray, pick_take]
  rw [← e]
  exact N1
end
end

section
open PySem PySem.W PyProof.Rows PySem.Calls PyProof.V PySem.Spec
theorem ok_cases {n : Str} (h : okName n = true) : n = Str.ofString "a" ∨ n = Str.ofString "b" ∨ n = Str.ofString "ab" ∨ n = Str.ofString "a.b" := by
  unfold okName at h
  simp only [Bool.or_eq_true, beq_iff_eq] at h
  rcases h with ((h | h) | h) | h
  · exact .inl h
  · exact .inr (.inl h)
  · exact .inr (.inr (.inl h))
  · exact .inr (.inr (.inr h))
theorem ok_strOk {n : Str} (h : okName n = true) : PyData.strOk n = true := by
  rcases ok_cases h with rfl | rfl | rfl | rfl <;> decide +kernel
theorem st_canLay : ∀ us : List Str, okL us → PyData.canLayAll0 (us.map PyData.str) = true
  | [], _ => rfl
  | a :: r, h => by
    rw [List.map_cons]
    simp only [PyData.canLayAll0, PyData.canLay0, Bool.and_eq_true]
    exact ⟨ok_strOk (h a (.head _)), st_canLay r fun n hn => h n (.tail _ hn)⟩
theorem st_depth : ∀ us : List Str, PyData.depthAll (us.map PyData.str) = 0
  | [] => rfl
  | _ :: r => by simp [PyData.depthAll, PyData.depth, st_depth r]
theorem st_shaped {us : List Str} (h : okL us) : SeqAt.shaped (.list (us.map PyData.str)) = true := by
  simp [SeqAt.shaped, PyData.canLay0, PyData.depth, st_canLay us h, st_depth]
theorem mul_oneE {prog : Program} {w : World} {A : Around} {E : Value → Shared → Prop} {s : Shared} {h₀ : Heap} {L l : Addr} {m : Str → Option Value} {news : List (Addr × Obj)} {v : Value} {k n : Nat} {Q : Value → Shared → Prop} {e : Int} {u : Tok} (F : Fr h₀ L s.heap m) (N : News h₀ L s.heap news) (hl : (l, W.listOf #[v] k) ∈ news) (he : e = (n : Int)) (hn : n ≤ 1000)
    (h : ∀ D h', Fr h₀ L h' m → News h₀ L h' ((D, W.listOf (List.replicate n v).toArray 0) :: news) → (∀ p ∈ news, p.1 < D) → Q (.ref D) { s with heap := h' }) :
    wpAny (model prog w) A (binaryOp .Mult (.ref l) (.int e u)) Q E s := by
  subst he
  exact mul_one F N hl hn h
section
variable {prog : Program} {w : World} {A : Around} {E : Value → Shared → Prop} {s : Shared} {l b : Addr} {vs ws : List Value} {us : List Str} {Q : Value → Shared → Prop}
theorem len_strs (hl : s.heap.IsList l vs.toArray) (hs : StrsAre vs us) (hb : us.length ≤ 1000) (h : ∀ t k, Q (.int ((us.length : Nat) : Int) t) { s with toks := k }) :
    wpAny (model prog w) A (call (.builtin "len") [.ref l]) Q E s := by
  refine len_list hl (by rw [List.size_toArray, hs.length]; omega) ?_
  rw [List.size_toArray, hs.length]
  exact h _ _
theorem eq_nil (hl : s.heap.IsList l vs.toArray) (hs : StrsAre vs us) (ho : okL us) (hb : s.heap.IsList b ([] : List Value).toArray) (hu : A.units + 64 < cLine) (h : Q (.bool (decide (us = []))) s) :
    wpAny (model prog w) A (compareOp .Eq (.ref l) (.ref b)) Q E s := by
  refine eq_dataH_same (reads_newData hl hs.carried) (reads_newData hb (.nil : CarriedAll [] (([] : List Str).map PyData.str))) (st_shaped ho) (st_shaped okL_nil) hu (SeqAt.noMix_of_shape (.list .str) rfl _ _ (list_map_has fun _ => rfl) (list_map_has (l := ([] : List Str)) (g := PyData.str) fun _ => rfl)) ?_
  have e : PySem.Spec.same (.list (us.map PyData.str)) (.list (([] : List Str).map PyData.str)) = decide (us = []) := by
    cases us with
    | nil => simp [PySem.Spec.same, PySem.Spec.sameAll]
    | cons a r => simp [PySem.Spec.same, PySem.Spec.sameAll]
  rw [List.map_nil] at e
  rw [e]
  exact h
end
end

section
open PySem PySem.W PyProof.Rows PySem.Calls PyProof.V PySem.Spec PySem.Builtin
def swB (b c : Array UInt8) : Bool := if ((Bytes.window b.size none none).2 - (Bytes.window b.size none none).1 < c.size) then false else b.extract (Bytes.window b.size none none).1.toNat ((Bytes.window b.size none none).1.toNat + c.size) == c
def ewB (b c : Array UInt8) : Bool := if ((Bytes.window b.size none none).2 - (Bytes.window b.size none none).1 < c.size) then false else b.extract ((Bytes.window b.size none none).2.toNat - c.size) (Bytes.window b.size none none).2.toNat == c
theorem isi_bytes_tuple (b : Array UInt8) (t : Tok) : isInstance (.bytes b t) (.type "tuple") = pure false := by
  show (do let r ← isSubtype (.type "bytes") (.type "tuple"); pure r) = _
  have : isSubtype (.type "bytes") (.type "tuple") = pure false := by rw [isSubtype_type]; kernel_rfl
  rw [this]
theorem meets_starts (b c : Array UInt8) (t u : Tok) : Meets («bytes.startswith» ⟨[.bytes b t, .bytes c u], []⟩) (fun _ R s => R (.ok (.ret (.bool (swB b c)))) s) := by
  refine .of_wp fun prog w A R s h => ?_
  show wpAny _ _ (isInstance (.bytes c u) (.type "tuple") >>= fun r => _) _ _ s
  refine wpAny_bind (wpAny_of_eq (isi_bytes_tuple c u) ?_)
  show wpAny _ _ (Bytes.buffer? _ (.bytes c u) >>= fun r => _) _ _ s
  refine wpAny_bind (wpAny_of_eq KBy.buffer_eq ?_)
  exact wpAny_pure ⟨_, rfl, h⟩
theorem meets_ends (b c : Array UInt8) (t u : Tok) : Meets («bytes.endswith» ⟨[.bytes b t, .bytes c u], []⟩) (fun _ R s => R (.ok (.ret (.bool (ewB b c)))) s) := by
  refine .of_wp fun prog w A R s h => ?_
  show wpAny _ _ (isInstance (.bytes c u) (.type "tuple") >>= fun r => _) _ _ s
  refine wpAny_bind (wpAny_of_eq (isi_bytes_tuple c u) ?_)
  show wpAny _ _ (Bytes.buffer? _ (.bytes c u) >>= fun r => _) _ _ s
  refine wpAny_bind (wpAny_of_eq KBy.buffer_eq ?_)
  exact wpAny_pure ⟨_, rfl, h⟩
namespace FB2
theorem slot_split : Slot "bytes" "split" "bytes.split" :=
  .of (owner := "bytes") (n := "split") (by rw [typeLookup_type, builtinLookup_eq_fast]; kernel_rfl) (by decide +kernel) (by decide +kernel) (by decide +kernel)
    (by first | exact .inl (by decide +kernel) | exact .inr (by decide +kernel)) (by rw [isSubtype_type]; kernel_rfl)
theorem type_split : typeOf (.builtin "bytes.split") = pure (.type "method_descriptor") := by show builtinType _ = _; rw [builtinType_eq_fast]; kernel_rfl
theorem entry_split : entryFor table "bytes.split" = some Builtin.«bytes.split» := entryFor_of_tree (by kernel_rfl)
theorem args_split (a b : Value) : argsOk "bytes.split" ⟨[a, b], []⟩ := by
  unfold argsOk; kernel_rfl
theorem slot_join : Slot "bytes" "join" "bytes.join" :=
  .of (owner := "bytes") (n := "join") (by rw [typeLookup_type, builtinLookup_eq_fast]; kernel_rfl) (by decide +kernel) (by decide +kernel) (by decide +kernel)
    (by first | exact .inl (by decide +kernel) | exact .inr (by decide +kernel)) (by rw [isSubtype_type]; kernel_rfl)
theorem type_join : typeOf (.builtin "bytes.join") = pure (.type "method_descriptor") := by show builtinType _ = _; rw [builtinType_eq_fast]; kernel_rfl
theorem entry_join : entryFor table "bytes.join" = some Builtin.«bytes.join» := entryFor_of_tree (by kernel_rfl)
theorem args_join (a b : Value) : argsOk "bytes.join" ⟨[a, b], []⟩ := by
  unfold argsOk; kernel_rfl
end FB2
/-- the values are bytes, those of the list -/
inductive BysAre : List Value → List (Array UInt8) → Prop
  | nil : BysAre [] []
  | cons {vs bs} (b : Array UInt8) (t : Tok) : BysAre vs bs → BysAre (.bytes b t :: vs) (b :: bs)
theorem BysAre.length : ∀ {vs : List Value} {bs : List (Array UInt8)}, BysAre vs bs → vs.length = bs.length
  | _, _, .nil => rfl
  | _, _, .cons _ _ h => congrArg (· + 1) h.length
section
variable {M : Model} {A : Around} {E : Value → Shared → Prop}
theorem newList_any {vs : List Value} {s : Shared} {Q : Value → Shared → Prop} (h : Q (.ref s.heap.objs.size) { s with heap := s.heap.push { cls := .type "list", data := .seq vs.toArray } }) (hsz : vs.length ≤ sizeLine) : wpAny M A (newList vs) Q E s :=
  wpAny_newObj_type h (by show vs.toArray.size ≤ sizeLine; rw [List.size_toArray]; exact hsz)
theorem mapM_new : ∀ (bs : List (Array UInt8)) (s : Shared) (Q : List Value → Shared → Prop), (∀ b ∈ bs, b.size ≤ sizeLine) → (∀ vs k, BysAre vs bs → Q vs { s with toks := k }) → wpAny M A (bs.mapM Bytes.Kind.bytes.new) Q E s
  | [], s, Q, _, h => by
    rw [List.mapM_nil]
    exact wpAny_pure (h [] s.toks .nil)
  | b :: bs, s, Q, hb, h => by
    rw [List.mapM_cons]
    refine wpAny_bind (wpAny_mkBytes ?_ (hb b (.head _)))
    refine wpAny_bind (mapM_new bs _ _ (fun x hx => hb x (.tail _ hx)) fun vs k hv => ?_)
    exact wpAny_pure (h _ k (.cons b _ hv))
end
def splB (b sep : Array UInt8) : List (Array UInt8) :=
  if ((Bytes.occurrences b sep 0 b.size).take (b.size + 1)).isEmpty = true then [b] else Bytes.between b sep.size ((Bytes.occurrences b sep 0 b.size).take (b.size + 1))
theorem meets_split (b c : Array UInt8) (t u : Tok) (hc : c.isEmpty = false) : Meets («bytes.split» ⟨[.bytes b t, .bytes c u], []⟩) (fun A R s => (∀ x ∈ splB b c, x.size ≤ sizeLine) ∧ (splB b c).length ≤ sizeLine ∧
    (∀ vs k, BysAre vs (splB b c) → R (.ok (.ret (.ref s.heap.objs.size))) { s with heap := s.heap.push { cls := .type "list", data := .seq vs.toArray }, toks := k })) := by
  refine .of_wp fun prog w A R s hS => ?_
  obtain ⟨h1, h2, h⟩ := hS
  show wpAny _ _ (Bytes.bytesLike _ (.bytes c u) >>= fun r => _) _ _ s
  refine wpAny_bind (wpAny_of_eq KBd.like_eq ?_)
  refine bm_if_false hc ?_
  unfold splB at h1 h2 h
  by_cases hp : ((Bytes.occurrences b c 0 b.size).take (b.size + 1)).isEmpty = true
  · rw [if_pos hp] at h1 h2 h
    refine bm_if_true hp ?_
    refine wpAny_bind (wpAny_rule ?_)
    refine wpAny_bind (wpAny_of_eq (a := Value.bytes b t) rfl ?_)
    refine wpAny_bind (newList_any ?_ (by show 1 ≤ sizeLine; rw [sizeLine_eq]; omega))
    exact wpAny_pure ⟨_, rfl, h [.bytes b t] s.toks (.cons b t .nil)⟩
  · rw [if_neg hp] at h1 h2 h
    refine bm_if_false (Bool.eq_false_iff.mpr hp) ?_
    refine wpAny_bind (mapM_new _ _ _ h1 fun vs k hv => ?_)
    refine wpAny_bind ?_
    refine newList_any ?_ (by rw [hv.length]; exact h2)
    exact wpAny_pure ⟨_, rfl, h vs k hv⟩
section
variable {prog : Program} {w : World} {A : Around} {E : Value → Shared → Prop} {s : Shared} {h₀ : Heap} {L : Addr} {m : Str → Option Value} {news : List (Addr × Obj)} {b c : Array UInt8} {t u : Tok} {Q : Value → Shared → Prop}
theorem starts_B (h : Q (.bool (swB b c)) s) : wpAny (model prog w) A (call (.builtin "bytes.startswith") [.bytes b t, .bytes c u]) Q E s :=
  call_meets FB.slot_bytes_startswith (typeIs_bytes _ _ _) FB.entry_bytes_startswith (FB.args_bytes_startswith_2 _ _) (meets_starts b c t u) h
theorem ends_B (h : Q (.bool (ewB b c)) s) : wpAny (model prog w) A (call (.builtin "bytes.endswith") [.bytes b t, .bytes c u]) Q E s :=
  call_meets FB.slot_bytes_endswith (typeIs_bytes _ _ _) FB.entry_bytes_endswith (FB.args_bytes_endswith_2 _ _) (meets_ends b c t u) h
theorem split_B (F : Fr h₀ L s.heap m) (N : News h₀ L s.heap news) (hc : c.isEmpty = false) (h1 : ∀ x ∈ splB b c, x.size ≤ 100000) (h2 : (splB b c).length ≤ 100000)
    (h : ∀ D vs h' k, BysAre vs (splB b c) → Fr h₀ L h' m → News h₀ L h' ((D, W.listOf vs.toArray 0) :: news) → (∀ p ∈ news, p.1 < D) → Q (.ref D) { s with heap := h', toks := k }) :
    wpAny (model prog w) A (call (.builtin "bytes.split") [.bytes b t, .bytes c u]) Q E s :=
  call_meets FB2.slot_split (typeIs_bytes _ _ _) FB2.entry_split (FB2.args_split _ _) (meets_split b c t u hc)
    ⟨fun x hx => by have := h1 x hx; rw [sizeLine_eq]; omega, by rw [sizeLine_eq]; omega, fun vs k hv => h _ vs _ k hv (F.push _) (N.push F _) fun p hp => Heap.lt_size (N p hp).1⟩
end
end

section
open PySem PySem.W PyProof.Rows PySem.Calls PyProof.V PySem.Spec PySem.Builtin
theorem items_l (l : Addr) {prog : Program} {w : World} {A : Around} {E : Value → Shared → Prop} {s : Shared} {vs : List Value} {n : Nat} {Q : Value → Shared → Prop} (hl : s.heap.get? l = some (W.listOf vs.toArray n)) (h : Q (.ref l) s) : wpAny (model prog w) A (Bytes.joinItems (.ref l)) Q E s := by
  unfold Bytes.joinItems
  refine wpAny_bind (wpAny_typeOf (T := "list") ⟨_, hl, rfl⟩ ?_)
  exact wpAny_pure h
theorem take_eq {id : String} {b : Array UInt8} {t : Tok} : Bytes.takeBuffer? id (.bytes b t) 0 = pure (some (b, none)) := by
  unfold Bytes.takeBuffer?
  rw [KBy.special_eq KBy.look_buffer, KBy.own_buffer]
  simp only [KBy.buffer_eq]
  kernel_rfl
theorem takeQuiet_eq {id : String} {b : Array UInt8} {t : Tok} : Bytes.takeBufferQuiet? id (.bytes b t) 0 = pure (some (b, none)) := by
  unfold Bytes.takeBufferQuiet?
  rw [take_eq]
  rfl
theorem BysAre.at : ∀ {vs : List Value} {bs : List (Array UInt8)}, BysAre vs bs → ∀ {i : Nat}, i < bs.length → ∃ b t, vs[i]? = some (.bytes b t) ∧ bs[i]? = some b
  | _, _, .cons b t h, 0, _ => ⟨b, t, rfl, rfl⟩
  | _, _, .cons _ _ h, i + 1, hi => h.at (Nat.lt_of_succ_lt_succ hi)
theorem BysAre.noHeap : ∀ {vs : List Value} {bs : List (Array UInt8)}, BysAre vs bs → ∀ v ∈ vs, v.onHeap = false
  | _, _, .cons b t h, v, hv => by
    rcases List.mem_cons.mp hv with rfl | hv
    · rfl
    · exact h.noHeap v hv
theorem letGo_bytes {M : Model} {A : Around} {E : Value → Shared → Prop} {s : Shared} {keep : List Value} {Q : Unit → Shared → Prop} : ∀ (vs : List Value), (h : Q () s) → wpAny M A (Bytes.joinLetGo (vs.map (·, none)) keep) Q E s
  | [], h => wpAny_pure h
  | v :: vs, h => by
    rw [List.map_cons]
    unfold Bytes.joinLetGo
    exact wpAny_bind (wpAny_letGo (letGo_bytes vs h))
theorem joined_one (sep b : Array UInt8) : Bytes.joined sep [b] = b := by
  show (#[] ++ b : Array UInt8) = b
  simp
theorem any_false {l : List (Value × Option Value)} (h : ∀ p ∈ l, p.1.onHeap = false) : (l.any fun x => x.fst.onHeap) = false := by
  rw [List.any_eq_false]
  intro p hp
  rw [h p hp]; decide
theorem loop_step {vs : List Value} {bs : List (Array UInt8)} {i : Nat} (hb : BysAre vs bs) (hi : i < bs.length) : ∃ b t, vs.toArray.getD i Value.none = .bytes b t ∧ ((bs.take i).toArray).push b = (bs.take (i + 1)).toArray ∧ (vs.take i).map (fun v => (v, (none : Option Value))) ++ [(.bytes b t, none)] = (vs.take (i + 1)).map (·, none) := by
  obtain ⟨b, t, h1, h2⟩ := hb.at hi
  refine ⟨b, t, ?_, ?_, ?_⟩
  · have hi' : i < vs.length := by rw [hb.length]; exact hi
    rw [List.getElem?_eq_getElem hi'] at h1
    simp [Array.getD, hi']
    exact Option.some.inj h1
  · rw [List.take_add_one, h2]
    simp
  · rw [List.take_add_one, h1]
    simp
theorem meets_join (sep : Array UInt8) (t : Tok) (l : Addr) (vs : List Value) (bs : List (Array UInt8)) (n : Nat) (hb : BysAre vs bs) (hz : Bytes.tooLong ((bs.toArray).foldl (· + ·.size) (sep.size * (bs.toArray.size - 1))) = false) (hz2 : (Bytes.joined sep bs).size ≤ sizeLine) :
    Meets («bytes.join» ⟨[.bytes sep t, .ref l], []⟩) (fun _ R s => s.heap.get? l = some (W.listOf vs.toArray n) ∧ ∀ t' k, R (.ok (.ret (.bytes (Bytes.joined sep bs) t'))) { s with toks := k }) := by
  refine .of_wp fun prog w A R s hS => ?_
  obtain ⟨hl, h⟩ := hS
  show wpAny _ _ (Bytes.joinItems (.ref l) >>= fun r => _) _ _ s
  refine wpAny_bind (items_l l hl ?_)
  refine wpAny_bind (wpAny_seqItems hl rfl ?_)
  by_cases h1 : ∃ b tb, bs = [b] ∧ vs = [.bytes b tb]
  · obtain ⟨b, tb, rfl, rfl⟩ := h1
    refine wpAny_bind (wpAny_typeOf (T := "bytes") rfl ?_)
    refine bm_if_true (by decide) ?_
    refine wpAny_bind (wpAny_rule ?_)
    refine wpAny_pure ⟨_, rfl, ?_⟩
    have := h tb s.toks
    rw [joined_one] at this
    exact this
  · have hne : vs.length ≠ 1 := by
      intro e
      rcases hb with _ | ⟨b, tb, hb'⟩
      · cases e
      · rcases hb' with _ | _
        · exact h1 ⟨b, tb, rfl, rfl⟩
        · simp at e
    refine bm_if_true rfl ?_
    have split2 : vs = [] ∨ ∃ v v2 r, vs = v :: v2 :: r := by
      rcases vs with _ | ⟨v, _ | ⟨v2, r⟩⟩
      · exact .inl rfl
      · exact absurd rfl hne
      · exact .inr ⟨v, v2, r, rfl⟩
    rcases split2 with hvs | ⟨v, v2, r, hvs⟩
    all_goals
      rw [hvs]
      refine wpAny_bind ?_
      rw [← hvs]
      rw [KPc.range_list]
      have hsz : vs.toArray.size = bs.length := by rw [List.size_toArray, hb.length]
      refine wpAny_forIn_list _ (fun rest b s' => ∃ i, i + rest.length = bs.length ∧ rest = List.range' i (bs.length - i) 1 ∧ b = ((bs.take i).toArray, (vs.take i).map (·, none)) ∧ s' = s) _ ?turn ?fin _ _ ⟨0, by simp [hsz], by simp [hsz], by simp, rfl⟩
      case turn =>
        rintro x rest b s' ⟨i, hil, hrest, rfl, rfl⟩
        rw [List.length_cons] at hil
        have hi : i < bs.length := by omega
        have hx : x = i ∧ rest = List.range' (i + 1) (bs.length - (i + 1)) 1 := by
          have e : bs.length - i = (bs.length - (i + 1)) + 1 := by omega
          rw [e, List.range'_succ] at hrest
          exact List.cons.inj hrest
        obtain ⟨rfl, hrest'⟩ := hx
        obtain ⟨b, tb, g1, g2, g3⟩ := loop_step hb hi
        dsimp only
        refine wpAny_bind (wpAny_seqItems hl rfl ?_)
        dsimp only
        rw [g1]
        refine bm_if_false ?_ ?_
        · show (false || _) = false
          rw [Bool.false_or]
          refine any_false fun p hp => ?_
          obtain ⟨v, hv, rfl⟩ := List.mem_map.mp hp
          exact hb.noHeap v (List.mem_of_mem_take hv)
        refine wpAny_bind (wpAny_holding (wpAny_of_eq takeQuiet_eq ?_))
        dsimp only
        refine wpAny_bind (wpAny_seqItems hl rfl ?_)
        dsimp only
        refine bm_if_false (by simp) ?_
        refine wpAny_pure ⟨x + 1, by omega, hrest', ?_, rfl⟩
        rw [g2, g3]
      case fin =>
        rintro b s' ⟨i, hil, _, rfl, rfl⟩
        simp only [List.length_nil, Nat.add_zero] at hil
        subst hil
        dsimp only
        rw [List.take_length, ← hb.length, List.take_length]
        refine wpAny_bind (wpAny_pure ?_)
        refine bm_if_false hz ?_
        refine wpAny_bind (wpAny_mkBytes ?_ hz2)
        refine wpAny_bind (wpAny_holding (wpAny_point ?_))
        refine wpAny_bind (letGo_bytes vs ?_)
        exact wpAny_pure ⟨_, rfl, h _ _⟩
section
variable {prog : Program} {w : World} {A : Around} {E : Value → Shared → Prop} {s : Shared} {h₀ : Heap} {L l : Addr} {m : Str → Option Value} {news : List (Addr × Obj)} {sep : Array UInt8} {t : Tok} {vs : List Value} {bs : List (Array UInt8)} {n : Nat} {Q : Value → Shared → Prop}
def wtB (bs : List (Array UInt8)) : Nat := (bs.map (·.size)).sum
theorem foldl_size (bs : List (Array UInt8)) : ∀ k : Nat, bs.foldl (fun a b => a + b.size) k = k + wtB bs := by
  induction bs with
  | nil => intro k; simp [wtB]
  | cons b r ih => intro k; rw [List.foldl_cons, ih]; simp [wtB]; omega
theorem joined_size (sep : Array UInt8) (bs : List (Array UInt8)) : (Bytes.joined sep bs).size ≤ wtB bs + bs.length * sep.size := by
  have key : ∀ (bs : List (Array UInt8)) (k : Nat) (out : Array UInt8), ((bs.zipIdx k).foldl (fun out (p : Array UInt8 × Nat) => (if p.2 > 0 then out ++ sep else out) ++ p.1) out).size ≤ out.size + wtB bs + bs.length * sep.size := by
    intro bs
    induction bs with
    | nil => intro k out; simp
    | cons b r ih =>
      intro k out
      rw [List.zipIdx_cons, List.foldl_cons]
      refine Nat.le_trans (ih _ _) ?_
      have h1 : ((if k > 0 then out ++ sep else out) ++ b).size ≤ out.size + sep.size + b.size := by
        split <;> simp <;> omega
      have h2 : wtB (b :: r) = b.size + wtB r := by simp [wtB]
      rw [h2, List.length_cons, Nat.add_mul]
      simp only at h1 ⊢
      omega
  have := key bs 0 #[]
  simpa [Bytes.joined] using this
theorem join_B (N : News h₀ L s.heap news) (hl : (l, W.listOf vs.toArray n) ∈ news) (hb : BysAre vs bs) (hw : wtB bs ≤ 1100000) (hn : bs.length ≤ 1000) (hs : sep.size = 1) (h : ∀ t' k, Q (.bytes (Bytes.joined sep bs) t') { s with toks := k }) :
    wpAny (model prog w) A (call (.builtin "bytes.join") [.bytes sep t, .ref l]) Q E s :=
  call_meets FB2.slot_join (typeIs_bytes _ _ _) FB2.entry_join (FB2.args_join _ _) (meets_join sep t l vs bs n hb (KBy.tooLong_not (by
    rw [← Array.foldl_toList, foldl_size, hs]
    simp
    omega)) (by
    have := joined_size sep bs
    rw [hs] at this
    rw [sizeLine_eq]
    omega)) ⟨(N _ hl).1, h⟩
end
end

section
open PySem PySem.W PyProof.Rows PySem.Calls PyProof.V PySem.Spec PySem.Builtin
def nstepB (us : List (Array UInt8)) (c : Array UInt8) : List (Array UInt8) :=
  if ((c.size : Int) != 0) = false then us
  else if (c.toList == (#[46] : Array UInt8).toList) = true then us
  else if (c.toList != (#[46, 46] : Array UInt8).toList) = true then us ++ [c]
  else match us.getLast? with
    | none => us ++ [c]
    | some y => if (y.toList == (#[46, 46] : Array UInt8).toList) = true then us ++ [c] else us.dropLast
section
variable {us : List (Array UInt8)} {c y : Array UInt8}
theorem m1 (h : (c.size : Int) = 0) : nstepB us c = us := if_pos (by rw [h]; rfl)
theorem m2 (h : (c.toList == (#[46] : Array UInt8).toList) = true) : nstepB us c = us := by
  unfold nstepB
  by_cases h0 : ((c.size : Int) != 0) = false
  · rw [if_pos h0]
  · rw [if_neg h0, if_pos h]
theorem m3 (h1 : (c.size : Int) ≠ 0) (h2 : (c.toList == (#[46] : Array UInt8).toList) = false) (h3 : (c.toList != (#[46, 46] : Array UInt8).toList) = true) : nstepB us c = us ++ [c] := by
  unfold nstepB
  rw [if_neg (by simpa using h1), if_neg (by rw [h2]; decide), if_pos h3]
theorem m4 (h1 : (c.size : Int) ≠ 0) (h2 : (c.toList == (#[46] : Array UInt8).toList) = false) : nstepB [] c = [] ++ [c] := by
  unfold nstepB
  rw [if_neg (by simpa using h1), if_neg (by rw [h2]; decide)]
  split <;> rfl
theorem m5 (h1 : (c.size : Int) ≠ 0) (h2 : (c.toList == (#[46] : Array UInt8).toList) = false) (h4 : (y.toList == (#[46, 46] : Array UInt8).toList) = true) : nstepB (us ++ [y]) c = us ++ [y] ++ [c] := by
  unfold nstepB
  rw [if_neg (by simpa using h1), if_neg (by rw [h2]; decide), List.getLast?_concat]
  split
  · rfl
  · exact if_pos h4
theorem m6 (h1 : (c.size : Int) ≠ 0) (h2 : (c.toList == (#[46] : Array UInt8).toList) = false) (h3 : (c.toList != (#[46, 46] : Array UInt8).toList) = false) (h4 : (y.toList == (#[46, 46] : Array UInt8).toList) = false) : nstepB (us ++ [y]) c = us := by
  unfold nstepB
  rw [if_neg (by simpa using h1), if_neg (by rw [h2]; decide), if_neg (by rw [h3]; decide), List.getLast?_concat]
  show (if _ then _ else _) = _
  rw [if_neg (by rw [h4]; decide), List.dropLast_concat]
theorem nstepB_or (us : List (Array UInt8)) (c : Array UInt8) : nstepB us c = us ∨ nstepB us c = us ++ [c] ∨ nstepB us c = us.dropLast := by
  unfold nstepB
  split
  · exact .inl rfl
  · split
    · exact .inl rfl
    · split
      · exact .inr (.inl rfl)
      · split
        · exact .inr (.inl rfl)
        · split
          · exact .inr (.inl rfl)
          · exact .inr (.inr rfl)
end
theorem take_foldB {cs : List (Array UInt8)} {i : Nat} {c : Array UInt8} (h : cs[i]? = some c) : (cs.take (i + 1)).foldl nstepB [] = nstepB ((cs.take i).foldl nstepB []) c := by
  rw [List.take_add_one, h, List.foldl_append, Option.toList_some, List.foldl_cons, List.foldl_nil]
theorem wtB_snoc (us : List (Array UInt8)) (c : Array UInt8) : wtB (us ++ [c]) = wtB us + c.size := by simp [wtB]
theorem fold_wtB : ∀ (cs us : List (Array UInt8)), (∀ c ∈ cs, c.size ≤ 1000) → wtB (cs.foldl nstepB us) ≤ wtB us + cs.length * 1000 ∧ (cs.foldl nstepB us).length ≤ us.length + cs.length
  | [], us, _ => ⟨by simp, by simp⟩
  | c :: cs, us, h => by
    have ih := fold_wtB cs (nstepB us c) fun x hx => h x (.tail _ hx)
    have hc := h c (.head _)
    have key : wtB (nstepB us c) ≤ wtB us + c.size ∧ (nstepB us c).length ≤ us.length + 1 := by
      rcases nstepB_or us c with e | e | e
      · rw [e]; omega
      · rw [e, wtB_snoc]; simp
      · rw [e]
        rcases List.eq_nil_or_concat us with rfl | ⟨us', y, rfl⟩
        · simp [wtB]
        · rw [List.concat_eq_append, List.dropLast_concat, wtB_snoc]; simp; omega
    rw [List.foldl_cons, List.length_cons]
    omega
theorem BysAre.item : ∀ {vs : List Value} {bs : List (Array UInt8)}, BysAre vs bs → ∀ (i : Nat) (v : Value), vs[i]? = some v → ∃ y t, v = .bytes y t ∧ bs[i]? = some y
  | _, _, .cons b t _, 0, v, hv => ⟨b, t, (Option.some.inj hv).symm, rfl⟩
  | _, _, .cons _ _ h, i + 1, v, hv => h.item i v hv
theorem BysAre.append : ∀ {vs ws : List Value} {bs cs : List (Array UInt8)}, BysAre vs bs → BysAre ws cs → BysAre (vs ++ ws) (bs ++ cs)
  | _, _, _, _, .nil, h => h
  | _, _, _, _, .cons b t g, h => .cons b t (g.append h)
theorem ba_nil {us : List Value} (h : BysAre us []) : us = [] := by cases h; rfl
theorem ba_cons {us : List Value} {b : Array UInt8} {bs : List (Array UInt8)} (h : BysAre us (b :: bs)) : ∃ t r, us = .bytes b t :: r ∧ BysAre r bs := by
  cases h with
  | cons _ t h => exact ⟨t, _, rfl, h⟩
theorem ba_snoc : ∀ {us : List Value} {ys : List (Array UInt8)} {y : Array UInt8}, BysAre us (ys ++ [y]) → ∃ up t, us = up ++ [.bytes y t] ∧ BysAre up ys
  | us, [], y, h => by
    obtain ⟨t, r, rfl, h'⟩ := ba_cons h
    cases ba_nil h'
    exact ⟨[], t, rfl, .nil⟩
  | us, z :: ys, y, h => by
    obtain ⟨t, r, rfl, h'⟩ := ba_cons (bs := ys ++ [y]) h
    obtain ⟨up, t', rfl, h2⟩ := ba_snoc h'
    exact ⟨.bytes z t :: up, t', rfl, .cons _ _ h2⟩
def nresB (cs : List (Array UInt8)) : Array UInt8 :=
  if ((Bytes.joined #[47] (cs.foldl nstepB [])).size : Int) = 0 then #[46] else Bytes.joined #[47] (cs.foldl nstepB [])
theorem add_emptyB {prog : Program} {w : World} {A : Around} {E : Value → Shared → Prop} {s : Shared} {y : Array UInt8} {t u : Tok} {Q : Value → Shared → Prop} (hy : y.size ≤ 16777216)
    (h : ∀ t' k, Q (.bytes y t') { s with toks := k }) : wpAny (model prog w) A (binaryOp .Add (.bytes #[] t) (.bytes y u)) Q E s :=
  KBy.add_bytes (by simpa using hy) fun t' k => by simpa using h t' k
theorem truthy_emptyB {prog : Program} {w : World} {A : Around} {E : Value → Shared → Prop} {s : Shared} {t : Tok} {Q : Bool → Shared → Prop} (h : ∀ k, Q false { s with toks := k }) : wpAny (model prog w) A (truthy (.bytes #[] t)) Q E s :=
  truthy_bytes (by decide) (h _)
theorem noI_bytes_add : typeLookup (.type "bytes") (dunderI "add") = pure none := by rw [typeLookup_type, builtinLookup_eq_fast]; kernel_rfl
theorem iadd_bytes {prog : Program} {w : World} {A : Around} {E : Value → Shared → Prop} {s : Shared} {b c : Array UInt8} {t u : Tok} {Q : Value → Shared → Prop} (hsz : b.size + c.size ≤ 16777216) (h : ∀ t' k, Q (.bytes (b ++ c) t') { s with toks := k }) : wpAny (model prog w) A (inplaceOp .Add (.bytes b t) (.bytes c u)) Q E s := by
  refine iconcat_gives (typeIs_bytes s b t) (typeIs_bytes s c u) noI_bytes_add KBy.noFill_bytes_add KBy.seq_bytes_add FB.slot_bytes_add FB.entry_bytes_add (FB.args_bytes_add_2 _ _) (KBy.gives_bytes_add (KBy.tooLong_not hsz)) ?_
  split
  · rename_i hb
    have e : b = #[] := Array.isEmpty_iff.1 hb
    subst e
    have := h u s.toks
    rw [Array.empty_append] at this
    exact this
  · split
    · rename_i hc
      have e : c = #[] := Array.isEmpty_iff.1 hc
      subst e
      have := h t s.toks
      rw [Array.append_empty] at this
      exact this
    · refine ⟨?_, h _ _⟩
      rw [sizeLine_eq, Array.size_append]
      exact hsz
theorem picked_eq {b : Array UInt8} (h : 2 ≤ b.size) : KBy.picked b none (some 1) = b.extract 0 1 := by
  unfold KBy.picked
  rw [kms_bounds]
  have e1 : kms_hi (some 1) b.size = 1 := by unfold kms_hi; simp; omega
  have e2 : kms_lo none b.size = 0 := rfl
  rw [e1, e2]
  show (Bytes.sliced b 0 1 1) = _
  unfold Bytes.sliced
  have e3 : sliceRange 0 1 1 = [0] := by decide
  rw [e3]
  have hb : b[0]? = some (b[0]'(by omega)) := Array.getElem?_eq_getElem (by omega)
  have hs : (b.extract 0 1).size = 1 := by rw [Array.size_extract]; omega
  apply Array.ext
  · rw [hs]; simp [hb]
  · intro i h1 h2
    have hi : i = 0 := by omega
    subst hi
    simp [hb]
end

section
open PySem PySem.W PyProof.Rows
local macro_rules | `(tactic| walk_at "call ref") => `(tactic| (k_here; (with_reducible show wpAny _ _ (call (Value.ref 122) [_]) _ _ _); refine wpAny_call ?_; k_dflt cell_enter))
theorem whole_one {b : Array UInt8} (h : 2 ≤ b.size) : KBy.whole b none (some 1) = false := by
  have h1 : (sliceBounds none (some 1) none b.size).2.1 = 1 := by
    rw [kms_bounds]
    show ((kms_hi (some 1) b.size : Nat) : Int) = 1
    unfold kms_hi
    simp; omega
  unfold KBy.whole
  rw [h1]
  have h2 : ((1 : Int) == (b.size : Int)) = false := by simp; omega
  rw [h2]
  simp
theorem picked_size {b : Array UInt8} (h : 2 ≤ b.size) : (KBy.picked b none (some 1)).size ≤ 1 := by
  rw [picked_eq h, Array.size_extract]; omega
local macro_rules | `(tactic| walk_at "subscriptTail Name Slice bytes") => `(tactic| (k_here; k_dflt (refine' KBy.slice_N ?k1 ?k2 .none (.int _ _) ?k3 ?k4 ?_; (case k1 => k_asm); (case k2 => k_asm); (case k3 => exact whole_one (by assumption)); (case k4 => exact Nat.le_trans (picked_size (by assumption)) (by decide))); intro h' t' k' F' N'))
theorem noRefB {s : Shared} {b : Array UInt8} {t : Tok} : ∀ a, Value.bytes b t = .ref a → ∃ o, s.heap.get? a = some o ∧ o.dict = none := fun _ e => nomatch e
local macro_rules | `(tactic| walk_at "getMethod bytes") => `(tactic| (k_here; (first
  | with_reducible refine' KBd.method_of (Value.bytes _ _) (typeIs_bytes _ _ _) FB2.slot_split FB2.type_split noRefB ?_
  | with_reducible refine' KBd.method_of (Value.bytes _ _) (typeIs_bytes _ _ _) FB2.slot_join FB2.type_join noRefB ?_)))
local macro_rules | `(tactic| walk_at "call builtin:bytes.split") => `(tactic| (k_here; k_dflt (refine' split_B ?k1 ?k2 ?k3 ?k4 ?k5 ?_; (case k1 => k_asm); (case k2 => k_asm); (case k3 => exact rfl); (case k4 => exact fun y hy => Nat.le_trans ((by assumption : ∀ c ∈ splB _ _, c.size ≤ 1000) y hy) (by decide)); (case k5 => exact Nat.le_trans (by assumption) (by decide))); intro D' vs' h' tk' e' F' N' l1; (try k_lt l1)))
local macro_rules | `(tactic| walk_at "truthy ref") => `(tactic| (k_here; k_dflt (refine' truthy_snoc ?k1 ?k2 ?k3 ?_; (case k1 => k_asm); (case k2 => k_mem); (case k3 => omega)); intro _))
local macro_rules | `(tactic| walk_at "subscriptTail Name UnaryOp ref int") => `(tactic| (k_here; (with_reducible show wpAny _ _ (subscriptTail _ _ (Value.ref _) (Value.int _ _)) _ _ _); k_dflt (refine' lastTail_snoc ?k1 ?k2 ?_; (case k1 => k_asm); (case k2 => k_mem))))
local macro_rules | `(tactic| walk_at "call builtin:list.append") => `(tactic| (k_here; k_dflt (refine' append_H ?k1 ?k2 ?k3 ?k4 ?_; (case k1 => k_asm); (case k2 => k_asm); (case k3 => assumption); (case k4 => (simp only [List.length_append, List.length_cons, List.length_nil]; omega))); intro h' F' N'; (try k_sweep)))
local macro_rules | `(tactic| walk_at "call builtin:list.pop") => `(tactic| (k_here; k_dflt (refine' pop_H ?k1 ?k2 ?k3 ?k4 ?_; (case k1 => k_asm); (case k2 => k_asm); (case k3 => assumption); (case k4 => omega)); intro h' F' N'; (try k_sweep)))
local macro_rules | `(tactic| walk_at "call builtin:bytes.join") => `(tactic| (k_here; k_dflt (refine' join_B ?k1 ?k2 ?k3 ?k4 ?k5 ?k6 ?_; (case k1 => k_asm); (case k2 => k_mem); (case k3 => assumption); (case k4 => (simp only [wtB, List.map_nil, List.sum_nil, List.length_nil] at *; omega)); (case k5 => (simp only [List.length_nil] at *; omega)); (case k6 => exact rfl)); intro _ _))
local macro_rules | `(tactic| walk_at "binaryOp Add bytes bytes") => `(tactic| (k_here; k_dflt (refine' add_emptyB ?k1 ?_; (case k1 => omega)); intro _ _))
local macro_rules | `(tactic| walk_at "truthy bytes") => `(tactic| (k_here; refine truthy_bytes (by omega) ?_))
local macro_rules | `(tactic| walk_at "truthy bytes") => `(tactic| (k_here; (refine truthy_emptyB ?_); intro _))
theorem g_normpathB (w : World) (mean : ExcName → Option Value) (mg mb : Str → Option Value) (news : List (Addr × Obj)) (x : Array UInt8) (t : Tok) 
   (h0 : ((x.size : Int) != 0) = true) (hsz : x.size ≤ 10000) (hx2 : 2 ≤ x.size) (hs : ((KBy.picked x none (some 1)).toList != (#[47] : Array UInt8).toList) = true) (hcs : ∀ c ∈ splB x #[47], c.size ≤ 1000) (hcn : (splB x #[47]).length ≤ 1000) :
    Gives w mean mg mb 129 6 60 news [.bytes x t] (fun t => .bytes (nresB (splB x #[47])) t) := by
  unfold Gives
  k_fill
  intros
  rename_i hret
  refine wpAny_call ?_
  k_dflt cell_enter
  k_steps
  (rename Fr _ _ _ _ => lF'); (with_unfolding_all refine' For_invVF lF' ?k1 ?k2 ?_; (case k1 => exact rfl); (case k2 => exact rfl); k_whole)
  rename BysAre _ _ => a9
  k_steps
  rename (_ ∧ _ ∧ AllLt _ _) => l9
  refine' loop_vals  (fun i o => ∃ us vs k, us = ((splB x #[47]).take i).foldl nstepB [] ∧ BysAre vs us ∧ o = W.listOf vs.toArray k) ?q1 ?q2 ?q2a ?q3 ?q4 ?q5 ?q6 ?q7
  case q1 => exact rfl
  case q3 => k_asm
  case q4 => k_asm
  case q2 => k_mem
  case q2a => 
    intro p hp
    rcases List.mem_cons.mp hp with rfl | hp
    · exact Nat.ne_of_lt l9.1
    · rcases List.mem_cons.mp hp with rfl | hp
      · exact Nat.ne_of_lt l9.2.1
      · exact allLt_mem l9.2.2 _ hp
  case q5 => exact ⟨[], [], 0, rfl, by exact .nil, rfl⟩
  · rintro i v o h tk own hv ⟨us, vs, k, hus, hvs, rfl⟩ hoff F N
    obtain ⟨c, tc, rfl, hc⟩ := BysAre.item a9 i v hv
    have hc1 : c.size ≤ 1000 := hcs c (List.mem_of_getElem? hc)
    have hi : i < 1000 := Nat.lt_of_lt_of_le (List.getElem?_eq_some_iff.mp hc).1 hcn
    have hf := take_foldB hc
    have hw := (fold_wtB ((splB x #[47]).take i) [] fun c hc => hcs c (List.mem_of_mem_take hc)).2
    rw [← hus] at hf hw
    have hvl : us.length ≤ i := Nat.le_trans hw (by rw [List.length_nil, Nat.zero_add, List.length_take]; exact Nat.min_le_left _ _)
    clear hus hw
    rcases List.eq_nil_or_concat us with rfl | ⟨us', y, rfl⟩
    · cases ba_nil hvs
      k_steps
      all_goals (refine TurnEnd.intro (by k_asm) (by k_asm) (fun z hz => if_neg hz) (fun p hp => hp) ⟨_, _, _, hf.symm, ?_, rfl⟩)
      all_goals first
        | (rw [m1 (by assumption)]; exact hvs)
        | (rw [m2 (by assumption)]; exact hvs)
        | (rw [m4 (by assumption) (by assumption)]; exact BysAre.append hvs (.cons _ _ .nil))
    · rw [List.concat_eq_append] at hf hvs hvl
      rw [List.length_append, List.length_cons, List.length_nil] at hvl
      obtain ⟨vp, ty, rfl, hvp⟩ := ba_snoc hvs
      have hvn := hvp.length
      k_steps
      all_goals (refine TurnEnd.intro (by k_asm) (by k_asm) (fun z hz => if_neg hz) (fun p hp => hp) ⟨_, _, _, hf.symm, ?_, rfl⟩)
      all_goals first
        | (rw [m1 (by assumption)]; exact hvs)
        | (rw [m2 (by assumption)]; exact hvs)
        | (rw [m3 (by assumption) (by assumption) (by assumption)]; exact BysAre.append hvs (.cons _ _ .nil))
        | (rw [m5 (by assumption) (by assumption) (by assumption)]; exact BysAre.append hvs (.cons _ _ .nil))
        | (rw [m6 (by assumption) (by assumption) (by assumption) (by assumption)]; exact hvp)
  · rintro u o h tk ⟨us, vs, k, hus, hvs, rfl⟩ F N
    have hlen := a9.length
    rw [hlen, List.take_length] at hus
    have hw := fold_wtB (splB x #[47]) [] hcs
    rw [← hus] at hw
    have hj := joined_size #[47] us
    have hj1 : us.length * (#[47] : Array UInt8).size = us.length := Nat.mul_one _
    have hj2 : (PySem.Builtin.Bytes.joined #[47] us).size ≤ 1100000 := by simp only [wtB, List.map_nil, List.sum_nil, List.length_nil] at hw hj; omega
    clear hj hj1
    k_steps
    all_goals (refine' ret_of hret ?e1 ?e2 ?e3; (case e2 => k_asm); (case e3 => (first | k_asm | exact cb_drop (by assumption) (by kcj_all))); (case e1 => (unfold nresB; rw [← hus]; first | rw [if_pos (by assumption)] | rw [if_neg (by assumption)])))
end

section
open PySem PySem.W PyProof.Rows
local macro_rules | `(tactic| walk_at "call ref") => `(tactic| (k_here; (with_reducible show wpAny _ _ (call (Value.ref 108) [_]) _ _ _); refine wpAny_call ?_; k_dflt cell_enter))
theorem noRefB2 {s : Shared} {b : Array UInt8} {t : Tok} : ∀ a, Value.bytes b t = .ref a → ∃ o, s.heap.get? a = some o ∧ o.dict = none := fun _ e => nomatch e
local macro_rules | `(tactic| walk_at "getMethod bytes") => `(tactic| (k_here; (first
  | with_reducible refine' KBd.method_of (Value.bytes _ _) (typeIs_bytes _ _ _) FB.slot_bytes_startswith FB.type_bytes_startswith noRefB2 ?_
  | with_reducible refine' KBd.method_of (Value.bytes _ _) (typeIs_bytes _ _ _) FB.slot_bytes_endswith FB.type_bytes_endswith noRefB2 ?_)))
local macro_rules | `(tactic| walk_at "call builtin:bytes.startswith") => `(tactic| (k_here; refine starts_B ?_))
local macro_rules | `(tactic| walk_at "call builtin:bytes.endswith") => `(tactic| (k_here; refine ends_B ?_))
local macro_rules | `(tactic| walk_at "binaryOp Add bytes bytes") => `(tactic| (k_here; k_dflt (refine' KBy.add_bytes ?k1 ?_; (case k1 => (simp only [Array.size_append, List.size_toArray, List.length_cons, List.length_nil]; omega))); intro _ _))
local macro_rules | `(tactic| walk_at "inplaceOp Add bytes bytes") => `(tactic| (k_here; k_dflt (refine' iadd_bytes ?k1 ?_; (case k1 => (simp only [Array.size_append, List.size_toArray, List.length_cons, List.length_nil]; omega))); intro _ _))
local macro_rules | `(tactic| walk_at "truthy bytes") => `(tactic| (k_here; refine truthy_bytes (by omega) ?_))
theorem g_joinB (w : World) (mean : ExcName → Option Value) (mg mb : Str → Option Value) (news : List (Addr × Obj)) (x y : Array UInt8) (t u : Tok) (hx : x.size ≤ 1000) (hx0 : 1 ≤ x.size) (hy : y.size ≤ 1000) (hst : swB y #[47] = false) (hen : ewB x #[47] = false) :
    Gives w mean mg mb 115 6 60 news [.bytes x t, .bytes y u] (fun t => .bytes (x ++ (#[47] ++ y)) t) := by
  unfold Gives
  k_fill
  intros
  rename_i hret
  refine wpAny_call ?_
  k_dflt (refine' kp_rest ?k1 ?k2 ?k3 ?k4 ?k5 ?kA ?kF ?kK ?k6 ?k7 ?k8 ?kV ?kP ?kG ?kB ?_ ?c2 ?c3 ?c4 ?c5; (case kA => exact rfl); (case kF => exact rfl); (case kK => first | exact rfl | assumption); (case k1 => k_asm); (case k2 => k_asm); (case k3 => k_asm); (case k4 => k_asm); (case k5 => k_asm); (case k6 => k_is); (case k7 => k_is); (case k8 => ktr_room); (case kV => kl_lit); (case kP => exact rfl); (case kG => exact fun _ => rfl); (case kB => exact fun _ => locs rfl); (case c5 => decide); (case c2 => exact rfl); (case c3 => exact rfl); (case c4 => exact rfl); k_whole; intro D' g' L' h' l1 FG' F' N' B' X' T'; (try k_lt l1); (try dsimp only); (try k_lift B'); (try k_fold))
  k_steps
  (rename Fr _ _ _ _ => lF'); (with_unfolding_all refine' For_invVF lF' ?k1 ?k2 ?_; (case k1 => exact rfl); (case k2 => exact rfl); k_whole)
  k_steps
  rename (News _ _ _ _) => N8
  have hD := (N8 _ (.head _))
  refine' iter_tup1 (v := Value.bytes y u) (fun m => ∃ t', m (Str.ofString "path") = some (.bytes (x ++ (#[47] ++ y)) t')) ?q1 ?q2 ?q3 ?q4 ?q5 ?q6 ?q8 ?q9
  case q1 => exact rfl
  case q2 => exact ⟨_, hD.1, rfl, 0, rfl⟩
  case q3 => exact hD.2.1
  case q4 => exact fun p hp => Nat.ne_of_lt (l1 p hp)
  case q5 => k_asm
  case q6 => exact cb_drop N8 (fun p hp => List.mem_cons_of_mem _ hp)
  · intro h tk own hoff F N
    k_steps
    all_goals first
      | exact absurd (hst.symm.trans (by assumption)) (by decide)
      | exact absurd (hen.symm.trans (by assumption)) (by decide)
      | (refine' InvEndN.intro (nx := news) (by k_asm) (by k_asm) ⟨rfl, _, rfl⟩ rfl ?_ ?_ <;> intro p hp <;> first | exact List.mem_append.mpr (.inl hp) | exact List.mem_append.mpr (.inr hp))
  · rintro m₁ h tk ⟨t', ht⟩ F N
    rw [← map_same ht] at F
    k_steps
    all_goals (refine' ret_of hret ?e1 ?e2 ?e3; (case e2 => k_asm); (case e3 => (first | k_asm | exact cb_drop (by assumption) (by kcj_all))); (case e1 => rfl))
end

section
open PySem PySem.W PyProof.Rows PySem.Calls PyProof.V PySem.Spec PySem.Builtin
section
variable {α : Type} [DecidableEq α]
def jl (c : α) : List (List α) → List α
  | [] => []
  | [p] => p
  | p :: q :: r => p ++ c :: jl c (q :: r)
def chd (x : α) : List (List α) → List (List α)
  | [] => [[x]]
  | p :: r => (x :: p) :: r
def spl (c : α) : List α → List (List α)
  | [] => [[]]
  | x :: l => if x = c then [] :: spl c l else chd x (spl c l)
theorem spl_ne (c : α) : ∀ l : List α, ∃ p r, spl c l = p :: r
  | [] => ⟨_, _, rfl⟩
  | x :: l => by
    unfold spl
    split
    · exact ⟨_, _, rfl⟩
    · obtain ⟨p, r, e⟩ := spl_ne c l
      rw [e]
      exact ⟨_, _, rfl⟩
theorem spl_free (c : α) : ∀ p : List α, c ∉ p → spl c p = [p]
  | [], _ => rfl
  | x :: l, h => by
    have hx : x ≠ c := fun e => h (e ▸ .head _)
    unfold spl
    rw [if_neg hx, spl_free c l fun m => h (.tail _ m)]
    rfl
theorem spl_app (c : α) : ∀ p l : List α, c ∉ p → spl c (p ++ c :: l) = p :: spl c l
  | [], l, _ => by
    show (if c = c then _ else _) = _
    rw [if_pos rfl]
  | x :: p, l, h => by
    have hx : x ≠ c := fun e => h (e ▸ .head _)
    show (if x = c then _ else chd x (spl c (p ++ c :: l))) = _
    rw [if_neg hx, spl_app c p l fun m => h (.tail _ m)]
    rfl
theorem spl_jl (c : α) : ∀ ps : List (List α), ps ≠ [] → (∀ p ∈ ps, c ∉ p) → spl c (jl c ps) = ps
  | [], h, _ => absurd rfl h
  | [p], _, h => spl_free c p (h p (.head _))
  | p :: q :: r, _, h => by
    show spl c (p ++ c :: jl c (q :: r)) = _
    rw [spl_app c p _ (h p (.head _)), spl_jl c (q :: r) (by simp) fun x hx => h x (.tail _ hx)]
theorem jl_append (c : α) : ∀ ps qs : List (List α), ps ≠ [] → qs ≠ [] → jl c (ps ++ qs) = jl c ps ++ c :: jl c qs
  | [], _, h, _ => absurd rfl h
  | [p], [], _, h => absurd rfl h
  | [p], q :: qs, _, _ => rfl
  | p :: p' :: ps, qs, _, h => by
    show p ++ c :: jl c ((p' :: ps) ++ qs) = (p ++ c :: jl c (p' :: ps)) ++ c :: jl c qs
    rw [jl_append c (p' :: ps) qs (by simp) h, List.append_assoc]
    rfl
theorem jl_head (c : α) : ∀ ps : List (List α), ps ≠ [] → (∀ p ∈ ps, p ≠ [] ∧ c ∉ p) → ∃ x r, jl c ps = x :: r ∧ x ≠ c
  | [], h, _ => absurd rfl h
  | [] :: ps, _, h => absurd rfl (h [] (.head _)).1
  | [x :: l], _, h => ⟨x, l, rfl, fun e => (h _ (.head _)).2 (e ▸ .head _)⟩
  | (x :: l) :: q :: r, _, h => ⟨x, l ++ c :: jl c (q :: r), rfl, fun e => (h _ (.head _)).2 (e ▸ .head _)⟩
theorem jl_last (c : α) : ∀ ps : List (List α), ps ≠ [] → (∀ p ∈ ps, p ≠ [] ∧ c ∉ p) → ∃ r x, jl c ps = r ++ [x] ∧ x ≠ c
  | [], h, _ => absurd rfl h
  | [p], _, h => by
    rcases List.eq_nil_or_concat p with rfl | ⟨l, x, rfl⟩
    · exact absurd rfl (h [] (.head _)).1
    · refine ⟨l, x, List.concat_eq_append, fun e => (h _ (.head _)).2 ?_⟩
      rw [e]; simp
  | p :: q :: r, _, h => by
    obtain ⟨l, x, e, hx⟩ := jl_last c (q :: r) (by simp) fun y hy => h y (.tail _ hy)
    refine ⟨p ++ c :: l, x, ?_, hx⟩
    show p ++ c :: jl c (q :: r) = _
    rw [e, List.append_assoc]
    rfl
theorem jl_mem (c : α) : ∀ (ps : List (List α)) (x : α), x ∈ jl c ps → x = c ∨ ∃ p ∈ ps, x ∈ p
  | [], _, h => by cases h
  | [p], x, h => .inr ⟨p, .head _, h⟩
  | p :: q :: r, x, h => by
    have h' : x ∈ p ++ c :: jl c (q :: r) := h
    rcases List.mem_append.mp h' with h1 | h1
    · exact .inr ⟨p, .head _, h1⟩
    · rcases List.mem_cons.mp h1 with h2 | h2
      · exact .inl h2
      · rcases jl_mem c (q :: r) x h2 with h3 | ⟨y, hy, h3⟩
        · exact .inl h3
        · exact .inr ⟨y, .tail _ hy, h3⟩
end
theorem jl_map {α β : Type} (f : α → β) (c : α) : ∀ ps : List (List α), (jl c ps).map f = jl (f c) (ps.map (·.map f))
  | [] => rfl
  | [p] => rfl
  | p :: q :: r => by
    show (p ++ c :: jl c (q :: r)).map f = p.map f ++ f c :: jl (f c) ((q :: r).map (·.map f))
    rw [List.map_append, List.map_cons, jl_map f c (q :: r)]
/-! the fold of normpath, over any kind of names -/
section
variable {α : Type}
def gstep (e d u : α → Bool) (us : List α) (c : α) : List α :=
  if e c = true then us else if d c = true then us else if u c = false then us ++ [c]
  else match us.getLast? with
    | none => us ++ [c]
    | some y => if u y = true then us ++ [c] else us.dropLast
def gdue (p q : Nat × List α) : Nat × List α := if q.1 ≤ p.2.length then (p.1, p.2.take (p.2.length - q.1) ++ q.2) else (p.1 + q.1 - p.2.length, q.2)
def parts (U : α) (p : Nat × List α) : List α := List.replicate p.1 U ++ p.2
def tk (U D : α) (p : Nat × List α) : List α := if (parts U p).isEmpty = true then [D] else parts U p
variable {e d u : α → Bool} {U D : α}
def Nm (e d u : α → Bool) (n : α) : Prop := e n = false ∧ d n = false ∧ u n = false
theorem st_name {us : List α} {c : α} (h : Nm e d u c) : gstep e d u us c = us ++ [c] := by
  unfold gstep
  rw [if_neg (by rw [h.1]; decide), if_neg (by rw [h.2.1]; decide), if_pos h.2.2]
theorem fold_names : ∀ (vs us : List α), (∀ c ∈ vs, Nm e d u c) → vs.foldl (gstep e d u) us = us ++ vs
  | [], us, _ => by simp
  | c :: vs, us, h => by
    rw [List.foldl_cons, st_name (h c (.head _)), fold_names vs _ fun x hx => h x (.tail _ hx), List.append_assoc]
    rfl
theorem st_up (hU : e U = false ∧ d U = false ∧ u U = true) (i : Nat) : gstep e d u (List.replicate i U) U = List.replicate (i + 1) U := by
  unfold gstep
  rw [if_neg (by rw [hU.1]; decide), if_neg (by rw [hU.2.1]; decide), if_neg (by rw [hU.2.2]; decide)]
  cases i with
  | zero => rfl
  | succ i =>
    rw [List.replicate_succ', List.getLast?_concat]
    show (if u U = true then _ else _) = _
    rw [if_pos hU.2.2, ← List.replicate_succ', ← List.replicate_succ']
theorem st_down (hU : e U = false ∧ d U = false ∧ u U = true) {us : List α} {n : α} (hn : Nm e d u n) : gstep e d u (us ++ [n]) U = us := by
  unfold gstep
  rw [if_neg (by rw [hU.1]; decide), if_neg (by rw [hU.2.1]; decide), if_neg (by rw [hU.2.2]; decide), List.getLast?_concat]
  show (if u n = true then _ else _) = _
  rw [if_neg (by rw [hn.2.2]; decide), List.dropLast_concat]
theorem fold_ups (hU : e U = false ∧ d U = false ∧ u U = true) : ∀ (j i : Nat) (us : List α), (∀ c ∈ us, Nm e d u c) →
    (List.replicate j U).foldl (gstep e d u) (List.replicate i U ++ us) = if j ≤ us.length then List.replicate i U ++ us.take (us.length - j) else List.replicate (i + j - us.length) U
  | 0, i, us, _ => by rw [if_pos (Nat.zero_le _)]; simp
  | j + 1, i, us, h => by
    rw [List.replicate_succ, List.foldl_cons]
    rcases List.eq_nil_or_concat us with rfl | ⟨us', n, rfl⟩
    · rw [List.append_nil, st_up hU]
      have ih := fold_ups hU j (i + 1) [] fun _ h => nomatch h
      rw [List.append_nil] at ih
      rw [ih]
      simp only [List.length_nil]
      rw [if_neg (show ¬ (j + 1 ≤ 0) by omega)]
      by_cases hj : j ≤ 0
      · rw [if_pos hj]
        have : j = 0 := by omega
        subst this
        simp
      · rw [if_neg hj]
        congr 1
        omega
    · rw [List.concat_eq_append] at h ⊢
      rw [← List.append_assoc, st_down hU (h n (by simp)), fold_ups hU j i us' fun c hc => h c (by simp [hc])]
      simp only [List.length_append, List.length_cons, List.length_nil]
      by_cases hj : j ≤ us'.length
      · rw [if_pos hj, if_pos (by omega)]
        congr 1
        rw [List.take_append_of_le_length (by omega)]
        congr 1
        omega
      · rw [if_neg hj, if_neg (by omega)]
        congr 1
        omega
theorem fold_due (hU : e U = false ∧ d U = false ∧ u U = true) (p q : Nat × List α) (hp : ∀ c ∈ p.2, Nm e d u c) (hq : ∀ c ∈ q.2, Nm e d u c) :
    (parts U q).foldl (gstep e d u) (parts U p) = parts U (gdue p q) := by
  unfold parts
  rw [List.foldl_append, fold_ups hU q.1 p.1 p.2 hp, fold_names q.2 _ hq]
  unfold gdue
  split
  · rw [List.append_assoc]
  · rfl
theorem fold_tk (hU : e U = false ∧ d U = false ∧ u U = true) (hD : d D = true) (q : Nat × List α) (us : List α) : (tk U D q).foldl (gstep e d u) us = (parts U q).foldl (gstep e d u) us := by
  unfold tk
  split
  · rename_i h
    rw [List.isEmpty_iff.mp h]
    show gstep e d u us D = us
    unfold gstep
    split
    · rfl
    · rfl
  · rfl
theorem gdue_zero (p : Nat × List α) : gdue (0, []) p = p := by
  obtain ⟨i, us⟩ := p
  unfold gdue
  split
  · rename_i h
    have : i = 0 := by simpa using h
    subst this
    simp
  · simp
theorem fold_two (hU : e U = false ∧ d U = false ∧ u U = true) (hD : d D = true) (p q : Nat × List α) (hp : ∀ c ∈ p.2, Nm e d u c) (hq : ∀ c ∈ q.2, Nm e d u c) :
    (tk U D p ++ tk U D q).foldl (gstep e d u) [] = parts U (gdue p q) := by
  rw [List.foldl_append, fold_tk hU hD, fold_tk hU hD]
  have h := fold_due hU (0, []) p (fun _ h => nomatch h) hp
  rw [gdue_zero] at h
  have e0 : parts U ((0, []) : Nat × List α) = [] := rfl
  rw [e0] at h
  rw [h, fold_due hU p q hp hq]
end
end

section
open PySem PySem.W PyProof.Rows PySem.Calls PyProof.V PySem.Spec PySem.Builtin
abbrev UP : Str := Str.ofString ".."
abbrev DOT : Str := Str.ofString "."
abbrev SL : Str := Str.ofString "/"
theorem slash_eq : SL = ⟨#[47]⟩ := by decide
theorem nstep_g (us : List Str) (c : Str) : nstep us c = gstep (fun c : Str => !((c.length : Int) != 0)) (· == DOT) (· == UP) us c := by
  unfold nstep gstep
  by_cases h1 : ((c.length : Int) != 0) = false
  · have h1n : (fun c : Str => !((c.length : Int) != 0)) c = true := by show (!((c.length : Int) != 0)) = true; rw [h1]; rfl
    rw [if_pos h1, if_pos h1n]
  · have h1n : ¬ ((fun c : Str => !((c.length : Int) != 0)) c = true) := by
      show ¬ ((!((c.length : Int) != 0)) = true)
      simpa using h1
    rw [if_neg h1, if_neg h1n]
    by_cases h2 : (c == DOT) = true
    · rw [if_pos h2]
      exact (if_pos h2).symm
    · rw [if_neg h2]
      refine Eq.trans ?_ (if_neg h2).symm
      by_cases h3 : (c == UP) = true
      · have h3n : ¬ ((c != UP) = true) := by rw [bne, h3]; decide
        have h3m : ¬ ((fun x : Str => x == UP) c = false) := by show ¬ ((c == UP) = false); rw [h3]; decide
        rw [if_neg h3n, if_neg h3m]
        cases us.getLast? <;> rfl
      · have h4 := Bool.eq_false_iff.mpr h3
        have h3n : (c != UP) = true := by rw [bne, h4]; rfl
        have h3m : (fun x : Str => x == UP) c = false := h4
        rw [if_pos h3n, if_pos h3m]
theorem nstep_fun : nstep = gstep (fun c : Str => !((c.length : Int) != 0)) (· == DOT) (· == UP) := by
  funext us c; exact nstep_g us c
theorem due_g (p q : Wk) : due p q = gdue p q := rfl
theorem ok_nm {n : Str} (h : okName n = true) : Nm (fun c : Str => !((c.length : Int) != 0)) (· == DOT) (· == UP) n := by
  rcases ok_cases h with rfl | rfl | rfl | rfl <;> exact ⟨by decide, by decide, by decide⟩
def okTok (t : Str) : Prop := okName t = true ∨ t = UP ∨ t = DOT
theorem tok_cases {t : Str} (h : okTok t) : t = Str.ofString "a" ∨ t = Str.ofString "b" ∨ t = Str.ofString "ab" ∨ t = Str.ofString "a.b" ∨ t = UP ∨ t = DOT := by
  rcases h with h | h | h
  · rcases ok_cases h with h | h | h | h
    · exact .inl h
    · exact .inr (.inl h)
    · exact .inr (.inr (.inl h))
    · exact .inr (.inr (.inr (.inl h)))
  · exact .inr (.inr (.inr (.inr (.inl h))))
  · exact .inr (.inr (.inr (.inr (.inr h))))
theorem parts_ok {p : Wk} (h : okL p.2) : ∀ t ∈ parts UP p, okName t = true ∨ t = UP := by
  intro t ht
  rcases List.mem_append.mp ht with h1 | h1
  · exact .inr (List.mem_replicate.mp h1).2
  · exact .inl (h t h1)
theorem tk_ok {p : Wk} (h : okL p.2) : ∀ t ∈ tk UP DOT p, okTok t := by
  intro t ht
  unfold tk at ht
  split at ht
  · exact .inr (.inr (List.mem_singleton.mp ht))
  · rcases parts_ok h t ht with h1 | h1
    · exact .inl h1
    · exact .inr (.inl h1)
theorem tk_ne {α : Type} (U D : α) (p : Nat × List α) : tk U D p ≠ [] := by
  unfold tk
  split
  · simp
  · rename_i h
    intro e
    exact h (by rw [e]; rfl)
theorem tok_list {t : Str} (h : okTok t) : t.cps.toList ≠ [] ∧ 47 ∉ t.cps.toList := by
  rcases tok_cases h with rfl | rfl | rfl | rfl | rfl | rfl <;> decide
theorem tok_len {t : Str} (h : okTok t) : t.length ≤ 3 := by
  rcases tok_cases h with rfl | rfl | rfl | rfl | rfl | rfl <;> decide
theorem tok_code {t : Str} (h : okTok t) : ∀ c ∈ t.cps.toList, c < 256 := by
  rcases tok_cases h with rfl | rfl | rfl | rfl | rfl | rfl <;> decide
abbrev ls (t : Str) : List Nat := t.cps.toList
theorem ls_inj {a b : Str} (h : ls a = ls b) : a = b := Str.ext' (Array.toList_inj.mp h)
theorem map_ls_inj {l r : List Str} (h : l.map ls = r.map ls) : l = r := (List.map_inj_right fun _ _ => ls_inj).mp h
theorem join_ls (ps : List Str) : ls (Txt.join SL ps) = jl 47 (ps.map ls) := by
  show ls (Str.glued SL ps) = _
  rw [StrLaws.glued_eq_join]
  induction ps with
  | nil => rfl
  | cons a r ih =>
    cases r with
    | nil => rfl
    | cons b r =>
      show ls (a ++ SL ++ Str.join SL (b :: r)) = ls a ++ 47 :: jl 47 ((b :: r).map ls)
      unfold ls at ih ⊢
      rw [Str.cps_append, Str.cps_append, Array.toList_append, Array.toList_append, ih, slash_eq]
      simp
theorem toks_good {p : Wk} (h : okL p.2) : ∀ l ∈ (tk UP DOT p).map ls, l ≠ [] ∧ 47 ∉ l := by
  intro l hl
  obtain ⟨t, ht, rfl⟩ := List.mem_map.mp hl
  exact tok_list (tk_ok h t ht)
theorem parts_good {p : Wk} (h : okL p.2) : ∀ l ∈ (parts UP p).map ls, l ≠ [] ∧ 47 ∉ l := by
  intro l hl
  obtain ⟨t, ht, rfl⟩ := List.mem_map.mp hl
  refine tok_list ?_
  rcases parts_ok h t ht with h1 | h1
  · exact .inl h1
  · exact .inr (.inl h1)
theorem map_ne {α β : Type} {f : α → β} {l : List α} (h : l ≠ []) : l.map f ≠ [] := fun e => h (List.map_eq_nil_iff.mp e)
theorem walk_tk {p : Wk} (h : okL p.2) : walkTxt p.1 p.2 = Txt.join SL (tk UP DOT p) := by
  show (if (Txt.join SL (parts UP p) != Str.ofString "") = true then Txt.join SL (parts UP p) else DOT) = _
  unfold tk
  cases hp : parts UP p with
  | nil => decide
  | cons a r =>
    rw [if_neg (show ¬ ((a :: r).isEmpty = true) by simp), if_pos]
    rw [bne_iff_ne]
    intro e
    have h1 := join_ls (a :: r)
    obtain ⟨x, r', h2, _⟩ := jl_head 47 ((parts UP p).map ls) (by rw [hp]; simp) (parts_good h)
    rw [hp] at h2
    rw [e, h2] at h1
    have h3 : ls (Str.ofString "") = [] := by decide
    rw [h3] at h1
    cases h1
theorem walk_ls {p : Wk} (h : okL p.2) : ls (walkTxt p.1 p.2) = jl 47 ((tk UP DOT p).map ls) := by rw [walk_tk h, join_ls]
theorem split_ne (x : Str) : Txt.split x SL ≠ [] := by
  unfold Txt.split
  split
  · simp
  · split
    · simp
    · rw [StrLaws.partsBetween_eq]
      obtain ⟨a, r, e⟩ := StrLaws.partsFrom_ne x SL.length 0 (Str.occurrences x SL 0 x.length (x.length + 1))
      rw [e]
      simp
theorem split_ls (x : Str) : (Txt.split x SL).map ls = spl 47 (ls x) := by
  have h1 : Txt.join SL (Txt.split x SL) = x := by
    show Str.glued SL _ = x
    rw [StrLaws.glued_eq_join]
    exact StrLaws.join_split x SL
  have h2 := join_ls (Txt.split x SL)
  rw [h1] at h2
  rw [h2, spl_jl 47 _ (map_ne (split_ne x))]
  intro l hl
  obtain ⟨t, ht, rfl⟩ := List.mem_map.mp hl
  have h3 := StrLaws.split_free x 47
  rw [← slash_eq] at h3
  exact h3 t ht
theorem two_ls {p q : Wk} (hp : okL p.2) (hq : okL q.2) : ls (walkTxt p.1 p.2 ++ (SL ++ walkTxt q.1 q.2)) = jl 47 ((tk UP DOT p ++ tk UP DOT q).map ls) := by
  rw [List.map_append, jl_append 47 _ _ (map_ne (tk_ne _ _ _)) (map_ne (tk_ne _ _ _)), ← walk_ls hp, ← walk_ls hq]
  unfold ls
  rw [Str.cps_append, Str.cps_append, Array.toList_append, Array.toList_append, slash_eq]
  simp
theorem split_two {p q : Wk} (hp : okL p.2) (hq : okL q.2) : Txt.split (walkTxt p.1 p.2 ++ (SL ++ walkTxt q.1 q.2)) SL = tk UP DOT p ++ tk UP DOT q := by
  apply map_ls_inj
  rw [split_ls, two_ls hp hq, spl_jl 47 _ (map_ne (by simp [tk_ne]))]
  intro l hl
  rw [List.map_append] at hl
  rcases List.mem_append.mp hl with h | h
  · exact (toks_good hp l h).2
  · exact (toks_good hq l h).2
theorem nres_due {p q : Wk} (hp : okL p.2) (hq : okL q.2) : nres (tk UP DOT p ++ tk UP DOT q) = walkTxt (due p q).1 (due p q).2 := by
  have h := fold_two (e := fun c : Str => !((c.length : Int) != 0)) (d := (· == DOT)) (u := (· == UP)) (U := UP) (D := DOT) ⟨by decide, by decide, by decide⟩ (by decide) p q (fun c hc => ok_nm (hp c hc)) (fun c hc => ok_nm (hq c hc))
  unfold nres
  rw [nstep_fun, h]
  show _ = if (Txt.join SL (parts UP (due p q)) != Str.ofString "") = true then Txt.join SL (parts UP (due p q)) else DOT
  rw [due_g]
  generalize Txt.join SL (parts UP (gdue p q)) = X
  by_cases hX : X = Str.ofString ""
  · subst hX; decide
  · rw [if_neg, if_pos (bne_iff_ne.mpr hX)]
    intro e
    refine hX (ls_inj ?_)
    have h0 : ls (Str.ofString "") = [] := by decide
    rw [h0]
    have e2 : X.cps.size = 0 := by simpa [Str.length] using e
    exact List.length_eq_zero_iff.mp (by simpa using e2)
theorem walk_head {p : Wk} (h : okL p.2) : ∃ x r, ls (walkTxt p.1 p.2) = x :: r ∧ x ≠ 47 := by
  rw [walk_ls h]
  exact jl_head 47 _ (map_ne (tk_ne _ _ _)) (toks_good h)
theorem walk_last {p : Wk} (h : okL p.2) : ∃ r x, ls (walkTxt p.1 p.2) = r ++ [x] ∧ x ≠ 47 := by
  rw [walk_ls h]
  exact jl_last 47 _ (map_ne (tk_ne _ _ _)) (toks_good h)
theorem tk_length {α : Type} (U D : α) (p : Nat × List α) : (tk U D p).length ≤ p.1 + p.2.length + 1 := by
  unfold tk
  split
  · simp
  · unfold parts; simp
theorem wt_le {l : List Str} {n : Nat} (h : ∀ t ∈ l, t.length ≤ n) : wt l ≤ l.length * n := by
  induction l with
  | nil => simp [wt]
  | cons a r ih =>
    have h1 := ih fun t ht => h t (.tail _ ht)
    have h2 := h a (.head _)
    have h3 : wt (a :: r) = a.length + wt r := by simp [wt]
    rw [h3, List.length_cons, Nat.add_mul]
    omega
theorem walk_len {p : Wk} (h : okL p.2) : (walkTxt p.1 p.2).length ≤ 4 * (p.1 + p.2.length + 1) := by
  rw [walk_tk h]
  have h1 := len_join_wt (tk UP DOT p)
  have h2 := wt_le (n := 3) fun t ht => tok_len (tk_ok h t ht)
  have h3 := tk_length UP DOT p
  have h4 : (tk UP DOT p).length * 3 ≤ (p.1 + p.2.length + 1) * 3 := Nat.mul_le_mul_right _ h3
  have h5 : (Txt.join SL (tk UP DOT p)).length ≤ wt (tk UP DOT p) + (tk UP DOT p).length := h1
  omega
theorem len_ls (x : Str) : x.length = (ls x).length := by simp [Str.length]
theorem walk_pos {p : Wk} (h : okL p.2) : 1 ≤ (walkTxt p.1 p.2).length := by
  obtain ⟨x, r, e, _⟩ := walk_head h
  rw [len_ls, e, List.length_cons]
  omega
theorem walk_starts {p : Wk} (h : okL p.2) : Txt.startswith (walkTxt p.1 p.2) SL = false := by
  obtain ⟨x, r, e, hx⟩ := walk_head h
  unfold Txt.startswith
  rw [StrLaws.subAt_eq, Bool.and_eq_false_iff]
  right
  rw [show (walkTxt p.1 p.2).cps.toList = x :: r from e, slash_eq]
  show (List.take 1 (x :: r) == [47]) = false
  simpa using hx
theorem walk_ends {p : Wk} (h : okL p.2) : Txt.endswith (walkTxt p.1 p.2) SL = false := by
  obtain ⟨r, x, e, hx⟩ := walk_last h
  unfold Txt.endswith
  rw [StrLaws.subAt_eq, Bool.and_eq_false_iff]
  right
  have hl : (walkTxt p.1 p.2).length = r.length + 1 := by rw [len_ls, e]; simp
  rw [hl, show (walkTxt p.1 p.2).cps.toList = r ++ [x] from e, slash_eq]
  show (List.take 1 (List.drop (r.length + 1 - 1) (r ++ [x])) == [47]) = false
  rw [Nat.add_sub_cancel, List.drop_left]
  simpa using hx
theorem two_slice {p q : Wk} (h : okL p.2) : (Txt.slice (walkTxt p.1 p.2 ++ (SL ++ walkTxt q.1 q.2)) none (some 1) != SL) = true := by
  obtain ⟨x, r, e, hx⟩ := walk_head h
  rw [bne_iff_ne]
  intro h1
  have h2 : ls (walkTxt p.1 p.2 ++ (SL ++ walkTxt q.1 q.2)) = x :: (r ++ ls (SL ++ walkTxt q.1 q.2)) := by
    unfold ls at e ⊢
    rw [Str.cps_append, Array.toList_append, e]
    rfl
  have h3 := StrLaws.sliceText_to (x := walkTxt p.1 p.2 ++ (SL ++ walkTxt q.1 q.2)) (j := 1) ⟨by decide, by
    rw [show (walkTxt p.1 p.2 ++ (SL ++ walkTxt q.1 q.2)).cps.toList = _ from h2]; simp only [List.length_cons]; omega⟩
  rw [show (walkTxt p.1 p.2 ++ (SL ++ walkTxt q.1 q.2)).cps.toList = _ from h2] at h3
  have h4 : (⟨#[x]⟩ : Str) = SL := by
    rw [← h1]
    exact h3.symm
  rw [slash_eq] at h4
  have h5 : x = 47 := by simpa using congrArg ls h4
  exact hx h5
theorem walk_code {p : Wk} (h : okL p.2) : ∀ c ∈ ls (walkTxt p.1 p.2), c < 256 := by
  intro c hc
  rw [walk_ls h] at hc
  rcases jl_mem 47 _ c hc with rfl | ⟨l, hl, hc⟩
  · decide
  · obtain ⟨t, ht, rfl⟩ := List.mem_map.mp hl
    exact tok_code (tk_ok h t ht) c hc
theorem join_code {p : Wk} (h : okL p.2) : ∀ n ∈ codes (Txt.join SL (parts UP p)), 0 ≤ n ∧ n < 256 := by
  intro n hn
  unfold codes at hn
  obtain ⟨c, hc, rfl⟩ := List.mem_map.mp hn
  have hc' : c ∈ ls (Txt.join SL (parts UP p)) := hc
  rw [join_ls] at hc'
  rcases jl_mem 47 _ c hc' with rfl | ⟨l, hl, hc2⟩
  · decide
  · obtain ⟨t, ht, rfl⟩ := List.mem_map.mp hl
    have h2 : okTok t := by
      rcases parts_ok h t ht with h1 | h1
      · exact .inl h1
      · exact .inr (.inl h1)
    have := tok_code h2 c hc2
    omega
theorem tk_inj {p q : Wk} (hp : okL p.2) (hq : okL q.2) (h : tk UP DOT p = tk UP DOT q) : p = q := by
  have nd : ∀ {p : Wk}, okL p.2 → DOT ∉ parts UP p := by
    intro p hp hm
    rcases parts_ok hp _ hm with h1 | h1
    · exact absurd h1 (by decide)
    · exact absurd h1 (by decide)
  have key : ∀ (i j : Nat) (us vs : List Str), okL us → okL vs → List.replicate i UP ++ us = List.replicate j UP ++ vs → i = j ∧ us = vs := by
    intro i
    induction i with
    | zero =>
      intro j us vs hu hv e
      cases j with
      | zero => exact ⟨rfl, e⟩
      | succ j =>
        have e' : us = UP :: (List.replicate j UP ++ vs) := e
        have := hu UP (by rw [e']; exact .head _)
        exact absurd this (by decide)
    | succ i ih =>
      intro j us vs hu hv e
      cases j with
      | zero =>
        have e' : UP :: (List.replicate i UP ++ us) = vs := e
        have := hv UP (by rw [← e']; exact .head _)
        exact absurd this (by decide)
      | succ j =>
        have e' : UP :: (List.replicate i UP ++ us) = UP :: (List.replicate j UP ++ vs) := e
        obtain ⟨h1, h2⟩ := ih j us vs hu hv (List.cons.inj e').2
        exact ⟨by rw [h1], h2⟩
  have hpar : parts UP p = parts UP q := by
    unfold tk at h
    split at h <;> split at h
    · rename_i h1 h2
      rw [List.isEmpty_iff.mp h1, List.isEmpty_iff.mp h2]
    · exact absurd (by rw [← h]; exact .head _) (nd hq)
    · exact absurd (by rw [h]; exact .head _) (nd hp)
    · exact h
  obtain ⟨h1, h2⟩ := key p.1 q.1 p.2 q.2 hp hq hpar
  exact Prod.ext h1 h2
theorem walk_inj {p q : Wk} (hp : okL p.2) (hq : okL q.2) (h : walkTxt p.1 p.2 = walkTxt q.1 q.2) : p = q := by
  have h1 := congrArg ls h
  rw [walk_ls hp, walk_ls hq] at h1
  have h2 := congrArg (spl 47) h1
  rw [spl_jl 47 _ (map_ne (tk_ne _ _ _)) fun l hl => (toks_good hp l hl).2, spl_jl 47 _ (map_ne (tk_ne _ _ _)) fun l hl => (toks_good hq l hl).2] at h2
  exact tk_inj hp hq (map_ls_inj h2)
end

section
open PySem PySem.W PyProof.Rows PySem.Calls PyProof.V PySem.Spec PySem.Builtin
abbrev u8 (c : Nat) : UInt8 := c.toUInt8
abbrev BA := Array UInt8
def By (y : Str) : BA := byteArr (codes y)
theorem By_ls (y : Str) : (By y).toList = (ls y).map u8 := by
  unfold By byteArr codes
  simp
theorem By_size (y : Str) : (By y).size = y.length := by
  rw [← Array.length_toList, By_ls, len_ls, List.length_map]
theorem ba_inj {a b : BA} (h : a.toList = b.toList) : a = b := Array.toList_inj.mp h
/-! split -/
def pos47 : Nat → List UInt8 → List Nat
  | _, [] => []
  | k, x :: r => if x = 47 then k :: pos47 (k + 1) r else pos47 (k + 1) r
theorem pos_len : ∀ (l : List UInt8) (k : Nat), (pos47 k l).length ≤ l.length
  | [], _ => Nat.le_refl _
  | x :: r, k => by
    unfold pos47
    split
    · exact Nat.succ_le_succ (pos_len r (k + 1))
    · exact Nat.le_succ_of_le (pos_len r (k + 1))
theorem cut_one {b : BA} {k : Nat} {x : UInt8} {r : List UInt8} (h : b.toList.drop k = x :: r) : (b.extract k (k + 1) == #[47]) = decide (x = 47) := by
  have e : (b.extract k (k + 1)).toList = [x] := by
    rw [Array.toList_extract, List.extract_eq_take_drop, h, Nat.add_sub_cancel_left]
    rfl
  have e2 : b.extract k (k + 1) = #[x] := ba_inj e
  rw [e2]
  rw [Bool.eq_iff_iff]
  simp
theorem occ_fold (b : BA) : ∀ (l : List UInt8) (k f : Nat) (acc : List Nat), f ≤ k → b.toList.drop k = l →
    ((List.range' k l.length).foldl (fun (acc : List Nat × Nat) (i : Nat) => if i ≥ acc.2 && b.extract i (i + 1) == #[47] then (i :: acc.1, i + 1) else acc) (acc, f)).1.reverse = acc.reverse ++ pos47 k l
  | [], k, f, acc, _, _ => by simp [pos47]
  | x :: r, k, f, acc, hf, h => by
    have hr : b.toList.drop (k + 1) = r := by
      rw [← List.drop_drop, h]
      rfl
    rw [List.length_cons, List.range'_succ, List.foldl_cons]
    have hc := cut_one h
    by_cases hx : x = 47
    · rw [if_pos (by rw [hc]; simp [hf, hx]), occ_fold b r (k + 1) (k + 1) _ (Nat.le_refl _) hr]
      conv => rhs; unfold pos47
      rw [if_pos hx, List.reverse_cons, List.append_assoc]
      rfl
    · rw [if_neg (by rw [hc]; simp [hx]), occ_fold b r (k + 1) f _ (by omega) hr]
      conv => rhs; unfold pos47
      rw [if_neg hx]
theorem occ_pos (b : BA) : Bytes.occurrences b #[47] 0 b.size = pos47 0 b.toList := by
  have h := occ_fold b b.toList 0 0 [] (Nat.le_refl _) rfl
  rw [List.reverse_nil, List.nil_append] at h
  rw [← h]
  unfold Bytes.occurrences
  have e : (List.range (b.size + 1 - (0 + (#[47] : BA).size))).map (· + 0) = List.range' 0 b.toList.length := by
    rw [List.range_eq_range']
    simp
  rw [e]
  rfl
def betw (b : BA) : Nat → List Nat → List BA
  | last, [] => [b.extract last b.size]
  | last, p :: r => b.extract last p :: betw b (p + 1) r
theorem betw_eq (b : BA) (places : List Nat) : Bytes.between b 1 places = betw b 0 places := by
  have key : ∀ (pl : List Nat) (parts : Array BA) (last : Nat),
      (let q := pl.foldl (fun (q : Array BA × Nat) p => (q.1.push (b.extract q.2 p), p + 1)) (parts, last); (q.1.push (b.extract q.2 b.size)).toList) = parts.toList ++ betw b last pl := by
    intro pl
    induction pl with
    | nil => intro parts last; simp [betw]
    | cons p r ih =>
      intro parts last
      rw [List.foldl_cons]
      have := ih (parts.push (b.extract last p)) (p + 1)
      dsimp only at this ⊢
      rw [this]
      simp [betw]
  have := key places #[] 0
  rw [List.nil_append] at this
  exact this
theorem ext_list (b : BA) (i j : Nat) : (b.extract i j).toList = (b.toList.drop i).take (j - i) := by
  rw [Array.toList_extract, List.extract_eq_take_drop]
theorem mid_snoc {b : BA} {last k : Nat} {x : UInt8} {r : List UInt8} (hl : last ≤ k) (h : b.toList.drop k = x :: r) : (b.extract last (k + 1)).toList = (b.extract last k).toList ++ [x] := by
  rw [ext_list, ext_list]
  have e1 : k + 1 - last = (k - last) + 1 := by omega
  have e2 : (b.toList.drop last).drop (k - last) = x :: r := by
    rw [List.drop_drop, show last + (k - last) = k by omega, h]
  rw [e1, List.take_add, e2]
  rfl
theorem betw_spl (b : BA) : ∀ (l : List UInt8) (k last : Nat), last ≤ k → k ≤ b.size → b.toList.drop k = l →
    ∃ a r, spl 47 l = a :: r ∧ (betw b last (pos47 k l)).map (·.toList) = ((b.extract last k).toList ++ a) :: r
  | [], k, last, hl, hk, h => by
    refine ⟨[], [], rfl, ?_⟩
    have hk2 : k = b.size := by
      have := congrArg List.length h
      simp at this
      omega
    subst hk2
    simp [pos47, betw]
  | x :: r, k, last, hl, hk, h => by
    have hr : b.toList.drop (k + 1) = r := by
      rw [← List.drop_drop, h]
      rfl
    have hk2 : k + 1 ≤ b.size := by
      have := congrArg List.length h
      simp at this
      omega
    by_cases hx : x = 47
    · obtain ⟨a, q, h1, h2⟩ := betw_spl b r (k + 1) (k + 1) (Nat.le_refl _) hk2 hr
      refine ⟨[], a :: q, ?_, ?_⟩
      · show (if x = 47 then [] :: spl 47 r else chd x (spl 47 r)) = _
        rw [if_pos hx, h1]
      · have e : pos47 k (x :: r) = k :: pos47 (k + 1) r := if_pos hx
        rw [e]
        show (b.extract last k).toList :: (betw b (k + 1) (pos47 (k + 1) r)).map (·.toList) = _
        rw [h2, List.append_nil]
        simp
    · obtain ⟨a, q, h1, h2⟩ := betw_spl b r (k + 1) last (by omega) hk2 hr
      refine ⟨x :: a, q, ?_, ?_⟩
      · show (if x = 47 then [] :: spl 47 r else chd x (spl 47 r)) = _
        rw [if_neg hx, h1]
        rfl
      · have e : pos47 k (x :: r) = pos47 (k + 1) r := if_neg hx
        rw [e, h2, mid_snoc hl h, List.append_assoc]
        rfl
theorem splB_ls (b : BA) : (splB b #[47]).map (·.toList) = spl 47 b.toList := by
  unfold splB
  rw [occ_pos, List.take_of_length_le (Nat.le_succ_of_le (by simpa using pos_len b.toList 0))]
  obtain ⟨a, r, h1, h2⟩ := betw_spl b b.toList 0 0 (Nat.le_refl _) (Nat.zero_le _) rfl
  have h3 : (b.extract 0 0).toList = [] := by simp
  rw [h3, List.nil_append, ← h1] at h2
  split
  · rename_i he
    rw [List.isEmpty_iff.mp he] at h2
    rw [← h2]
    simp [betw]
  · have e : (#[47] : BA).size = 1 := rfl
    rw [e, betw_eq]
    exact h2
theorem joined_ls (bs : List BA) : (Bytes.joined #[47] bs).toList = jl 47 (bs.map (·.toList)) := by
  have key : ∀ (bs : List BA) (k : Nat) (out : BA), 1 ≤ k → ((bs.zipIdx k).foldl (fun out (p : BA × Nat) => (if p.2 > 0 then out ++ #[47] else out) ++ p.1) out).toList = jl 47 (out.toList :: bs.map (·.toList)) := by
    intro bs
    induction bs with
    | nil => intro k out _; rfl
    | cons b r ih =>
      intro k out hk
      rw [List.zipIdx_cons, List.foldl_cons, ih (k + 1) _ (by omega)]
      rw [if_pos (show (b, k).2 > 0 from hk)]
      cases r with
      | nil =>
        show (out ++ #[47] ++ b).toList = out.toList ++ 47 :: b.toList
        simp
      | cons c r =>
        show (out ++ #[47] ++ b).toList ++ 47 :: jl 47 ((c :: r).map (·.toList)) = out.toList ++ 47 :: (b.toList ++ 47 :: jl 47 ((c :: r).map (·.toList)))
        simp
  cases bs with
  | nil => rfl
  | cons b r =>
    unfold Bytes.joined
    rw [List.zipIdx_cons, List.foldl_cons]
    have h := key r 1 (#[] ++ b) (Nat.le_refl _)
    have e : ((#[] : BA) ++ b).toList = b.toList := by simp
    rw [e] at h
    exact h
theorem nstepB_g (us : List BA) (c : BA) : nstepB us c = gstep (fun c : BA => !((c.size : Int) != 0)) (fun c => c.toList == (#[46] : BA).toList) (fun c => c.toList == (#[46, 46] : BA).toList) us c := by
  unfold nstepB gstep
  by_cases h1 : ((c.size : Int) != 0) = false
  · have h1n : (fun c : BA => !((c.size : Int) != 0)) c = true := by show (!((c.size : Int) != 0)) = true; rw [h1]; rfl
    rw [if_pos h1, if_pos h1n]
  · have h1n : ¬ ((fun c : BA => !((c.size : Int) != 0)) c = true) := by
      show ¬ ((!((c.size : Int) != 0)) = true)
      simpa using h1
    rw [if_neg h1, if_neg h1n]
    by_cases h2 : (c.toList == (#[46] : BA).toList) = true
    · rw [if_pos h2]
      exact (if_pos h2).symm
    · rw [if_neg h2]
      refine Eq.trans ?_ (if_neg h2).symm
      by_cases h3 : (c.toList == (#[46, 46] : BA).toList) = true
      · have h3n : ¬ ((c.toList != (#[46, 46] : BA).toList) = true) := by rw [bne, h3]; decide
        have h3m : ¬ ((fun x : BA => x.toList == (#[46, 46] : BA).toList) c = false) := by show ¬ ((c.toList == (#[46, 46] : BA).toList) = false); rw [h3]; decide
        rw [if_neg h3n, if_neg h3m]
        cases us.getLast? <;> rfl
      · have h4 := Bool.eq_false_iff.mpr h3
        have h3n : (c.toList != (#[46, 46] : BA).toList) = true := by rw [bne, h4]; rfl
        have h3m : (fun x : BA => x.toList == (#[46, 46] : BA).toList) c = false := h4
        rw [if_pos h3n, if_pos h3m]
theorem nstepB_fun : nstepB = gstep (fun c : BA => !((c.size : Int) != 0)) (fun c => c.toList == (#[46] : BA).toList) (fun c => c.toList == (#[46, 46] : BA).toList) := by
  funext us c; exact nstepB_g us c
theorem ok_nmB {n : Str} (h : okName n = true) : Nm (fun c : BA => !((c.size : Int) != 0)) (fun c => c.toList == (#[46] : BA).toList) (fun c => c.toList == (#[46, 46] : BA).toList) (By n) := by
  rcases ok_cases h with rfl | rfl | rfl | rfl <;> exact ⟨by decide, by decide, by decide⟩
theorem parts_map {α β : Type} (f : α → β) (U : α) (p : Nat × List α) : (parts U p).map f = parts (f U) (p.1, p.2.map f) := by
  unfold parts
  rw [List.map_append, List.map_replicate]
theorem tk_map {α β : Type} (f : α → β) (U D : α) (p : Nat × List α) : (tk U D p).map f = tk (f U) (f D) (p.1, p.2.map f) := by
  unfold tk
  rw [← parts_map]
  cases parts U p with
  | nil => rfl
  | cons a r => rfl
theorem gdue_map {α β : Type} (f : α → β) (p q : Nat × List α) : gdue (p.1, p.2.map f) (q.1, q.2.map f) = ((gdue p q).1, (gdue p q).2.map f) := by
  unfold gdue
  simp only [List.length_map]
  split
  · rw [List.map_append, List.map_take]
  · rfl
theorem joined_By (l : List Str) : Bytes.joined #[47] (l.map By) = By (Txt.join SL l) := by
  apply ba_inj
  rw [joined_ls, By_ls, join_ls, jl_map, List.map_map, List.map_map]
  congr 1
  refine List.map_congr_left fun t _ => ?_
  exact By_ls t
theorem nresB_due {p q : Wk} (hp : okL p.2) (hq : okL q.2) : nresB ((tk UP DOT p ++ tk UP DOT q).map By) = By (walkTxt (due p q).1 (due p q).2) := by
  have h := fold_two (e := fun c : BA => !((c.size : Int) != 0)) (d := fun c => c.toList == (#[46] : BA).toList) (u := fun c => c.toList == (#[46, 46] : BA).toList) (U := By UP) (D := By DOT) ⟨by decide, by decide, by decide⟩ (by decide) (p.1, p.2.map By) (q.1, q.2.map By)
    (fun c hc => by obtain ⟨n, hn, rfl⟩ := List.mem_map.mp hc; exact ok_nmB (hp n hn)) (fun c hc => by obtain ⟨n, hn, rfl⟩ := List.mem_map.mp hc; exact ok_nmB (hq n hn))
  rw [← tk_map, ← tk_map, ← List.map_append, gdue_map, ← parts_map] at h
  unfold nresB
  rw [nstepB_fun, h, joined_By, By_size]
  show _ = By (if (Txt.join SL (parts UP (due p q)) != Str.ofString "") = true then Txt.join SL (parts UP (due p q)) else DOT)
  rw [due_g]
  generalize Txt.join SL (parts UP (gdue p q)) = X
  by_cases hX : X = Str.ofString ""
  · subst hX; decide
  · rw [if_neg, if_pos (bne_iff_ne.mpr hX)]
    intro e
    refine hX (ls_inj ?_)
    have h0 : ls (Str.ofString "") = [] := by decide
    rw [h0]
    have e2 : X.cps.size = 0 := by simpa [Str.length] using e
    exact List.length_eq_zero_iff.mp (by simpa using e2)
theorem tok_B {t : Str} (h : okTok t) : 47 ∉ (By t).toList := by
  rcases tok_cases h with rfl | rfl | rfl | rfl | rfl | rfl <;> decide
theorem two_B {p q : Wk} (hp : okL p.2) (hq : okL q.2) : By (walkTxt p.1 p.2) ++ (#[47] ++ By (walkTxt q.1 q.2)) = By (walkTxt p.1 p.2 ++ (SL ++ walkTxt q.1 q.2)) := by
  apply ba_inj
  rw [By_ls]
  unfold ls
  rw [Str.cps_append, Str.cps_append, Array.toList_append, Array.toList_append, Array.toList_append, Array.toList_append, By_ls, By_ls, List.map_append, List.map_append]
  rfl
theorem split_twoB {p q : Wk} (hp : okL p.2) (hq : okL q.2) : splB (By (walkTxt p.1 p.2) ++ (#[47] ++ By (walkTxt q.1 q.2))) #[47] = (tk UP DOT p ++ tk UP DOT q).map By := by
  refine (List.map_inj_right (f := fun b : BA => b.toList) fun _ _ h => ba_inj h).mp ?_
  have e : ((tk UP DOT p ++ tk UP DOT q).map By).map (fun b : BA => b.toList) = (tk UP DOT p ++ tk UP DOT q).map (fun t => (By t).toList) := by rw [List.map_map]; rfl
  have e2 : ((tk UP DOT p ++ tk UP DOT q).map ls).map (fun l => l.map u8) = (tk UP DOT p ++ tk UP DOT q).map (fun t => (By t).toList) := by
    rw [List.map_map]
    exact List.map_congr_left fun t _ => (By_ls t).symm
  rw [splB_ls, two_B hp hq, By_ls, two_ls hp hq, jl_map, e2, e]
  refine spl_jl 47 _ (map_ne (by simp [tk_ne])) fun l hl => ?_
  obtain ⟨t, ht, rfl⟩ := List.mem_map.mp hl
  refine tok_B ?_
  rcases List.mem_append.mp ht with h | h
  · exact tk_ok hp t h
  · exact tk_ok hq t h
theorem u8_ne {c : Nat} (h : c < 256) (hc : c ≠ 47) : u8 c ≠ 47 := by
  intro e
  have := congrArg UInt8.toNat e
  simp at this
  omega
theorem u8_inj {a b : Nat} (ha : a < 256) (hb : b < 256) (h : u8 a = u8 b) : a = b := by
  have := congrArg UInt8.toNat h
  simp at this
  omega
theorem map_u8_inj : ∀ {l r : List Nat}, (∀ c ∈ l, c < 256) → (∀ c ∈ r, c < 256) → l.map u8 = r.map u8 → l = r
  | [], [], _, _, _ => rfl
  | [], _ :: _, _, _, h => by cases h
  | _ :: _, [], _, _, h => by cases h
  | a :: l, b :: r, hl, hr, h => by
    rw [List.map_cons, List.map_cons] at h
    obtain ⟨h1, h2⟩ := List.cons.inj h
    rw [u8_inj (hl a (.head _)) (hr b (.head _)) h1, map_u8_inj (fun c hc => hl c (.tail _ hc)) (fun c hc => hr c (.tail _ hc)) h2]
theorem walkB_inj {p q : Wk} (hp : okL p.2) (hq : okL q.2) (h : By (walkTxt p.1 p.2) = By (walkTxt q.1 q.2)) : p = q := by
  have h1 : (ls (walkTxt p.1 p.2)).map u8 = (ls (walkTxt q.1 q.2)).map u8 := by rw [← By_ls, ← By_ls, h]
  exact walk_inj hp hq (ls_inj (map_u8_inj (walk_code hp) (walk_code hq) h1))
theorem walk_headB {p : Wk} (h : okL p.2) : ∃ x r, (By (walkTxt p.1 p.2)).toList = x :: r ∧ x ≠ 47 := by
  obtain ⟨x, r, e, hx⟩ := walk_head h
  refine ⟨u8 x, r.map u8, by rw [By_ls, e]; rfl, u8_ne (walk_code h x (by rw [e]; exact .head _)) hx⟩
theorem walk_lastB {p : Wk} (h : okL p.2) : ∃ r x, (By (walkTxt p.1 p.2)).toList = r ++ [x] ∧ x ≠ 47 := by
  obtain ⟨r, x, e, hx⟩ := walk_last h
  refine ⟨r.map u8, u8 x, by rw [By_ls, e, List.map_append]; rfl, u8_ne (walk_code h x (by rw [e]; simp)) hx⟩
theorem wpair (n : Nat) : Bytes.window n none none = (0, (n : Int)) := by
  unfold Bytes.window
  have h : ¬ ((n : Int) < 0) := by omega
  simp [h]
theorem walk_startsB {p : Wk} (h : okL p.2) : swB (By (walkTxt p.1 p.2)) #[47] = false := by
  obtain ⟨x, r, e, hx⟩ := walk_headB h
  unfold swB
  rw [wpair]
  split
  · rfl
  · show ((By (walkTxt p.1 p.2)).extract 0 (0 + 1) == #[47]) = false
    rw [cut_one (k := 0) (x := x) (r := r) e]
    simpa using hx
theorem walk_endsB {p : Wk} (h : okL p.2) : ewB (By (walkTxt p.1 p.2)) #[47] = false := by
  obtain ⟨r, x, e, hx⟩ := walk_lastB h
  unfold ewB
  rw [wpair]
  have hs : (By (walkTxt p.1 p.2)).size = r.length + 1 := by rw [← Array.length_toList, e]; simp
  split
  · rfl
  · show ((By (walkTxt p.1 p.2)).extract ((By (walkTxt p.1 p.2)).size - 1) (By (walkTxt p.1 p.2)).size == #[47]) = false
    rw [hs, Nat.add_sub_cancel, cut_one (x := x) (r := []) (by rw [e, List.drop_left])]
    simpa using hx
theorem two_pickedB {p q : Wk} (hp : okL p.2) : ((KBy.picked (By (walkTxt p.1 p.2) ++ (#[47] ++ By (walkTxt q.1 q.2))) none (some 1)).toList != (#[47] : BA).toList) = true := by
  obtain ⟨x, r, e, hx⟩ := walk_headB hp
  have e2 : (By (walkTxt p.1 p.2) ++ (#[47] ++ By (walkTxt q.1 q.2))).toList = x :: (r ++ 47 :: (By (walkTxt q.1 q.2)).toList) := by
    rw [Array.toList_append, e, Array.toList_append]
    rfl
  rw [picked_eq (by rw [← Array.length_toList, e2]; simp; omega), ext_list, e2]
  show ([x] != [47]) = true
  simpa using hx
end

section
open PySem PySem.W PyProof.Rows
section
variable {prog : Program} {w : World} {A : Around} {E : Value → Shared → Prop} {s : Shared} {Q : Value → Shared → Prop}
theorem wv_txt (p : Wk) (t : Tok) : wv false p t = .str (walkTxt p.1 p.2) t := by unfold wv; rfl
theorem wv_byt (p : Wk) (t : Tok) : wv true p t = .bytes (By (walkTxt p.1 p.2)) t := by unfold wv; rfl
theorem eq_wv {o : Bool} {p q : Wk} {t u : Tok} (hp : okN 60 p) (hq : okN 60 q) (h : Q (.bool (decide (p = q))) s) : wpAny (model prog w) A (compareOp .Eq (wv o p t) (wv o q u)) Q E s := by
  cases o
  · rw [wv_txt, wv_txt]
    refine PyProof.Rows.eq_str ?_
    have e : (walkTxt p.1 p.2 == walkTxt q.1 q.2) = decide (p = q) := by
      rw [Bool.eq_iff_iff, beq_iff_eq, decide_eq_true_eq]
      exact ⟨walk_inj hp.2.2 hq.2.2, fun e => by rw [e]⟩
    rw [e]
    exact h
  · rw [wv_byt, wv_byt]
    refine eq_bytes ?_
    have e : ((By (walkTxt p.1 p.2)).toList == (By (walkTxt q.1 q.2)).toList) = decide (p = q) := by
      rw [Bool.eq_iff_iff, beq_iff_eq, decide_eq_true_eq]
      exact ⟨fun e => walkB_inj hp.2.2 hq.2.2 (ba_inj e), fun e => by rw [e]⟩
    rw [e]
    exact h
end
section
variable (w : World) (mean : ExcName → Option Value) (mg mb : Str → Option Value)
theorem Gives.up {w : World} {mean : ExcName → Option Value} {mg mb : Str → Option Value} {f : Addr} {news : List (Addr × Obj)} {vs : List Value} {R R' : Tok → Value} (g : Gives w mean mg mb f 6 60 news vs R) (e : ∀ t, R t = R' t) : Gives w mean mg mb f 9 120 news vs R' := by
  intro dp un gd cn cs a ccd cl outer A₀ base h₀ L m s Q E k1 k2 k3 k4 k5 kK kd ku kR
  exact g dp un gd cn cs a ccd cl outer A₀ base h₀ L m s Q E k1 k2 k3 k4 k5 kK (by omega) (by omega) fun t h' tk' F N => e t ▸ kR t h' tk' F N
theorem wt_ok {us : List Str} (h : okL us) : wt us ≤ us.length * 3 := wt_le fun t ht => tok_len (.inl (h t ht))
theorem v_spell (news : List (Addr × Obj)) (T l : Addr) (o : Bool) (e : Int) (i : Nat) (ti : Tok) (vs : List Value) (us : List Str) (k : Nat) (he : e = i) (hvs : StrsAre vs us) (hok : okN 30 (i, us))
   (hT : (T, tupO e ti l) ∈ news) (hl : (l, W.listOf vs.toArray k) ∈ news ∨ (hd.heap_39 w.params).lookup l = some (W.listOf vs.toArray k)) :
   Gives w mean mg mb 157 9 120 news [.ref T, .bool o] (fun t => wv o (i, us) t) := by
  subst he
  obtain ⟨h1, h2, h3⟩ := hok
  have hw : wt us ≤ us.length * 3 := wt_ok h3
  dsimp only at h1 h2 h3
  cases o
  · exact (g_spell w mean mg mb news T l i ti vs us k h1 hvs (by omega) (by rw [hvs.length]; omega) (by omega) hT hl).up fun t => (wv_txt (i, us) t).symm
  · exact (g_spellB w mean mg mb news T l i ti vs us k h1 hvs (by omega) (by rw [hvs.length]; omega) (by omega) (join_code (p := (i, us)) h3) hT hl).up fun t => (wv_byt (i, us) t).symm
theorem walk_bnd {p : Wk} (h : okN 30 p) : (walkTxt p.1 p.2).length ≤ 300 := by
  have := walk_len h.2.2
  have h1 := h.1
  have h2 := h.2.1
  omega
theorem j_txt (news : List (Addr × Obj)) (p q : Wk) (t u : Tok) (hp : okN 30 p) (hq : okN 30 q) :
    Gives w mean mg mb 115 6 60 news [.str (walkTxt p.1 p.2) t, .str (walkTxt q.1 q.2) u] (fun t => .str (walkTxt p.1 p.2 ++ (Str.ofString "/" ++ walkTxt q.1 q.2)) t) :=
  g_join w mean mg mb news _ _ t u (Nat.le_trans (walk_bnd hp) (by decide)) (walk_pos hp.2.2) (Nat.le_trans (walk_bnd hq) (by decide)) (walk_starts hq.2.2) (walk_ends hp.2.2)
theorem j_byt (news : List (Addr × Obj)) (p q : Wk) (t u : Tok) (hp : okN 30 p) (hq : okN 30 q) :
    Gives w mean mg mb 115 6 60 news [.bytes (By (walkTxt p.1 p.2)) t, .bytes (By (walkTxt q.1 q.2)) u] (fun t => .bytes (By (walkTxt p.1 p.2) ++ (#[47] ++ By (walkTxt q.1 q.2))) t) :=
  g_joinB w mean mg mb news _ _ t u (by rw [By_size]; exact Nat.le_trans (walk_bnd hp) (by decide)) (by rw [By_size]; exact walk_pos hp.2.2) (by rw [By_size]; exact Nat.le_trans (walk_bnd hq) (by decide)) (walk_startsB hq.2.2) (walk_endsB hp.2.2)
theorem tk_two_len {p q : Wk} (hp : okN 30 p) (hq : okN 30 q) : (tk UP DOT p ++ tk UP DOT q).length ≤ 122 := by
  have h1 := tk_length UP DOT p
  have h2 := tk_length UP DOT q
  have h3 := hp.1
  have h4 := hp.2.1
  have h5 := hq.1
  have h6 := hq.2.1
  rw [List.length_append]
  omega
theorem tk_two_ok {p q : Wk} (hp : okN 30 p) (hq : okN 30 q) : ∀ t ∈ tk UP DOT p ++ tk UP DOT q, t.length ≤ 3 := by
  intro t ht
  refine tok_len ?_
  rcases List.mem_append.mp ht with h | h
  · exact tk_ok hp.2.2 t h
  · exact tk_ok hq.2.2 t h
theorem n_txt (news : List (Addr × Obj)) (p q : Wk) (t : Tok) (hp : okN 30 p) (hq : okN 30 q) :
    Gives w mean mg mb 129 6 60 news [.str (walkTxt p.1 p.2 ++ (Str.ofString "/" ++ walkTxt q.1 q.2)) t] (fun t => .str (walkTxt (due p q).1 (due p q).2) t) := by
  have e := split_two hp.2.2 hq.2.2
  have h1 := walk_bnd hp
  have h2 := walk_bnd hq
  have h3 := walk_pos hp.2.2
  have hl : (walkTxt p.1 p.2 ++ (Str.ofString "/" ++ walkTxt q.1 q.2)).length = (walkTxt p.1 p.2).length + (1 + (walkTxt q.1 q.2).length) := by
    rw [Str.length_append, Str.length_append]; rfl
  have g := g_normpath w mean mg mb news (walkTxt p.1 p.2 ++ (Str.ofString "/" ++ walkTxt q.1 q.2)) t (by simp only [hl, bne_iff_ne]; omega) (by omega) (by rw [sizeLine_eq]; omega) (two_slice hp.2.2)
    (fun c hc => Nat.le_trans (tk_two_ok hp hq c (by rw [← e]; exact hc)) (by decide)) (Nat.le_trans (by rw [e]; exact tk_two_len hp hq) (by decide))
  rw [show Txt.split (walkTxt p.1 p.2 ++ (Str.ofString "/" ++ walkTxt q.1 q.2)) (Str.ofString "/") = _ from e, nres_due hp.2.2 hq.2.2] at g
  exact g
theorem n_byt (news : List (Addr × Obj)) (p q : Wk) (t : Tok) (hp : okN 30 p) (hq : okN 30 q) :
    Gives w mean mg mb 129 6 60 news [.bytes (By (walkTxt p.1 p.2) ++ (#[47] ++ By (walkTxt q.1 q.2))) t] (fun t => .bytes (By (walkTxt (due p q).1 (due p q).2)) t) := by
  have e := split_twoB hp.2.2 hq.2.2
  have h1 := walk_bnd hp
  have h2 := walk_bnd hq
  have h3 := walk_pos hp.2.2
  have h4 := walk_pos hq.2.2
  have hl : (By (walkTxt p.1 p.2) ++ (#[47] ++ By (walkTxt q.1 q.2))).size = (walkTxt p.1 p.2).length + (1 + (walkTxt q.1 q.2).length) := by
    rw [Array.size_append, Array.size_append, By_size, By_size]; rfl
  have g := g_normpathB w mean mg mb news (By (walkTxt p.1 p.2) ++ (#[47] ++ By (walkTxt q.1 q.2))) t (by simp only [hl, bne_iff_ne]; omega) (by omega) (by omega) (two_pickedB hp.2.2)
    (fun c hc => by
      rw [e] at hc
      obtain ⟨y, hy, rfl⟩ := List.mem_map.mp hc
      rw [By_size]
      exact Nat.le_trans (tk_two_ok hp hq y hy) (by decide)) (Nat.le_trans (by rw [e, List.length_map]; exact tk_two_len hp hq) (by decide))
  rw [e, nresB_due hp.2.2 hq.2.2] at g
  exact g
end
end

section
open PySem PySem.W PyProof.Rows
section
local macro_rules | `(tactic| walk_at "call ref") => `(tactic| (k_here; first
  | ((with_reducible show wpAny _ _ (call (Value.ref 115) [Value.str _ _, Value.str _ _]) _ _ _); ktr_call (j_txt _ _ _ _ _ _ _ _ _ (by assumption) (by assumption)) 0)
  | ((with_reducible show wpAny _ _ (call (Value.ref 115) [Value.bytes _ _, Value.bytes _ _]) _ _ _); ktr_call (j_byt _ _ _ _ _ _ _ _ _ (by assumption) (by assumption)) 0)
  | ((with_reducible show wpAny _ _ (call (Value.ref 129) [Value.str _ _]) _ _ _); ktr_call (n_txt _ _ _ _ _ _ _ _ (by assumption) (by assumption)) 0)
  | ((with_reducible show wpAny _ _ (call (Value.ref 129) [Value.bytes _ _]) _ _ _); ktr_call (n_byt _ _ _ _ _ _ _ _ (by assumption) (by assumption)) 0)))
theorem t_txt (w : World) (mean : ExcName → Option Value) (mg mb : Str → Option Value) (news : List (Addr × Obj)) (p q : Wk) (t u : Tok) (hp : okN 30 p) (hq : okN 30 q) :
    Gives w mean mg mb 164 9 120 news [.str (walkTxt p.1 p.2) t, .str (walkTxt q.1 q.2) u] (fun t => .str (walkTxt (due p q).1 (due p q).2) t) := by
  unfold Gives
  k_fill
  intros
  rename_i hret
  refine wpAny_call ?_
  k_dflt cell_enter
  k_steps
  all_goals (refine' ret_of hret ?e1 ?e2 ?e3; (case e2 => k_asm); (case e3 => (first | k_asm | exact cb_drop (by assumption) (by kcj_all))); (case e1 => rfl))
theorem t_byt (w : World) (mean : ExcName → Option Value) (mg mb : Str → Option Value) (news : List (Addr × Obj)) (p q : Wk) (t u : Tok) (hp : okN 30 p) (hq : okN 30 q) :
    Gives w mean mg mb 164 9 120 news [.bytes (By (walkTxt p.1 p.2)) t, .bytes (By (walkTxt q.1 q.2)) u] (fun t => .bytes (By (walkTxt (due p q).1 (due p q).2)) t) := by
  unfold Gives
  k_fill
  intros
  rename_i hret
  refine wpAny_call ?_
  k_dflt cell_enter
  k_steps
  all_goals (refine' ret_of hret ?e1 ?e2 ?e3; (case e2 => k_asm); (case e3 => (first | k_asm | exact cb_drop (by assumption) (by kcj_all))); (case e1 => rfl))
end
theorem v_times (w : World) (mean : ExcName → Option Value) (mg mb : Str → Option Value) (news : List (Addr × Obj)) (o : Bool) (i j : Nat) (us vs : List Str) (t1 t2 : Tok) (hp : okN 30 (i, us)) (hq : okN 30 (j, vs)) :
   GivesV w mean mg mb 164 9 120 news [wv o (i, us) t1, wv o (j, vs) t2] o (fun k ws => (k, ws) = due (i, us) (j, vs) ∧ k ≤ i + j ∧ ws.length ≤ us.length + vs.length ∧ okL ws) := by
  have hd := due_all (p := (i, us)) (q := (j, vs)) hp.2.2 hq.2.2
  cases o
  · rw [wv_txt, wv_txt]
    intro dp un gd cn cs a ccd cl outer A₀ base h₀ L m s Q E k1 k2 k3 k4 k5 kK kd ku kR
    refine t_txt w mean mg mb news (i, us) (j, vs) t1 t2 hp hq dp un gd cn cs a ccd cl outer A₀ base h₀ L m s Q E k1 k2 k3 k4 k5 kK kd ku fun t h' tk' F N => ?_
    have h := kR t (due (i, us) (j, vs)).1 (due (i, us) (j, vs)).2 h' tk' ⟨rfl, hd⟩ F N
    rw [wv_txt] at h
    exact h
  · rw [wv_byt, wv_byt]
    intro dp un gd cn cs a ccd cl outer A₀ base h₀ L m s Q E k1 k2 k3 k4 k5 kK kd ku kR
    refine t_byt w mean mg mb news (i, us) (j, vs) t1 t2 hp hq dp un gd cn cs a ccd cl outer A₀ base h₀ L m s Q E k1 k2 k3 k4 k5 kK kd ku fun t h' tk' F N => ?_
    have h := kR t (due (i, us) (j, vs)).1 (due (i, us) (j, vs)).2 h' tk' ⟨rfl, hd⟩ F N
    rw [wv_byt] at h
    exact h
end

section
open PySem PySem.W PyProof.Rows
theorem cut_at {e' : Int} {j n : Nat} (he : e' = (j : Int)) (h : e' ≤ (n : Int)) : (n : Int) - e' = ((n - j : Nat) : Int) := by omega
theorem due_end1 {h₀ h' : Heap} {L D D1 D2 : Addr} {e : Int} {t : Tok} {ws : List Value} {k : Nat} {o : Obj} {news : List (Addr × Obj)} (N : News h₀ L h' ((D, tupO e t D1) :: (D1, W.listOf ws.toArray k) :: (D2, o) :: news)) :
    News h₀ L h' ((D, tupO e t D1) :: (D1, W.listOf ws.toArray k) :: news) := by
  refine cb_drop N fun p hp => ?_
  rcases List.mem_cons.mp hp with rfl | hp
  · exact .head _
  · rcases List.mem_cons.mp hp with rfl | hp
    · exact .tail _ (.head _)
    · exact .tail _ (.tail _ (.tail _ hp))
theorem due_end2 {h₀ h' : Heap} {L D l : Addr} {e : Int} {t : Tok} {ws : List Value} {k : Nat} {news : List (Addr × Obj)} (N : News h₀ L h' ((D, tupO e t l) :: news)) (hl : (l, W.listOf ws.toArray k) ∈ news) :
    News h₀ L h' ((D, tupO e t l) :: (l, W.listOf ws.toArray k) :: news) := by
  refine cb_drop N fun p hp => ?_
  rcases List.mem_cons.mp hp with rfl | hp
  · exact .head _
  · rcases List.mem_cons.mp hp with rfl | hp
    · exact .tail _ hl
    · exact .tail _ hp
section
local macro_rules | `(tactic| k_mem) => `(tactic| first | (with_reducible_and_instances exact List.Mem.head _) | (with_reducible_and_instances assumption) | (refine' List.Mem.tail _ ?_; k_mem))
local macro_rules | `(tactic| walk_at "subscriptTail") => `(tactic| (k_here; (with_reducible show wpAny _ _ (subscriptTail _ _ (Value.ref _) (Value.int _ _)) _ _ _); k_dflt (refine' item_tupleT ?k1 ?k2 ?k3 ?k4 ?k5 ?_; (case k1 => exact News.isTup (by k_asm) (by k_mem)); (case k2 => decide); (case k3 => decide); (case k4 => exact rfl); (case k5 => exact rfl))))
local macro_rules | `(tactic| walk_at "call builtin:len") => `(tactic| (k_here; (with_reducible show wpAny _ _ (call (Value.builtin "len") [Value.ref _]) _ _ _); k_dflt (refine' len_strs ?l ?s ?b ?_; (case l => first | exact listK (by k_asm) (by k_asm) (by assumption) | exact News.isList (by k_asm) (by k_mem)); (case s => assumption); (case b => omega)); intro _ _))
local macro_rules | `(tactic| walk_at "subscriptTail") => `(tactic| (k_here; (with_reducible show wpAny _ _ (subscriptTail _ (PySem.Expr.Slice none _ none _) (Value.ref _) (Value.ref _)) _ _ _); k_dflt (refine' slice_upto ?k1 ?k2 ?k3 ?k4 ?_ ?k5 ?k6; (case k1 => k_asm); (case k2 => k_asm); (case k3 => k_mem); (case k4 => exact cut_at (by assumption) (by assumption)); (case k5 => with_unfolding_all rfl); (case k6 => omega)); intro D' h' F' N' l1; (try k_lt l1); (try k_sweep)))
local macro_rules | `(tactic| walk_at "binaryOp Add ref ref") => `(tactic| (k_here; k_dflt (refine' add_two ?k1 ?k2 ?k3 ?k4 ?k5 ?_; (case k1 => k_asm); (case k2 => k_asm); (case k3 => exact News.isList (by k_asm) (by k_mem)); (case k4 => exact News.isList (by k_asm) (by k_mem)); (case k5 => (rw [List.length_take]; omega)); k_whole); intro D' h' F' N' l1; (try k_lt l1); (try k_sweep)))
theorem v_due (w : World) (mean : ExcName → Option Value) (mg mb : Str → Option Value) (news : List (Addr × Obj)) (T T' l l' : Addr) (e e' : Int) (t t' : Tok) (ws ws' : List Value) (k k' i j : Nat) (us vs : List Str) (hp : okN 30 (i, us)) (hq : okN 30 (j, vs)) (he : e = (i : Int)) (he' : e' = (j : Int)) (hs : StrsAre ws us) (hs' : StrsAre ws' vs)
  (hT : (T, tupO e t l) ∈ news) (hT' : (T', tupO e' t' l') ∈ news) (hl : (l, W.listOf ws.toArray k) ∈ news) (hl' : (l', W.listOf ws'.toArray k') ∈ news) :
  GivesW w mean mg mb 152 9 120 news [.ref T, .ref T'] (fun k ws => (k, ws) = due (i, us) (j, vs) ∧ k ≤ i + j ∧ ws.length ≤ us.length + vs.length ∧ okL ws) := by
  have hp1 : i ≤ 30 := hp.1
  have hp2 : us.length ≤ 30 := hp.2.1
  have hq1 : j ≤ 30 := hq.1
  have hq2 : vs.length ≤ 30 := hq.2.1
  have hsl := hs.length
  have hsl' := hs'.length
  unfold GivesW
  k_fill
  intros
  rename_i hret
  refine wpAny_call ?_
  k_dflt cell_enter
  k_steps
  · rename e' ≤ _ => hc
    have hd : due (i, us) (j, vs) = (i, us.take (us.length - j) ++ vs) := if_pos (show j ≤ us.length by omega)
    have ha := due_all (p := (i, us)) (q := (j, vs)) hp.2.2 hq.2.2
    rw [hd] at ha
    rename News _ _ _ _ => N9
    refine hret _ _ _ _ _ _ i (us.take (us.length - j) ++ vs) _ _ he (StrsAre.append' (StrsAre.take' hs _) hs') ⟨hd.symm, ha⟩ (by k_asm) (due_end1 N9)
  · rename ¬ e' ≤ _ => hc
    have hd : due (i, us) (j, vs) = (i + j - us.length, vs) := if_neg (show ¬ j ≤ us.length by omega)
    have ha := due_all (p := (i, us)) (q := (j, vs)) hp.2.2 hq.2.2
    rw [hd] at ha
    rename News _ _ _ _ => N9
    refine hret _ l' _ _ ws' k' (i + j - us.length) vs _ _ ?_ hs' ⟨hd.symm, ha⟩ (by k_asm) (due_end2 N9 hl')
    omega
end
end

section
open PySem PySem.W PyProof.Rows
def namesV : List Value := [.str (Str.ofString "a") 352, .str (Str.ofString "b") 353, .str (Str.ofString "ab") 354, .str (Str.ofString "a.b") 355]
def namesU : List Str := [Str.ofString "a", Str.ofString "b", Str.ofString "ab", Str.ofString "a.b"]
theorem names_K (w : World) (hr9 : PySem.Challenge.rw_ab6014_01.row.prog = PySem.Challenge.rw_ab6014_01.row.prog) :
    (hd.heap_39 w.params).lookup 130 = some { cls := .type "tuple", data := .seq namesV.toArray 0 } := by
  revert hr9
  k_fill
  intro _
  unfold namesV; k_is
theorem menu_item {prog : Program} {w : World} {A : Around} {E : Value → Shared → Prop} {s : Shared} {h₀ : Heap} {L : Addr} {m : Str → Option Value} {K : Frag} {value slice : PySem.Expr} {b : Int} {u : Tok} {Q : Value → Shared → Prop} (F : Fr h₀ L s.heap m) (X : K.In h₀) (hK : K.lookup 130 = some { cls := .type "tuple", data := .seq namesV.toArray 0 })
    (h : ∀ y t, okName y = true → Q (.str y t) s)
    (hs : subscripted slice false (.ref 130) (.int (b.fmod 4) u) = operate [.ref 130, .int (b.fmod 4) u] (getItem (.ref 130) (.int (b.fmod 4) u))) :
    wpAny (model prog w) A (subscriptTail value slice (.ref 130) (.int (b.fmod 4) u)) Q E s := by
  have h0 : 0 ≤ b.fmod 4 := Int.fmod_nonneg_of_pos b (by decide)
  have h1 : b.fmod 4 < 4 := Int.fmod_lt_of_pos b (by decide)
  have hc : b.fmod 4 = 0 ∨ b.fmod 4 = 1 ∨ b.fmod 4 = 2 ∨ b.fmod 4 = 3 := by omega
  generalize b.fmod 4 = k at *
  have ht : IsTup s.heap 130 namesV.toArray := ⟨_, F.keep _ _ (X _ _ hK), rfl, _, rfl⟩
  rcases hc with rfl | rfl | rfl | rfl
  · exact item_tupleT (j := 0) ht (by decide) (by decide) (by decide) rfl (h _ _ (by decide)) hs
  · exact item_tupleT (j := 1) ht (by decide) (by decide) (by decide) rfl (h _ _ (by decide)) hs
  · exact item_tupleT (j := 2) ht (by decide) (by decide) (by decide) rfl (h _ _ (by decide)) hs
  · exact item_tupleT (j := 3) ht (by decide) (by decide) (by decide) rfl (h _ _ (by decide)) hs
theorem okL_cons {y : Str} {r : List Str} (h : okName y = true) (hr : okL r) : okL (y :: r) := fun n hn => by
  rcases List.mem_cons.mp hn with rfl | hn
  · exact h
  · exact hr n hn
theorem el_end {h₀ h' : Heap} {L D l : Addr} {e : Int} {t : Tok} {X : Array Value} {k : Nat} {news : List (Addr × Obj)} (N : News h₀ L h' ((D, tupO e t l) :: (l, W.listOf X k) :: news)) : News h₀ L h' ((D, tupO e t l) :: (l, W.listOf X.toList.toArray k) :: news) := by
  rw [Array.toArray_toList]
  exact N
theorem unr_head {h₀ : Heap} {L I : Addr} {it : Obj} {rest : (Str → Option Value) → List (Addr × Obj) → Prop} {s₁ : Shared} {h' : Heap} {tk : Nat} {m' : Str → Option Value} {nx : List (Addr × Obj)} (F : Fr h₀ L h' m') (N : News h₀ L h' ((I, it) :: nx)) (off : AllLt I nx) (r : rest m' nx) :
    UnrEnd h₀ L s₁ I it rest { s₁ with heap := h', toks := tk } := UnrEnd.intro F N nx (fun _ h => h) (allLt_mem off) r
section
local macro_rules | `(tactic| walk_at "UnrEnd") => `(tactic| (k_dflt (refine' unr_head ?k1 ?k2 ?k3 ?_; (case k1 => k_asm); (case k2 => assumption); (case k3 => assumption))))
local macro_rules | `(tactic| walk_at "subscriptTail") => `(tactic| (k_here; (with_reducible show wpAny _ _ (subscriptTail _ _ (Value.ref 130) (Value.int _ _)) _ _ _); k_dflt (refine' menu_item ?k1 ?k2 ?k3 ?_ ?k5; (case k1 => k_asm); (case k2 => k_asm); (case k3 => exact names_K _ rfl); (case k5 => with_unfolding_all rfl)); intro y9 t9 hy9))
theorem v_element (w : World) (mean : ExcName → Option Value) (mg mb : Str → Option Value) (news : List (Addr × Obj)) (a b : Int) (ta tb : Tok) : GivesW w mean mg mb 145 9 120 news [.int a ta, .int b tb] (fun i us => i ≤ 2 ∧ us.length ≤ 3 ∧ okL us) := by
  unfold GivesW
  k_fill
  intros
  rename_i hret
  refine wpAny_call ?_
  k_dflt cell_enter
  k_with "call type:range" => k_rangeSizes
  k_steps
  all_goals
    (rename News _ _ _ _ => N9)
    (refine' hret _ _ _ _ _ _ (a.fmod 3).toNat _ _ _ ?he ?hs ⟨?p1, ?p2, ?p3⟩ ?hF (el_end N9))
    (case hs => first | exact .nil | exact .cons _ _ .nil | exact .cons _ _ (.cons _ _ .nil) | exact .cons _ _ (.cons _ _ (.cons _ _ .nil)))
    (case he => exact (Int.toNat_of_nonneg (Int.fmod_nonneg_of_pos a (by decide))).symm)
    (case p1 => (have h1 := Int.fmod_lt_of_pos a (b := 3) (by decide)); omega)
    (case p2 => simp only [List.length_cons, List.length_nil]; omega)
    (case p3 => repeat (first | exact okL_nil | refine okL_cons (by assumption) ?_))
    (case hF => k_asm)
end
end

theorem quiet2 : True := by
  w_top off
  k_with_none
  trivial

section
open PySem PySem.W PyProof.Rows
section
variable {prog : Program} {w : World} {A : Around} {E : Value → Shared → Prop} {s : Shared} {Q : Value → Shared → Prop}
theorem ne_same {o : Bool} {p q : Wk} {t u : Tok} (e : p = q) (h : Q (.bool false) s) : wpAny (model prog w) A (compareOp .NotEq (wv o p t) (wv o q u)) Q E s := by
  subst e
  unfold wv
  cases o
  · simp only [Bool.false_eq_true, if_false]
    refine ne_str ?_
    simpa using h
  · simp only [if_true]
    refine ne_bytes ?_
    simpa using h
theorem eq_idem {o : Bool} {a k : Nat} {us ws : List Str} {t u : Tok} (hD : (k, ws) = due (a, us) (a, us)) (hp : okN 60 (k, ws)) (hq : okN 60 (a, us)) (h : Q (.bool (decide (a = us.length))) s) :
    wpAny (model prog w) A (compareOp .Eq (wv o (k, ws) t) (wv o (a, us) u)) Q E s := by
  refine eq_wv hp hq ?_
  rw [hD, show decide (due (a, us) (a, us) = (a, us)) = decide (a = us.length) from decide_eq_decide.mpr (due_idem a us)]
  exact h
theorem eq_dot {o : Bool} {i k n : Nat} {x r ws : List Str} {t u : Tok} (hD : (k, ws) = due (i, x) (n, r)) (hp : okN 60 (k, ws)) (h : Q (.bool (decide (i = 0 ∧ r = [] ∧ n = x.length))) s) :
    wpAny (model prog w) A (compareOp .Eq (wv o (k, ws) t) (wv o (0, []) u)) Q E s := by
  refine eq_wv hp (okN_mk (Nat.zero_le _) (Nat.zero_le _) okL_nil) ?_
  rw [hD, show decide (due (i, x) (n, r) = (0, [])) = decide (i = 0 ∧ r = [] ∧ n = x.length) from decide_eq_decide.mpr (due_dot i n x r)]
  exact h
theorem eq_xzx {o : Bool} {i k n k2 : Nat} {x r ws ws2 : List Str} {t u : Tok} (hD : (k, ws) = due (i, x) (n, r)) (hD2 : (k2, ws2) = due (k, ws) (i, x)) (hp : okN 60 (k2, ws2)) (hq : okN 60 (i, x)) (h : Q (.bool (decide (n ≤ x.length ∧ x.length + r.length = i + n))) s) :
    wpAny (model prog w) A (compareOp .Eq (wv o (k2, ws2) t) (wv o (i, x) u)) Q E s := by
  refine eq_wv hp hq ?_
  rw [hD2, hD, show decide (due (due (i, x) (n, r)) (i, x) = (i, x)) = decide (n ≤ x.length ∧ x.length + r.length = i + n) from decide_eq_decide.mpr (due_xzx i n x r)]
  exact h
theorem eq_zxz {o : Bool} {i k n k2 : Nat} {x r ws ws2 : List Str} {t u : Tok} (hD : (k, ws) = due (i, x) (n, r)) (hD2 : (k2, ws2) = due (n, r) (k, ws)) (hf : decide (n ≤ x.length ∧ x.length + r.length = i + n) = true) (hp : okN 60 (k2, ws2)) (hq : okN 60 (n, r)) (h : Q (.bool (decide (n = x.length ∧ r.length = i))) s) :
    wpAny (model prog w) A (compareOp .Eq (wv o (k2, ws2) t) (wv o (n, r) u)) Q E s := by
  refine eq_wv hp hq ?_
  obtain ⟨h1, h2⟩ := of_decide_eq_true hf
  rw [hD2, hD, show decide (due (n, r) (due (i, x) (n, r)) = (n, r)) = decide (n = x.length ∧ r.length = i) from decide_eq_decide.mpr (due_zxz i n x r h1 h2)]
  exact h
end
end

section
open PySem PySem.W PyProof.Rows PySem.Calls PyProof.V PySem.Spec
def rowsV : List Value := [.ref 131, .ref 132, .ref 133, .ref 134, .ref 135, .ref 136, .ref 137]
def lensR : List Nat := [0, 1, 1, 2, 2, 2, 2]
def inc (u wl il rl : Nat) : Int := if u = wl ∧ rl = il then 1 else 0
def tot (u wl il : Nat) (l : List Nat) : Int := (l.map (inc u wl il)).sum
abbrev rowS : List Str := [Str.ofString "z", Str.ofString "product", Str.ofString "inverse"]
section
variable {prog : Program} {w : World} {A : Around} {E : Value → Shared → Prop} {s : Shared} {env : Env} {h₀ : Heap} {body : List Stmt} {Q : Flow → Shared → Prop} {K : Frag} {nt : Nat}
theorem rows_loop {m₀ : Str → Option Value} {news : List (Addr × Obj)} {H0 : Int} {t0 : Tok} (u wl il : Nat)
    (hh : A.handled = none) (hK : K.lookup 138 = some { cls := .type "tuple", data := .seq rowsV.toArray nt }) (hrows : ∀ (i : Nat) v, rowsV[i]? = some v → ∃ a ws us n, v = .ref a ∧ K.lookup a = some (W.listOf ws.toArray n) ∧ StrsAre ws us ∧ lensR[i]? = some us.length ∧ okL us)
    (X : K.In h₀) (F : Fr h₀ env.locals s.heap m₀) (N : News h₀ env.locals s.heap news) (hm : m₀ (Str.ofString "hits") = some (.int H0 t0)) (hu9 : ∃ tu, m₀ (Str.ofString "ups") = some (.int ((u : Nat) : Int) tu))
    (turn : ∀ (a : Addr) (ws : List Value) (us : List Str) (n : Nat) (hv : Int) (t : Tok) (M : Str → Option Value) h tk own, K.lookup a = some (W.listOf ws.toArray n) → StrsAre ws us → us.length ≤ 2 → okL us → OwnOff own (news.map (·.1)) →
      Fr h₀ env.locals h (fun y => if y = Str.ofString "row" then some (.ref a) else kstB (fun z => if rowS.contains z then M z else m₀ z) [(Str.ofString "hits", .int hv t)] y) → News h₀ env.locals h (news ++ own) →
      wpAny (model prog w) A (execs body env) (InvPostN h₀ env.locals (fun m' nx => nx = news ∧ (∃ t', m' (Str.ofString "hits") = some (.int (hv + inc u wl il us.length) t')) ∧ ∀ z, z ≠ Str.ofString "row" → z ≠ Str.ofString "hits" → rowS.contains z = false → m' z = m₀ z) own (news.map (·.1)) { s with heap := h, toks := tk } Q) E { s with heap := h, toks := tk })
    (done : ∀ (M : Str → Option Value) (t : Tok) h tk, Fr h₀ env.locals h (fun y => if y = Str.ofString "row" then M y else kstB (fun z => if rowS.contains z then M z else m₀ z) [(Str.ofString "hits", .int (H0 + tot u wl il lensR) t)] y) → News h₀ env.locals h news → Q .next { s with heap := h, toks := tk }) :
    wpAny (model prog w) A (pyIter (.ref 138)) (fun it s₂ => LoopAtV prog w A h₀ env (Str.ofString "row") body Q E it s₂) E s := by
  have hg := X _ _ hK
  have hL : 138 ≠ env.locals := by
    intro e
    have h1 := Heap.lt_size hg
    have h2 := F.above
    rw [← e] at h2
    exact absurd (Nat.lt_of_lt_of_le h1 h2) (Nat.lt_irrefl _)
  refine iter_tup (its := rowsV.toArray) (fun i m nx => nx = news ∧ (∃ t, m (Str.ofString "hits") = some (.int (H0 + tot u wl il (lensR.take i)) t)) ∧ ∀ z, z ≠ Str.ofString "row" → z ≠ Str.ofString "hits" → rowS.contains z = false → m z = m₀ z)
    hh ⟨_, F.keep _ _ hg, rfl, _, rfl⟩ hL ?_ F N ⟨rfl, ⟨t0, by rw [hm]; simp [tot]⟩, fun _ _ _ _ => rfl⟩ ?_ ?_
  · intro p hp e
    have h3 := (N p hp).2.2
    rw [e, hg] at h3
    cases h3
  · rintro i v m₁ news₁ h tk own hi hv _ hoff ⟨rfl, ⟨t, ht⟩, hz⟩ F₁ N₁
    obtain ⟨a, ws, us, n, rfl, hKa, hs, hl, ho⟩ := hrows i v (by simpa using hv)
    have hl2 : us.length ≤ 2 := by
      have := List.mem_of_getElem? hl
      simp only [lensR, List.mem_cons, List.not_mem_nil, or_false] at this
      omega
    have F₂ := kst_fr (x := Str.ofString "row") (ps := [(Str.ofString "hits", Value.int (H0 + tot u wl il (lensR.take i)) t)]) (stored := rowS) (m₀ := m₀) (m₁ := m₁) (v := .ref a) (fun p hp => by rw [List.mem_singleton.mp hp]; exact ht) (fun z h1 h2 h3 => hz z h1 (h2 _ (.head _)) h3) F₁
    refine wpAny_mono (turn a ws us n _ t m₁ h tk own hKa hs hl2 ho hoff F₂ N₁) (fun f s₂ p => ?_) fun _ _ e => e
    have fin : InvEndN h₀ env.locals (fun m' nx => nx = news₁ ∧ (∃ t', m' (Str.ofString "hits") = some (.int ((H0 + tot u wl il (lensR.take i)) + inc u wl il us.length) t')) ∧ ∀ z, z ≠ Str.ofString "row" → z ≠ Str.ofString "hits" → rowS.contains z = false → m' z = m₀ z) own (news₁.map (·.1)) { s with heap := h, toks := tk } s₂ →
        InvEndN h₀ env.locals (fun m' nx => nx = news₁ ∧ (∃ t', m' (Str.ofString "hits") = some (.int (H0 + tot u wl il (lensR.take (i + 1))) t')) ∧ ∀ z, z ≠ Str.ofString "row" → z ≠ Str.ofString "hits" → rowS.contains z = false → m' z = m₀ z) own (news₁.map (·.1)) { s with heap := h, toks := tk } s₂ := by
      rintro ⟨h', tk', m', news', nx, e, F', N', hn, ho, ha, hm1, ⟨t', hm2⟩, hm3⟩
      refine ⟨h', tk', m', news', nx, e, F', N', hn, ho, ha, hm1, ⟨t', ?_⟩, hm3⟩
      rw [hm2, List.take_add_one, hl]
      simp [tot, Int.add_assoc]
    cases f with
    | ret v => exact p
    | brk => exact p
    | next => exact fin p
    | cont => exact fin p
  · rintro m₁ news₁ h tk ⟨rfl, ⟨t, ht⟩, hz⟩ F₁ N₁
    have e : lensR.take rowsV.toArray.size = lensR := rfl
    rw [e] at ht
    exact done m₁ t h tk (kst_frOut (x := Str.ofString "row") (ps := [(Str.ofString "hits", Value.int (H0 + tot u wl il lensR) t)]) (stored := rowS) (m₀ := m₀) (m₁ := m₁) (fun p hp => by rw [List.mem_singleton.mp hp]; exact ht) (fun z h1 h2 h3 => hz z h1 (h2 _ (.head _)) h3) F₁) N₁
end
theorem listK {h₀ h : Heap} {L a : Addr} {m : Str → Option Value} {K : Frag} {ws : List Value} {n : Nat} (F : Fr h₀ L h m) (X : K.In h₀) (hK : K.lookup a = some (W.listOf ws.toArray n)) : h.IsList a ws.toArray := ⟨_, F.keep _ _ (X _ _ hK), rfl, _, rfl⟩
theorem tot_all (w i : Nat) (hw : w ≤ 3) (hi : i ≤ 2) : 0 + tot 0 w i lensR + tot 1 w i lensR + tot 2 w i lensR + tot 3 w i lensR = 2 ^ i := by
  have h1 : w = 0 ∨ w = 1 ∨ w = 2 ∨ w = 3 := by omega
  have h2 : i = 0 ∨ i = 1 ∨ i = 2 := by omega
  rcases h1 with rfl | rfl | rfl | rfl <;> rcases h2 with rfl | rfl | rfl <;> decide
theorem rows_K (w : World) (hr9 : PySem.Challenge.rw_ab6014_01.row.prog = PySem.Challenge.rw_ab6014_01.row.prog) :
    (hd.heap_39 w.params).lookup 138 = some { cls := .type "tuple", data := .seq rowsV.toArray 0 } ∧ ∀ (i : Nat) v, rowsV[i]? = some v → ∃ a ws us n, v = .ref a ∧ (hd.heap_39 w.params).lookup a = some (W.listOf ws.toArray n) ∧ StrsAre ws us ∧ lensR[i]? = some us.length ∧ okL us := by
  revert hr9
  k_fill
  intro _
  refine ⟨?_, ?_⟩
  · unfold rowsV; k_is
  · intro i v hv
    have ha : okName (Str.ofString "a") = true := by decide
    have hb : okName (Str.ofString "b") = true := by decide
    match i, hv with
    | 0, hv => cases hv; exact ⟨131, [], [], 0, rfl, by k_is, .nil, rfl, okL_nil⟩
    | 1, hv => cases hv; exact ⟨132, [_], [Str.ofString "a"], 0, rfl, by k_is, .cons _ 357 .nil, rfl, by unfold okL; decide⟩
    | 2, hv => cases hv; exact ⟨133, [_], [Str.ofString "b"], 0, rfl, by k_is, .cons _ 358 .nil, rfl, by unfold okL; decide⟩
    | 3, hv => cases hv; exact ⟨134, [_, _], [Str.ofString "a", Str.ofString "a"], 0, rfl, by k_is, .cons _ 359 (.cons _ 360 .nil), rfl, by unfold okL; decide⟩
    | 4, hv => cases hv; exact ⟨135, [_, _], [Str.ofString "a", Str.ofString "b"], 0, rfl, by k_is, .cons _ 361 (.cons _ 362 .nil), rfl, by unfold okL; decide⟩
    | 5, hv => cases hv; exact ⟨136, [_, _], [Str.ofString "b", Str.ofString "a"], 0, rfl, by k_is, .cons _ 363 (.cons _ 364 .nil), rfl, by unfold okL; decide⟩
    | 6, hv => cases hv; exact ⟨137, [_, _], [Str.ofString "b", Str.ofString "b"], 0, rfl, by k_is, .cons _ 365 (.cons _ 366 .nil), rfl, by unfold okL; decide⟩
    | n + 7, hv => simp [rowsV] at hv
end

section
open PySem PySem.W PyProof.Rows
def lawBody : List Stmt := match PySem.Challenge.pw_ab6014_01.main.body.getLast? with
  | some (.FunctionDef _ _ b _ _ _ _ _ _ _) => b
  | _ => []
def lawScope : Scope := match PySem.Challenge.pw_ab6014_01.main.body.getLast? with
  | some (.FunctionDef _ _ _ _ _ _ sc _ _ _) => sc
  | _ => default
def rowsBody : List Stmt := match lawBody.reverse with
  | _ :: (.For _ _ (.For _ _ b _ _ :: _) _ _) :: _ => b
  | _ => []
end

section
open PySem PySem.W PyProof.Rows
local macro_rules | `(tactic| k_mem) => `(tactic| first | (with_reducible_and_instances exact List.Mem.head _) | (with_reducible_and_instances assumption) | (refine' List.Mem.tail _ ?_; k_mem))
local macro_rules | `(tactic| walk_at "subscriptTail") => `(tactic| (k_here; (with_reducible show wpAny _ _ (subscriptTail _ (PySem.Expr.Slice none _ none _) (Value.ref _) (Value.ref _)) _ _ _); (rename IntsAre _ (_ ++ _) => hI9); (obtain ⟨a9, b9, c9, d9, ta9, tb9, tc9, td9, rest9, e9⟩ := four_of hI9); subst e9; k_dflt (refine' slice_upto (k := 4) ?k1 ?k2 ?k3 ?k4 ?_ ?k5 ?k6; (case k1 => k_asm); (case k2 => k_asm); (case k3 => k_mem); (case k4 => rfl); (case k5 => with_unfolding_all rfl); (case k6 => (have hL9 := hI9.length; rw [List.length_append] at hL9; simp only [List.length_cons, List.length_nil] at hL9 ⊢; omega))); intro D' h' F' N' l1; (try k_lt l1); (try k_sweep); (try simp only [List.take_succ_cons, List.take_zero] at N')))
theorem he_len {ws : List Value} {us : List Str} (h : StrsAre ws us) : ((ws.length : Nat) : Int) = ((us.length : Nat) : Int) := by rw [h.length]
local macro_rules | `(tactic| ktr_call $e:term $_x:term) => `(tactic| (k_dflt (refine' $e ?k1 ?k2 ?k3 ?k4 ?k5 ?kK ?kd ?ku ?_; (case k1 => k_asm); (case k2 => k_asm); (case k3 => k_asm); (case k4 => k_asm); (case k5 => k_asm); (case kK => first | exact rfl | assumption); (case kd => ktr_room); (case ku => ktr_units))))
set_option hygiene false in
local macro_rules | `(tactic| walk_at "call ref") => `(tactic| (k_here; (with_reducible show wpAny _ _ (call (Value.ref 145) [Value.int _ _, Value.int _ _]) _ _ _); ktr_call (GivesW.use (v_element _ _ _ _ _ _ _ _ _)) 0; (first | ((have hT9 := hox; clear hT9); intro Ty ly ey ty wsy ky iy uy hy tky hey hsy hPy Fy Ny; obtain ⟨hiy, huy, hoy⟩ := hPy; (have hly := StrsAre.length hsy)) | (intro Tx lx ex tx wsx kx ix ux hx tkx hex hsx hPx Fx Nx; obtain ⟨hix, hux, hox⟩ := hPx; (have hlx := StrsAre.length hsx))); (try dsimp only); (try k_fold)))
local macro_rules | `(tactic| walk_at "call ref") => `(tactic| (k_here; (with_reducible show wpAny _ _ (call (Value.ref 152) [Value.ref _, Value.ref _]) _ _ _); k_dflt (refine' GivesW.use (v_due _ _ _ _ _ _ _ _ _ _ _ _ _ _ _ _ _ _ _ _ _ ?hp ?hq ?he ?he' ?hs ?hs' ?hT ?hT' ?hl ?hl') ?k1 ?k2 ?k3 ?k4 ?k5 ?kK ?kd ?ku ?_; (case k1 => k_asm); (case k2 => k_asm); (case k3 => k_asm); (case k4 => k_asm); (case k5 => k_asm); (case kK => first | exact rfl | assumption); (case hT => k_mem); (case hT' => k_mem); (case hl => k_mem); (case hl' => k_mem); (case he => assumption); (case he' => assumption); (case hs => assumption); (case hs' => assumption); (case hp => exact okN_mk (by omega) (by omega) (by assumption)); (case hq => exact okN_mk (by omega) (by omega) (by assumption)); (case kd => ktr_room); (case ku => ktr_units)); (intro T9 l9 e9 t9 ws9 k9 i9 us9 h9 tk9 he9 hs9 hP9 F9 N9; obtain ⟨hD9, hi9, hu9, ho9⟩ := hP9; (have hl9 := StrsAre.length hs9); (try dsimp only); (try k_fold))))
local macro_rules | `(tactic| walk_at "call ref") => `(tactic| (k_here; (with_reducible show wpAny _ _ (call (Value.ref 157) [Value.ref _, Value.bool _]) _ _ _); k_dflt (refine' Gives.use (v_spell _ _ _ _ _ _ _ _ _ _ _ _ _ _ ?he ?hs ?hp ?hT ?hl) ?k1 ?k2 ?k3 ?k4 ?k5 ?kK ?kd ?ku ?_; (case k1 => k_asm); (case k2 => k_asm); (case k3 => k_asm); (case k4 => k_asm); (case k5 => k_asm); (case kK => first | exact rfl | assumption); (case hT => k_mem); (case hl => first | exact .inr (by assumption) | exact .inl (by k_mem) | exact .inr (by k_is)); (case hs => first | assumption | exact sa_rep _ _ _ | exact .nil); (case he => first | assumption | exact he_len (by assumption) | exact (rfl : (0 : Int) = ((0 : Nat) : Int)) | exact (rfl : (1 : Int) = ((1 : Nat) : Int)) | exact (rfl : (2 : Int) = ((2 : Nat) : Int)) | exact (rfl : (3 : Int) = ((3 : Nat) : Int)) | exact rfl); (case hp => exact okN_mk (by first | omega | decide) (by first | omega | (rw [List.length_replicate]; omega) | decide) (by first | assumption | exact okL_nil | exact okL_rep _ (by decide))); (case kd => ktr_room); (case ku => ktr_units)); (intro t9 h9 tk9 F9 N9; (try dsimp only); (try k_fold))))
local macro_rules | `(tactic| walk_at "call ref") => `(tactic| (k_here; (with_reducible show wpAny _ _ (call (Value.ref 164) [wv _ _ _, wv _ _ _]) _ _ _); k_dflt (refine' GivesV.use (v_times _ _ _ _ _ _ _ _ _ _ _ _ ?hp ?hq) ?k1 ?k2 ?k3 ?k4 ?k5 ?kK ?kd ?ku ?_; (case k1 => k_asm); (case k2 => k_asm); (case k3 => k_asm); (case k4 => k_asm); (case k5 => k_asm); (case kK => first | exact rfl | assumption); (case hp => exact okN_mk (by first | omega | decide) (by first | omega | (rw [List.length_replicate]; omega) | decide) (by first | assumption | exact okL_nil | exact okL_rep _ (by decide))); (case hq => exact okN_mk (by first | omega | decide) (by first | omega | (rw [List.length_replicate]; omega) | decide) (by first | assumption | exact okL_nil | exact okL_rep _ (by decide))); (case kd => ktr_room); (case ku => ktr_units)); (intro t9 i9 us9 h9 tk9 hP9 F9 N9; obtain ⟨hD9, hi9, hu9, ho9⟩ := hP9; (try (have hE9 := hD9.trans (due_len _ _ _ _ (by first | rfl | exact List.length_replicate)); cases hE9)); (try dsimp only); (try k_fold))))
local macro_rules | `(tactic| walk_at "compareOp NotEq") => `(tactic| (k_here; (with_reducible show wpAny _ _ (compareOp CmpOp.NotEq (wv _ _ _) (wv _ _ _)) _ _ _); k_dflt (refine' ne_same ?e ?_; (case e => first | rfl | exact Eq.trans (by assumption) (Eq.symm (by assumption))))))
local macro_rules | `(tactic| walk_at "compareOp Eq") => `(tactic| (k_here; (with_reducible show wpAny _ _ (compareOp CmpOp.Eq (wv _ _ _) (wv _ _ _)) _ _ _); k_dflt (refine' eq_idem ?d ?p ?q ?_; (case d => assumption); (case p => exact okN_mk (by first | omega | decide) (by first | omega | (rw [List.length_replicate]; omega) | decide) (by first | assumption | exact okL_nil | exact okL_rep _ (by decide))); (case q => exact okN_mk (by first | omega | decide) (by first | omega | (rw [List.length_replicate]; omega) | decide) (by first | assumption | exact okL_nil | exact okL_rep _ (by decide))))))
theorem ne_bool_same {prog : Program} {w : World} {A : Around} {E : Value → Shared → Prop} {s : Shared} {Q : Value → Shared → Prop} {a b : Bool} (e : a = b) (h : Q (.bool false) s) : wpAny (model prog w) A (compareOp .NotEq (.bool a) (.bool b)) Q E s := by
  subst e
  refine ne_bool ?_
  simpa using h
set_option hygiene false in
local macro_rules | `(tactic| walk_at "compareOp NotEq bool bool") => `(tactic| (k_here; k_dflt (refine' ne_bool_same ?e ?_; (case e => first | (rw [Bool.eq_iff_iff]; simp only [decide_eq_true_eq, beq_iff_eq]; omega) | (rw [Bool.eq_iff_iff]; simp only [decide_eq_true_eq, beq_iff_eq]; by_cases hz : usr = [] <;> simp only [hz, true_and, false_and, and_false, and_true, iff_false, false_iff, not_false_eq_true] <;> first | done | omega | contradiction)))))
local macro_rules | `(tactic| walk_at "call builtin:len") => `(tactic| (k_here; (with_reducible show wpAny _ _ (call (Value.builtin "len") [Value.ref _]) _ _ _); k_dflt (refine' len_strs ?l ?s ?b ?_; (case l => first | exact listK (by k_asm) (by k_asm) (by assumption) | exact News.isList (by k_asm) (by k_mem)); (case s => assumption); (case b => omega)); intro _ _))
local macro_rules | `(tactic| walk_at "subscriptTail Name Constant ref int") => `(tactic| (k_here; (with_reducible show wpAny _ _ (subscriptTail _ _ (Value.ref _) (Value.int _ _)) _ _ _); k_dflt (refine' item_tupleT ?k1 ?k2 ?k3 ?k4 ?k5 ?_; (case k1 => exact News.isTup (by k_asm) (by k_mem)); (case k2 => decide); (case k3 => decide); (case k4 => exact rfl); (case k5 => exact rfl))))
local macro_rules | `(tactic| walk_at "binaryOp Mult ref int") => `(tactic| (k_here; k_dflt (refine' mul_oneE ?k1 ?k2 ?k3 ?k4 ?k5 ?_; (case k1 => k_asm); (case k2 => k_asm); (case k3 => k_mem); (case k4 => assumption); (case k5 => omega); k_whole); intro D' h' F' N' l1; (try k_lt l1); (try k_sweep)))
local macro_rules | `(tactic| walk_at "compareOp Eq") => `(tactic| (k_here; (with_reducible show wpAny _ _ (compareOp CmpOp.Eq (wv _ _ _) (wv _ _ _)) _ _ _); k_dflt (refine' eq_zxz ?d ?d2 ?f ?p ?q ?_; (case d2 => assumption); (case d => assumption); (case f => first | assumption | exact decide_eq_true (by assumption)); (case p => exact okN_mk (by first | omega | decide) (by first | omega | (rw [List.length_replicate]; omega) | decide) (by first | assumption | exact okL_nil | exact okL_rep _ (by decide))); (case q => exact okN_mk (by first | omega | decide) (by first | omega | (rw [List.length_replicate]; omega) | decide) (by first | assumption | exact okL_nil | exact okL_rep _ (by decide))))))
local macro_rules | `(tactic| walk_at "compareOp Eq") => `(tactic| (k_here; (with_reducible show wpAny _ _ (compareOp CmpOp.Eq (wv _ _ _) (wv _ _ _)) _ _ _); k_dflt (refine' eq_xzx ?d ?d2 ?p ?q ?_; (case d2 => assumption); (case d => assumption); (case p => exact okN_mk (by first | omega | decide) (by first | omega | (rw [List.length_replicate]; omega) | decide) (by first | assumption | exact okL_nil | exact okL_rep _ (by decide))); (case q => exact okN_mk (by first | omega | decide) (by first | omega | (rw [List.length_replicate]; omega) | decide) (by first | assumption | exact okL_nil | exact okL_rep _ (by decide))))))
local macro_rules | `(tactic| walk_at "compareOp Eq") => `(tactic| (k_here; (with_reducible show wpAny _ _ (compareOp CmpOp.Eq (wv _ _ _) (wv _ (0, []) _)) _ _ _); k_dflt (refine' eq_dot ?d ?p ?_; (case d => assumption); (case p => exact okN_mk (by first | omega | decide) (by first | omega | (rw [List.length_replicate]; omega) | decide) (by first | assumption | exact okL_nil | exact okL_rep _ (by decide))))))
local macro_rules | `(tactic| walk_at "compareOp Eq ref ref") => `(tactic| (k_here; (with_reducible show wpAny _ _ (compareOp CmpOp.Eq (Value.ref _) (Value.ref _)) _ _ _); k_dflt (refine' eq_nil ?l ?s ?o ?b ?u ?_; (case l => exact listK (by k_asm) (by k_asm) (by assumption)); (case s => assumption); (case o => assumption); (case b => exact News.isList (by k_asm) (by k_mem)); (case u => ktr_units))))
theorem chain8 {m : Str → Option Value} {a lx : Addr} {hv ei : Int} {u : Nat} {t ti tu tb td : Tok} {o : Bool} {p : Wk}
    (h1 : m (Str.ofString "row") = some (.ref a)) (h2 : m (Str.ofString "hits") = some (.int hv t)) (h3 : m (Str.ofString "octets") = some (.bool o)) (h4 : m (Str.ofString "big_x") = some (wv o p tb))
    (h5 : m (Str.ofString "dot") = some (wv o (0, []) td)) (h6 : m (Str.ofString "w") = some (.ref lx)) (h7 : m (Str.ofString "i") = some (.int ei ti)) (h8 : m (Str.ofString "ups") = some (.int ((u : Nat) : Int) tu)) :
    (fun y => if y = Str.ofString "row" then some (.ref a) else if y = Str.ofString "hits" then some (.int hv t) else if y = Str.ofString "octets" then some (.bool o) else if y = Str.ofString "big_x" then some (wv o p tb)
      else if y = Str.ofString "dot" then some (wv o (0, []) td) else if y = Str.ofString "w" then some (.ref lx) else if y = Str.ofString "i" then some (.int ei ti) else if y = Str.ofString "ups" then some (.int ((u : Nat) : Int) tu) else m y) = m := by
  funext y
  repeat (split; · (rename_i e; rw [e]; symm; assumption))
  rfl
theorem rows_turn (w : World) (mean : ExcName → Option Value) (mg mb : Str → Option Value) {L af : Addr} {ccd : Value} {h₀ : Heap} {m₀ : Str → Option Value} {news : List (Addr × Obj)} {Q : Flow → Shared → Prop} {E : Value → Shared → Prop} {s : Shared}
    {lx : Addr} {ei : Int} {u ix kx : Nat} {ti tu tb td : Tok} {o : Bool} {ux : List Str} {wsx : List Value}
    (B : Below callerA h₀ [] h₀) (X : (hd.heap_39 w.params).In h₀) (T : Top hd.view_39 (looseW hd.view_39 [Str.ofString "_law_ROWS"]) mean mg mb h₀)
    (hei : ei = (ix : Int)) (hix : ix ≤ 2) (hsx : StrsAre wsx ux) (hux : ux.length ≤ 3) (hox : okL ux) (hlx0 : (lx, W.listOf wsx.toArray kx) ∈ news) (hu : u ≤ 3)
    (h3 : m₀ (Str.ofString "octets") = some (.bool o)) (h4 : m₀ (Str.ofString "big_x") = some (wv o (ix, ux) tb))
    (h5 : m₀ (Str.ofString "dot") = some (wv o (0, []) td)) (h6 : m₀ (Str.ofString "w") = some (.ref lx)) (h7 : m₀ (Str.ofString "i") = some (.int ei ti)) (h8 : m₀ (Str.ofString "ups") = some (.int ((u : Nat) : Int) tu)) :
    ∀ (a : Addr) (ws : List Value) (us : List Str) (n : Nat) (hv : Int) (t : Tok) (M : Str → Option Value) h tk own, (hd.heap_39 w.params).lookup a = some (W.listOf ws.toArray n) → StrsAre ws us → us.length ≤ 2 → okL us → OwnOff own (news.map (·.1)) →
      Fr h₀ (envOf (Str.ofString "law") lawScope L af ccd).locals h (fun y => if y = Str.ofString "row" then some (.ref a) else kstB (fun z => if rowS.contains z then M z else m₀ z) [(Str.ofString "hits", .int hv t)] y) → News h₀ (envOf (Str.ofString "law") lawScope L af ccd).locals h (news ++ own) →
      wpAny (model PySem.Challenge.rw_ab6014_01.row.prog w) (callerA.deeper (envOf (Str.ofString "law") lawScope L af ccd)) (execs rowsBody (envOf (Str.ofString "law") lawScope L af ccd)) (InvPostN h₀ (envOf (Str.ofString "law") lawScope L af ccd).locals (fun m' nx => nx = news ∧ (∃ t', m' (Str.ofString "hits") = some (.int (hv + inc u ux.length ix us.length) t')) ∧ ∀ z, z ≠ Str.ofString "row" → z ≠ Str.ofString "hits" → rowS.contains z = false → m' z = m₀ z) own (news.map (·.1)) { s with heap := h, toks := tk } Q) E { s with heap := h, toks := tk } := by
  intro ar wsr usr nr hvr tr Mr hr tkr ownr hKr hsr hlr hor hoffr Fr9 Nr9
  have hllr := hsr.length
  have hlx := hsx.length
  obtain ⟨m, hm⟩ : ∃ m : Str → Option Value, m = (fun y => if y = Str.ofString "row" then some (.ref ar) else kstB (fun z => if rowS.contains z then Mr z else m₀ z) [(Str.ofString "hits", .int hvr tr)] y) := ⟨_, rfl⟩
  rw [← hm] at Fr9
  have hmz : ∀ z, z ≠ Str.ofString "row" → z ≠ Str.ofString "hits" → rowS.contains z = false → m z = m₀ z := by
    intro z h1 h2 h3
    rw [hm]
    simp only [kstB, h1, h2, h3, if_false]
    rfl
  have e := chain8 (m := m) (p := (ix, ux)) (by rw [hm]; rfl) (by rw [hm]; rfl) ((hmz _ (by decide) (by decide) (by decide)).trans h3) ((hmz _ (by decide) (by decide) (by decide)).trans h4) ((hmz _ (by decide) (by decide) (by decide)).trans h5) ((hmz _ (by decide) (by decide) (by decide)).trans h6) ((hmz _ (by decide) (by decide) (by decide)).trans h7) ((hmz _ (by decide) (by decide) (by decide)).trans h8)
  rw [← e] at Fr9
  have hen : ∀ p ∈ news, p ∈ news ++ ownr := fun p hp => List.mem_append.mpr (.inl hp)
  have heo : ∀ p ∈ ownr, p ∈ news ++ ownr := fun p hp => List.mem_append.mpr (.inr hp)
  have hlx9 := hen _ hlx0
  revert X
  k_fill
  intro X
  clear hm h3 h4 h5 h6 h7 h8 hoffr
  generalize news ++ ownr = nw at *
  conv in rowsBody => whnf
  revert Fr9 Nr9
  conv in (occs := *) lawScope => all_goals whnf
  intro Fr9 Nr9
  k_steps
  all_goals (refine' InvEndN.intro (nx := news) (by k_asm) (by k_asm) ⟨rfl, ⟨_, _⟩, _⟩ rfl _ _)
  all_goals first
    | (have hinc : inc u ux.length ix usr.length = 1 := if_pos (by first | assumption | omega)
       rw [hinc]; exact rfl)
    | (have hinc : inc u ux.length ix usr.length = 0 := if_neg (by first | assumption | omega)
       rw [hinc, Int.add_zero]; exact rfl)
    | (intro p hp; (repeat (first | exact hen p hp | exact heo p hp | refine .tail _ ?_)); done)
    | (intro z h1 h2 h3
       have h4 : z ≠ Str.ofString "z" ∧ z ≠ Str.ofString "product" ∧ z ≠ Str.ofString "inverse" := by
         refine ⟨?_, ?_, ?_⟩ <;> (rintro rfl; exact absurd h3 (by decide))
       have h5 := congrFun e z
       simp only [h1, h2, if_false] at h5
       simp only [h1, h2, h4.1, h4.2.1, h4.2.2, if_false]
       exact h5.trans (hmz z h1 h2 h3))
    | skip
end

section
open PySem PySem.W PyProof.Rows
theorem chain6 {m : Str → Option Value} {lx : Addr} {hv ei : Int} {t ti tb td : Tok} {o : Bool} {p : Wk}
    (h2 : m (Str.ofString "hits") = some (.int hv t)) (h3 : m (Str.ofString "octets") = some (.bool o)) (h4 : m (Str.ofString "big_x") = some (wv o p tb))
    (h5 : m (Str.ofString "dot") = some (wv o (0, []) td)) (h6 : m (Str.ofString "w") = some (.ref lx)) (h7 : m (Str.ofString "i") = some (.int ei ti)) :
    (fun y => if y = Str.ofString "hits" then some (.int hv t) else if y = Str.ofString "octets" then some (.bool o) else if y = Str.ofString "big_x" then some (wv o p tb)
      else if y = Str.ofString "dot" then some (wv o (0, []) td) else if y = Str.ofString "w" then some (.ref lx) else if y = Str.ofString "i" then some (.int ei ti) else m y) = m := by
  funext y
  repeat (split; · (rename_i e; rw [e]; symm; assumption))
  rfl
theorem rows_all {w : World} {mean : ExcName → Option Value} {mg mb : Str → Option Value} {L af : Addr} {ccd : Value} {h₀ : Heap} {m₀ : Str → Option Value} {news : List (Addr × Obj)} {Q : Flow → Shared → Prop} {E : Value → Shared → Prop} {s : Shared}
    {lx : Addr} {ei eu H0 : Int} {u ix kx : Nat} {t0 ti tu tb td : Tok} {o : Bool} {ux : List Str} {wsx : List Value}
    (B : Below callerA h₀ [] h₀) (X : (hd.heap_39 w.params).In h₀) (T : Top hd.view_39 (looseW hd.view_39 [Str.ofString "_law_ROWS"]) mean mg mb h₀)
    (F : Fr h₀ (envOf (Str.ofString "law") lawScope L af ccd).locals s.heap m₀) (N : News h₀ (envOf (Str.ofString "law") lawScope L af ccd).locals s.heap news)
    (hei : ei = (ix : Int)) (hix : ix ≤ 2) (hsx : StrsAre wsx ux) (hux : ux.length ≤ 3) (hox : okL ux) (hlx0 : (lx, W.listOf wsx.toArray kx) ∈ news)
    (h2 : m₀ (Str.ofString "hits") = some (.int H0 t0)) (h3 : m₀ (Str.ofString "octets") = some (.bool o)) (h4 : m₀ (Str.ofString "big_x") = some (wv o (ix, ux) tb))
    (h5 : m₀ (Str.ofString "dot") = some (wv o (0, []) td)) (h6 : m₀ (Str.ofString "w") = some (.ref lx)) (h7 : m₀ (Str.ofString "i") = some (.int ei ti)) (h8 : m₀ (Str.ofString "ups") = some (.int eu tu)) (heu : eu = ((u : Nat) : Int)) (hu : u ≤ 3)
    (done : ∀ (M : Str → Option Value) (t : Tok) h tk, Fr h₀ (envOf (Str.ofString "law") lawScope L af ccd).locals h (fun y => if y = Str.ofString "hits" then some (.int (H0 + tot u ux.length ix lensR) t) else if y = Str.ofString "octets" then some (.bool o) else if y = Str.ofString "big_x" then some (wv o (ix, ux) tb)
      else if y = Str.ofString "dot" then some (wv o (0, []) td) else if y = Str.ofString "w" then some (.ref lx) else if y = Str.ofString "i" then some (.int ei ti) else M y) → News h₀ (envOf (Str.ofString "law") lawScope L af ccd).locals h news → Q .next { s with heap := h, toks := tk }) :
    wpAny (model PySem.Challenge.rw_ab6014_01.row.prog w) (callerA.deeper (envOf (Str.ofString "law") lawScope L af ccd)) (pyIter (.ref 138)) (fun it s₂ => LoopAtV PySem.Challenge.rw_ab6014_01.row.prog w (callerA.deeper (envOf (Str.ofString "law") lawScope L af ccd)) h₀ (envOf (Str.ofString "law") lawScope L af ccd) (Str.ofString "row") rowsBody Q E it s₂) E s := by
  subst heu
  refine rows_loop u ux.length ix rfl (rows_K w rfl).1 (rows_K w rfl).2 X F N h2 ⟨_, h8⟩ (rows_turn w mean mg mb B X T hei hix hsx hux hox hlx0 hu h3 h4 h5 h6 h7 h8) fun M t h tk F' N' => ?_
  obtain ⟨m, hm⟩ : ∃ m : Str → Option Value, m = (fun y => if y = Str.ofString "row" then M y else kstB (fun z => if rowS.contains z then M z else m₀ z) [(Str.ofString "hits", .int (H0 + tot u ux.length ix lensR) t)] y) := ⟨_, rfl⟩
  rw [← hm] at F'
  have hmz : ∀ z, z ≠ Str.ofString "row" → z ≠ Str.ofString "hits" → rowS.contains z = false → m z = m₀ z := by
    intro z h1 h2 h3
    rw [hm]
    simp only [kstB, h1, h2, h3, if_false]
    rfl
  have e := chain6 (m := m) (hv := H0 + tot u ux.length ix lensR) (t := t) (p := (ix, ux)) (by rw [hm]; rfl) ((hmz _ (by decide) (by decide) (by decide)).trans h3) ((hmz _ (by decide) (by decide) (by decide)).trans h4) ((hmz _ (by decide) (by decide) (by decide)).trans h5) ((hmz _ (by decide) (by decide) (by decide)).trans h6) ((hmz _ (by decide) (by decide) (by decide)).trans h7)
  rw [← e] at F'
  exact done m t h tk F' N'
theorem heu_lit (k : Nat) {e : Int} (h : e = (k : Int)) : e = (k : Int) := h
end

section
open PySem PySem.W PyProof.Rows
local macro_rules | `(tactic| k_mem) => `(tactic| ((repeat (first | (with_reducible_and_instances exact List.Mem.head _) | refine' List.Mem.tail _ ?_)); first | done | (with_reducible_and_instances assumption)))
local macro_rules | `(tactic| walk_at "subscriptTail") => `(tactic| (k_here; (with_reducible show wpAny _ _ (subscriptTail _ (PySem.Expr.Slice none _ none _) (Value.ref _) (Value.ref _)) _ _ _); (rename IntsAre _ (_ ++ _) => hI9); (obtain ⟨a9, b9, c9, d9, ta9, tb9, tc9, td9, rest9, e9⟩ := four_of hI9); subst e9; k_dflt (refine' slice_upto (k := 4) ?k1 ?k2 ?k3 ?k4 ?_ ?k5 ?k6; (case k1 => k_asm); (case k2 => k_asm); (case k3 => k_mem); (case k4 => rfl); (case k5 => with_unfolding_all rfl); (case k6 => (have hL9 := hI9.length; rw [List.length_append] at hL9; simp only [List.length_cons, List.length_nil] at hL9 ⊢; omega))); intro D' h' F' N' l1; (try k_lt l1); (try k_sweep); (try simp only [List.take_succ_cons, List.take_zero] at N')))
local macro_rules | `(tactic| ktr_call $e:term $_x:term) => `(tactic| (k_dflt (refine' $e ?k1 ?k2 ?k3 ?k4 ?k5 ?kK ?kd ?ku ?_; (case k1 => k_asm); (case k2 => k_asm); (case k3 => k_asm); (case k4 => k_asm); (case k5 => k_asm); (case kK => first | exact rfl | assumption); (case kd => ktr_room); (case ku => ktr_units))))
set_option hygiene false in
local macro_rules | `(tactic| walk_at "call ref") => `(tactic| (k_here; (with_reducible show wpAny _ _ (call (Value.ref 145) [Value.int _ _, Value.int _ _]) _ _ _); ktr_call (GivesW.use (v_element _ _ _ _ _ _ _ _ _)) 0; (first | ((have hT9 := hox; clear hT9); intro Ty ly ey ty wsy ky iy uy hy tky hey hsy hPy Fy Ny; obtain ⟨hiy, huy, hoy⟩ := hPy; (have hly := StrsAre.length hsy)) | (intro Tx lx ex tx wsx kx ix ux hx tkx hex hsx hPx Fx Nx; obtain ⟨hix, hux, hox⟩ := hPx; (have hlx := StrsAre.length hsx))); (try dsimp only); (try k_fold)))
local macro_rules | `(tactic| walk_at "call ref") => `(tactic| (k_here; (with_reducible show wpAny _ _ (call (Value.ref 152) [Value.ref _, Value.ref _]) _ _ _); k_dflt (refine' GivesW.use (v_due _ _ _ _ _ _ _ _ _ _ _ _ _ _ _ _ _ _ _ _ _ ?hp ?hq ?he ?he' ?hs ?hs' ?hT ?hT' ?hl ?hl') ?k1 ?k2 ?k3 ?k4 ?k5 ?kK ?kd ?ku ?_; (case k1 => k_asm); (case k2 => k_asm); (case k3 => k_asm); (case k4 => k_asm); (case k5 => k_asm); (case kK => first | exact rfl | assumption); (case hT => k_mem); (case hT' => k_mem); (case hl => k_mem); (case hl' => k_mem); (case he => assumption); (case he' => assumption); (case hs => assumption); (case hs' => assumption); (case hp => exact okN_mk (by omega) (by omega) (by assumption)); (case hq => exact okN_mk (by omega) (by omega) (by assumption)); (case kd => ktr_room); (case ku => ktr_units)); (intro T9 l9 e9 t9 ws9 k9 i9 us9 h9 tk9 he9 hs9 hP9 F9 N9; obtain ⟨hD9, hi9, hu9, ho9⟩ := hP9; (have hl9 := StrsAre.length hs9); (try dsimp only); (try k_fold))))
local macro_rules | `(tactic| walk_at "call ref") => `(tactic| (k_here; (with_reducible show wpAny _ _ (call (Value.ref 157) [Value.ref _, Value.bool _]) _ _ _); k_dflt (refine' Gives.use (v_spell _ _ _ _ _ _ _ _ _ _ _ _ _ _ ?he ?hs ?hp ?hT ?hl) ?k1 ?k2 ?k3 ?k4 ?k5 ?kK ?kd ?ku ?_; (case k1 => k_asm); (case k2 => k_asm); (case k3 => k_asm); (case k4 => k_asm); (case k5 => k_asm); (case kK => first | exact rfl | assumption); (case hT => k_mem); (case hl => first | exact .inr (by assumption) | exact .inl (by k_mem) | exact .inr (by k_is)); (case hs => first | assumption | exact sa_rep _ _ _ | exact .nil); (case he => first | assumption | exact he_len (by assumption) | exact (rfl : (0 : Int) = ((0 : Nat) : Int)) | exact (rfl : (1 : Int) = ((1 : Nat) : Int)) | exact (rfl : (2 : Int) = ((2 : Nat) : Int)) | exact (rfl : (3 : Int) = ((3 : Nat) : Int)) | exact rfl); (case hp => exact okN_mk (by first | omega | decide) (by first | omega | (rw [List.length_replicate]; omega) | decide) (by first | assumption | exact okL_nil | exact okL_rep _ (by decide))); (case kd => ktr_room); (case ku => ktr_units)); (intro t9 h9 tk9 F9 N9; (try dsimp only); (try k_fold))))
local macro_rules | `(tactic| walk_at "call ref") => `(tactic| (k_here; (with_reducible show wpAny _ _ (call (Value.ref 164) [wv _ _ _, wv _ _ _]) _ _ _); k_dflt (refine' GivesV.use (v_times _ _ _ _ _ _ _ _ _ _ _ _ ?hp ?hq) ?k1 ?k2 ?k3 ?k4 ?k5 ?kK ?kd ?ku ?_; (case k1 => k_asm); (case k2 => k_asm); (case k3 => k_asm); (case k4 => k_asm); (case k5 => k_asm); (case kK => first | exact rfl | assumption); (case hp => exact okN_mk (by first | omega | decide) (by first | omega | (rw [List.length_replicate]; omega) | decide) (by first | assumption | exact okL_nil | exact okL_rep _ (by decide))); (case hq => exact okN_mk (by first | omega | decide) (by first | omega | (rw [List.length_replicate]; omega) | decide) (by first | assumption | exact okL_nil | exact okL_rep _ (by decide))); (case kd => ktr_room); (case ku => ktr_units)); (intro t9 i9 us9 h9 tk9 hP9 F9 N9; obtain ⟨hD9, hi9, hu9, ho9⟩ := hP9; (try (have hE9 := hD9.trans (due_len _ _ _ _ (by first | rfl | exact List.length_replicate)); cases hE9)); (try dsimp only); (try k_fold))))
local macro_rules | `(tactic| walk_at "compareOp NotEq") => `(tactic| (k_here; (with_reducible show wpAny _ _ (compareOp CmpOp.NotEq (wv _ _ _) (wv _ _ _)) _ _ _); k_dflt (refine' ne_same ?e ?_; (case e => first | rfl | exact Eq.trans (by assumption) (Eq.symm (by assumption))))))
local macro_rules | `(tactic| walk_at "compareOp Eq") => `(tactic| (k_here; (with_reducible show wpAny _ _ (compareOp CmpOp.Eq (wv _ _ _) (wv _ _ _)) _ _ _); k_dflt (refine' eq_idem ?d ?p ?q ?_; (case d => assumption); (case p => exact okN_mk (by first | omega | decide) (by first | omega | (rw [List.length_replicate]; omega) | decide) (by first | assumption | exact okL_nil | exact okL_rep _ (by decide))); (case q => exact okN_mk (by first | omega | decide) (by first | omega | (rw [List.length_replicate]; omega) | decide) (by first | assumption | exact okL_nil | exact okL_rep _ (by decide))))))
local macro_rules | `(tactic| walk_at "compareOp NotEq bool bool") => `(tactic| (k_here; k_dflt (refine' ne_bool_same ?e ?_; (case e => (rw [Bool.eq_iff_iff]; simp only [decide_eq_true_eq, beq_iff_eq]; first | done | omega | (simp; done))))))
local macro_rules | `(tactic| walk_at "call builtin:len") => `(tactic| (k_here; (with_reducible show wpAny _ _ (call (Value.builtin "len") [Value.ref _]) _ _ _); k_dflt (refine' len_strs ?l ?s ?b ?_; (case l => first | exact listK (by k_asm) (by k_asm) (by assumption) | exact News.isList (by k_asm) (by k_mem)); (case s => assumption); (case b => omega)); intro _ _))
local macro_rules | `(tactic| walk_at "subscriptTail Name Constant ref int") => `(tactic| (k_here; (with_reducible show wpAny _ _ (subscriptTail _ _ (Value.ref _) (Value.int _ _)) _ _ _); k_dflt (refine' item_tupleT ?k1 ?k2 ?k3 ?k4 ?k5 ?_; (case k1 => exact News.isTup (by k_asm) (by k_mem)); (case k2 => decide); (case k3 => decide); (case k4 => exact rfl); (case k5 => exact rfl))))
local macro_rules | `(tactic| walk_at "binaryOp Mult ref int") => `(tactic| (k_here; k_dflt (refine' mul_oneE ?k1 ?k2 ?k3 ?k4 ?k5 ?_; (case k1 => k_asm); (case k2 => k_asm); (case k3 => k_mem); (case k4 => assumption); (case k5 => omega); k_whole); intro D' h' F' N' l1; (try k_lt l1); (try k_sweep)))
local macro_rules | `(tactic| walk_at "compareOp Eq") => `(tactic| (k_here; (with_reducible show wpAny _ _ (compareOp CmpOp.Eq (wv _ _ _) (wv _ _ _)) _ _ _); k_dflt (refine' eq_zxz ?d ?d2 ?f ?p ?q ?_; (case d2 => assumption); (case d => assumption); (case f => first | assumption | exact decide_eq_true (by assumption)); (case p => exact okN_mk (by first | omega | decide) (by first | omega | (rw [List.length_replicate]; omega) | decide) (by first | assumption | exact okL_nil | exact okL_rep _ (by decide))); (case q => exact okN_mk (by first | omega | decide) (by first | omega | (rw [List.length_replicate]; omega) | decide) (by first | assumption | exact okL_nil | exact okL_rep _ (by decide))))))
local macro_rules | `(tactic| walk_at "compareOp Eq") => `(tactic| (k_here; (with_reducible show wpAny _ _ (compareOp CmpOp.Eq (wv _ _ _) (wv _ _ _)) _ _ _); k_dflt (refine' eq_xzx ?d ?d2 ?p ?q ?_; (case d2 => assumption); (case d => assumption); (case p => exact okN_mk (by first | omega | decide) (by first | omega | (rw [List.length_replicate]; omega) | decide) (by first | assumption | exact okL_nil | exact okL_rep _ (by decide))); (case q => exact okN_mk (by first | omega | decide) (by first | omega | (rw [List.length_replicate]; omega) | decide) (by first | assumption | exact okL_nil | exact okL_rep _ (by decide))))))
local macro_rules | `(tactic| walk_at "compareOp Eq") => `(tactic| (k_here; (with_reducible show wpAny _ _ (compareOp CmpOp.Eq (wv _ _ _) (wv _ (0, []) _)) _ _ _); k_dflt (refine' eq_dot ?d ?p ?_; (case d => assumption); (case p => exact okN_mk (by first | omega | decide) (by first | omega | (rw [List.length_replicate]; omega) | decide) (by first | assumption | exact okL_nil | exact okL_rep _ (by decide))))))
local macro_rules | `(tactic| walk_at "compareOp Eq ref ref") => `(tactic| (k_here; (with_reducible show wpAny _ _ (compareOp CmpOp.Eq (Value.ref _) (Value.ref _)) _ _ _); k_dflt (refine' eq_nil ?l ?s ?o ?b ?u ?_; (case l => exact listK (by k_asm) (by k_asm) (by assumption)); (case s => assumption); (case o => assumption); (case b => exact News.isList (by k_asm) (by k_mem)); (case u => ktr_units))))

set_option hygiene false in
local macro_rules | `(tactic| walk_at "pyIter ref") => `(tactic| (k_here; (with_reducible show wpAny _ _ (pyIter (Value.ref 138)) _ _ _); k_dflt ((refine' rows_all ?b1 ?b2 ?b3 ?b4 ?b5 hex hix hsx hux hox ?b9 ?h2 ?h3 ?h4 ?h5 ?h6 ?h7 ?h8 ?h9 ?bu ?_); (case b1 => k_asm); (case b2 => k_asm); (case b3 => k_asm); (case b4 => k_asm); (case b5 => k_asm); (case b9 => k_mem); (case h2 => exact rfl); (case h3 => exact rfl); (case h4 => exact rfl); (case h5 => exact rfl); (case h6 => exact rfl); (case h7 => exact rfl); (case h8 => exact rfl); (case h9 => first | exact heu_lit 0 (by decide) | exact heu_lit 1 (by decide) | exact heu_lit 2 (by decide) | exact heu_lit 3 (by decide)); (case bu => decide)); (intro Md td hd9 tkd Fd Nd)))
local macro_rules | `(tactic| walk_at "exec For Name Name cons nil") => `(tactic| (k_here; (rename Fr _ _ _ _ => lF'); (with_unfolding_all refine' For_invVF lF' ?k1 ?k2 ?_; (case k1 => exact rfl); (case k2 => exact rfl); k_whole)))
theorem unr_off {h₀ : Heap} {L I : Addr} {it : Obj} {rest : (Str → Option Value) → List (Addr × Obj) → Prop} {s₁ : Shared} {h' : Heap} {tk : Nat} {m' : Str → Option Value} {nx : List (Addr × Obj)} (F : Fr h₀ L h' m') (N : News h₀ L h' ((I, it) :: nx)) (off : ClsOff it nx) (r : rest m' nx) :
    UnrEnd h₀ L s₁ I it rest { s₁ with heap := h', toks := tk } := UnrEnd.intro F N nx (fun _ h => h) (fun p hp e => by
  have h1 := (N _ (.tail _ hp)).1
  have h2 := (N _ (.head _)).1
  rw [e] at h1
  exact ClsOff.ne off p hp (congrArg Obj.cls (Option.some.inj (h1.symm.trans h2)))) r
local macro_rules | `(tactic| walk_at "UnrEnd") => `(tactic| (k_dflt ((refine' unr_off ?k1 ?k2 ?k3 ?_); (case k1 => k_asm); (case k2 => k_asm); (case k3 => k_clsL))))
theorem law_holds : PySem.Challenge.rw_ab6014_01.Holds := hd (by
  k_go0
  all_goals (try k_fold)
  repeat (first | (k_unfold; (try dsimp only)) | walk1 | (dsimp only; walk1) | (leave1; (try dsimp only)))
  show GoodW _ _ _ _ _ (Except.ok (Flow.ret (Value.bool _))) _
  have hT : (0 + tot 0 ux.length ix lensR + tot 1 ux.length ix lensR + tot 2 ux.length ix lensR + tot 3 ux.length ix lensR == (2 : Int) ^ ex.toNat) = true := by
    rw [hex, Int.toNat_natCast, beq_iff_eq]
    exact tot_all ux.length ix hux hix
  rw [hT]
  refine goodW_bool (by assumption) (by assumption) (raisesW_false ?_) ?_
  · wrow_none_raised
  · refine postW_of (by wrow_shape) (w_eq_bool (w_res rfl) w_lit) ?_
    first | rfl | decide | w_fin)
end

end Mine
theorem PySem.Challenge.cw_ab6014_01_holds : PySem.Challenge.rw_ab6014_01.Holds := by
  exact Mine.law_holds
