import PyProof.Rows.All
import Wide.All
import OpenK.AllK
import Wide.FinOn
import Lean
import PySem.Challenge.RW_ij0082_01
open PySem PySem.W PyProof.Rows PySem.Calls PySem.Spec
set_option Elab.async false
set_option compiler.extract_closed false
set_option maxRecDepth 100000
set_option maxHeartbeats 8000000
set_option linter.unusedVariables false
local macro_rules | `(tactic| walk_at "st") => `(tactic| first
  | (with_reducible first | refine PySem.wpAny_bind ?_ | refine PySem.wpAny_pure ?_ | refine PySem.wpAny_of_eq (by with_reducible assumption) ?_ | refine PySem.wpAny_typeOf (by with_reducible assumption) ?_ | refine PySem.wpAny_rule ?_ | refine PySem.wpAny_holding ?_ | refine PySem.wpAny_standAt ?_ | refine PySem.wpAny_point ?_ | refine PySem.wpAny_call ?_ | refine PySem.wpAny_runValue ?_ | refine PySem.wpAny_run ?_ | refine PySem.wpAny_attempt ?_ | refine PySem.wpAny_mkInt' ?_ | refine PySem.wpAny_fresh' ?_ | refine PySem.wpAny_alloc' ?_ | refine PySem.wpAny_specialOf_val (by with_reducible assumption) (by with_reducible assumption) ?_ | refine PySem.wpAny_specialOf (by with_reducible assumption) (by with_reducible assumption) ?_ | refine PySem.wpAny_isInstance_val (by with_reducible assumption) (by with_reducible assumption) ?_ | refine PySem.wpAny_isInstance (by with_reducible assumption) (by with_reducible assumption) ?_)
  | ((with_reducible refine' PySem.wpAny_load' ?ho9 ?_); (case ho9 => first | with_reducible assumption | (heap_get; done)))
  | ((with_reducible refine' PySem.wpAny_loadPart' ?ho9 ?_); (case ho9 => first | with_reducible assumption | (heap_get; done)))
  | ((with_reducible refine' PySem.wpAny_update' ?ho9 ?_); (case ho9 => first | with_reducible assumption | (heap_get; done)))
  | ((with_reducible refine' PySem.wpAny_updatePart' ?ho9 ?_); (case ho9 => first | with_reducible assumption | (heap_get; done)))
  | ((with_reducible refine PySem.wpAny_ite_false ?_ ?_); focus (rfl; done))
  | ((with_reducible refine PySem.wpAny_ite_true ?_ ?_); focus (rfl; done))
  | wp_delta
  | with_reducible_and_instances refine PySem.wpAny_pure ?_
  | with_reducible_and_instances refine PySem.wpAny_bind ?_)
local macro_rules | `(tactic| walk_at "ks") => `(tactic| first | walk1 | (dsimp only; walk1) | (leave1; try dsimp only) | (k_unfold; (try dsimp only)))
theorem Mine.off_R1 : True := by w_top off; trivial
namespace Mine
section R1
variable {prog : Program} {w : World} {A : Around} {E : Value → Shared → Prop} {s : Shared}

noncomputable abbrev bmObj (id : String) (a : Value) : Obj := { cls := .type "builtin_function_or_method", data := .fields #[.builtin id, a] }

theorem list_append_lookup : typeLookup (.type "list") "append" = pure (some (.builtin "list.append")) := by
  rw [typeLookup_type, builtinLookup_eq_fast]; kernel_rfl
theorem md_get : typeLookup (.type "method_descriptor") "__get__" = pure (some (.builtin "method_descriptor.__get__")) := by
  rw [typeLookup_type, builtinLookup_eq_fast]; kernel_rfl
theorem md_set : typeLookup (.type "method_descriptor") "__set__" = pure none := by
  rw [typeLookup_type, builtinLookup_eq_fast]; kernel_rfl
theorem md_delete : typeLookup (.type "method_descriptor") "__delete__" = pure none := by
  rw [typeLookup_type, builtinLookup_eq_fast]; kernel_rfl
theorem append_typeOf (s : Shared) : s.TypeIs (.builtin "list.append") "method_descriptor" := by
  show typeOf (.builtin "list.append") = _; kernel_rfl
theorem entry_md_get : entryFor table "method_descriptor.__get__" = some Builtin.«method_descriptor.__get__» :=
  entryFor_of_tree (by kernel_rfl)
theorem slot_md_get : Slot "method_descriptor" "__get__" "method_descriptor.__get__" :=
  .of (owner := "method_descriptor") (n := "__get__") md_get (by decide +kernel) (by decide +kernel) (by decide +kernel) (.inl (by decide +kernel)) (by kernel_rfl)

theorem meets_md_get (l : Addr) (xs : Array Value) (k : Nat)  :
    Meets (Builtin.«method_descriptor.__get__» ⟨[.builtin "list.append", .ref l, .type "list"], []⟩) (fun A R s => s.heap.get? l = some { cls := .type "list", dict := none, data := .seq xs k } ∧
      R (.ok (.ret (.ref s.heap.objs.size))) { s with heap := s.heap.push (bmObj "list.append" (.ref l)) }) :=
  Meets.of_wp fun prog w A R s hs => by
    obtain ⟨hp, g, d, tk, os⟩ := s
    obtain ⟨hx, h⟩ := hs
    dsimp only at hx h
    have hT : (⟨hp, g, d, tk, os⟩ : Shared).TypeIs (.ref l) "list" := ⟨_, hx, rfl⟩
    unfold Builtin.«method_descriptor.__get__»
    repeat (first | walk_at "st" | assumption)
    refine wpAny_of_eq (a := true) (by kernel_rfl) ?_
    repeat (first | walk_at "st" | assumption)
    exact ⟨_, rfl, h⟩

theorem meets_getattribute_append (l : Addr) (xs : Array Value) (k : Nat) (u : Tok) :
    Meets (Builtin.«object.__getattribute__» ⟨[.ref l, .str "append" u], []⟩) (fun A R s => s.heap.get? l = some { cls := .type "list", dict := none, data := .seq xs k } ∧
      R (.ok (.ret (.ref s.heap.objs.size))) { s with heap := s.heap.push (bmObj "list.append" (.ref l)) }) :=
  Meets.of_wp fun prog w A R s hs => by
    obtain ⟨hp, g, d, tk, os⟩ := s
    obtain ⟨hx, h⟩ := hs
    dsimp only at hx h
    have hT : (⟨hp, g, d, tk, os⟩ : Shared).TypeIs (.ref l) "list" := ⟨_, hx, rfl⟩
    have f6 := list_append_lookup
    have f7 := md_get
    have f8 := md_set
    have f9 := md_delete
    have f10 := append_typeOf (⟨hp, g, d, tk, os⟩ : Shared)
    unfold Builtin.«object.__getattribute__»
    repeat (first | ((with_reducible show wpAny _ _ (call (Value.builtin _) _) _ _ _); refine call_meets slot_md_get f10 entry_md_get (by kernel_rfl) (meets_md_get l xs k) ⟨hx, ?_⟩; show wpAny _ _ _ _ _ _) | walk_at "st" | assumption)
    exact ⟨_, rfl, h⟩

theorem getAttr_append {l : Addr} {xs : Array Value} {k : Nat} {ex : Bool} {Q : Value → Shared → Prop} (hx : s.heap.get? l = some { cls := .type "list", dict := none, data := .seq xs k })
    (h : Q (.ref s.heap.objs.size) { s with heap := s.heap.push (bmObj "list.append" (.ref l)), toks := s.toks + 1 }) :
    wpAny (model prog w) A (getAttr (.ref l) "append" ex) Q E s := by
  obtain ⟨hp, g, d, tk, os⟩ := s
  dsimp only at hx h
  have hT : (⟨hp, g, d, tk + 1, os⟩ : Shared).TypeIs (.ref l) "list" := ⟨_, hx, rfl⟩
  have f3 := F.slot_list_getattribute.lookup
  have f4 := F.slot_list_getattribute.bind (.ref l)
  have f5 := am_list_getattr_none
  unfold getAttr getAttrBy
  repeat (first | walk_at "st" | assumption)
  refine wpAny_ite_false (by cases ex <;> rfl) ?_
  repeat (first | ((with_reducible show wpAny _ _ (call (Value.builtin "list.__getattribute__") _) _ _ _); refine call_meets F.slot_list_getattribute hT am_entry_list_getattribute (F.args_list_getattribute_2 _ _) (meets_getattribute_append l xs k _) ⟨hx, ?_⟩) | walk_at "st" | assumption)
  show wpAny _ _ (handedOut (.ref _)) _ _ _
  exact wpAny_pure h
end R1
end Mine
theorem Mine.off_V0 : True := by w_top off; trivial
namespace Mine
section V0
variable {prog : Program} {w : World} {M : Model} {A : Around} {E : Value → Shared → Prop} {s : Shared}
theorem toks_gen {α : Type} {t : Sem α} {Q : α → Shared → Prop} {h : Heap} {g : Array GenState} {d : Drawn} {tk : Nat} {os : OsState} (x : ∀ tk, wpAny M A t Q E ⟨h, g, d, tk, os⟩) : wpAny M A t Q E ⟨h, g, d, tk, os⟩ := x _
theorem no_exc {α : Type} {t : Sem α} {Q : α → Shared → Prop} (x : wpAny M A t Q (fun _ _ => False) s) : wpAny M A t Q E s := wpAny_mono x (fun _ _ h => h) fun _ _ h => h.elim
theorem item_list {value slice : PySem.Expr} {l : Addr} {vs : List Value} {k : Int} {u : Tok} {v : Value} {Q : Value → Shared → Prop}
    (hl : s.heap.IsList l vs.toArray) (h0 : 0 ≤ k) (hhi : k < 2 ^ 63) (hx : vs[k.toNat]? = some v) (h : Q v s)
    (hs : subscripted slice false (.ref l) (.int k u) = operate [.ref l, .int k u] (getItem (.ref l) (.int k u)) := by with_unfolding_all rfl) :
    wpAny (model prog w) A (subscriptTail value slice (.ref l) (.int k u)) Q E s :=
  tail_any hl.typeIs slot_list_getitem.lookup (wpAny_getItem_list hl h0 hhi (by simpa using hx) h) hs

noncomputable def pieceStr (n : Int) : Str := match (n.fmod 16).toNat with
  | 0 => "*" | 1 => "a" | 2 => "?" | 3 => "[" | 4 => "]" | 5 => " " | 6 => "\\" | 7 => "\"" | 8 => "!" | 9 => "\n" | 10 => "a-c" | 11 => "#" | 12 => "." | 13 => "^" | 14 => "&"
  | _ => Txt.item "\t\r\x0b(" ((n.fdiv 16).fmod 4)
theorem isl {h₀ h : Heap} {L l : Addr} {xs : Array Value} {k : Nat} {news : List (Addr × Obj)} (N : News h₀ L h news) (hm : (l, listOf xs k) ∈ news) : h.IsList l xs := ⟨_, N.get hm, rfl, _, rfl⟩
theorem nwt {h₀ h : Heap} {L : Addr} {x : Addr × Obj} {news : List (Addr × Obj)} (N : News h₀ L h (x :: news)) : News h₀ L h news := fun q hq => N q (List.Mem.tail _ hq)
theorem nws {h₀ h : Heap} {L : Addr} {news news' : List (Addr × Obj)} (N : News h₀ L h news) (hs : ∀ q ∈ news', q ∈ news) : News h₀ L h news' := fun q hq => N q (hs q hq)
theorem piece_item {n : Int} {l : Addr} {u : Tok} {value slice : PySem.Expr} {Q : Value → Shared → Prop} {t0 t1 t2 t3 t4 t5 t6 t7 t8 t9 t10 t11 t12 t13 t14 t15 : Tok}
    (hl : s.heap.IsList l #[.str "*" t0, .str "a" t1, .str "?" t2, .str "[" t3, .str "]" t4, .str " " t5, .str "\\" t6, .str "\"" t7, .str "!" t8, .str "\n" t9, .str "a-c" t10, .str "#" t11, .str "." t12, .str "^" t13, .str "&" t14, .str (Txt.item "\t\r\x0b(" ((n.fdiv 16).fmod 4)) t15]) (h0 : 0 ≤ n.fmod 16) (h1 : n.fmod 16 < 16) (h : ∀ t, Q (.str (pieceStr n) t) s)
    (hs : subscripted slice false (.ref l) (.int (n.fmod 16) u) = operate [.ref l, .int (n.fmod 16) u] (getItem (.ref l) (.int (n.fmod 16) u)) := by with_unfolding_all rfl) :
    wpAny (model prog w) A (subscriptTail value slice (.ref l) (.int (n.fmod 16) u)) Q E s := by
  have key : ∃ t, ([.str "*" t0, .str "a" t1, .str "?" t2, .str "[" t3, .str "]" t4, .str " " t5, .str "\\" t6, .str "\"" t7, .str "!" t8, .str "\n" t9, .str "a-c" t10, .str "#" t11, .str "." t12, .str "^" t13, .str "&" t14, .str (Txt.item "\t\r\x0b(" ((n.fdiv 16).fmod 4)) t15] : List Value)[(n.fmod 16).toNat]? = some (.str (pieceStr n) t) := by
    unfold pieceStr
    generalize hk : (n.fmod 16).toNat = k
    have hk16 : k < 16 := by omega
    match k, hk16 with
    | 0, _ => exact ⟨_, rfl⟩ | 1, _ => exact ⟨_, rfl⟩ | 2, _ => exact ⟨_, rfl⟩ | 3, _ => exact ⟨_, rfl⟩ | 4, _ => exact ⟨_, rfl⟩ | 5, _ => exact ⟨_, rfl⟩ | 6, _ => exact ⟨_, rfl⟩ | 7, _ => exact ⟨_, rfl⟩
    | 8, _ => exact ⟨_, rfl⟩ | 9, _ => exact ⟨_, rfl⟩ | 10, _ => exact ⟨_, rfl⟩ | 11, _ => exact ⟨_, rfl⟩ | 12, _ => exact ⟨_, rfl⟩ | 13, _ => exact ⟨_, rfl⟩ | 14, _ => exact ⟨_, rfl⟩ | 15, _ => exact ⟨_, rfl⟩
    | k + 16, h => omega
  obtain ⟨t, ht⟩ := key
  exact item_list (vs := [.str "*" t0, .str "a" t1, .str "?" t2, .str "[" t3, .str "]" t4, .str " " t5, .str "\\" t6, .str "\"" t7, .str "!" t8, .str "\n" t9, .str "a-c" t10, .str "#" t11, .str "." t12, .str "^" t13, .str "&" t14, .str (Txt.item "\t\r\x0b(" ((n.fdiv 16).fmod 4)) t15]) hl h0 (by omega) ht (h t) hs
theorem news_lt {g : Heap} {L : Addr} {news : List (Addr × Obj)} {h : Heap} (N : News g L h news) : ∀ q ∈ news, q.1 < h.objs.size := fun q hq => Heap.lt_size (N q hq).1
end V0
end Mine
theorem Mine.off_C1 : True := by w_top off; trivial
namespace Mine
section C1
open LCg PySem.Spec PySem.Calls PyProof.Rows
variable {prog : Program} {w : World} {A : Around} {E : Value → Shared → Prop} {s : Shared} {h₀ : Heap} {L : Addr} {m : Str → Option Value} {env : Env}
/-- a list comprehension over the signs of an ASCII text -/
theorem ListComp_S {elt iter : PySem.Expr} {x : Str} {px : Pos} {scope : Scope} {cl : List (Str × Addr)} {pos : Pos} {Q : Value → Shared → Prop} (F₀ : Fr h₀ L s.heap m)
    (hclos : closureFor scope env = pure cl) (hcell : ∀ y ∈ scope.names, y.2 ≠ .cell) (hkind : scope.kind = .function)
    (hnames : ∀ y ∈ scope.names, y.2 = .local → scope.names.lookup y.1 = some .local) (hx : scope.names.lookup x = some .local)
    (h : wpAny (model prog w) A (eval iter env) (fun xv s₁ => ∃ (y : Str) (t : Tok) (news : List (Addr × Obj)), xv = .str y t ∧ y.cps.all (· < 128) = true ∧ A.handled = none ∧ Fr h₀ L s₁.heap m ∧ News h₀ L s₁.heap news ∧ y.cps.size ≤ sizeLine ∧
      ∀ s₂ : Shared, (∃ h, s₂ = { s₁ with heap := h }) → CompRest prog w A h₀ L m env elt x scope cl s₂ (fun _ => True) (SignAt y) (FinE h₀ L m s₂ Q) y.cps.size 0 [] news) E s)
    (hs : ∀ x, foldedSetIterable iter env x = pure x := by intro _; rfl) :
    wpAny (model prog w) A (eval (.ListComp elt [⟨.Name x px, iter, [], 0⟩] scope pos) env) Q E s := by
  rw [eval_ListComp]
  refine wpAny_comprehension_free (use := none) rfl hs hclos hkind hnames (wpAny_mono h (fun xv s₁ h₁ => ?_) fun _ _ e => e)
  obtain ⟨y, t, news, rfl, ha, hh, F, N, hsz, R⟩ := h₁
  refine wpAny_pyIter_ascii ha ?_
  have up : ∀ b o, s₁.heap.get? b = some o → (s₁.heap.push { cls := .type "str_ascii_iterator", data := .fields #[.str y t, .int 0 0] }).get? b = some o := fun b o e => Heap.get?_push_of_some _ e
  refine block_U (Walks.strAscii hh s₁.heap.objs.size y t) hsz (fun i h st => by obtain ⟨o, e, _⟩ := st; exact ⟨o, e⟩) (fun i h h' o nw st e1 e2 _ _ _ => by
      obtain ⟨o', q, r⟩ := st
      rw [e1] at q; cases q
      exact ⟨o, e2, r⟩) hcell hkind hx ⟨_, Heap.get?_push_size _ rfl, rfl, rfl⟩ (fun b hb => ?_)
    (F.keeps up) (N.grown up) (Nat.ne_of_lt F.ns.lt) (next_is_new F) (fun p hp => Nat.ne_of_lt (Heap.lt_size (N p hp).1)) trivial (R _ ⟨_, rfl⟩) ?_
  · show b < (s₁.heap.push _).objs.size
    rw [Heap.size_push, List.mem_singleton.mp hb]
    exact Nat.lt_succ_self _
  · intro D C h tk m' ys news' F' N' o1 hn hC₀ hD₀ hCL hDL hCD offC fin
    refine ⟨m', hn, fun h'' hs'' => fin D h'' tk (F'.change hs'' hCL hC₀) (fun p hp => ?_) o1⟩
    refine ⟨hs''.extBut _ _ ?_ (N' p hp).1, (N' p hp).2⟩
    rcases List.mem_cons.mp hp with rfl | hp
    · exact Ne.symm hCD
    · exact offC p hp
theorem off3_app {I C D : Addr} {a b : List (Addr × Obj)} (ha : ∀ q ∈ a, q.1 ≠ I ∧ q.1 ≠ C ∧ q.1 ≠ D) (hb : Off3 I C D b) : Off3 I C D (a ++ b) := Off3.of fun p hp => by
  rcases List.mem_append.mp hp with h | h
  · exact ha p h
  · exact hb.mem p h
/-- the turns of a comprehension whose element grows the ledger: what each made value is (Rel), what each new entry is (Pq) -/
theorem rest_grow {elt : PySem.Expr} {x : Str} {scope : Scope} {cl : List (Str × Addr)} {P : Nat → Value → Prop} {Sx : List (Addr × Obj) → Prop} {Fin : List Value → List (Addr × Obj) → Prop} {news0 : List (Addr × Obj)} {n : Nat}
    (Rel : Nat → Value → List (Addr × Obj) → Prop) (Pq : Addr × Obj → Prop) (hm : ∀ i y a b, (∀ q ∈ a, q ∈ b) → Rel i y a → Rel i y b) (hS : ∀ adds, Sx (adds ++ news0))
    (step : ∀ (adds : List (Addr × Obj)), (∀ q ∈ adds, Pq q) → ∀ i v I oI C oC D ys m₂ h tk (E' : Value → Shared → Prop), i < n → P i v → NsObj oC m₂ → m₂ x = some v → Fr h₀ L h m → News h₀ L h ((I, oI) :: (C, oC) :: (D, lst ys) :: (adds ++ news0)) → Off3 I C D (adds ++ news0) → ((@Ne Nat I C) ∧ (@Ne Nat I D) ∧ (@Ne Nat C D)) →
      wpAny (model prog w) A (eval elt (compEnvC scope cl C env)) (fun y s₂ => ∃ h' tk' add, s₂ = { s with heap := h', toks := tk' } ∧ Fr h₀ L h' m ∧ News h₀ L h' ((I, oI) :: (C, oC) :: (D, lst ys) :: (add ++ (adds ++ news0))) ∧ (∀ q ∈ add, (q.1 ≠ I ∧ q.1 ≠ C ∧ q.1 ≠ D) ∧ Pq q) ∧ Rel i y (add ++ (adds ++ news0))) E' { s with heap := h, toks := tk })
    (fin : ∀ ys adds, ys.length = n → (∀ j, j < n → ∃ y, ys[j]? = some y ∧ Rel j y (adds ++ news0)) → (∀ q ∈ adds, Pq q) → Fin ys (adds ++ news0)) :
    ∀ k i ys adds, i + k = n → ys.length = i → (∀ j, j < i → ∃ y, ys[j]? = some y ∧ Rel j y (adds ++ news0)) → (∀ q ∈ adds, Pq q) → CompRest prog w A h₀ L m env elt x scope cl s Sx P Fin k i ys (adds ++ news0)
  | 0, i, ys, adds, hn, hl, hr, hq => CompRest.zero (fin ys adds (by omega) (fun j hj => hr j (by omega)) hq)
  | k + 1, i, ys, adds, hn, hl, hr, hq => CompRest.succ fun v I oI C oC D m₂ h tk E' hP hC hx F N off ne => by
    refine wpAny_mono (step adds hq i v I oI C oC D ys m₂ h tk E' (by omega) hP hC hx F N off ne) (fun y s₂ h₂ => ?_) fun _ _ e => e
    obtain ⟨h', tk', add, rfl, F', N', hadd, hrel⟩ := h₂
    refine ⟨h', tk', add ++ (adds ++ news0), rfl, F', N', off3_app (fun q hq => (hadd q hq).1) off, by rw [← List.append_assoc]; exact hS _, ?_⟩
    rw [← List.append_assoc]
    refine rest_grow Rel Pq hm hS step fin k (i + 1) (ys ++ [y]) (add ++ adds) (by omega) (by simp [hl]) (fun j hj => ?_) (fun q hq' => ?_)
    · by_cases hji : j < i
      · obtain ⟨z, hz, hrz⟩ := hr j hji
        exact ⟨z, by rw [List.getElem?_append_left (by omega)]; exact hz, hm j z _ _ (fun q hq => by rw [List.append_assoc]; exact List.mem_append_right _ hq) hrz⟩
      · obtain rfl : j = i := by omega
        exact ⟨y, by rw [← hl]; simp, by rw [List.append_assoc]; exact hrel⟩
    · rcases List.mem_append.mp hq' with h | h
      · exact (hadd q h).2
      · exact hq q h
end C1
end Mine
theorem Mine.off_PL0 : True := by w_top off; trivial
namespace Mine
section PL0
noncomputable abbrev S (l : List Nat) : Str := ⟨l.toArray⟩
theorem S_list (x : Str) : S x.cps.toList = x := by obtain ⟨⟨l⟩⟩ := x; rfl
theorem len_list (x : Str) : x.length = x.cps.toList.length := by obtain ⟨⟨l⟩⟩ := x; rfl
theorem lit_bang : Str.ofString "!" = S [33] := by decide +kernel
theorem lit_shut : Str.ofString "]" = S [93] := by decide +kernel
theorem lit_dash : Str.ofString "-" = S [45] := by decide +kernel
theorem lit_bs : Str.ofString "\\" = S [92] := by decide +kernel
theorem lit_bs2 : Str.ofString "\\\\" = S [92, 92] := by decide +kernel
theorem item_eq {x : Str} {k : Int} (h0 : 0 ≤ k) (h1 : k < x.length) : Txt.item x k = S [x.cps.toList.getD k.toNat 0] := by
  obtain ⟨⟨l⟩⟩ := x
  have hl : (⟨⟨l⟩⟩ : Str).length = l.length := rfl
  rw [hl] at h1
  unfold Txt.item
  have e : Txt.charAt (⟨⟨l⟩⟩ : Str) k = some (l.getD k.toNat 0) := by
    unfold Txt.charAt
    have e1 : seqIndex? k (⟨⟨l⟩⟩ : Str).length = some k.toNat := by
      unfold seqIndex?
      rw [hl]
      have h2 : ¬ k < 0 := by omega
      simp [h2, h0, h1]
    rw [e1]
    have hk : k.toNat < l.length := by omega
    simp [List.getD_eq_getElem?_getD, hk]
  rw [e]; rfl
theorem S_inj {a b : List Nat} : S a = S b ↔ a = b := by
  constructor
  · intro h; have := congrArg (fun z : Str => z.cps.toList) h; simpa using this
  · rintro rfl; rfl
theorem beq_S {a b : List Nat} : (S a == S b) = decide (a = b) := by
  by_cases h : a = b
  · subst h; simp
  · rw [decide_eq_false h, beq_eq_false_iff_ne]; exact fun e => h (S_inj.mp e)
theorem slice_eq {x : Str} {i j : Int} (h0 : 0 ≤ i) (h1 : i ≤ j) (h2 : j ≤ x.length) : Txt.slice x (some i) (some j) = S ((x.cps.toList.drop i.toNat).take (j - i).toNat) := by
  rw [len_list] at h2
  have := StrLaws.sliceText_plain (x := x) ⟨h0, h1, h2⟩
  exact this
theorem item_is {x : Str} {k : Int} {c : Nat} {lit : Str} (h0 : 0 ≤ k) (h1 : k < x.length) (hl : lit = S [c]) : (Txt.item x k == lit) = decide (x.cps.toList[k.toNat]? = some c) := by
  rw [item_eq h0 h1, hl, beq_S]
  have hk : k.toNat < x.cps.toList.length := by rw [len_list] at h1; omega
  rw [List.getElem?_eq_getElem hk, List.getD_eq_getElem?_getD, List.getElem?_eq_getElem hk]
  simp
theorem item_last {l : List Nat} {c : Nat} (h : l.getLast? = some c) : Txt.item (S l) (-1) = S [c] := by
  have hl : 1 ≤ l.length := by cases l with | nil => cases h | cons => simp
  have hL : (S l).length = l.length := by rw [len_list]
  unfold Txt.item
  congr 1
  have e : Txt.charAt (S l) (-1) = some c := by
    unfold Txt.charAt
    have e1 : seqIndex? (-1) (S l).length = some (l.length - 1) := by
      unfold seqIndex?
      rw [hL]
      have h1 : (0 : Int) ≤ -1 + (l.length : Int) := by omega
      have h2 : -1 + (l.length : Int) < (l.length : Int) := by omega
      simp [h1, h2]
      omega
    rw [e1]
    rw [List.getLast?_eq_getElem?] at h
    show (S l).cps[l.length - 1]? = some c
    simpa using h
  rw [e]; rfl
theorem item_first {l : List Nat} {c : Nat} (h : l.head? = some c) : Txt.item (S l) 0 = S [c] := by
  cases l with
  | nil => cases h
  | cons x r =>
    cases h
    rw [item_eq (by omega) (by rw [len_list]; simp)]
    simp
theorem slice_from {x : Str} {i : Int} (h0 : 0 ≤ i) (h1 : i ≤ x.length) : Txt.slice x (some i) none = S (x.cps.toList.drop i.toNat) := by
  rw [len_list] at h1
  have := StrLaws.sliceText_from (x := x) ⟨h0, h1⟩
  refine Eq.trans this ?_
  congr 2
  rw [List.take_of_length_le]
  simp
  omega
theorem S_append (a b : List Nat) : (S a) ++ (S b) = S (a ++ b) := by
  show Str.mk _ = Str.mk _
  simp
theorem lit_caret : Str.ofString "^" = S [94] := by decide +kernel
theorem lit_open : Str.ofString "[" = S [91] := by decide +kernel
theorem slice_two {x : Str} {i : Nat} (h : i < x.length) : Txt.slice x (some (i : Int)) (some ((i : Int) + 2)) = S ((x.cps.toList.drop i).take 2) := by
  by_cases h2 : i + 2 ≤ x.length
  · rw [slice_eq (by omega) (by omega) (by omega)]
    congr 2
    omega
  · have hl := len_list x
    have e : Builtin.Str.strSliceIndices (some (i : Int)) (some ((i : Int) + 2)) 1 x.length = Builtin.Str.strSliceIndices (some (i : Int)) (some ((x.length : Nat) : Int)) 1 x.length := by
      have a1 : ¬ ((i : Int) < 0) := by omega
      have a2 : ¬ ((i : Int) + 2 < 0) := by omega
      have a3 : ¬ ((x.length : Int) < 0) := by omega
      have a4 : min ((i : Int) + 2) (x.length : Int) = (x.length : Int) := by omega
      simp [Builtin.Str.strSliceIndices, a1, a2, a3, a4]
    have e2 : Txt.slice x (some (i : Int)) (some ((i : Int) + 2)) = Txt.slice x (some (i : Int)) (some ((x.length : Nat) : Int)) := by unfold Txt.slice; rw [e]
    rw [e2, slice_eq (by omega) (by omega) (by omega)]
    have hd : (x.cps.toList.drop i).length ≤ 1 := by rw [List.length_drop]; omega
    rw [Int.toNat_natCast, List.take_of_length_le (by omega), List.take_of_length_le (by omega)]
end PL0
end Mine
theorem Mine.off_PL1 : True := by w_top off; trivial
namespace Mine
section PL1
noncomputable def VA : List Value → List (List Nat) → Prop
  | [], [] => True
  | v :: vs, c :: cs => (∃ t, v = Value.str (S c) t) ∧ VA vs cs
  | _, _ => False
theorem VA_len : ∀ {vs : List Value} {cs : List (List Nat)}, VA vs cs → vs.length = cs.length
  | [], [], _ => rfl
  | _ :: _, _ :: _, h => congrArg Nat.succ (VA_len h.2)
theorem VA_snoc {c : List Nat} {t : Tok} : ∀ {vs : List Value} {cs : List (List Nat)}, VA vs cs → VA (vs ++ [Value.str (S c) t]) (cs ++ [c])
  | [], [], _ => ⟨⟨t, rfl⟩, trivial⟩
  | _ :: _, _ :: _, h => ⟨h.1, VA_snoc h.2⟩
theorem VA_get : ∀ {vs : List Value} {cs : List (List Nat)} {i : Nat} {c : List Nat}, VA vs cs → cs[i]? = some c → ∃ t, vs[i]? = some (.str (S c) t)
  | [], [], _, _, _, h => by simp at h
  | _ :: _, _ :: _, 0, _, h, e => by
    obtain ⟨⟨t, rfl⟩, _⟩ := h
    simp at e; subst e; exact ⟨t, rfl⟩
  | _ :: _, _ :: _, i + 1, _, h, e => by simp at e ⊢; exact VA_get h.2 e

noncomputable def cut (l : List Nat) (i j : Nat) : List Nat := (l.drop i).take (j - i)
theorem cut_len {l : List Nat} {i j : Nat} (h : j ≤ l.length) : (cut l i j).length = j - i := by unfold cut; simp; omega
theorem cut_get {l : List Nat} {i j v : Nat} (h : v < j - i) : (cut l i j)[v]? = l[i + v]? := by unfold cut; simp [List.getElem?_take, h]
theorem cut_app {l : List Nat} {i j k : Nat} (h1 : i ≤ j) (h2 : j ≤ k) : cut l i j ++ cut l j k = cut l i k := by
  unfold cut
  have e1 : l.drop j = (l.drop i).drop (j - i) := by rw [List.drop_drop]; congr 1; omega
  have e2 : k - i = (j - i) + (k - j) := by omega
  rw [e1, e2, List.take_add]
theorem cut_one {l : List Nat} {i c : Nat} (h : l[i]? = some c) : cut l i (i + 1) = [c] := by
  obtain ⟨hi, e⟩ := List.getElem?_eq_some_iff.mp h
  unfold cut
  rw [List.drop_eq_getElem_cons hi, e]; simp
theorem cut_mem {l : List Nat} {i j c : Nat} (h : c ∈ cut l i j) : ∃ v, i ≤ v ∧ v < j ∧ l[v]? = some c := by
  obtain ⟨n, hn, e⟩ := List.getElem_of_mem h
  have hl : (cut l i j).length ≤ j - i := by unfold cut; simp; omega
  have hv : n < j - i := by omega
  have : (cut l i j)[n]? = some c := by rw [List.getElem?_eq_getElem hn, e]
  rw [cut_get hv] at this
  exact ⟨i + n, by omega, by omega, this⟩
theorem cut_last {l : List Nat} {i j : Nat} (h : i < j) : (cut l i j).getLast? = (cut l i j)[j - i - 1]? ∨ (cut l i j).length < j - i := by
  by_cases hl : (cut l i j).length = j - i
  · left; rw [List.getLast?_eq_getElem?, hl]
  · right; have : (cut l i j).length ≤ j - i := by unfold cut; simp; omega
    omega
theorem cut_head {l : List Nat} {i j : Nat} (h : i < j) : (cut l i j).head? = l[i]? := by
  rw [List.head?_eq_getElem?, cut_get (by omega)]; simp

noncomputable def HypOK (l : List Nat) : Prop := ∀ v : Nat, l[v]? = some 45 → 1 ≤ v ∧ l[v - 1]? = some 97 ∧ l[v + 1]? = some 99

structure CI (l : List Nat) (i0 : Nat) (cs : List (List Nat)) (i k : Nat) : Prop where
  le : i0 ≤ i
  lt : i < k
  none : ∀ v, i ≤ v → v < k → l[v]? ≠ some 45
  flat : cs.flatMap (· ++ [45]) = cut l i0 i
  good : ∀ c ∈ cs, c.getLast? = some 97 ∧ 45 ∉ c
  heads : ∀ c ∈ cs.drop 1, c.head? = some 99
  hd : cs ≠ [] → l[i]? = some 99
theorem CI.step {l : List Nat} {i0 i k k' : Nat} {cs : List (List Nat)} (H : HypOK l) (h : CI l i0 cs i k) (hk : k ≤ k') (hd : l[k']? = some 45) (hn : ∀ v, k ≤ v → v < k' → l[v]? ≠ some 45) :
    CI l i0 (cs ++ [cut l i k']) (k' + 1) (k' + 3) := by
  obtain ⟨_, ha, hc⟩ := H k' hd
  have h1 := h.lt
  have h2 := h.le
  have hkl : k' < l.length := (List.getElem?_eq_some_iff.mp hd).1
  have hne : ∀ v, i ≤ v → v < k' → l[v]? ≠ some 45 := fun v a b => by
    by_cases hv : v < k
    · exact h.none v a hv
    · exact hn v (by omega) b
  refine ⟨by omega, by omega, fun v a b e => ?_, ?_, fun c hm => ?_, fun c hm => ?_, fun _ => hc⟩
  · have : v = k' + 1 ∨ v = k' + 2 := by omega
    rcases this with rfl | rfl
    · rw [hc] at e; cases e
    · have := (H _ e).2.1
      rw [show k' + 2 - 1 = k' + 1 by omega, hc] at this; cases this
  · rw [List.flatMap_append, h.flat, ← cut_app (i := i0) (j := k') (k := k' + 1) (by omega) (by omega), ← cut_app (i := i0) (j := i) (k := k') h2 (by omega), cut_one hd]
    simp
  · rcases List.mem_append.mp hm with hm | hm
    · exact h.good c hm
    · obtain rfl := List.mem_singleton.mp hm
      refine ⟨?_, fun hx => ?_⟩
      · rcases cut_last (l := l) (i := i) (j := k') (by omega) with e | e
        · rw [e, cut_get (by omega), show i + (k' - i - 1) = k' - 1 by omega, ha]
        · rw [cut_len (by omega)] at e; omega
      · obtain ⟨v, a, b, e⟩ := cut_mem hx
        exact hne v a b e
  · cases hcs : cs with
    | nil => rw [hcs] at hm; simp at hm
    | cons x r =>
      rw [hcs] at hm
      have hm' : c ∈ r ++ [cut l i k'] := by simpa using hm
      rcases List.mem_append.mp hm' with hm | hm
      · exact h.heads c (by rw [hcs]; exact hm)
      · obtain rfl := List.mem_singleton.mp hm
        rw [cut_head (by omega)]
        exact h.hd (by rw [hcs]; exact List.cons_ne_nil _ _)
theorem CI.count {l : List Nat} {i0 i k : Nat} {cs : List (List Nat)} (h : CI l i0 cs i k) : cs.length ≤ i - i0 := by
  have hl : (cut l i0 i).length ≤ i - i0 := by unfold cut; simp; omega
  rw [← h.flat] at hl
  refine Nat.le_trans ?_ hl
  clear hl h
  induction cs with
  | nil => simp
  | cons x r ih =>
    rw [List.flatMap_cons, List.length_append, List.length_cons]
    simp only [List.length_append, List.length_cons, List.length_nil]
    omega
end PL1
end Mine
theorem Mine.off_V2 : True := by w_top off; trivial
namespace Mine
section V2
variable {prog : Program} {w : World} {M : Model} {A : Around} {E : Value → Shared → Prop} {s : Shared} {g : Heap} {L : Addr} {m m' : Str → Option Value} {news : List (Addr × Obj)} {env : Env} {st : Stmt} {rest : List Stmt} {Q : Flow → Shared → Prop} {x : Str}
theorem frw {h : Heap} {v : Value} (e : m x = some v) (F : Fr g L h m) : Fr g L h (fun y => if y = x then some v else m y) := by
  have : (fun y => if y = x then some v else m y) = m := by funext y; split <;> simp_all
  rw [this]; exact F
noncomputable def ovl (m : Str → Option Value) : List (Str × Value) → Str → Option Value
  | [] => m
  | q :: r => fun y => if y = q.1 then some q.2 else ovl m r y
theorem ovl_eq {l : List (Str × Value)} (h : ∀ q ∈ l, m q.1 = some q.2) : ovl m l = m := by
  induction l with
  | nil => rfl
  | cons q r ih =>
    funext y
    show (if y = q.1 then some q.2 else ovl m r y) = m y
    rw [ih fun z hz => h z (List.Mem.tail _ hz)]
    by_cases e : y = q.1
    · rw [if_pos e, e]; exact (h q (List.Mem.head _)).symm
    · rw [if_neg e]
theorem fro {h : Heap} (l : List (Str × Value)) (e : ∀ q ∈ l, m q.1 = some q.2) (F : Fr g L h m) : Fr g L h (ovl m l) := by rw [ovl_eq e]; exact F
theorem all_nil {α : Type} {P : α → Prop} : ∀ q ∈ ([] : List α), P q := fun _ h => nomatch h
theorem all_cons {α : Type} {P : α → Prop} {x : α} {l : List α} (h : P x) (r : ∀ q ∈ l, P q) : ∀ q ∈ x :: l, P q := fun q hq => by
  cases hq with
  | head => exact h
  | tail _ hq => exact r q hq
theorem fr1 {h : Heap} {x1 : Str} {v1 : Value} (F : Fr g L h m) (e1 : m x1 = some v1) : Fr g L h (fun y => if y = x1 then some v1 else m y) := fro [(x1, v1)] (all_cons e1 (all_nil)) F
theorem fr2 {h : Heap} {x1 x2 : Str} {v1 v2 : Value} (F : Fr g L h m) (e1 : m x1 = some v1) (e2 : m x2 = some v2) : Fr g L h (fun y => if y = x1 then some v1 else if y = x2 then some v2 else m y) := fro [(x1, v1), (x2, v2)] (all_cons e1 (all_cons e2 (all_nil))) F
theorem fr3 {h : Heap} {x1 x2 x3 : Str} {v1 v2 v3 : Value} (F : Fr g L h m) (e1 : m x1 = some v1) (e2 : m x2 = some v2) (e3 : m x3 = some v3) : Fr g L h (fun y => if y = x1 then some v1 else if y = x2 then some v2 else if y = x3 then some v3 else m y) := fro [(x1, v1), (x2, v2), (x3, v3)] (all_cons e1 (all_cons e2 (all_cons e3 (all_nil)))) F
theorem fr4 {h : Heap} {x1 x2 x3 x4 : Str} {v1 v2 v3 v4 : Value} (F : Fr g L h m) (e1 : m x1 = some v1) (e2 : m x2 = some v2) (e3 : m x3 = some v3) (e4 : m x4 = some v4) : Fr g L h (fun y => if y = x1 then some v1 else if y = x2 then some v2 else if y = x3 then some v3 else if y = x4 then some v4 else m y) := fro [(x1, v1), (x2, v2), (x3, v3), (x4, v4)] (all_cons e1 (all_cons e2 (all_cons e3 (all_cons e4 (all_nil))))) F
theorem fr5 {h : Heap} {x1 x2 x3 x4 x5 : Str} {v1 v2 v3 v4 v5 : Value} (F : Fr g L h m) (e1 : m x1 = some v1) (e2 : m x2 = some v2) (e3 : m x3 = some v3) (e4 : m x4 = some v4) (e5 : m x5 = some v5) : Fr g L h (fun y => if y = x1 then some v1 else if y = x2 then some v2 else if y = x3 then some v3 else if y = x4 then some v4 else if y = x5 then some v5 else m y) := fro [(x1, v1), (x2, v2), (x3, v3), (x4, v4), (x5, v5)] (all_cons e1 (all_cons e2 (all_cons e3 (all_cons e4 (all_cons e5 (all_nil)))))) F
theorem fr6 {h : Heap} {x1 x2 x3 x4 x5 x6 : Str} {v1 v2 v3 v4 v5 v6 : Value} (F : Fr g L h m) (e1 : m x1 = some v1) (e2 : m x2 = some v2) (e3 : m x3 = some v3) (e4 : m x4 = some v4) (e5 : m x5 = some v5) (e6 : m x6 = some v6) : Fr g L h (fun y => if y = x1 then some v1 else if y = x2 then some v2 else if y = x3 then some v3 else if y = x4 then some v4 else if y = x5 then some v5 else if y = x6 then some v6 else m y) := fro [(x1, v1), (x2, v2), (x3, v3), (x4, v4), (x5, v5), (x6, v6)] (all_cons e1 (all_cons e2 (all_cons e3 (all_cons e4 (all_cons e5 (all_cons e6 (all_nil))))))) F
theorem fr7 {h : Heap} {x1 x2 x3 x4 x5 x6 x7 : Str} {v1 v2 v3 v4 v5 v6 v7 : Value} (F : Fr g L h m) (e1 : m x1 = some v1) (e2 : m x2 = some v2) (e3 : m x3 = some v3) (e4 : m x4 = some v4) (e5 : m x5 = some v5) (e6 : m x6 = some v6) (e7 : m x7 = some v7) : Fr g L h (fun y => if y = x1 then some v1 else if y = x2 then some v2 else if y = x3 then some v3 else if y = x4 then some v4 else if y = x5 then some v5 else if y = x6 then some v6 else if y = x7 then some v7 else m y) := fro [(x1, v1), (x2, v2), (x3, v3), (x4, v4), (x5, v5), (x6, v6), (x7, v7)] (all_cons e1 (all_cons e2 (all_cons e3 (all_cons e4 (all_cons e5 (all_cons e6 (all_cons e7 (all_nil)))))))) F
theorem fr8 {h : Heap} {x1 x2 x3 x4 x5 x6 x7 x8 : Str} {v1 v2 v3 v4 v5 v6 v7 v8 : Value} (F : Fr g L h m) (e1 : m x1 = some v1) (e2 : m x2 = some v2) (e3 : m x3 = some v3) (e4 : m x4 = some v4) (e5 : m x5 = some v5) (e6 : m x6 = some v6) (e7 : m x7 = some v7) (e8 : m x8 = some v8) : Fr g L h (fun y => if y = x1 then some v1 else if y = x2 then some v2 else if y = x3 then some v3 else if y = x4 then some v4 else if y = x5 then some v5 else if y = x6 then some v6 else if y = x7 then some v7 else if y = x8 then some v8 else m y) := fro [(x1, v1), (x2, v2), (x3, v3), (x4, v4), (x5, v5), (x6, v6), (x7, v7), (x8, v8)] (all_cons e1 (all_cons e2 (all_cons e3 (all_cons e4 (all_cons e5 (all_cons e6 (all_cons e7 (all_cons e8 (all_nil))))))))) F
theorem fr9 {h : Heap} {x1 x2 x3 x4 x5 x6 x7 x8 x9 : Str} {v1 v2 v3 v4 v5 v6 v7 v8 v9 : Value} (F : Fr g L h m) (e1 : m x1 = some v1) (e2 : m x2 = some v2) (e3 : m x3 = some v3) (e4 : m x4 = some v4) (e5 : m x5 = some v5) (e6 : m x6 = some v6) (e7 : m x7 = some v7) (e8 : m x8 = some v8) (e9 : m x9 = some v9) : Fr g L h (fun y => if y = x1 then some v1 else if y = x2 then some v2 else if y = x3 then some v3 else if y = x4 then some v4 else if y = x5 then some v5 else if y = x6 then some v6 else if y = x7 then some v7 else if y = x8 then some v8 else if y = x9 then some v9 else m y) := fro [(x1, v1), (x2, v2), (x3, v3), (x4, v4), (x5, v5), (x6, v6), (x7, v7), (x8, v8), (x9, v9)] (all_cons e1 (all_cons e2 (all_cons e3 (all_cons e4 (all_cons e5 (all_cons e6 (all_cons e7 (all_cons e8 (all_cons e9 (all_nil)))))))))) F
theorem ov1 {x1 : Str} {v1 : Value} (e1 : m x1 = some v1) : (fun y => if y = x1 then some v1 else m y) = m := ovl_eq (l := [(x1, v1)]) (all_cons e1 (all_nil))
theorem ov2 {x1 x2 : Str} {v1 v2 : Value} (e1 : m x1 = some v1) (e2 : m x2 = some v2) : (fun y => if y = x1 then some v1 else if y = x2 then some v2 else m y) = m := ovl_eq (l := [(x1, v1), (x2, v2)]) (all_cons e1 (all_cons e2 (all_nil)))
theorem ov3 {x1 x2 x3 : Str} {v1 v2 v3 : Value} (e1 : m x1 = some v1) (e2 : m x2 = some v2) (e3 : m x3 = some v3) : (fun y => if y = x1 then some v1 else if y = x2 then some v2 else if y = x3 then some v3 else m y) = m := ovl_eq (l := [(x1, v1), (x2, v2), (x3, v3)]) (all_cons e1 (all_cons e2 (all_cons e3 (all_nil))))
theorem ov4 {x1 x2 x3 x4 : Str} {v1 v2 v3 v4 : Value} (e1 : m x1 = some v1) (e2 : m x2 = some v2) (e3 : m x3 = some v3) (e4 : m x4 = some v4) : (fun y => if y = x1 then some v1 else if y = x2 then some v2 else if y = x3 then some v3 else if y = x4 then some v4 else m y) = m := ovl_eq (l := [(x1, v1), (x2, v2), (x3, v3), (x4, v4)]) (all_cons e1 (all_cons e2 (all_cons e3 (all_cons e4 (all_nil)))))
theorem ov5 {x1 x2 x3 x4 x5 : Str} {v1 v2 v3 v4 v5 : Value} (e1 : m x1 = some v1) (e2 : m x2 = some v2) (e3 : m x3 = some v3) (e4 : m x4 = some v4) (e5 : m x5 = some v5) : (fun y => if y = x1 then some v1 else if y = x2 then some v2 else if y = x3 then some v3 else if y = x4 then some v4 else if y = x5 then some v5 else m y) = m := ovl_eq (l := [(x1, v1), (x2, v2), (x3, v3), (x4, v4), (x5, v5)]) (all_cons e1 (all_cons e2 (all_cons e3 (all_cons e4 (all_cons e5 (all_nil))))))
theorem ov6 {x1 x2 x3 x4 x5 x6 : Str} {v1 v2 v3 v4 v5 v6 : Value} (e1 : m x1 = some v1) (e2 : m x2 = some v2) (e3 : m x3 = some v3) (e4 : m x4 = some v4) (e5 : m x5 = some v5) (e6 : m x6 = some v6) : (fun y => if y = x1 then some v1 else if y = x2 then some v2 else if y = x3 then some v3 else if y = x4 then some v4 else if y = x5 then some v5 else if y = x6 then some v6 else m y) = m := ovl_eq (l := [(x1, v1), (x2, v2), (x3, v3), (x4, v4), (x5, v5), (x6, v6)]) (all_cons e1 (all_cons e2 (all_cons e3 (all_cons e4 (all_cons e5 (all_cons e6 (all_nil)))))))
theorem ov7 {x1 x2 x3 x4 x5 x6 x7 : Str} {v1 v2 v3 v4 v5 v6 v7 : Value} (e1 : m x1 = some v1) (e2 : m x2 = some v2) (e3 : m x3 = some v3) (e4 : m x4 = some v4) (e5 : m x5 = some v5) (e6 : m x6 = some v6) (e7 : m x7 = some v7) : (fun y => if y = x1 then some v1 else if y = x2 then some v2 else if y = x3 then some v3 else if y = x4 then some v4 else if y = x5 then some v5 else if y = x6 then some v6 else if y = x7 then some v7 else m y) = m := ovl_eq (l := [(x1, v1), (x2, v2), (x3, v3), (x4, v4), (x5, v5), (x6, v6), (x7, v7)]) (all_cons e1 (all_cons e2 (all_cons e3 (all_cons e4 (all_cons e5 (all_cons e6 (all_cons e7 (all_nil))))))))
theorem ov8 {x1 x2 x3 x4 x5 x6 x7 x8 : Str} {v1 v2 v3 v4 v5 v6 v7 v8 : Value} (e1 : m x1 = some v1) (e2 : m x2 = some v2) (e3 : m x3 = some v3) (e4 : m x4 = some v4) (e5 : m x5 = some v5) (e6 : m x6 = some v6) (e7 : m x7 = some v7) (e8 : m x8 = some v8) : (fun y => if y = x1 then some v1 else if y = x2 then some v2 else if y = x3 then some v3 else if y = x4 then some v4 else if y = x5 then some v5 else if y = x6 then some v6 else if y = x7 then some v7 else if y = x8 then some v8 else m y) = m := ovl_eq (l := [(x1, v1), (x2, v2), (x3, v3), (x4, v4), (x5, v5), (x6, v6), (x7, v7), (x8, v8)]) (all_cons e1 (all_cons e2 (all_cons e3 (all_cons e4 (all_cons e5 (all_cons e6 (all_cons e7 (all_cons e8 (all_nil)))))))))
theorem ov9 {x1 x2 x3 x4 x5 x6 x7 x8 x9 : Str} {v1 v2 v3 v4 v5 v6 v7 v8 v9 : Value} (e1 : m x1 = some v1) (e2 : m x2 = some v2) (e3 : m x3 = some v3) (e4 : m x4 = some v4) (e5 : m x5 = some v5) (e6 : m x6 = some v6) (e7 : m x7 = some v7) (e8 : m x8 = some v8) (e9 : m x9 = some v9) : (fun y => if y = x1 then some v1 else if y = x2 then some v2 else if y = x3 then some v3 else if y = x4 then some v4 else if y = x5 then some v5 else if y = x6 then some v6 else if y = x7 then some v7 else if y = x8 then some v8 else if y = x9 then some v9 else m y) = m := ovl_eq (l := [(x1, v1), (x2, v2), (x3, v3), (x4, v4), (x5, v5), (x6, v6), (x7, v7), (x8, v8), (x9, v9)]) (all_cons e1 (all_cons e2 (all_cons e3 (all_cons e4 (all_cons e5 (all_cons e6 (all_cons e7 (all_cons e8 (all_cons e9 (all_nil))))))))))
theorem frc {h : Heap} (F : Fr g L h m) (e : ∀ y, m y = m' y) : Fr g L h m' := by rw [← funext e]; exact F
theorem frO1 {h : Heap} {x1 : Str} {v1 : Value} (F : Fr g L h m') (e1 : m' x1 = some v1) (r : ∀ y, y ≠ x1 → m' y = m y) : Fr g L h (fun y => if y = x1 then some v1 else m y) := frc F fun y => by
  by_cases h1 : y = x1
  · rw [if_pos h1, h1]; exact e1
  rw [if_neg h1]
  exact r y h1
theorem frO2 {h : Heap} {x1 x2 : Str} {v1 v2 : Value} (F : Fr g L h m') (e1 : m' x1 = some v1) (e2 : m' x2 = some v2) (r : ∀ y, y ≠ x1 → y ≠ x2 → m' y = m y) : Fr g L h (fun y => if y = x1 then some v1 else if y = x2 then some v2 else m y) := frc F fun y => by
  by_cases h1 : y = x1
  · rw [if_pos h1, h1]; exact e1
  rw [if_neg h1]
  by_cases h2 : y = x2
  · rw [if_pos h2, h2]; exact e2
  rw [if_neg h2]
  exact r y h1 h2
theorem frO3 {h : Heap} {x1 x2 x3 : Str} {v1 v2 v3 : Value} (F : Fr g L h m') (e1 : m' x1 = some v1) (e2 : m' x2 = some v2) (e3 : m' x3 = some v3) (r : ∀ y, y ≠ x1 → y ≠ x2 → y ≠ x3 → m' y = m y) : Fr g L h (fun y => if y = x1 then some v1 else if y = x2 then some v2 else if y = x3 then some v3 else m y) := frc F fun y => by
  by_cases h1 : y = x1
  · rw [if_pos h1, h1]; exact e1
  rw [if_neg h1]
  by_cases h2 : y = x2
  · rw [if_pos h2, h2]; exact e2
  rw [if_neg h2]
  by_cases h3 : y = x3
  · rw [if_pos h3, h3]; exact e3
  rw [if_neg h3]
  exact r y h1 h2 h3
theorem frO4 {h : Heap} {x1 x2 x3 x4 : Str} {v1 v2 v3 v4 : Value} (F : Fr g L h m') (e1 : m' x1 = some v1) (e2 : m' x2 = some v2) (e3 : m' x3 = some v3) (e4 : m' x4 = some v4) (r : ∀ y, y ≠ x1 → y ≠ x2 → y ≠ x3 → y ≠ x4 → m' y = m y) : Fr g L h (fun y => if y = x1 then some v1 else if y = x2 then some v2 else if y = x3 then some v3 else if y = x4 then some v4 else m y) := frc F fun y => by
  by_cases h1 : y = x1
  · rw [if_pos h1, h1]; exact e1
  rw [if_neg h1]
  by_cases h2 : y = x2
  · rw [if_pos h2, h2]; exact e2
  rw [if_neg h2]
  by_cases h3 : y = x3
  · rw [if_pos h3, h3]; exact e3
  rw [if_neg h3]
  by_cases h4 : y = x4
  · rw [if_pos h4, h4]; exact e4
  rw [if_neg h4]
  exact r y h1 h2 h3 h4
theorem frO5 {h : Heap} {x1 x2 x3 x4 x5 : Str} {v1 v2 v3 v4 v5 : Value} (F : Fr g L h m') (e1 : m' x1 = some v1) (e2 : m' x2 = some v2) (e3 : m' x3 = some v3) (e4 : m' x4 = some v4) (e5 : m' x5 = some v5) (r : ∀ y, y ≠ x1 → y ≠ x2 → y ≠ x3 → y ≠ x4 → y ≠ x5 → m' y = m y) : Fr g L h (fun y => if y = x1 then some v1 else if y = x2 then some v2 else if y = x3 then some v3 else if y = x4 then some v4 else if y = x5 then some v5 else m y) := frc F fun y => by
  by_cases h1 : y = x1
  · rw [if_pos h1, h1]; exact e1
  rw [if_neg h1]
  by_cases h2 : y = x2
  · rw [if_pos h2, h2]; exact e2
  rw [if_neg h2]
  by_cases h3 : y = x3
  · rw [if_pos h3, h3]; exact e3
  rw [if_neg h3]
  by_cases h4 : y = x4
  · rw [if_pos h4, h4]; exact e4
  rw [if_neg h4]
  by_cases h5 : y = x5
  · rw [if_pos h5, h5]; exact e5
  rw [if_neg h5]
  exact r y h1 h2 h3 h4 h5
theorem frO6 {h : Heap} {x1 x2 x3 x4 x5 x6 : Str} {v1 v2 v3 v4 v5 v6 : Value} (F : Fr g L h m') (e1 : m' x1 = some v1) (e2 : m' x2 = some v2) (e3 : m' x3 = some v3) (e4 : m' x4 = some v4) (e5 : m' x5 = some v5) (e6 : m' x6 = some v6) (r : ∀ y, y ≠ x1 → y ≠ x2 → y ≠ x3 → y ≠ x4 → y ≠ x5 → y ≠ x6 → m' y = m y) : Fr g L h (fun y => if y = x1 then some v1 else if y = x2 then some v2 else if y = x3 then some v3 else if y = x4 then some v4 else if y = x5 then some v5 else if y = x6 then some v6 else m y) := frc F fun y => by
  by_cases h1 : y = x1
  · rw [if_pos h1, h1]; exact e1
  rw [if_neg h1]
  by_cases h2 : y = x2
  · rw [if_pos h2, h2]; exact e2
  rw [if_neg h2]
  by_cases h3 : y = x3
  · rw [if_pos h3, h3]; exact e3
  rw [if_neg h3]
  by_cases h4 : y = x4
  · rw [if_pos h4, h4]; exact e4
  rw [if_neg h4]
  by_cases h5 : y = x5
  · rw [if_pos h5, h5]; exact e5
  rw [if_neg h5]
  by_cases h6 : y = x6
  · rw [if_pos h6, h6]; exact e6
  rw [if_neg h6]
  exact r y h1 h2 h3 h4 h5 h6
noncomputable def MidV (g : Heap) (L : Addr) (m : Str → Option Value) (news : List (Addr × Obj)) (s : Shared) (x : Str) (P : Value → Prop) (f : Flow) (s' : Shared) : Prop :=
  f = .next ∧ ∃ v h' tk', P v ∧ s' = { s with heap := h', toks := tk' } ∧ Fr g L h' (fun y => if y = x then some v else m y) ∧ News g L h' news
theorem midV {P : Value → Prop} {v : Value} {h' : Heap} {tk' : Nat} {m' : Str → Option Value} {news' : List (Addr × Obj)} (hp : P v) (F : Fr g L h' m') (N : News g L h' news') (e : ∀ y, m' y = if y = x then some v else m y) (hs : ∀ q ∈ news, q ∈ news') :
    MidV g L m news s x P .next { s with heap := h', toks := tk' } := ⟨rfl, v, h', tk', hp, rfl, frc F e, fun q hq => N q (hs q hq)⟩
theorem seqV (_F : Fr g L s.heap m) (_N : News g L s.heap news) (x : Str) (P : Value → Prop) (h1 : wpAny M A (exec st env) (MidV g L m news s x P) E s)
    (h2 : ∀ v h' tk', P v → Fr g L h' (fun y => if y = x then some v else m y) → News g L h' news → wpAny M A (execs rest env) Q E { s with heap := h', toks := tk' }) : wpAny M A (execs (st :: rest) env) Q E s := by
  rw [execs_cons]
  refine wpAny_bind (wpAny_mono h1 (fun f s' hm => ?_) fun _ _ h => h)
  obtain ⟨rfl, v, h', tk', hp, rfl, F, N⟩ := hm
  exact h2 v h' tk' hp F N
theorem up2 {α : Type} {c : Prop} [Decidable c] {x y r : α} : (if c then x else r) = if c then x else if c then y else r := by by_cases h : c <;> simp [h]
theorem scan_t {c : Prop} [Decidable c] {x y : Str} (h : (if c then if (x != y) = true then true else false else false) = true) : (x == y) = false := by
  by_cases hc : c
  · rw [if_pos hc] at h
    cases he : (x == y) with
    | false => rfl
    | true => simp [bne, he] at h
  · rw [if_neg hc] at h; cases h
theorem scan_f {c : Prop} [Decidable c] {x y : Str} (h : (if c then if (x != y) = true then true else false else false) = false) (hc : c) : (x == y) = true := by
  rw [if_pos hc] at h
  cases he : (x == y) with
  | true => rfl
  | false => simp [bne, he] at h
end V2
end Mine
theorem Mine.off_V3 : True := by w_top off; trivial
namespace Mine
section V3
variable {prog : Program} {w : World} {A : Around} {s : Shared} {env : Env} {Q : Flow → Shared → Prop}
noncomputable def WEnd (I : Nat → Shared → Prop) (Q : Flow → Shared → Prop) (n : Nat) (f : Flow) (s₃ : Shared) : Prop :=
  match f with
  | .next | .cont => ∃ k, k < n ∧ I k s₃
  | .brk => Q .next s₃
  | .ret v => Q (.ret v) s₃
theorem whileG {test : PySem.Expr} {body : List Stmt} {pos : Pos} (I : Nat → Shared → Prop) {n₀ : Nat} (h0 : I n₀ s)
    (turn : ∀ n s₁, I n s₁ → wpAny (model prog w) A (isTrue test env (eval test env)) (fun b s₂ =>
      if b = true then wpAny (model prog w) A (execs body env) (WEnd I Q n) (fun _ _ => False) s₂ else Q .next s₂) (fun _ _ => False) s₁) :
    wpAny (model prog w) A (exec (.While test body [] pos) env) Q (fun _ _ => False) s := by
  refine wpAny_While (codeAny_whileLoop I ?_ n₀ h0)
  intro n s' hI
  refine wpAny_mono (turn n s' hI) (fun b s₂ h₂ => ?_) (fun _ _ h => h.elim)
  cases b with
  | false =>
    simp only [Bool.false_eq_true, if_false] at h₂ ⊢
    exact wpAny_execs_nil h₂
  | true =>
    simp only [if_true] at h₂ ⊢
    refine wpAny_mono h₂ (fun f s₃ h₃ => ?_) (fun _ _ h => h.elim)
    cases f <;> exact h₃
theorem seqQ {st : Stmt} {rest : List Stmt} (P : Shared → Prop) (h1 : wpAny (model prog w) A (exec st env) (fun f s' => f = .next ∧ P s') (fun _ _ => False) s)
    (h2 : ∀ s', P s' → wpAny (model prog w) A (execs rest env) Q (fun _ _ => False) s') : wpAny (model prog w) A (execs (st :: rest) env) Q (fun _ _ => False) s := by
  rw [execs_cons]
  refine wpAny_bind (wpAny_mono h1 (fun f s' hm => ?_) fun _ _ h => h)
  obtain ⟨rfl, h⟩ := hm
  exact h2 s' h
theorem seqQ' {st : Stmt} {rest : List Stmt} (P : Flow → Shared → Prop) (h1 : wpAny (model prog w) A (exec st env) P (fun _ _ => False) s) (hn : ∀ f s', P f s' → f = .next)
    (h2 : ∀ s', P .next s' → wpAny (model prog w) A (execs rest env) Q (fun _ _ => False) s') : wpAny (model prog w) A (execs (st :: rest) env) Q (fun _ _ => False) s := by
  rw [execs_cons]
  refine wpAny_bind (wpAny_mono h1 (fun f s' hm => ?_) fun _ _ h => h)
  obtain rfl := hn f s' hm
  exact h2 s' hm
theorem withToks {α : Type} {M : Model} {t : Sem α} {Q : α → Shared → Prop} {E : Value → Shared → Prop} (hp : 0 < s.toks) (h : wpAny M A t (fun x s' => 0 < s'.toks → Q x s') E s) : wpAny M A t Q E s :=
  wpAny_mono (wpAny_toks_of (n := 1) hp h) (fun _ _ x => x.2 x.1) fun _ _ x => x.2
theorem withTokN {α : Type} {M : Model} {n : Nat} {t : Sem α} {Q : α → Shared → Prop} {E : Value → Shared → Prop} (hp : n ≤ s.toks) (h : wpAny M A t (fun x s' => n ≤ s'.toks → Q x s') E s) : wpAny M A t Q E s :=
  wpAny_mono (wpAny_toks_of (n := n) hp h) (fun _ _ x => x.2 x.1) fun _ _ x => x.2
theorem forG {x : Str} {px pos : Pos} {iter : PySem.Expr} {body : List Stmt} (I : Nat → Value → Shared → Prop)
    (start : wpAny (model prog w) A (eval iter env) (fun v s₁ => wpAny (model prog w) A (pyIter v) (fun it s₂ => ∃ n, I n it s₂) (fun _ _ => False) s₁) (fun _ _ => False) s)
    (turn : ∀ it n s₁, I n it s₁ → wpAny (model prog w) A (pyNext it) (fun r s₂ => match r with
      | none => Q .next s₂
      | some v => wpAny (model prog w) A (storeName env x v) (fun _ s₃ => wpAny (model prog w) A (execs body env) (WEnd (fun k => I k it) Q n) (fun _ _ => False) s₃) (fun _ _ => False) s₂) (fun _ _ => False) s₁)
    (hs : ∀ y, foldedSetIterable iter env y = pure y := by intro _; rfl) :
    wpAny (model prog w) A (exec (.For (.Name x px) iter body [] pos) env) Q (fun _ _ => False) s := by
  refine wpAny_For (wpAny_mono start (fun v s₁ h₁ => wpAny_mono h₁ (fun it s₂ h₂ => ?_) fun _ _ h => h.elim) fun _ _ h => h.elim) hs
  obtain ⟨n, hI⟩ := h₂
  refine codeAny_forLoop_any (fun k s' => I k it s') (fun n s' hI => ?_) n hI
  refine wpAny_mono (turn it n s' hI) (fun r s₁ h₁ => ?_) (fun _ _ h => h.elim)
  cases r with
  | none => exact wpAny_execs_nil h₁
  | some v =>
    refine wpAny_pure ?_
    refine wpAny_assign_Name (wpAny_mono h₁ (fun _ s₂ h₂ => wpAny_mono h₂ (fun f s₃ h₃ => ?_) (fun _ _ h => h.elim)) (fun _ _ h => h.elim))
    cases f <;> exact h₃
theorem toks_genN {α : Type} {M : Model} {n : Nat} {t : Sem α} {Q : α → Shared → Prop} {E : Value → Shared → Prop} {h : Heap} {g : Array GenState} {d : Drawn} {tk : Nat} {os : OsState} (hb : n ≤ tk) (x : ∀ tk, n ≤ tk → wpAny M A t Q E ⟨h, g, d, tk, os⟩) : wpAny M A t Q E ⟨h, g, d, tk, os⟩ := x _ hb
section E
variable {g : Heap} {L : Addr} {st : Stmt} {rest : List Stmt}
noncomputable def PostE (g : Heap) (L : Addr) (s : Shared) (P : (Str → Option Value) → List (Addr × Obj) → Prop) (f : Flow) (s' : Shared) : Prop :=
  f = .next ∧ ∃ m' news' h' tk', P m' news' ∧ s' = { s with heap := h', toks := tk' } ∧ Fr g L h' m' ∧ News g L h' news'
theorem postE {P : (Str → Option Value) → List (Addr × Obj) → Prop} {m' : Str → Option Value} {news' : List (Addr × Obj)} {h' : Heap} {tk' : Nat} (hp : P m' news') (F : Fr g L h' m') (N : News g L h' news') :
    PostE g L s P .next { s with heap := h', toks := tk' } := ⟨rfl, m', news', h', tk', hp, rfl, F, N⟩
theorem seqE {m : Str → Option Value} (_F : Fr g L s.heap m) {n0 : Nat} (hpos : n0 ≤ s.toks) (P : (Str → Option Value) → List (Addr × Obj) → Prop)
    (h1 : wpAny (model prog w) A (exec st env) (PostE g L s P) (fun _ _ => False) s)
    (h2 : ∀ m' news' h' tk', P m' news' → n0 ≤ tk' → Fr g L h' m' → News g L h' news' → wpAny (model prog w) A (execs rest env) Q (fun _ _ => False) { s with heap := h', toks := tk' }) :
    wpAny (model prog w) A (execs (st :: rest) env) Q (fun _ _ => False) s := by
  rw [execs_cons]
  refine wpAny_bind (withTokN hpos (wpAny_mono h1 (fun f s' hm ht => ?_) fun _ _ h => h))
  obtain ⟨rfl, m', news', h', tk', hp, rfl, F, N⟩ := hm
  exact h2 m' news' h' tk' hp ht F N
theorem seqVn {E : Value → Shared → Prop} {m : Str → Option Value} {news : List (Addr × Obj)} {n0 : Nat} (hpos : n0 ≤ s.toks) (_F : Fr g L s.heap m) (_N : News g L s.heap news) (x : Str) (P : Value → Prop) (h1 : wpAny (model prog w) A (exec st env) (MidV g L m news s x P) E s)
    (h2 : ∀ v h' tk', n0 ≤ tk' → P v → Fr g L h' (fun y => if y = x then some v else m y) → News g L h' news → wpAny (model prog w) A (execs rest env) Q E { s with heap := h', toks := tk' }) : wpAny (model prog w) A (execs (st :: rest) env) Q E s := by
  rw [execs_cons]
  refine wpAny_bind (withTokN hpos (wpAny_mono h1 (fun f s' hm ht => ?_) fun _ _ h => h))
  obtain ⟨rfl, v, h', tk', hp, rfl, F, N⟩ := hm
  exact h2 v h' tk' ht hp F N
end E
end V3
end Mine
theorem Mine.off_G1 : True := by w_top off; trivial
namespace Mine
section G1
variable {prog : Program} {w : World} {A : Around}
noncomputable def protoP (C I l : Addr) (n₀ : Nat) (F : Nat → Value → Prop) : Protocol := fun m s₀ v s kap =>
  F (n₀ - 1 - m) v ∧ GenSince C [I] s₀ s ∧ ∀ s'' : Shared, 0 < s''.toks → (∀ b ∈ [C, I, l], ∀ o, s.heap.get? b = some o → s''.heap.get? b = some o) → kap (.send .none) s''
noncomputable def EltOK (prog : Program) (w : World) (cenv : Env) (x : Str) (elt : PySem.Expr) (items : Array Value) (F : Nat → Value → Prop) : Prop :=
  ∀ (A' : Around) E' i v (s₂ : Shared) m₂, A'.handled = none → 0 < s₂.toks → items[i]? = some v → s₂.heap.Ns cenv.locals m₂ → m₂ x = some v →
    wpAny (model prog w) A' (eval elt cenv) (fun y s₃ => F i y ∧ Keeps s₂ s₃) E' s₂
theorem seg_loopP {elt iter : PySem.Expr} {x : Str} {px : Pos} {scope : Scope} {pos : Pos} {I l : Addr} {items : Array Value} {F : Nat → Value → Prop} {cenv : Env}
    (hh : A.handled = none) (hx : cenv.kindOf x = some .local) (hp : (cenv.scope.kind == .class || (cenv.scope.kind == .module && cenv.locals != cenv.globals)) = false)
    (hco : cenv.scope.isCoroutine = false) (hCI : cenv.locals ≠ I) (hCl : cenv.locals ≠ l) (hlI : l ≠ I) (he : EltOK prog w cenv x elt items F) :
    ∀ (k i : Nat) (s₀ s : Shared) (m : Str → Option Value), items.size - i = k → i ≤ items.size → s.heap.IsListIter I l i → s.heap.IsList l items → s.heap.Ns cenv.locals m → GenSince cenv.locals [I] s₀ s → 0 < s.toks →
      Seg (model prog w) A (fun n s₀ r s₁ => r = .ok .next ∧ (n = 0 ∧ GenSince cenv.locals [I] s₀ s₁)) (protoP cenv.locals I l items.size F) (items.size - i) s₀
        (.compLoop (.GeneratorExp elt [⟨.Name x px, iter, [], 0⟩] scope pos) 0 (.ref I) .none cenv)
        ((model prog w).den (.compLoop (.GeneratorExp elt [⟨.Name x px, iter, [], 0⟩] scope pos) 0 (.ref I) .none cenv)) [] s := by
  have hh' : (A.over (.compLoop (.GeneratorExp elt [⟨.Name x px, iter, [], 0⟩] scope pos) 0 (.ref I) .none cenv) []).handled = none := hh
  have W₀ := Walks.list (prog := prog) (w := w) hh' I l hlI items
  intro k
  induction k with
  | zero =>
    intro i s₀ s m hk hi hit hl hn hsince hpos
    obtain rfl : i = items.size := by omega
    show Seg _ A _ _ _ s₀ _ ((compTurn (.GeneratorExp elt [⟨.Name x px, iter, [], 0⟩] scope pos) 0 (.ref I) .none cenv).onRaise (leaving cenv)) [] s
    rw [compTurn_gen, Sem.onRaise_eq_wrap]
    refine seg_bind_wrap (wpAny_standAt ?_)
    refine seg_bind_wrap (W₀.done s _ _ ⟨hit, hl⟩ fun h' tk hk' => ?_)
    exact seg_end (.ok .next) ⟨rfl, by omega, hsince.step fun b o _ hw e => hk' b o hw e⟩
  | succ k ih =>
    intro i s₀ s m hk hi hit hl hn hsince hpos
    have hlt : i < items.size := by omega
    show Seg _ A _ _ _ s₀ _ ((compTurn (.GeneratorExp elt [⟨.Name x px, iter, [], 0⟩] scope pos) 0 (.ref I) .none cenv).onRaise (leaving cenv)) [] s
    rw [compTurn_gen, Sem.onRaise_eq_wrap]
    refine seg_bind_wrap (wpAny_standAt ?_)
    refine seg_bind_wrap (withToks hpos (W₀.item i s _ _ hlt ⟨hit, hl⟩ fun v h₁ tk₁ hPv hst₁ hk₁ hp₁ => ?_))
    refine seg_bind_wrap (wpAny_of_eq (rfl : letOwnedTupleGo (.Name x px) (.ref I) v = pure ()) ?_)
    refine seg_bind_wrap (withToks hp₁ (wpAny_assign_Name (wpAny_storeName_local hx (hn.at' fun o e => hk₁ _ o (by simp [hCI]) e) (fun h₂ hn₂ hs₂ => ?_) hp)))
    intro hp₂
    have hit₂ : h₂.IsListIter I l (i + 1) := hst₁.1.at fun o e => hs₂.extBut I o (Ne.symm hCI) e
    have hl₂ : h₂.IsList l items := hst₁.2.at fun o e => hs₂.extBut l o (Ne.symm hCl) e
    have up₂ : ∀ b o, b ≠ cenv.locals → b ∉ [I] → s.heap.get? b = some o → h₂.get? b = some o := fun b o hbC hbw e => hs₂.extBut b o hbC (hk₁ b o hbw e)
    refine seg_bind_wrap (wpAny_pure ?_)
    have hy : ∀ v, yieldOut cenv v = yieldValue v := fun v => by simp only [yieldOut, hco, Bool.false_eq_true, if_false]
    simp only [if_true, hy]
    rw [Sem.bind_eq_wrap', Sem.bind_eq_wrap', Sem.wrap_wrap, Sem.wrap_wrap]
    refine seg_wrap (withToks hp₂ (wpAny_mono (he _ _ i v _ _ hh' hp₂ hPv hn₂ (by simp)) (fun y s₄ h₄ hp₄ => ?_) fun _ _ e => e))
    obtain ⟨hFy, h₄, tk₄, rfl, hk₄⟩ := h₄
    have hm : items.size - i - 1 = items.size - (i + 1) := by omega
    obtain ⟨q, hq⟩ : ∃ q, items.size - i = q + 1 := ⟨items.size - i - 1, by omega⟩
    rw [hq]
    have hq' : q = items.size - (i + 1) := by omega
    refine seg_at (seg_yield rfl rfl rfl ⟨?_, hsince.step fun b o hbC hbw e => hk₄ b o (up₂ b o hbC hbw e), fun s'' hp'' hal => ?_⟩)
    · have : items.size - 1 - q = i := by omega
      rw [this]; exact hFy
    · subst hq'
      refine seg_again rfl (ih (i + 1) s'' s'' _ (by omega) hlt (hit₂.at fun o e => hal I (by simp) o (hk₄ I o e)) (hl₂.at fun o e => hal l (by simp) o (hk₄ l o e))
        ((hn₂.keeps hk₄).at' fun o e => hal _ (by simp) o e) (GenSince.refl _ _ _) hp'')
end G1
end Mine
theorem Mine.off_G2 : True := by w_top off; trivial
namespace Mine
section G2
variable {prog : Program} {w : World} {A : Around}
theorem seg_startP {elt iter : PySem.Expr} {x : Str} {px : Pos} {scope : Scope} {pos : Pos} {I l : Addr} {items : Array Value} {F : Nat → Value → Prop} {cenv : Env}
    (hh : A.handled = none) (hx : cenv.kindOf x = some .local) (hp : (cenv.scope.kind == .class || (cenv.scope.kind == .module && cenv.locals != cenv.globals)) = false)
    (hco : cenv.scope.isCoroutine = false) (hCI : cenv.locals ≠ I) (hCl : cenv.locals ≠ l) (hlI : l ≠ I) (he : EltOK prog w cenv x elt items F)
    (s₀ s : Shared) (m : Str → Option Value) (hit : s.heap.IsListIter I l 0) (hl : s.heap.IsList l items) (hn : s.heap.Ns cenv.locals m) (hsince : GenSince cenv.locals [I] s₀ s) (hpos : 0 < s.toks) :
      Seg (model prog w) A (fun n s₀ r s₁ => r = .ok .next ∧ (n = 0 ∧ GenSince cenv.locals [I] s₀ s₁)) (protoP cenv.locals I l items.size F) items.size s₀
        (.compStart (.GeneratorExp elt [⟨.Name x px, iter, [], 0⟩] scope pos) 0 (.ref I) .none cenv)
        ((model prog w).den (.compStart (.GeneratorExp elt [⟨.Name x px, iter, [], 0⟩] scope pos) 0 (.ref I) .none cenv)) [] s := by
  have hh' : (A.over (.compStart (.GeneratorExp elt [⟨.Name x px, iter, [], 0⟩] scope pos) 0 (.ref I) .none cenv) []).handled = none := hh
  have W₀ := Walks.list (prog := prog) (w := w) hh' I l hlI items
  have loop := seg_loopP (iter := iter) (px := px) (scope := scope) (pos := pos) hh hx hp hco hCI hCl hlI he items.size 0 s₀ s m (Nat.sub_zero _) (Nat.zero_le _) hit hl hn hsince hpos
  show Seg _ A _ _ _ s₀ _ ((compStart (.GeneratorExp elt [⟨.Name x px, iter, [], 0⟩] scope pos) 0 (.ref I) .none cenv).onRaise (leaving cenv)) [] s
  unfold compStart
  rw [Sem.onRaise_eq_wrap]
  show Seg _ A _ _ _ s₀ _ ((ask >>= _).wrap _ _ _ _) [] s
  refine seg_bind_wrap (wpAny_askSetting ?_)
  split
  · exact seg_again rfl loop
  · first
      | exact seg_bind_wrap (wpAny_rule (seg_bind_wrap (wpAny_standAt (seg_bind_wrap (W₀.self 0 s _ _ ⟨hit, hl⟩ (seg_again rfl loop))))))
      | (refine seg_bind_wrap (wpAny_rule ?_); show Seg _ A _ _ _ s₀ _ ((standAt iter.pos >>= _).wrap _ _ _ _) [] s; exact seg_bind_wrap (wpAny_standAt (seg_bind_wrap (W₀.self 0 s _ _ ⟨hit, hl⟩ (seg_again rfl loop)))))
noncomputable def GenAtP (prog : Program) (w : World) (A : Around) (a : Addr) (g : Nat) (C I l : Addr) (n₀ : Nat) (F : Nat → Value → Prop) (j : Nat) (s : Shared) : Prop :=
  0 < s.toks ∧ s.heap.IsGen a g ∧ s.heap.NoLimit ∧ ∃ gs, s.gens[g]? = some gs ∧ ∀ s'' : Shared, 0 < s''.toks → (∀ b ∈ [C, I, l], ∀ o, s.heap.get? b = some o → s''.heap.get? b = some o) →
    gs.Goes (model prog w) A.in1 (fun n s₀ r s₁ => r = .ok .next ∧ (n = 0 ∧ GenSince C [I] s₀ s₁)) (protoP C I l n₀ F) (n₀ - j) (.send .none) s''
theorem genAtP_fresh {elt iter : PySem.Expr} {x : Str} {px : Pos} {scope : Scope} {pos : Pos} {I l a : Addr} {g : Nat} {items : Array Value} {F : Nat → Value → Prop} {cenv : Env}
    (hh : A.handled = none) (hx : cenv.kindOf x = some .local) (hp : (cenv.scope.kind == .class || (cenv.scope.kind == .module && cenv.locals != cenv.globals)) = false)
    (hco : cenv.scope.isCoroutine = false) (hCI : cenv.locals ≠ I) (hCl : cenv.locals ≠ l) (hlI : l ≠ I) (he : EltOK prog w cenv x elt items F) {s : Shared} {m : Str → Option Value}
    (hpos : 0 < s.toks) (hg : s.heap.IsGen a g) (hgs : s.gens[g]? = some (.fresh (.compStart (.GeneratorExp elt [⟨.Name x px, iter, [], 0⟩] scope pos) 0 (.ref I) .none cenv)))
    (hit : s.heap.IsListIter I l 0) (hl : s.heap.IsList l items) (hn : s.heap.Ns cenv.locals m) (hlim : s.heap.NoLimit) : GenAtP prog w A a g cenv.locals I l items.size F 0 s :=
  ⟨hpos, hg, hlim, _, hgs, fun s'' hp'' hal => ⟨rfl, seg_startP (A := A.in1) hh hx hp hco hCI hCl hlI he s'' s'' m (hit.at fun o e => hal I (by simp) o e) (hl.at fun o e => hal l (by simp) o e)
    (hn.at' fun o e => hal _ (by simp) o e) (GenSince.refl _ _ _) hp''⟩⟩
theorem walksP (hh : A.handled = none) (a : Addr) (g : Nat) (C I l : Addr) (n₀ : Nat) (F : Nat → Value → Prop) (haC : a ≠ C) (haI : a ≠ I)
    (hroom : A.depth < recursionLimit) (hcC : cStatics ≠ C) (hcI : cStatics ≠ I) :
    WalksS prog w A a [a, C, I, l, cStatics] [C, I] (GenOnlyQ g) n₀ F (GenAtP prog w A a g C I l n₀ F) where
  sub := fun b hb => by simp at hb ⊢; rcases hb with rfl | rfl <;> simp
  grefl := fun _ => .inl rfl
  gtrans := fun _ _ _ x y => x.trans y
  frame := fun j s h' tk st ht hk =>
    ⟨Nat.lt_of_lt_of_le st.1 ht, let ⟨o, nm, qn, ho, r⟩ := st.2.1; ⟨o, nm, qn, hk a (by simp) o ho, r⟩,
     (let ⟨mc, hns, hnn⟩ := st.2.2.1; ⟨mc, hns.at' fun o e => hk cStatics (by simp) o e, hnn⟩),
     let ⟨gs, hgs, hgo⟩ := st.2.2.2; ⟨gs, hgs, fun s'' hp hal => hgo s'' hp fun b hb o e => hal b hb o (hk b (by simp at hb ⊢; rcases hb with rfl | rfl | rfl <;> simp) o e)⟩⟩
  item := fun j s Q E hj st hQ => by
    obtain ⟨hpos, hg, hl, gs, hgs, hgo⟩ := st
    obtain ⟨m, hm⟩ : ∃ m, n₀ - j = m + 1 := ⟨n₀ - j - 1, by omega⟩
    rw [hm] at hgo
    refine withToks hpos (wpAny_with_toks (Nat.le_refl s.toks) ?_)
    refine wpAny_pyNext_genexpQ (P := fun n s₀ s₁ => n = 0 ∧ GenSince C [I] s₀ s₁) hh hl hroom hg hgs (hgo _ hpos fun _ _ _ e => e) (fun v s₁ gs' hb hv => ?_) (fun s₁ hp h' hk => ?_)
    · obtain ⟨hF, ⟨h₁, tk₁, rfl, hk₁⟩, hkap⟩ := hv
      have hidx : n₀ - 1 - (m + 1 - 1) = j := by omega
      rw [hidx] at hF
      intro htk hp1
      refine hQ v _ hF ⟨hp1, let ⟨o, nm, qn, ho, r⟩ := hg; ⟨o, nm, qn, hk₁ a o haC (by simp [haI]) ho, r⟩, (let ⟨mc, hns, hnn⟩ := hl; ⟨mc, hns.at' fun o e => hk₁ cStatics o hcC (by simp [hcI]) e, hnn⟩), gs', setGen_self (gs := .running) (setGen_self hgs), fun s'' hp hal => ?_⟩
        ⟨fun b o hb e => hk₁ b o (fun h => hb (by simp [h])) (fun h => hb (by simp at h; simp [h])) e, GenOnlyQ.of ((GenOnly.setGen s g .running).trans (GenOnly.setGen _ g gs')) (setGen_self (gs := .running) (setGen_self hgs)) hb, rfl, rfl, htk⟩
      have e : n₀ - (j + 1) = m := by omega
      rw [e]
      exact hkap s'' hp hal
    · exact absurd hp.1 (Nat.succ_ne_zero m)
  done := fun s Q E st hQ => by
    obtain ⟨hpos, hg, hl, gs, hgs, hgo⟩ := st
    rw [Nat.sub_self] at hgo
    refine wpAny_with_toks (Nat.le_refl s.toks) ?_
    refine wpAny_pyNext_genexpQ (P := fun n s₀ s₁ => n = 0 ∧ GenSince C [I] s₀ s₁) hh hl hroom hg hgs (hgo _ hpos fun _ _ _ e => e) (fun v s₁ gs' hb hv => ?_) (fun s₁ hp h' hk => ?_)
    · obtain ⟨_, _, hkap⟩ := hv
      by_cases h0 : 0 < s₁.toks
      · exact False.elim (hkap s₁ h0 fun _ _ _ e => e)
      · exact False.elim (hkap { s₁ with toks := 1 } (Nat.one_pos) fun _ _ _ e => e)
    · obtain ⟨_, h₁, tk₁, rfl, hk₁⟩ := hp
      intro htk
      exact hQ _ ⟨fun b o hb e => hk b o (hk₁ b o (fun h => hb (by simp [h])) (fun h => hb (by simp at h; simp [h])) e), GenOnlyQ.of ((GenOnly.setGen s g .running).trans (GenOnly.setGen _ g .finished)) (setGen_self (gs := .running) (setGen_self hgs)) rfl, rfl, rfl, htk⟩
  self := fun _ _ _ _ st hQ => wpAny_pyIter_gen st.2.1 hQ
end G2
end Mine
theorem Mine.off_G3 : True := by w_top off; trivial
namespace Mine
section G3
variable {prog : Program} {w : World} {A : Around} {E : Value → Shared → Prop} {s : Shared} {g : Heap} {L c P l : Addr} {m mg mb : Str → Option Value} {news : List (Addr × Obj)} {gg : Obj → List (Addr × Obj)} {p : Program} {loose : List Str} {mean : ExcName → Option Value} {ps : Array Value}
theorem genCode_hit {M : Model} {env : Env} {pos : Pos} {q : Str} {scope : Scope} {Q : Value → Shared → Prop} {c' : Addr} (hc : env.code = .ref c) (hok : s.heap.IsCode c P ps) (hf : codeAmong pos ps.toList = some (.ref c')) (h : Q (.ref c') s) :
    wpAny M A (genexprCode env pos q scope) Q E s := by
  obtain ⟨o, vs, file, tf, flags, tg, inF, text, tt, op, ho, hd, h11, h2, h7, h9, h10, hop, hpd, htr, hne⟩ := id hok
  unfold genexprCode codeAt
  rw [hc, if_neg (show ¬ ((Value.ref c == Value.none) = true) from Bool.false_ne_true)]
  refine wpAny_bind (wpAny_fieldsOf ho hd ?_)
  rw [h11]
  refine wpAny_bind (wpAny_fieldsOf hop hpd ?_)
  rw [hf]
  exact wpAny_pure h
noncomputable def PsNext (pos : Pos) (ps ps' : Array Value) : Prop := ps' = ps ∨ (codeAmong pos ps.toList = none ∧ ∃ c' : Addr, ps' = ps ++ #[rawInt pos.line, rawInt pos.col, .ref c'])
theorem genexpN {env : Env} {elt iter : PySem.Expr} {x : Str} {px : Pos} {scope : Scope} {pos : Pos} {items : Array Value} {e : Nat} {Fv : Nat → Value → Prop} {Q : Value → Shared → Prop}
    (F : Fr g L s.heap m) (N : News g L s.heap news) (T : Top p loose mean mg mb g) (Cc : CodeHd g c P) (U : UpdF P (tabObj ps) news gg) (hl : (l, listOf items e) ∈ news) (ht : TriplesOk ps.toList)
    (hf : codeAmong pos ps.toList = none ∨ ∃ c' : Addr, codeAmong pos ps.toList = some (.ref c')) (G : AllBare s.gens) (hpos : 0 < s.toks)
    (hge : env.globals = mainGlobals) (hcode : env.code = .ref c)
    (hh : A.handled = none) (hco : scope.isCoroutine = false) (hclos : closureFor scope env = pure []) (hcell : ∀ y ∈ scope.names, y.2 ≠ .cell) (h0 : scope.names.lookup (".0" : Str) = some NameKind.local)
    (hx : scope.names.lookup x = some .local) (hkind : scope.kind = .function) (hroom : A.depth < recursionLimit)
    (hit : wpAny (model prog w) A (eval iter env) (fun v s' => v = .ref l ∧ s' = s) E s)
    (he : ∀ C code, EltOK prog w (genEnv scope [] C code builtinsNs env) x elt items Fv)
    (hQ : ∀ ps' aa s₅ K, PsNext pos ps ps' → Fr g L s₅.heap m → News g L s₅.heap (gg (tabObj ps')) → AllBare s₅.gens → s₅.os = s.os → 0 < s₅.toks → L ≤ K → (∀ q ∈ gg (tabObj ps'), q.1 ≤ K) → Gen prog w A K aa items.size Fv s₅ → Q (.ref aa) s₅)
    (hs : ∀ x, genFold iter env x = pure x) :
    wpAny (model prog w) A (eval (.GeneratorExp elt [⟨.Name x px, iter, [], 0⟩] scope pos) env) Q E s := by
  obtain ⟨own, rest, rfl, hgr, hn1, hn2⟩ := U.split
  have hm := N (P, tabObj ps) (List.mem_append_right _ (.head _))
  have hil : s.heap.IsList l items := ⟨_, (N _ hl).1, rfl, _, rfl⟩
  have hlt : @LT.lt Nat _ l s.heap.objs.size := Heap.lt_size (N _ hl).1
  have hPlt : @LT.lt Nat _ P s.heap.objs.size := Heap.lt_size hm.1
  have hLlt : @LT.lt Nat _ L s.heap.objs.size := F.ns.lt
  have hlP : l ≠ P := fun q => by
    have z := (N _ hl).1
    rw [q, hm.1] at z; cases z
  have hgs := T.g.keeps F.keep
  obtain ⟨bm, ob, b1, b2, b3, b4, b5, b6⟩ := T.bmain
  have hgP : mainGlobals ≠ P := fun q => by
    obtain ⟨o, es, ep, e, hd, _⟩ := hgs
    rw [q, hm.1] at e; cases e; cases hd
  have hbP : bm ≠ P := fun q => by
    have e := F.keep _ _ b3
    rw [q, hm.1] at e; cases e; cases b4
  have hlim : s.heap.NoLimit := T.nolimit.keeps F.keep
  have hcP : cStatics ≠ P := fun q => by
    obtain ⟨_, hns, _⟩ := hlim
    obtain ⟨o, es, ep, ho, hd, _⟩ := hns
    rw [q, hm.1] at ho; cases ho; cases hd
  have hcs : @LT.lt Nat _ cStatics s.heap.objs.size := let ⟨_, hn, _⟩ := hlim; hn.lt
  refine wpAny_GeneratorExp_make hco hclos hcell h0 hkind hroom (wpAny_mono hit (fun xv s₁ h₁ => ?_) fun _ _ e => e) hs
  obtain ⟨rfl, rfl⟩ := h₁
  refine wpAny_pyIter_list hil ?_
  refine ⟨hlim.push _, ?_⟩
  have hN2 : ∀ b o, s₁.heap.get? b = some o → (s₁.heap.push { cls := .type "list_iterator", data := .fields #[.ref l, .int 0 0] }).get? b = some o := fun b o e => Heap.get?_push_of_some _ e
  have hI0 : (s₁.heap.push { cls := .type "list_iterator", data := .fields #[.ref l, .int 0 0] }).IsListIter s₁.heap.objs.size l 0 := ⟨_, Heap.get?_push_size _ rfl, rfl, rfl⟩
  have key : ∀ (ps' : Array Value) (cd : Value) (h₃ : Heap) (tk₃ : Nat), PsNext pos ps ps' → 0 < tk₃ → Heap.ExtBut P (s₁.heap.push { cls := .type "list_iterator", data := .fields #[.ref l, .int 0 0] }) h₃ → h₃.get? P = some (tabObj ps') → s₁.heap.objs.size < h₃.objs.size →
      wpAny (model prog w) A (builtinsFor env.globals env.builtins) (fun bi s₄ =>
        ∀ h', h'.Ns s₄.heap.objs.size (fun y => if y = ".0" then some (.ref s₁.heap.objs.size) else none) → Heap.SameBut s₄.heap.objs.size (s₄.heap.push { cls := .type "frame", data := .dict #[] }) h' →
          Q (.ref h'.objs.size) { s₄ with
            gens := s₄.gens.push (.fresh (.compStart (.GeneratorExp elt [⟨.Name x px, iter, [], 0⟩] scope pos) 0 (.ref s₁.heap.objs.size) .none (genEnv scope [] s₄.heap.objs.size cd bi env))),
            toks := s₄.toks + 1 + 1 + 1,
            heap := h'.push { cls := .type "generator", data := .fields #[.int s₄.gens.size 0, .str "<genexpr>" (s₄.toks + 1), .str (env.qual ++ "<genexpr>") (s₄.toks + 1 + 1)] } }) E { s₁ with heap := h₃, toks := tk₃ } := by
    intro ps' cd h₃ tk₃ hps htk hx₃ htab hsz
    rw [hge]
    refine wpAny_builtinsFor ((hgs.push _).extBut hx₃ hgP) b1 b2 (hx₃ _ _ hbP (hN2 _ _ (F.keep _ _ b3))) b4 b5 b6 ?_
    intro h' hn' hs'
    have hsz' : h'.objs.size = h₃.objs.size + 1 := by rw [hs'.1, Heap.size_push]
    have kp : ∀ b o, h₃.get? b = some o → (h'.push { cls := .type "generator", data := .fields #[.int s₁.gens.size 0, .str "<genexpr>" (tk₃ + 1), .str (env.qual ++ "<genexpr>") (tk₃ + 1 + 1)] }).get? b = some o :=
      fun b o e => Heap.get?_push_of_some _ (hs'.extBut b o (Nat.ne_of_lt (Heap.lt_size e)) (Heap.get?_push_of_some _ e))
    have old : ∀ b o, b ≠ P → s₁.heap.get? b = some o → (h'.push { cls := .type "generator", data := .fields #[.int s₁.gens.size 0, .str "<genexpr>" (tk₃ + 1), .str (env.qual ++ "<genexpr>") (tk₃ + 1 + 1)] }).get? b = some o :=
      fun b o hb e => kp b o (hx₃ b o hb (hN2 b o e))
    have F5 : Fr g L (h'.push { cls := .type "generator", data := .fields #[.int s₁.gens.size 0, .str "<genexpr>" (tk₃ + 1), .str (env.qual ++ "<genexpr>") (tk₃ + 1 + 1)] }) m := by
      refine ⟨F.ns.at fun o e => old _ o hm.2.1.symm e, fun b o e => old b o (fun q => by rw [q, hm.2.2] at e; cases e) (F.keep b o e), F.above⟩
    have N5 : News g L (h'.push { cls := .type "generator", data := .fields #[.int s₁.gens.size 0, .str "<genexpr>" (tk₃ + 1), .str (env.qual ++ "<genexpr>") (tk₃ + 1 + 1)] }) (gg (tabObj ps')) := by
      intro q hq
      rw [hgr] at hq
      rcases List.mem_append.mp hq with hq | hq
      · have n := N q (List.mem_append_left _ hq)
        exact ⟨old _ _ (hn1 q hq) n.1, n.2⟩
      · rcases List.mem_cons.mp hq with rfl | hq
        · exact ⟨kp _ _ htab, hm.2⟩
        · have n := N q (List.mem_append_right _ (.tail _ hq))
          exact ⟨old _ _ (hn2 q hq) n.1, n.2⟩
    have A5 : ∀ q ∈ gg (tabObj ps'), q.1 ≤ s₁.heap.objs.size - 1 := by
      intro q hq
      rw [hgr] at hq
      have hq9 : @LT.lt Nat _ q.1 s₁.heap.objs.size := by
        rcases List.mem_append.mp hq with hq | hq
        · exact Heap.lt_size (N q (List.mem_append_left _ hq)).1
        · rcases List.mem_cons.mp hq with rfl | hq
          · exact hPlt
          · exact Heap.lt_size (N q (List.mem_append_right _ (.tail _ hq))).1
      exact Nat.le_sub_one_of_lt hq9
    refine hQ ps' h'.objs.size _ (s₁.heap.objs.size - 1) hps F5 N5 (G.push rfl) rfl (by show 0 < tk₃ + 1 + 1 + 1; omega) (Nat.le_sub_one_of_lt hLlt) A5 ?_
    have hIlt : @LT.lt Nat _ s₁.heap.objs.size h₃.objs.size := hsz
    have hCs : @Ne Nat cStatics h₃.objs.size := by omega
    have hIP : @Ne Nat s₁.heap.objs.size P := by omega
    have hI3 : h₃.IsListIter s₁.heap.objs.size l 0 := hI0.at fun o e => hx₃ _ _ hIP e
    have hL3 : h₃.IsList l items := (hil.push _).at fun o e => hx₃ _ _ hlP e
    refine ⟨_, _, _, _, walksP (A := A.in4) hh h'.objs.size s₁.gens.size h₃.objs.size s₁.heap.objs.size l items.size Fv (show @Ne Nat _ _ by omega) (show @Ne Nat _ _ by omega) hroom hCs (show @Ne Nat _ _ by omega),
      genAtP_fresh (A := A.in4) (cenv := genEnv scope [] h₃.objs.size cd builtinsNs env) (m := fun y => if y = ".0" then some (.ref s₁.heap.objs.size) else none) hh hx (by simp [genEnv, hkind]) hco (Nat.ne_of_gt hIlt) (show @Ne Nat h₃.objs.size l by omega) (show @Ne Nat _ _ by omega) (he _ _) (by show 0 < tk₃ + 1 + 1 + 1; omega)
        ⟨_, _, _, Heap.get?_push_size _ rfl, rfl, rfl, rfl⟩ (Array.getElem?_push_size ..) (hI3.at fun o e => kp _ o e) (hL3.at fun o e => kp _ o e) (hn'.push _) (((hlim.push _).extBut hx₃ hcP).keeps kp), (fun i s' st => st.2.1.typeIs), List.mem_cons_self, ?_, ?_⟩
    · intro b hb
      show @LT.lt Nat _ b (h'.push _).objs.size
      rw [Heap.size_push, hsz']
      simp at hb
      rcases hb with rfl | rfl | rfl | rfl | rfl <;> omega
    · intro b hb
      show @LT.lt Nat _ _ b
      simp at hb
      rcases hb with rfl | rfl <;> omega
  rcases hf with hnf | ⟨c', hhit⟩
  · refine withToks hpos (wpAny_genexprCodeX hcode ((Cc.keeps fun b o e => hN2 b o (F.keep b o e)).code (hN2 _ _ hm.1) ht) ((Cc.keeps fun b o e => hN2 b o (F.keep b o e)).tab (hN2 _ _ hm.1)) hnf fun c' h₃ tk₃ hx₃ hge' hlt' _ _ htb _ hp3 => ?_)
    refine key _ _ h₃ tk₃ (.inr ⟨hnf, c', rfl⟩) hp3 hx₃ htb.2 ?_
    rw [Heap.size_push] at hge'
    omega
  · exact genCode_hit hcode ((Cc.keeps fun b o e => hN2 b o (F.keep b o e)).code (hN2 _ _ hm.1) ht) hhit (key ps _ _ _ (.inl rfl) hpos (fun b o _ e => e) (hN2 _ _ hm.1) (by rw [Heap.size_push]; omega))
end G3
end Mine
theorem Mine.off_G4 : True := by w_top off; trivial
namespace Mine
section G4
variable {prog : Program} {w : World} {A : Around} {E : Value → Shared → Prop} {s : Shared} {env : Env}
theorem repl_call {o : PySem.Expr} {a b : Str} {apos pos pa pb : Pos} {Q : Value → Shared → Prop} (hab : (a == b) = false) (hb : b.length ≤ 14)
    (hbase : attributeBase o "replace" env (eval o env) = eval o env) (hline : (apos.endLine == pos.line) = true)
    (h : wpAny (model prog w) A (eval o env) (fun v s₁ => ∃ x t, v = .str x t ∧ x.length ≤ 1048576 ∧ 0 < s₁.toks ∧ ∀ t' k, Q (.str (Txt.replace x a b) t') { s₁ with toks := k }) E s) :
    wpAny (model prog w) A (eval (.Call (.Attribute o "replace" apos) [.Constant (.str a) 0 pa, .Constant (.str b) 0 pb] [] pos) env) Q E s := by
  refine Call_method2 hbase rfl hline (wpAny_mono h (fun v s₁ h₁ => ?_) fun _ _ e => e)
  obtain ⟨x, t, rfl, hx, hp, hq⟩ := h₁
  refine ⟨"str", "str.replace", F.plainAttrs_str, F.slot_str_replace, F.type_str_replace, typeIs_str _ _ _, (fun _ e => nomatch e), ?_⟩
  refine callWith_builtin (args := [(false, _), (false, _)]) rfl (evalArgs_plain (spliced_cons ?_))
  refine wpAny_Constant_str ?_
  refine spliced_cons (wpAny_Constant_str (spliced_nil ?_))
  show wpAny _ _ (call (.builtin "str.replace") [.str x t, .str a s₁.toks, .str b (s₁.toks + 1)]) _ _ _
  exact SC.replaceW (Nat.ne_of_gt hp) (Nat.succ_ne_zero _) (Nat.ne_of_lt (Nat.lt_succ_self _)) hab hx hb fun t' k => hq t' k
theorem dbl_len (c : Nat) : ∀ l : List Nat, (StrLaws.dbl c l).length ≤ 2 * l.length
  | [] => Nat.le_refl _
  | x :: r => by
    have := dbl_len c r
    unfold StrLaws.dbl
    split <;> simp <;> omega
theorem bs_eq (x : Str) : Txt.replace x "\\" "\\\\" = S (StrLaws.dbl 92 x.cps.toList) := by
  have := StrLaws.replace_double x 92
  rw [show (Str.ofString "\\") = ⟨#[92]⟩ by decide +kernel, show (Str.ofString "\\\\") = ⟨#[92, 92]⟩ by decide +kernel, ← this, S_list]
open Builtin Builtin.Str in
theorem replace_free (x z : Str) (c : Nat) (h : c ∉ x.cps.toList) : Txt.replace x ⟨#[c]⟩ z = x := by
  unfold Txt.replace
  obtain ⟨f, hch⟩ := StrLaws.occ_chain x ⟨#[c]⟩ (x.length + 1)
  cases ho : occurrences x ⟨#[c]⟩ 0 x.length (x.length + 1) with
  | nil => rfl
  | cons i r =>
    rw [ho] at hch
    exact absurd (List.mem_of_getElem? ((StrLaws.subAt_one x c i).mp hch.2.1)) h
noncomputable def esc2 (c : List Nat) : Str := Txt.replace (Txt.replace (S c) "\\" "\\\\") "-" "\\-"
theorem dbl_mem (c d : Nat) : ∀ l : List Nat, d ∈ StrLaws.dbl c l → d ∈ l
  | [], h => h
  | x :: r, h => by
    unfold StrLaws.dbl at h
    split at h
    · simp at h; rcases h with rfl | h; exact List.mem_cons_self ..; exact .tail _ (dbl_mem c d r h)
    · simp at h; rcases h with rfl | h; exact List.mem_cons_self ..; exact .tail _ (dbl_mem c d r h)
theorem esc2_eq {c : List Nat} (h : 45 ∉ c) : esc2 c = S (StrLaws.dbl 92 c) := by
  unfold esc2
  rw [bs_eq, show (Str.ofString "-") = ⟨#[45]⟩ by decide +kernel, replace_free]
  exact fun hm => h (dbl_mem _ _ _ hm)
theorem esc2_sum : ∀ l : List (List Nat), (∀ c ∈ l, c.length ≤ 64) → (∀ c ∈ l, 45 ∉ c) → ((l.map esc2).map (·.length)).sum ≤ 128 * l.length
  | [], _, _ => Nat.le_refl _
  | c :: r, h1, h2 => by
    have ih := esc2_sum r (fun x hx => h1 x (.tail _ hx)) (fun x hx => h2 x (.tail _ hx))
    have e := dbl_len 92 c
    have h3 := h1 c (List.mem_cons_self ..)
    simp only [List.map_cons, List.sum_cons, List.length_cons]
    rw [esc2_eq (h2 c (List.mem_cons_self ..)), len_list]
    simp only [List.toList_toArray]
    omega
theorem dash_elt {m₂ : Str → Option Value} {x : Str} {t : Tok} {p1 p2 p3 p4 p5 p6 p7 p8 p9 : Pos} (hp : 0 < s.toks) (hn : s.heap.Ns env.locals m₂) (hm : m₂ "s" = some (.str x t)) (hx : x.length ≤ 64)
    (hk : env.scope.kind = .function) (hl : env.scope.names.lookup ("s" : Str) = some .local) (h1 : (p2.endLine == p5.line) = true) (h2 : (p6.endLine == p9.line) = true) :
    wpAny (model prog w) A (eval ((((((Expr.Name "s" p1).Attribute "replace" p2).Call [Expr.Constant (Const.str "\\") 0 p3, Expr.Constant (Const.str "\\\\") 0 p4] [] p5).Attribute "replace" p6).Call [Expr.Constant (Const.str "-") 0 p7, Expr.Constant (Const.str "\\-") 0 p8] [] p9)) env) (fun y s₃ => (∃ u, y = .str (Txt.replace (Txt.replace x "\\" "\\\\") "-" "\\-") u) ∧ Keeps s s₃) E s := by
  refine repl_call (by decide +kernel) (by decide +kernel) rfl h2 (withToks hp (repl_call (by decide +kernel) (by decide +kernel) rfl h1 ?_))
  refine ldG hn hm ⟨x, t, rfl, by omega, hp, fun t' k hk => ⟨_, _, rfl, ?_, hk, fun t'' k' => ⟨⟨_, rfl⟩, ?_⟩⟩⟩ hk hl (by decide +kernel)
  · rw [bs_eq, len_list]
    have := dbl_len 92 x.cps.toList
    rw [← len_list] at this
    show (StrLaws.dbl 92 x.cps.toList).toArray.toList.length ≤ _
    simp only [List.toList_toArray]
    omega
  · exact ⟨_, _, rfl, fun _ _ e => e⟩
end G4
end Mine
theorem Mine.off_PL2 : True := by w_top off; trivial
namespace Mine
section PL2
theorem S_app (a b : List Nat) : (S a) ++ (S b) = S (a ++ b) := by
  show Str.mk _ = Str.mk _
  simp
theorem join_dash' : ∀ (cs : List (List Nat)) (last : List Nat), (∀ c ∈ cs, 45 ∉ c) → 45 ∉ last → Str.join "-" ((cs ++ [last]).map esc2) = S (StrLaws.dbl 92 (cs.flatMap (· ++ [45]) ++ last))
  | [], last, _, h => by
    show Str.join "-" [esc2 last] = _
    rw [esc2_eq h]; rfl
  | c :: r, last, h1, h2 => by
    have ih := join_dash' r last (fun x hx => h1 x (.tail _ hx)) h2
    have e : (c :: r ++ [last]).map esc2 = esc2 c :: (r ++ [last]).map esc2 := rfl
    rw [e, esc2_eq (h1 c (List.mem_cons_self ..))]
    cases hr : (r ++ [last]).map esc2 with
    | nil => simp at hr
    | cons y z =>
      rw [hr] at ih
      show (S (StrLaws.dbl 92 c)) ++ "-" ++ Str.join "-" (y :: z) = _
      rw [ih, lit_dash, S_app, S_app, List.flatMap_cons, List.append_assoc c, List.append_assoc c, StrLaws.dbl_append 92 c, List.append_assoc [45], StrLaws.dbl_append 92 [45], StrLaws.dbl_free 92 [45] (by decide)]
      simp
theorem join_dash (cs : List (List Nat)) (last : List Nat) (h1 : ∀ c ∈ cs, 45 ∉ c) (h2 : 45 ∉ last) : Txt.join "-" ((cs ++ [last]).map esc2) = S (StrLaws.dbl 92 (cs.flatMap (· ++ [45]) ++ last)) := by
  unfold Txt.join
  rw [StrLaws.glued_eq_join, join_dash' cs last h1 h2]
theorem mem_flat_len {c : List Nat} : ∀ {cs : List (List Nat)}, c ∈ cs → c.length ≤ (cs.flatMap (· ++ [45])).length
  | d :: r, h => by
    rw [List.flatMap_cons, List.length_append, List.length_append]
    rcases List.mem_cons.mp h with rfl | h
    · omega
    · have := mem_flat_len h; omega
end PL2
end Mine
theorem Mine.off_V4 : True := by w_top off; trivial
namespace Mine
section V4
variable {prog : Program} {w : World} {A : Around} {E : Value → Shared → Prop} {s : Shared} {g : Heap} {L it : Addr} {m : Str → Option Value} {news : List (Addr × Obj)}
theorem fr_ext {h h' : Heap} (F : Fr g L h m) (hs : Heap.ExtBut it h h') (hne : L ≠ it) (hb : g.get? it = none) : Fr g L h' m := by
  obtain ⟨oL, a1, a2, hL, a3⟩ := F.ns
  refine ⟨⟨oL, a1, a2, hs _ _ hne hL, a3⟩, fun b o e => ?_, F.above⟩
  exact hs _ _ (fun e2 => by rw [e2, hb] at e; cases e) (F.keep b o e)
theorem nw_ext {h h' : Heap} (N : News g L h news) (hs : Heap.ExtBut it h h') (ha : ∀ q ∈ news, q.1 ≠ it) : News g L h' news :=
  fun q hq => ⟨hs _ _ (ha q hq) (N q hq).1, (N q hq).2⟩
noncomputable abbrev riObj (x left step : Int) : Obj := { cls := .type "range_iterator", data := .fields #[rawInt x, rawInt left, rawInt step] }
theorem next_rangeK {x left step : Int} {Q : Option Value → Shared → Prop} (F : Fr g L s.heap m) (N : News g L s.heap ((it, riObj x left step) :: news)) (ha : ∀ q ∈ news, q.1 ≠ it) (hl : 0 < left)
    (h : ∀ h', Fr g L h' m → News g L h' ((it, riObj (x + step) (left - 1) step) :: news) → Q (some (.int x s.toks)) { s with heap := h', toks := s.toks + 1 }) : wpAny (model prog w) A (pyNext (.ref it)) Q E s := by
  have z := N _ (List.Mem.head _)
  refine wpAny_pyNext_range_item z.1 hl fun h' hi hs => h h' (F.change hs z.2.1 z.2.2) (News.setHead N ha hs hi)
theorem end_rangeK {x left step : Int} {Q : Option Value → Shared → Prop} (hh : A.handled = none) (F : Fr g L s.heap m) (N : News g L s.heap ((it, riObj x left step) :: news)) (ha : ∀ q ∈ news, q.1 ≠ it) (hl : left ≤ 0)
    (h : ∀ h', Fr g L h' m → News g L h' news → Q none { s with heap := h' }) : wpAny (model prog w) A (pyNext (.ref it)) Q E s := by
  have z := N _ (List.Mem.head _)
  refine wpAny_pyNext_range_end hh z.1 hl fun h' hs => h h' (fr_ext F hs (fun e => z.2.1 e.symm) z.2.2) (nw_ext (nwt N) hs ha)
noncomputable abbrev liObj (l : Addr) (i : Nat) : Obj := { cls := .type "list_iterator", data := .fields #[.ref l, rawInt i] }
end V4
end Mine
theorem Mine.off_S1 : True := by w_top off; trivial
namespace Mine
section S1
noncomputable def reCode : Array Nat := #[14, 14, 4, 1, 1, 9, 0, 64, 0, 1342177280, 0, 0, 0, 0, 0, 17, 0, 13, 11, 9, 0, 64, 0, 1342177280, 0, 0, 0, 0, 0, 17, 1, 1]
noncomputable def amp (c : Nat) : Bool := c == 38 || c == 124 || c == 126
noncomputable def inW (i c : Nat) : Bool := decide (c < 256) && (reCode.getD (i + (1 + c / 32)) 0).testBit (c % 32)
theorem inW_amp (c : Nat) : inW 5 c = amp c ∧ inW 19 c = amp c := by
  by_cases h : c < 256
  · have : ∀ c : Fin 256, inW 5 c = amp c ∧ inW 19 c = amp c := by decide +kernel
    exact this ⟨c, h⟩
  · unfold inW amp
    rw [decide_eq_false h, Bool.false_and, Bool.false_and]
    have h1 : (c == 38) = false := by rw [beq_eq_false_iff_ne]; omega
    have h2 : (c == 124) = false := by rw [beq_eq_false_iff_ne]; omega
    have h3 : (c == 126) = false := by rw [beq_eq_false_iff_ne]; omega
    rw [h1, h2, h3]; exact ⟨rfl, rfl⟩
theorem inSet_of {i c : Nat} (seen : Sre.Seen) (h9 : reCode.getD (i + 0) 0 = 9) (h0 : reCode.getD (i + 9 + 0) 0 = 0) (hw : inW i c = amp c) : ∃ seen', Sre.inSet reCode c reCode.size i true seen = .ok (amp c, seen') := by
  rw [← hw]
  show ∃ seen', Sre.inSet reCode c (30 + 1 + 1) i true seen = _
  unfold Sre.inSet
  simp only [h9]
  show ∃ seen', (if inW i c = true then _ else _) = _
  cases hc : inW i c with
  | true => exact ⟨_, if_pos rfl⟩
  | false =>
    rw [if_neg Bool.false_ne_true]
    unfold Sre.inSet
    simp only [h0]
    exact ⟨_, rfl⟩
theorem inSet5 (c : Nat) (seen : Sre.Seen) : ∃ seen', Sre.inSet reCode c reCode.size 5 true seen = .ok (amp c, seen') := inSet_of seen rfl rfl (inW_amp c).1
theorem inSet19 (c : Nat) (seen : Sre.Seen) : ∃ seen', Sre.inSet reCode c reCode.size 19 true seen = .ok (amp c, seen') := inSet_of seen rfl rfl (inW_amp c).2
theorem accepts17 (c : Nat) (seen : Sre.Seen) : ∃ seen', Sre.accepts reCode 17 c seen = .ok (amp c, seen') := inSet19 c seen
theorem admitted_spec (m : Sre.M) (hc : m.code = reCode) : ∀ (fuel s : Nat) (seen : Sre.Seen), m.lim < s + fuel →
    (∃ seen', Sre.M.admitted m fuel s seen = .ok (none, seen') ∧ ∀ k, s ≤ k → k < m.lim → amp (m.text.getD k 0) = false) ∨
    (∃ k seen', Sre.M.admitted m fuel s seen = .ok (some k, seen') ∧ s ≤ k ∧ k < m.lim ∧ amp (m.text.getD k 0) = true ∧ ∀ v, s ≤ v → v < k → amp (m.text.getD v 0) = false)
  | 0, s, seen, h => .inl ⟨_, rfl, fun k a b => by omega⟩
  | fuel + 1, s, seen, h => by
    unfold Sre.M.admitted
    by_cases hs : s ≥ m.lim
    · rw [if_pos hs]; exact .inl ⟨_, rfl, fun k a b => by omega⟩
    · rw [if_neg hs, hc]
      obtain ⟨seen', e⟩ := inSet5 (m.text.getD s 0) seen
      rw [e]
      cases ha : amp (m.text.getD s 0) with
      | true => exact .inr ⟨s, _, rfl, Nat.le_refl _, by omega, ha, fun v a b => by omega⟩
      | false =>
        show (∃ seen'', Sre.M.admitted m fuel (s + 1) seen' = _ ∧ _) ∨ (∃ k seen'', Sre.M.admitted m fuel (s + 1) seen' = _ ∧ _)
        rcases admitted_spec m hc fuel (s + 1) seen' (by omega) with ⟨s2, e2, h2⟩ | ⟨k, s2, e2, h2, h3, h4, h5⟩
        · refine .inl ⟨s2, e2, fun k a b => ?_⟩
          by_cases hk : k = s
          · rw [hk]; exact ha
          · exact h2 k (by omega) b
        · refine .inr ⟨k, s2, e2, by omega, h3, h4, fun v a b => ?_⟩
          by_cases hk : v = s
          · rw [hk]; exact ha
          · exact h5 v (by omega) b
end S1
end Mine
theorem Mine.off_S2 : True := by w_top off; trivial
namespace Mine
section S2
noncomputable def mAt (text : Array Nat) (k pc pos handed : Nat) (marks : Array (Option Nat)) (lm li : Int) (seen : Sre.Seen) : Sre.M :=
  { code := reCode, text, lim := text.size, start := k, lastStart := text.size, pc, pos, handed, outermost := true, marks, lastmark := lm, lastindex := li, frames := [{ wait := .nextStart, pc := 15, pos := k, outermost := true }], weight := 1, seen }
theorem step1 (text : Array Nat) (k h : Nat) (seen : Sre.Seen) : ∃ seen', (mAt text k 15 k h #[none, none] (-1) (-1) seen).step = mAt text k 17 k h #[some k, none] 0 (-1) seen' := ⟨_, rfl⟩
theorem step2 (text : Array Nat) (k h : Nat) (seen : Sre.Seen) (hk : k < text.size) (ha : amp (text.getD k 0) = true) : ∃ seen', (mAt text k 17 k h #[some k, none] 0 (-1) seen).step = mAt text k 29 (k + 1) h #[some k, none] 0 (-1) seen' := by
  obtain ⟨s2, e⟩ := accepts17 (text.getD k 0) (seen.add 13)
  rw [ha] at e
  refine ⟨s2, ?_⟩
  show (if k ≥ text.size then _ else (match Sre.accepts reCode 17 (text.getD k 0) (seen.add 13) with | .error why => _ | .ok (false, seen) => _ | .ok (true, seen) => _)) = _
  rw [if_neg (by omega), e]
  rfl
theorem step3 (text : Array Nat) (k h : Nat) (seen : Sre.Seen) : ∃ seen', (mAt text k 29 (k + 1) h #[some k, none] 0 (-1) seen).step = mAt text k 31 (k + 1) h #[some k, some (k + 1)] 1 1 seen' := by
  refine ⟨seen.add 17, ?_⟩
  have e : (mAt text k 29 (k + 1) h #[some k, none] 0 (-1) seen).step = Sre.M.mark (mAt text k 29 (k + 1) h #[some k, none] 0 (-1) (seen.add 17)) 1 := rfl
  rw [e]
  unfold Sre.M.mark
  simp [mAt]
  decide
theorem fin456 (text : Array Nat) (k h : Nat) (seen : Sre.Seen) : (mAt text k 31 (k + 1) h #[some k, some (k + 1)] 1 1 seen).step.outcome = none ∧
    ∃ mf, (mAt text k 31 (k + 1) h #[some k, some (k + 1)] 1 1 seen).step.step.step = mf ∧ (mAt text k 31 (k + 1) h #[some k, some (k + 1)] 1 1 seen).step.step.outcome = none ∧ mf.outcome = some .matched ∧ mf.start = k ∧ mf.handed = k + 1 ∧ mf.lastmark = 1 ∧ mf.lastindex = 1 ∧ mf.marks = #[some k, some (k + 1)] :=
  ⟨rfl, _, rfl, rfl, rfl, rfl, rfl, rfl, rfl, rfl⟩
theorem runFor_step (n : Nat) (m : Sre.M) (h : m.outcome = none) : Sre.M.runFor (n + 1) m = Sre.M.runFor n m.step := by
  show (if m.outcome.isSome then m else Sre.M.runFor n m.step) = _
  rw [h]; rfl
theorem runFor_done (n : Nat) (m : Sre.M) (h : m.outcome.isSome = true) : Sre.M.runFor n m = m := by
  cases n with
  | zero => rfl
  | succ n => show (if m.outcome.isSome then m else Sre.M.runFor n m.step) = _; rw [if_pos h]
structure Found (k : Nat) (mf : Sre.M) : Prop where
  out : mf.outcome = some .matched
  start : mf.start = k
  handed : mf.handed = k + 1
  lastmark : mf.lastmark = 1
  lastindex : mf.lastindex = 1
  marks : mf.marks = #[some k, some (k + 1)]
theorem run_found (text : Array Nat) (k h : Nat) (seen : Sre.Seen) (hk : k < text.size) (ha : amp (text.getD k 0) = true) :
    ∃ m4 mf, Sre.M.runFor 4 (mAt text k 15 k h #[none, none] (-1) (-1) seen) = m4 ∧ m4.outcome = none ∧ Sre.M.runFor 4 m4 = mf ∧ Found k mf := by
  obtain ⟨s1, e1⟩ := step1 text k h seen
  obtain ⟨s2, e2⟩ := step2 text k h s1 hk ha
  obtain ⟨s3, e3⟩ := step3 text k h s2
  obtain ⟨e4, mf, e5, e6, e7, e8, e9, e10, e11, e12⟩ := fin456 text k h s3
  refine ⟨(mAt text k 31 (k + 1) h #[some k, some (k + 1)] 1 1 s3).step, mf, ?_, e4, ?_, e7, e8, e9, e10, e11, e12⟩
  · rw [runFor_step 3 _ rfl, e1, runFor_step 2 _ rfl, e2, runFor_step 1 _ rfl, e3, runFor_step 0 _ rfl]; rfl
  · rw [runFor_step 3 _ e4, runFor_step 2 _ e6, e5, runFor_done _ _ (by rw [e7]; rfl)]
section
variable {M : Model} {A : Around} {E : Value → Shared → Prop} {s : Shared}
open PySem.Builtin.Re
theorem wpAny_drive1 {m : Sre.M} {turns : Nat} {Q : Sre.M → Shared → Prop} (h : (Sre.M.runFor 4 m).outcome.isSome = true) (hq : Q (Sre.M.runFor 4 m) s) : wpAny M A (reDrive (turns + 1) m) Q E s := by
  show wpAny M A (if (Sre.M.runFor 4 m).outcome.isSome then pure (Sre.M.runFor 4 m) else do rule "sre.turn"; reDrive turns (Sre.M.runFor 4 m)) Q E s
  rw [if_pos h]; exact wpAny_pure hq
theorem wpAny_drive2 {m : Sre.M} {turns : Nat} {Q : Sre.M → Shared → Prop} (h0 : (Sre.M.runFor 4 m).outcome = none) (h : wpAny M A (reDrive turns (Sre.M.runFor 4 m)) Q E s) : wpAny M A (reDrive (turns + 1) m) Q E s := by
  show wpAny M A (if (Sre.M.runFor 4 m).outcome.isSome then pure (Sre.M.runFor 4 m) else do rule "sre.turn"; reDrive turns (Sre.M.runFor 4 m)) Q E s
  rw [h0]; exact wpAny_bind (wpAny_rule h)
theorem two64 : (2 : Nat) ^ 64 = 18446744073709551614 + 1 + 1 := by decide +kernel
theorem wpAny_rules {m : Sre.M} {Q : PUnit → Shared → Prop} (h : Q PUnit.unit s) : ∀ (l : List Nat),
    wpAny M A (forIn l PUnit.unit fun i r => if m.seen.has i then do rule (Sre.names.getD i ""); pure (ForInStep.yield PUnit.unit) else pure (ForInStep.yield PUnit.unit)) Q E s
  | [] => by rw [List.forIn_nil]; exact wpAny_pure h
  | i :: r => by
    rw [List.forIn_cons]
    have ih := wpAny_rules (m := m) h r
    refine wpAny_bind ?_
    split
    · exact wpAny_bind (wpAny_rule (wpAny_pure ih))
    · exact wpAny_pure ih
theorem runToEnd_found {m mf : Sre.M} {Q : Option Sre.M → Shared → Prop} (h0 : (Sre.M.runFor 4 m).outcome = none) (h1 : Sre.M.runFor 4 (Sre.M.runFor 4 m) = mf) (h2 : mf.outcome = some .matched) (hq : Q (some mf) s) : wpAny M A (reRunToEnd m) Q E s := by
  unfold reRunToEnd
  rw [two64]
  refine wpAny_bind (wpAny_drive2 h0 (wpAny_drive1 (by rw [h1, h2]; rfl) ?_))
  rw [h1]
  refine wpAny_bind (wpAny_rules ?_ _)
  rw [h2]
  exact wpAny_pure hq
theorem runToEnd_none {m : Sre.M} {Q : Option Sre.M → Shared → Prop} (h1 : (Sre.M.runFor 4 m).outcome = some .failed) (hq : Q none s) : wpAny M A (reRunToEnd m) Q E s := by
  unfold reRunToEnd
  rw [two64]
  refine wpAny_bind (wpAny_drive1 (by rw [h1]; rfl) ?_)
  refine wpAny_bind (wpAny_rules ?_ _)
  rw [h1]
  exact wpAny_pure hq
noncomputable def m0 (text : Array Nat) (start : Nat) : Sre.M := { code := reCode, text, lim := text.size, start, lastStart := text.size, pc := 15, pos := start, handed := start, marks := #[none, none], mustAdvance := false, seen := ({} : Sre.Seen).add 14 }
theorem search_spec (text : Array Nat) (start : Nat) (hs : start ≤ text.size) {Q : Option Sre.M → Shared → Prop}
    (h0 : (∀ k, start ≤ k → k < text.size → amp (text.getD k 0) = false) → Q none s)
    (h1 : ∀ k mf, start ≤ k → k < text.size → amp (text.getD k 0) = true → (∀ v, start ≤ v → v < k → amp (text.getD v 0) = false) → Found k mf → Q (some mf) s) :
    wpAny M A (reRunToEnd (Sre.forSearch reCode text 1 start text.size false)) Q E s := by
  unfold Sre.forSearch
  by_cases hlt : start < text.size
  · show wpAny M A (reRunToEnd (if start > text.size || text.size - start < 1 then _ else _)) Q E s
    rw [if_neg (by simp; omega)]
    show wpAny M A (reRunToEnd (Sre.M.attemptFrom (m0 text start) start true)) Q E s
    have hf : (m0 text start).hasFirstSet = true := rfl
    unfold Sre.M.attemptFrom
    rw [hf, if_neg (by decide)]
    rcases admitted_spec (m0 text start) rfl ((m0 text start).lim + 1 - start) start (m0 text start).seen (by show text.size < _ + (text.size + 1 - start); omega) with ⟨s2, e2, h2⟩ | ⟨k, s2, e2, h2, h3, h4, h5⟩
    · rw [e2]
      exact runToEnd_none rfl (h0 h2)
    · rw [e2]
      show wpAny M A (reRunToEnd (mAt text k 15 k k #[none, none] (-1) (-1) s2)) Q E s
      obtain ⟨m4, mf, r1, r2, r3, r4⟩ := run_found text k k s2 h3 h4
      subst r1
      exact runToEnd_found r2 r3 r4.out (h1 k mf h2 h3 h4 h5 r4)
  · show wpAny M A (reRunToEnd (if start > text.size || text.size - start < 1 then _ else _)) Q E s
    rw [if_pos (by simp; omega)]
    exact runToEnd_none rfl (h0 fun k a b => by omega)
end
end S2
end Mine
theorem Mine.off_S3 : True := by w_top off; trivial
namespace Mine
section S3
theorem pa_pattern : PlainAttrs "re.Pattern" :=
  ⟨⟨"object.__getattribute__", by rw [typeLookup_type, builtinLookup_eq_fast]; kernel_rfl, by decide +kernel⟩, by rw [typeLookup_type, builtinLookup_eq_fast]; kernel_rfl⟩
theorem pa_match : PlainAttrs "re.Match" :=
  ⟨⟨"object.__getattribute__", by rw [typeLookup_type, builtinLookup_eq_fast]; kernel_rfl, by decide +kernel⟩, by rw [typeLookup_type, builtinLookup_eq_fast]; kernel_rfl⟩
theorem slot_sub : Slot "re.Pattern" "sub" "re.Pattern.sub" :=
  .of (owner := "re.Pattern") (n := "sub") (by rw [typeLookup_type, builtinLookup_eq_fast]; kernel_rfl) (by decide +kernel) (by decide +kernel) (by decide +kernel)
    (by first | exact .inl (by decide +kernel) | exact .inr (by decide +kernel)) (by rw [isSubtype_type]; kernel_rfl)
theorem slot_group : Slot "re.Match" "group" "re.Match.group" :=
  .of (owner := "re.Match") (n := "group") (by rw [typeLookup_type, builtinLookup_eq_fast]; kernel_rfl) (by decide +kernel) (by decide +kernel) (by decide +kernel)
    (by first | exact .inl (by decide +kernel) | exact .inr (by decide +kernel)) (by rw [isSubtype_type]; kernel_rfl)
theorem type_sub : typeOf (.builtin "re.Pattern.sub") = pure (.type "method_descriptor") := by show builtinType _ = _; rw [builtinType_eq_fast]; kernel_rfl
theorem type_group : typeOf (.builtin "re.Match.group") = pure (.type "method_descriptor") := by show builtinType _ = _; rw [builtinType_eq_fast]; kernel_rfl
theorem entry_sub : entryFor table "re.Pattern.sub" = some Builtin.«re.Pattern.sub» := entryFor_of_tree (by kernel_rfl)
theorem entry_sub_loop : entryFor table "re.Pattern.sub.loop" = some Builtin.«re.Pattern.sub.loop» := entryFor_of_tree (by kernel_rfl)
theorem entry_group : entryFor table "re.Match.group" = some Builtin.«re.Match.group» := entryFor_of_tree (by kernel_rfl)
theorem plain_sub_loop : plainId "re.Pattern.sub.loop" = true := by decide +kernel
theorem args_sub (a b c : Value) : argsOk "re.Pattern.sub" ⟨[a, b, c], []⟩ := by unfold argsOk; kernel_rfl
theorem args_group (a b : Value) : argsOk "re.Match.group" ⟨[a, b], []⟩ := by unfold argsOk; kernel_rfl
noncomputable abbrev patObj (ca : Addr) : Obj := { cls := .type "re.Pattern", data := .fields #[.str "([&~|])" 350, .int 32 385, .int 1 0, .none, .none, .ref ca, .int 0 0] }
noncomputable abbrev codeTup : Obj := { cls := .type "tuple", data := .seq #[.int 14 0, .int 14 0, .int 4 0, .int 1 0, .int 1 0, .int 9 0, .int 0 0, .int 64 0, .int 0 0, .int 1342177280 0, .int 0 0, .int 0 0, .int 0 0, .int 0 0, .int 0 0, .int 17 0, .int 0 0, .int 13 0, .int 11 0, .int 9 0, .int 0 0, .int 64 0, .int 0 0, .int 1342177280 0, .int 0 0, .int 0 0, .int 0 0, .int 0 0, .int 0 0, .int 17 0, .int 1 0, .int 1 0] }
end S3
end Mine
theorem Mine.off_S4 : True := by w_top off; trivial
namespace Mine
section S4
variable {prog : Program} {w : World} {A : Around} {E : Value → Shared → Prop} {s : Shared}
open PySem.Builtin.Re
theorem code_raw : (Array.map reRawOf #[.int 14 0, .int 14 0, .int 4 0, .int 1 0, .int 1 0, .int 9 0, .int 0 0, .int 64 0, .int 0 0, .int 1342177280 0, .int 0 0, .int 0 0, .int 0 0, .int 0 0, .int 0 0, .int 17 0, .int 0 0, .int 13 0, .int 11 0, .int 9 0, .int 0 0, .int 64 0, .int 0 0, .int 1342177280 0, .int 0 0, .int 0 0, .int 0 0, .int 0 0, .int 0 0, .int 17 0, .int 1 0, .int 1 0]).map (·.toNat) = reCode := by decide +kernel
theorem whole_target {pa ca : Addr} {x : Str} {t : Tok} {Q : ReTarget → Shared → Prop} (hp : s.heap.get? pa = some (patObj ca)) (hc : s.heap.get? ca = some codeTup)
    (h : Q ⟨.ref pa, .str x t, reCode, x.cps, 0, 1, 0, x.cps.size⟩ s) : wpAny (model prog w) A (reWholeTarget (.ref pa) (.str x t)) Q E s := by
  unfold reWholeTarget
  refine wpAny_bind (wpAny_fieldsOf hp rfl ?_)
  refine wpAny_bind (m := reTextOf (.str x t)) (wpAny_of_eq (a := (x.cps, 0)) rfl ?_)
  refine wpAny_bind (m := reNoCollectionInside _ _) (wpAny_of_eq (a := ()) rfl ?_)
  refine wpAny_bind (m := reRawItems _) ?_
  unfold reRawItems
  refine wpAny_bind (m := seqItems? (.ref ca)) (wpAny_seqItems hc rfl (wpAny_pure ?_))
  refine wpAny_pure ?_
  show Q ⟨.ref pa, .str x t, (Array.map reRawOf _).map (·.toNat), x.cps, 0, _, 0, x.cps.size⟩ s
  have e := code_raw
  simp only [Option.getD_some]
  rw [e]
  exact h
theorem next_found {pa : Addr} {x : Str} {t : Tok} {start : Nat} {Q : Option Sre.M → Shared → Prop} (hs : start ≤ x.cps.size)
    (h0 : (∀ k, start ≤ k → k < x.cps.size → amp (x.cps.getD k 0) = false) → Q none s)
    (h1 : ∀ k mf, start ≤ k → k < x.cps.size → amp (x.cps.getD k 0) = true → (∀ v, start ≤ v → v < k → amp (x.cps.getD v 0) = false) → Found k mf → Q (some mf) s) :
    wpAny (model prog w) A (reNextFound ⟨.ref pa, .str x t, reCode, x.cps, 0, 1, 0, x.cps.size⟩ start false) Q E s := search_spec x.cps start hs h0 h1
noncomputable abbrev matchObj (x : Str) (t : Tok) (pa ta : Addr) (n : Nat) : Obj := { cls := .type "re.Match", data := .fields #[.str x t, .ref pa, rawInt 0, rawInt n, rawInt 1, .ref ta] }
noncomputable abbrev spanTup (k : Nat) : Obj := { cls := .type "tuple", data := .seq #[rawInt k, rawInt (k + 1 : Nat), rawInt k, rawInt (k + 1 : Nat)] }
theorem new_match {pa : Addr} {x : Str} {t : Tok} {k n : Nat} {mf : Sre.M} {Q : Value → Shared → Prop} (F : Found k mf)
    (h : Q (.ref (s.heap.push (spanTup k)).objs.size) { s with heap := (s.heap.push (spanTup k)).push (matchObj x t pa s.heap.objs.size n) }) :
    wpAny (model prog w) A (reNewMatch (.ref pa) (.str x t) 1 0 n mf) Q E s := by
  obtain ⟨f1, f2, f3, f4, f5, f6⟩ := F
  unfold reNewMatch
  rw [f2, f3, f4, f5, f6]
  dsimp only
  rw [if_neg (by simp)]
  show wpAny _ _ (newTuple [rawInt k, rawInt (k + 1 : Nat), rawInt k, rawInt (k + 1 : Nat)] >>= fun v => newFields "re.Match" [.str x t, .ref pa, rawInt 0, rawInt n, rawInt 1, v]) Q E s
  refine wpAny_bind (m := newTuple _) ?_
  simp only [newTuple, newFields]
  refine wpAny_newObj_type ?_ (by size_fits)
  refine wpAny_newObj_type ?_ (by size_fits)
  exact h
theorem extract_one {x : Str} {k c : Nat} (hc : x.cps[k]? = some c) : x.cps.extract k (k + 1) = #[c] := by
  obtain ⟨⟨l⟩⟩ := x
  have hc' : l[k]? = some c := by simpa using hc
  obtain ⟨h, e⟩ := List.getElem?_eq_some_iff.mp hc'
  apply Array.ext'
  simp only [List.extract_toArray, List.extract_eq_take_drop]
  have h2 : k + 1 - k = 1 := by omega
  rw [h2, List.drop_eq_getElem_cons h, e]
  rfl
theorem meets_group (ma ta pa : Addr) (x : Str) (t u : Tok) (n k c : Nat) (hc : x.cps[k]? = some c) :
    Meets (Builtin.«re.Match.group» ⟨[.ref ma, .int 1 u], []⟩) (fun A R s => s.heap.get? ma = some (matchObj x t pa ta n) ∧ s.heap.get? ta = some (spanTup k) ∧
      R (.ok (.ret (.str (Str.mk #[c]) s.toks))) { s with toks := s.toks + 1 }) :=
  Meets.of_wp fun prog w A R s hs => by
    obtain ⟨hp, g, d, tk, os⟩ := s
    obtain ⟨h1, h2, h⟩ := hs
    dsimp only at h1 h2 h
    unfold Builtin.«re.Match.group»
    repeat (first | walk_at "st" | assumption)
    rw [if_neg (by simp)]
    refine wpAny_pure ?_
    refine wpAny_bind (m := reGroupText _ _ _) ?_
    have e9 : Array.map reRawOf ((some #[rawInt k, rawInt (k + 1 : Nat), rawInt k, rawInt (k + 1 : Nat)]).getD #[]) = #[(k : Int), ((k + 1 : Nat) : Int), (k : Int), ((k + 1 : Nat) : Int)] := by simp [reRawOf, rawInt]
    rw [e9]
    unfold reGroupText
    show wpAny _ _ (if (decide ((k : Int) < 0) || decide (((k + 1 : Nat) : Int) < 0)) = true then pure Value.none else (do let y ← reTextOf (.str x t); reSlice y.1 y.2 (k : Int).toNat ((k + 1 : Nat) : Int).toNat)) _ _ _
    rw [if_neg (by simp; omega)]
    refine wpAny_bind (m := reTextOf _) (wpAny_of_eq (a := (x.cps, 0)) rfl ?_)
    show wpAny _ _ (mkStr ⟨x.cps.extract k (k + 1)⟩) _ _ _
    rw [extract_one hc]
    refine wpAny_mkStr' ?_ ?_
    · exact wpAny_pure ⟨_, rfl, h⟩
    · show 1 ≤ sizeLine
      decide
theorem call_group {ma ta pa : Addr} {x : Str} {t u : Tok} {n k c : Nat} {Q : Value → Shared → Prop} (hc : x.cps[k]? = some c) (h1 : s.heap.get? ma = some (matchObj x t pa ta n)) (h2 : s.heap.get? ta = some (spanTup k))
    (h : Q (.str (S [c]) s.toks) { s with toks := s.toks + 1 }) : wpAny (model prog w) A (call (.builtin "re.Match.group") [.ref ma, .int 1 u]) Q E s :=
  call_meets slot_group ⟨_, h1, rfl⟩ entry_group (args_group _ _) (meets_group ma ta pa x t u n k c hc) ⟨h1, h2, h⟩
end S4
end Mine
theorem Mine.off_S5 : True := by w_top off; trivial
namespace Mine
section S5
variable {prog : Program} {w : World} {A : Around} {E : Value → Shared → Prop} {s : Shared} {g : Heap} {L : Addr} {m : Str → Option Value} {news : List (Addr × Obj)}
open PySem.Builtin.Re
noncomputable def ampE : List Nat → List Nat := fun l => l.flatMap fun c => if amp c then [92, c] else [c]
noncomputable def catS (l : List (Str × Tok)) : List Nat := l.flatMap fun q => q.1.cps.toList
theorem S_app5 (a b : List Nat) : (S a) ++ (S b) = S (a ++ b) := by
  show Str.mk _ = Str.mk _
  simp
theorem join_empty (l : List (Str × Tok)) : Txt.join (S []) (l.map (·.1)) = S (catS l) := by
  have key : ∀ (l : List (Str × Tok)), Str.join (S []) (l.map (·.1)) = S (catS l) := by
    intro l
    induction l with
    | nil => rfl
    | cons q r ih =>
      have hq : q.1 = S q.1.cps.toList := (S_list q.1).symm
      cases r with
      | nil =>
        show q.1 = S (q.1.cps.toList ++ [])
        rw [List.append_nil, ← hq]
      | cons q2 r2 =>
        show q.1 ++ S [] ++ Str.join (S []) ((q2 :: r2).map (·.1)) = S (q.1.cps.toList ++ catS (q2 :: r2))
        rw [ih]
        conv => lhs; rw [hq]
        rw [S_app5, S_app5, List.append_nil]
  unfold Txt.join
  rw [StrLaws.glued_eq_join, key]
theorem ampE_none : ∀ l : List Nat, (∀ c ∈ l, amp c = false) → ampE l = l
  | [], _ => rfl
  | c :: r, h => by
    show (if amp c then [92, c] else [c]) ++ ampE r = _
    rw [h c (List.mem_cons_self ..), ampE_none r fun x hx => h x (.tail _ hx)]; rfl
theorem ampE_app (a b : List Nat) : ampE (a ++ b) = ampE a ++ ampE b := List.flatMap_append ..
theorem ampE_cut {l : List Nat} {a b : Nat} (h : ∀ v, a ≤ v → v < b → amp (l.getD v 0) = false) : ampE (cut l a b) = cut l a b := by
  refine ampE_none _ fun c hc => ?_
  obtain ⟨v, h1, h2, h3⟩ := cut_mem hc
  have := h v h1 h2
  rwa [List.getD_eq_getElem?_getD, h3] at this
theorem ext_cut (x : Str) (a b : Nat) : (⟨x.cps.extract a b⟩ : Str) = S (cut x.cps.toList a b) := by
  obtain ⟨⟨l⟩⟩ := x
  show Str.mk _ = Str.mk _
  congr 1
  apply Array.ext'
  simp [cut, List.extract_eq_take_drop]
structure SubSt (l : List Nat) (k : Nat) (ps : List (Str × Tok)) : Prop where
  le : k ≤ l.length
  cat : catS ps = ampE (cut l 0 k)
  len : ps.length ≤ 2 * k
theorem catS_snoc (ps : List (Str × Tok)) (y : Str) (t : Tok) : catS (ps ++ [(y, t)]) = catS ps ++ y.cps.toList := by
  unfold catS; simp
theorem SubSt.gap {l : List Nat} {k k' : Nat} {ps : List (Str × Tok)} {t : Tok} (H : SubSt l k ps) (h1 : k < k') (h2 : k' ≤ l.length) (hn : ∀ v, k ≤ v → v < k' → amp (l.getD v 0) = false) :
    SubSt l k' (ps ++ [(S (cut l k k'), t)]) where
  le := h2
  cat := by rw [catS_snoc, H.cat, ← cut_app (i := 0) (j := k) (k := k') (by omega) (by omega), ampE_app, ampE_cut hn]
  len := by have := H.len; simp; omega
theorem SubSt.hit {l : List Nat} {k c : Nat} {ps : List (Str × Tok)} {t : Tok} (H : SubSt l k ps) (hl : l[k]? = some c) (hc : amp c = true) : SubSt l (k + 1) (ps ++ [(S [92, c], t)]) where
  le := by have := (List.getElem?_eq_some_iff.mp hl).1; omega
  cat := by
    rw [catS_snoc, H.cat, ← cut_app (i := 0) (j := k) (k := k + 1) (by omega) (by omega), ampE_app, cut_one hl]
    simp [ampE, hc]
  len := by have := H.len; simp; omega
theorem ampE_len : ∀ l : List Nat, (ampE l).length ≤ 2 * l.length
  | [] => Nat.le_refl _
  | c :: r => by
    have := ampE_len r
    show ((if amp c then [92, c] else [c]) ++ ampE r).length ≤ _
    split <;> simp <;> omega
end S5
end Mine
theorem Mine.off_R5 : True := by w_top off; trivial
namespace Mine
section R5
variable {prog : Program} {w : World} {A : Around} {E : Value → Shared → Prop} {s : Shared}
noncomputable def escRows : List (Nat × Tok × Tok) := [(40, 390, 394), (41, 396, 400), (91, 402, 406), (93, 408, 412), (123, 414, 418), (125, 420, 424), (63, 426, 430), (42, 432, 436), (43, 438, 442), (45, 444, 448), (124, 450, 454), (94, 456, 460), (36, 462, 466), (92, 468, 472), (46, 474, 478), (38, 480, 484), (126, 486, 490), (35, 492, 496), (32, 498, 502), (9, 504, 508), (10, 510, 514), (13, 516, 520), (11, 522, 526), (12, 528, 532)]
noncomputable def escEntry (r : Nat × Tok × Tok) : DictEntry := { hash := (r.1 : Int), key := .int (r.1 : Int) r.2.1, val := .str (S [92, r.1]) r.2.2 }
noncomputable abbrev escObj : Obj := { cls := .type "dict", data := .dict (escRows.map escEntry).toArray 24 }
noncomputable def escKvs : List (Int × Value) := escRows.map fun r => ((r.1 : Int), .str (S [92, r.1]) r.2.2)
noncomputable def special (c : Nat) : Bool := escRows.any fun r => r.1 == c
noncomputable def escC (c : Nat) : List Nat := if special c then [92, c] else [c]
theorem esc_pairs : ∀ l : List (Nat × Tok × Tok), Pairs (intKind prog w) (l.map escEntry) (l.map fun r => ((r.1 : Int), Value.str (S [92, r.1]) r.2.2))
  | [] => .nil
  | r :: l => .cons (intKind_is prog w _ _) rfl (esc_pairs l)
theorem esc_dict {h : Heap} (e : h.get? 87 = some escObj) : h.DictOf (intKind prog w) 87 escKvs := by
  refine ⟨_, _, _, e, ⟨rfl, rfl, rfl⟩, rfl, ?_, esc_pairs _, by decide +kernel⟩
  intro x hx
  have hx' : x ∈ escRows.map escEntry := by simpa using hx
  obtain ⟨r, hr, rfl⟩ := List.mem_map.mp hx'
  refine ⟨(r.1 : Int), intKind_is prog w _ _, ?_⟩
  have hall : ∀ r ∈ escRows, (r.1 : Int) = hashInt (r.1 : Int) := by decide +kernel
  exact hall r hr
theorem esc_at (c : Nat) : ∀ l : List (Nat × Tok × Tok), (l.any (fun r => r.1 == c) = true ∧ ∃ u, valueAt (l.map fun r => ((r.1 : Int), Value.str (S [92, r.1]) r.2.2)) (c : Int) = some (.str (S [92, c]) u)) ∨
    (l.any (fun r => r.1 == c) = false ∧ valueAt (l.map fun r => ((r.1 : Int), Value.str (S [92, r.1]) r.2.2)) (c : Int) = none)
  | [] => .inr ⟨rfl, rfl⟩
  | r :: l => by
    by_cases h : r.1 = c
    · left
      subst h
      exact ⟨by simp, r.2.2, by simp [valueAt]⟩
    · have h' : ¬ ((r.1 : Int) = (c : Int)) := by omega
      rcases esc_at c l with ⟨a, u, b⟩ | ⟨a, b⟩
      · left
        exact ⟨by simp [a], u, by simpa [valueAt, List.find?_cons, h'] using b⟩
      · right
        exact ⟨by simp only [List.any_cons, a, beq_eq_false_iff_ne.mpr h, Bool.or_false], by simpa [valueAt, List.find?_cons, h'] using b⟩
theorem ke_sub : isSubtype (.type "KeyError") (.type "LookupError") = pure true := by rw [isSubtype_type]; kernel_rfl
open Builtin.Str in
theorem look_hit {c : Nat} {Q : Mapped → Shared → Prop} (e : s.heap.get? 87 = some escObj) (hs : special c = true) (h : ∀ tk, s.toks ≤ tk → Q (.text (S [92, c])) { s with toks := tk }) :
    wpAny (model prog w) A (tableLookup (.ref 87) c) Q E s := by
  obtain ⟨hp, g, d, tk, os⟩ := s
  rcases esc_at c escRows with ⟨_, u, hv⟩ | ⟨a, _⟩
  · unfold tableLookup
    refine wpAny_bind (wpAny_attempt (wpAny_bind (wpAny_mkInt' (wpAny_getItem_of (k := (c : Int)) (intKind_is prog w _ _) (esc_dict (prog := prog) (w := w) e).mapOf hv ?_))))
    show wpAny _ _ (asInt? (Value.str _ _) >>= _) _ _ _
    refine wpAny_bind (wpAny_of_eq rfl ?_)
    refine wpAny_bind (m := asStr? _) (wpAny_of_eq rfl ?_)
    exact wpAny_pure (h _ (by dsimp only; omega))
  · unfold special at hs; rw [a] at hs; cases hs
open Builtin.Str in
theorem look_miss {c : Nat} {Q : Mapped → Shared → Prop} (hh : A.handled = none) (e : s.heap.get? 87 = some escObj) (hs : special c = false)
    (h : ∀ h' tk, (∀ b o, s.heap.get? b = some o → h'.get? b = some o) → s.toks ≤ tk → Q .keep { s with heap := h', toks := tk }) :
    wpAny (model prog w) A (tableLookup (.ref 87) c) Q E s := by
  obtain ⟨hp, g, d, tk, os⟩ := s
  rcases esc_at c escRows with ⟨a, _⟩ | ⟨_, hv⟩
  · unfold special at hs; rw [a] at hs; cases hs
  · unfold tableLookup
    refine wpAny_bind (wpAny_attempt (wpAny_bind (wpAny_mkInt' (wpAny_getItem_missing_of (k := (c : Int)) (intKind_is prog w _ _) (by decide) hh (esc_dict (prog := prog) (w := w) e).mapOf hv fun h' x he => ?_))))
    obtain ⟨ob, t, ho, hc, hd⟩ := he.there
    show wpAny _ _ (isInstance (.ref x) (.type "LookupError") >>= _) _ _ _
    refine wpAny_bind (wpAny_isInstance ⟨ob, ho, hc⟩ ke_sub ?_)
    show wpAny _ _ (rule _ >>= fun _ => pure _) _ _ _
    exact wpAny_bind (wpAny_rule (wpAny_pure (h h' (tk + 1 + 1) he.keeps (by dsimp only; omega))))
open Builtin Builtin.Str in
theorem meets_translate (c : Nat) (t : Tok) (hc : c < 128) :
    MeetsIn prog w (Builtin.«str.translate» ⟨[.str (S [c]) t, .ref 87], []⟩) (fun A R s => A.handled = none ∧ s.heap.get? 87 = some escObj ∧
      ∀ h' tk, (∀ b o, s.heap.get? b = some o → h'.get? b = some o) → s.toks ≤ tk → R (.ok (.ret (.str (S (escC c)) tk))) { s with heap := h', toks := tk + 1 }) := by
  intro A R s hs
  obtain ⟨hp, g, d, tk, os⟩ := s
  obtain ⟨hh, he, h⟩ := hs
  dsimp only at he h
  unfold Builtin.«str.translate»
  repeat (first | walk_at "st" | assumption)
  have hall : ((S [c]).cps.all fun x => decide (x < 128)) = true := by simp [hc]
  have hi : (S [c]).cps[(S [c]).cps.size - 1 - 0]'(by simp) = c := by simp
  simp only [hall, if_true, List.lookup_nil, hi]
  cases hsp : special c with
  | false =>
    have e : escC c = [c] := by unfold escC; rw [hsp]; rfl
    rw [e] at h
    refine wpAny_bind (look_miss hh he hsp fun h' tk' hk htk => ?_)
    dsimp only
    repeat (first | walk_at "st" | assumption)
    exact h h' tk' hk htk
  | true =>
    have e : escC c = [92, c] := by unfold escC; rw [hsp]; rfl
    rw [e] at h
    refine wpAny_bind (look_hit he hsp fun tk' htk => ?_)
    dsimp only
    repeat (first | (with_reducible refine look_hit he hsp fun tk2 htk2 => ?_) | walk_at "st" | assumption)
    exact h hp tk2 (fun _ _ x => x) (Nat.le_trans htk htk2)
end R5
end Mine
theorem Mine.off_V6 : True := by w_top off; trivial
namespace Mine
section V6
structure LoT (n tk : Nat) : Prop where
  le : n ≤ tk
theorem LoT.succ {n tk : Nat} (h : LoT n tk) : LoT n (tk + 1) := ⟨Nat.le_succ_of_le h.le⟩
theorem LoT.add {n tk k : Nat} (h : LoT n tk) : LoT n (tk + k) := ⟨Nat.le_trans h.le (Nat.le_add_right _ _)⟩
theorem toksL {α : Type} {M : Model} {A : Around} {n : Nat} {t : Sem α} {Q : α → Shared → Prop} {E : Value → Shared → Prop} {h : Heap} {g : Array GenState} {d : Drawn} {tk : Nat} {os : OsState} (hb : LoT n tk) (x : ∀ tk, LoT n tk → wpAny M A t Q E ⟨h, g, d, tk, os⟩) : wpAny M A t Q E ⟨h, g, d, tk, os⟩ := x _ hb
theorem toksW {α : Type} {M : Model} {A : Around} {n : Nat} {t : Sem α} {Q : α → Shared → Prop} {E : Value → Shared → Prop} {s : Shared} (hb : LoT n s.toks) (h : wpAny M A t (fun x s' => LoT n s'.toks → Q x s') E s) : wpAny M A t Q E s :=
  wpAny_mono (wpAny_toks_of (n := n) hb.le h) (fun _ _ x => x.2 ⟨x.1⟩) fun _ _ x => x.2
theorem lotI {n tk : Nat} {P : Prop} (h : LoT n tk → P) : LoT n tk → P := h
theorem execsL {M : Model} {A : Around} {n : Nat} {st : Stmt} {rest : List Stmt} {env : Env} {Q : Flow → Shared → Prop} {E : Value → Shared → Prop} {h : Heap} {g : Array GenState} {d : Drawn} {tk : Nat} {os : OsState} (hb : LoT n tk)
    (x : ∀ tk, LoT n tk → wpAny M A (exec st env) (fun f s' => LoT n s'.toks → match f with | .next => wpAny M A (execs rest env) Q E s' | f => Q f s') E ⟨h, g, d, tk, os⟩) : wpAny M A (execs (st :: rest) env) Q E ⟨h, g, d, tk, os⟩ := by
  refine wpAny_execs_cons (toksW hb (wpAny_mono (x tk hb) (fun f s' h hl => ?_) fun _ _ e => e))
  exact h hl
theorem ifL {M : Model} {A : Around} {n : Nat} {test : PySem.Expr} {body orelse : List Stmt} {pos : Pos} {env : Env} {Q : Flow → Shared → Prop} {E : Value → Shared → Prop} {s : Shared} (hb : LoT n s.toks)
    (x : wpAny M A (isTrue test env (eval test env)) (fun b s₂ => LoT n s₂.toks → if b = true then wpAny M A (execs body env) Q E s₂ else wpAny M A (execs orelse env) Q E s₂) E s) : wpAny M A (exec (.If test body orelse pos) env) Q E s :=
  wpAny_If (toksW hb (wpAny_mono x (fun f s' h hl => h hl) fun _ _ e => e))
theorem allLt_mem {d : Addr} : ∀ {l : List (Addr × Obj)}, AllLt d l → ∀ q ∈ l, q.1 < d
  | [], _, _, h => nomatch h
  | _ :: _, h, q, hq => by
    rcases List.mem_cons.mp hq with rfl | hq
    · exact h.1
    · exact allLt_mem h.2 q hq
theorem neAllLt {d c : Addr} {l : List (Addr × Obj)} (h : AllLt d l) (hd : @LE.le Nat _ d c) : ∀ q ∈ l, q.1 ≠ c := fun q hq => Nat.ne_of_lt (Nat.lt_of_lt_of_le (allLt_mem h q hq) hd)
end V6
end Mine
theorem Mine.off_PL3 : True := by w_top off; trivial
namespace Mine
section PL3
noncomputable def fixS : List Nat → List Nat
  | [] => []
  | c :: r => if c = 33 then 94 :: r else if c = 94 ∨ c = 91 then 92 :: c :: r else c :: r
noncomputable def clsT (st : List Nat) : List Nat := 91 :: fixS (ampE (StrLaws.dbl 92 st)) ++ [93]
/-- the first place from b on that holds a ']' -/
noncomputable def fnd (l : List Nat) (b : Nat) : Option Nat := (List.range l.length).find? fun k => decide (b ≤ k) && (l[k]? == some 93)
theorem fnd_some {l : List Nat} {b k : Nat} (h1 : b ≤ k) (h2 : l[k]? = some 93) (h3 : ∀ v, b ≤ v → v < k → l[v]? ≠ some 93) : fnd l b = some k := by
  have hk : k < l.length := (List.getElem?_eq_some_iff.mp h2).1
  unfold fnd
  rw [List.find?_eq_some_iff_getElem]
  refine ⟨by simp [h1, h2], k, by simpa using hk, by simp, fun j hj => ?_⟩
  simp only [List.getElem_range, Bool.not_eq_true', Bool.and_eq_false_iff, decide_eq_false_iff_not, beq_eq_false_iff_ne]
  by_cases hb : b ≤ j
  · exact .inr (h3 j hb hj)
  · exact .inl hb
theorem fnd_none {l : List Nat} {b : Nat} (h : ∀ v, b ≤ v → l[v]? ≠ some 93) : fnd l b = none := by
  unfold fnd
  rw [List.find?_eq_none]
  intro k _
  simp only [Bool.and_eq_true, decide_eq_true_eq, beq_iff_eq, not_and]
  exact fun hb => h k hb
/-- where the search for the end of a bracket begins; i: the place behind '[' -/
noncomputable def bnd (l : List Nat) (i : Nat) : Nat := if l[i]? = some 33 then i + 2 else i + 1
noncomputable def shut (l : List Nat) (i : Nat) : Option Nat := fnd l (bnd l i)
theorem shut_lt {l : List Nat} {i k : Nat} (h : shut l i = some k) : i < k ∧ k < l.length ∧ l[k]? = some 93 ∧ bnd l i ≤ k := by
  unfold shut fnd at h
  have h1 := List.find?_some h
  have h2 := List.mem_of_find?_eq_some h
  simp only [Bool.and_eq_true, decide_eq_true_eq, beq_iff_eq] at h1
  refine ⟨?_, by simpa using h2, h1.2, h1.1⟩
  have := h1.1
  unfold bnd at this
  split at this <;> omega
noncomputable def trS (l : List Nat) (p : Nat × List (List Nat)) : Nat × List (List Nat) :=
  match l[p.1]? with
  | none => p
  | some c =>
    if c = 42 then (p.1 + 1, if p.2.getLast? = some [92, 42] then p.2 else p.2 ++ [[92, 42]])
    else if c = 63 then (p.1 + 1, p.2 ++ [[92, 63]])
    else if c = 91 then
      match shut l (p.1 + 1) with
      | some k => (k + 1, p.2 ++ [clsT (cut l (p.1 + 1) k)])
      | none => (p.1 + 1, p.2 ++ [[92, 91]])
    else (p.1 + 1, p.2 ++ [escC c])
noncomputable def iter {α : Type} (f : α → α) : Nat → α → α
  | 0, x => x
  | n + 1, x => f (iter f n x)
noncomputable def Reach (l : List Nat) (i : Nat) (out : List (List Nat)) : Prop := ∃ n, iter (trS l) n (0, []) = (i, out)
theorem Reach.step {l : List Nat} {i i' : Nat} {out out' : List (List Nat)} (h : Reach l i out) (e : trS l (i, out) = (i', out')) : Reach l i' out' := by
  obtain ⟨n, hn⟩ := h
  exact ⟨n + 1, by show trS l (iter (trS l) n (0, [])) = _; rw [hn, e]⟩
/-- what the scan of `_translate` finds is `shut` -/
theorem scan_shut {l : List Nat} {i j j2 k : Nat} (h1 : j = (if l[i]? = some 33 then i + 1 else i)) (h2 : j2 = (if l[j]? = some 93 then j + 1 else j)) (h3 : j2 ≤ k) (h4 : k ≤ l.length)
    (h5 : ∀ v, j2 ≤ v → v < k → l[v]? ≠ some 93) (h6 : k < l.length → l[k]? = some 93) : (k < l.length → shut l i = some k) ∧ (k = l.length → shut l i = none) := by
  have hb : bnd l i = j + 1 := by unfold bnd; rw [h1]; split <;> rfl
  have hj : j ≤ j2 := by rw [h2]; split <;> omega
  have hn : ∀ v, bnd l i ≤ v → v < k → l[v]? ≠ some 93 := fun v a b => h5 v (by rw [hb] at a; rw [h2]; split <;> omega) b
  refine ⟨fun hk => ?_, fun hk => ?_⟩
  · have h93 := h6 hk
    refine fnd_some ?_ h93 hn
    rw [hb]
    by_cases hx : l[j]? = some 93
    · rw [if_pos hx] at h2; omega
    · rw [if_neg hx] at h2
      have : j ≠ k := fun e => hx (e ▸ h93)
      omega
  · refine fnd_none fun v a e => ?_
    have hv : v < l.length := (List.getElem?_eq_some_iff.mp e).1
    exact hn v a (by omega) e
theorem dbl_cons (c : Nat) (r : List Nat) : ∃ r', StrLaws.dbl 92 (c :: r) = c :: r' ∧ r.length ≤ r'.length := by
  have key : ∀ r : List Nat, r.length ≤ (StrLaws.dbl 92 r).length := by
    intro r
    induction r with
    | nil => exact Nat.le_refl _
    | cons x r ih => unfold StrLaws.dbl; split <;> simp <;> omega
  unfold StrLaws.dbl
  have := key r
  split
  · exact ⟨_, rfl, by simp; omega⟩
  · exact ⟨_, rfl, this⟩
theorem ampE_le (r : List Nat) : r.length ≤ (ampE r).length := by
  induction r with
  | nil => exact Nat.zero_le _
  | cons x r ih =>
    show _ ≤ ((if amp x then [92, x] else [x]) ++ ampE r).length
    split <;> simp <;> omega
/-- the class text of a bracket's inside is neither empty nor a lone '!' -/
theorem cls_ok {l : List Nat} {i k : Nat} (h : shut l i = some k) : ampE (StrLaws.dbl 92 (cut l i k)) ≠ [] ∧ ampE (StrLaws.dbl 92 (cut l i k)) ≠ [33] := by
  obtain ⟨h1, h2, h3, h4⟩ := shut_lt h
  have hl : (cut l i k).length = k - i := cut_len (by omega)
  cases hc : cut l i k with
  | nil => rw [hc] at hl; simp at hl; omega
  | cons c r =>
    obtain ⟨r', e, hr⟩ := dbl_cons c r
    rw [e]
    have ha : ampE (c :: r') = (if amp c then [92, c] else [c]) ++ ampE r' := rfl
    rw [ha]
    refine ⟨by split <;> simp, fun hx => ?_⟩
    have hc33 : c = 33 ∧ ampE r' = [] := by
      split at hx
      · simp at hx
      · simpa using hx
    have hh : l[i]? = some 33 := by
      rw [← cut_head h1, hc, hc33.1]; rfl
    unfold bnd at h4
    rw [if_pos hh] at h4
    rw [hc] at hl
    have e1 : r.length + 1 = k - i := hl
    have e2 := ampE_le r'
    rw [hc33.2, List.length_nil] at e2
    omega
end PL3
end Mine
theorem Mine.off_PL5 : True := by w_top off; trivial
namespace Mine
section PL5
noncomputable abbrev Cell := Nat × Bool
noncomputable abbrev Item := List Cell
noncomputable def live (c : Nat) : Bool := c == 32 || c == 9 || c == 10 || c == 13 || c == 34
noncomputable def innerS : List Nat → List Nat
  | [] => []
  | c :: r => if c = 33 then 94 :: r else c :: r
noncomputable def clsI (st : List Nat) : Item := (91, false) :: ((innerS st).map fun c => (c, live c)) ++ [(93, false)]
noncomputable def itS (l : List Nat) (p : Nat × List Item) : Nat × List Item :=
  match l[p.1]? with
  | none => p
  | some c =>
    match (if c = 91 then shut l (p.1 + 1) else none) with
    | some k => (k + 1, p.2 ++ [clsI (cut l (p.1 + 1) k)])
    | none => (p.1 + 1, if c ≠ 42 ∨ p.2.getLast? ≠ some [(42, false)] then p.2 ++ [[(c, c == 34)]] else p.2)
noncomputable def ReachI (l : List Nat) (i : Nat) (out : List Item) : Prop := ∃ n, iter (itS l) n (0, []) = (i, out)
theorem ReachI.step {l : List Nat} {i i' : Nat} {out out' : List Item} (h : ReachI l i out) (e : itS l (i, out) = (i', out')) : ReachI l i' out' := by
  obtain ⟨n, hn⟩ := h
  exact ⟨n + 1, by show itS l (iter (itS l) n (0, [])) = _; rw [hn, e]⟩
noncomputable abbrev tupO (a b : Value) : Obj := { cls := .type "tuple", data := .seq #[a, b] }
noncomputable def CellAt (news : List (Addr × Obj)) (v : Value) (c : Cell) : Prop := ∃ t u, v = .ref t ∧ (t, tupO (.str (S [c.1]) u) (.bool c.2)) ∈ news
noncomputable def All2 {α β : Type} (R : α → β → Prop) : List α → List β → Prop
  | [], [] => True
  | v :: vs, c :: cs => R v c ∧ All2 R vs cs
  | _, _ => False
section
variable {α β : Type} {R R' : α → β → Prop}
theorem All2.len : ∀ {vs : List α} {cs : List β}, All2 R vs cs → vs.length = cs.length
  | [], [], _ => rfl
  | _ :: _, _ :: _, h => congrArg Nat.succ h.2.len
theorem All2.mono (hm : ∀ a b, R a b → R' a b) : ∀ {vs : List α} {cs : List β}, All2 R vs cs → All2 R' vs cs
  | [], [], _ => trivial
  | _ :: _, _ :: _, h => ⟨hm _ _ h.1, h.2.mono hm⟩
theorem All2.append : ∀ {vs : List α} {cs : List β} {vs' : List α} {cs' : List β}, All2 R vs cs → All2 R vs' cs' → All2 R (vs ++ vs') (cs ++ cs')
  | [], [], _, _, _, h => h
  | _ :: _, _ :: _, _, _, h, h' => ⟨h.1, h.2.append h'⟩
theorem All2.snoc {a : α} {b : β} {vs : List α} {cs : List β} (h : All2 R vs cs) (x : R a b) : All2 R (vs ++ [a]) (cs ++ [b]) := h.append (vs' := [a]) (cs' := [b]) ⟨x, trivial⟩
theorem All2.get : ∀ {vs : List α} {cs : List β} {i : Nat} {c : β}, All2 R vs cs → cs[i]? = some c → ∃ v, vs[i]? = some v ∧ R v c
  | [], [], _, _, _, h => by simp at h
  | v :: _, _ :: _, 0, _, h, e => by simp at e; subst e; exact ⟨v, rfl, h.1⟩
  | _ :: _, _ :: _, i + 1, _, h, e => by simp at e ⊢; exact h.2.get e
theorem All2.drop : ∀ {vs : List α} {cs : List β} (n : Nat), All2 R vs cs → All2 R (vs.drop n) (cs.drop n)
  | _, _, 0, h => h
  | [], [], _ + 1, _ => trivial
  | _ :: _, _ :: _, n + 1, h => by simpa using h.2.drop n
theorem All2.take : ∀ {vs : List α} {cs : List β} (n : Nat), All2 R vs cs → All2 R (vs.take n) (cs.take n)
  | _, _, 0, _ => trivial
  | [], [], _ + 1, _ => trivial
  | _ :: _, _ :: _, n + 1, h => ⟨h.1, h.2.take n⟩
theorem All2.last : ∀ {vs : List α} {cs : List β}, All2 R vs cs → cs ≠ [] → ∃ v c, vs.getLast? = some v ∧ cs.getLast? = some c ∧ R v c
  | [], [], _, h => absurd rfl h
  | [v], [c], h, _ => ⟨v, c, rfl, rfl, h.1⟩
  | [_], _ :: _ :: _, h, _ => h.2.elim
  | _ :: _ :: _, [_], h, _ => h.2.elim
  | v :: v2 :: vs, c :: c2 :: cs, h, _ => by
    obtain ⟨x, y, a, b, r⟩ := h.2.last (List.cons_ne_nil _ _)
    exact ⟨x, y, by rw [List.getLast?_cons_cons]; exact a, by rw [List.getLast?_cons_cons]; exact b, r⟩
end
noncomputable abbrev CellsAt (news : List (Addr × Obj)) : List Value → Item → Prop := All2 (CellAt news)
noncomputable def ItemAt (news : List (Addr × Obj)) (v : Value) (it : Item) : Prop := ∃ q ws n, v = .ref q ∧ (q, listOf ws n) ∈ news ∧ CellsAt news ws.toList it
noncomputable abbrev ItemsAt (news : List (Addr × Obj)) : List Value → List Item → Prop := All2 (ItemAt news)
theorem CellAt.mono {news news' : List (Addr × Obj)} (h : ∀ q ∈ news, q ∈ news') (v : Value) (c : Cell) : CellAt news v c → CellAt news' v c := fun ⟨t, u, a, b⟩ => ⟨t, u, a, h _ b⟩
theorem ItemAt.mono {news news' : List (Addr × Obj)} (h : ∀ q ∈ news, q ∈ news') (v : Value) (c : Item) : ItemAt news v c → ItemAt news' v c := fun ⟨q, ws, n, a, b, d⟩ => ⟨q, ws, n, a, h _ b, d.mono (CellAt.mono h)⟩
end PL5
end Mine
theorem Mine.off_C2 : True := by w_top off; trivial
namespace Mine
section C2
open LCg LCp PySem.Spec PySem.Calls PyProof.Rows PySem.W
variable {prog : Program} {w : World} {A : Around} {E : Value → Shared → Prop} {s : Shared} {h₀ : Heap} {L : Addr} {m : Str → Option Value} {env : Env}
noncomputable def sg (cs : Item) : List (List Nat) := cs.map fun c => [c.1]
theorem sg_rest {pe : Pos} {x x₂ : Str} {scope : Scope} {cl : List (Str × Addr)} {its : Array Value} {cs : Item} {Sx : List (Addr × Obj) → Prop} {Fin : List Value → List (Addr × Obj) → Prop} {news : List (Addr × Obj)}
    (hx : ∀ C, (compEnvC scope cl C env).kindOf x = some .local) (hk : ∀ C, (compEnvC scope cl C env).scope.kind = .function) (hd : (x == ("__debug__" : Str)) = false) (hS : Sx news) (hc : CellsAt news its.toList cs)
    (fin : ∀ ys, VA ys (sg cs) → Fin ys news) :
    ∀ k i ys, i + k = its.size → VA ys (sg (cs.take i)) → CompRestP prog w A h₀ L m env (.Name x pe) x x₂ scope cl s Sx (fun i v => its[i]? = some v) Fin k i ys news
  | 0, i, ys, hn, hv => CompRestP.zero (fin ys (by
      have := hc.len
      rw [Array.length_toList] at this
      rwa [List.take_of_length_le (by omega)] at hv))
  | k + 1, i, ys, hn, hv => CompRestP.succ fun v hP => by
    have hlen := hc.len
    rw [Array.length_toList] at hlen
    obtain ⟨c, hci⟩ : ∃ c, cs[i]? = some c := ⟨_, List.getElem?_eq_getElem (by omega)⟩
    obtain ⟨v', hv', t, u, rfl, hm⟩ := hc.get hci
    have e : v = .ref t := by
      rw [← Array.getElem?_toList, hv'] at hP
      exact (Option.some.inj hP).symm
    subst e
    refine ⟨t, _, .str (S [c.1]) u, .bool c.2, 0, rfl, hm, rfl, rfl, fun I oI C oC D m₂ h tk E' hC hx1 hx2 F N off ne => ?_⟩
    refine ldVarK (hC.ns (N _ (.tail _ (.head _))).1) hx1 ?_ (hk C) (hx C) hd
    refine ⟨h, tk, news, rfl, F, N, off, hS, ?_⟩
    refine sg_rest hx hk hd hS hc fin k (i + 1) _ (by omega) ?_
    rw [List.take_add_one, hci]
    show VA (ys ++ [.str (S [c.1]) u]) (sg (cs.take i ++ [c]))
    unfold sg
    rw [List.map_append]
    exact VA_snoc hv
theorem sg_comp {iter : PySem.Expr} {x x₂ : Str} {px px₂ tp pe : Pos} {tk} {scope : Scope} {cl : List (Str × Addr)} {pos : Pos} {Q : Value → Shared → Prop} (F₀ : Fr h₀ L s.heap m)
    (hclos : closureFor scope env = pure cl) (hcell : ∀ y ∈ scope.names, y.2 ≠ .cell) (hkind : scope.kind = .function)
    (hnames : ∀ y ∈ scope.names, y.2 = .local → scope.names.lookup y.1 = some .local) (hx : scope.names.lookup x = some .local) (hx₂ : scope.names.lookup x₂ = some .local) (hxx : x ≠ x₂) (hd : (x == ("__debug__" : Str)) = false)
    (hx' : ∀ C, (compEnvC scope cl C env).kindOf x = some .local) (hk' : ∀ C, (compEnvC scope cl C env).scope.kind = .function) 
    (h : wpAny (model prog w) A (eval iter env) (fun xv s₁ => ∃ ax its k cs news, xv = .ref ax ∧ A.handled = none ∧ Fr h₀ L s₁.heap m ∧ News h₀ L s₁.heap news ∧ (ax, listOf its k) ∈ news ∧ CellsAt news its.toList cs ∧ its.size ≤ sizeLine ∧
      ∀ ys D h tk, VA ys (sg cs) → Fr h₀ L h m → News h₀ L h ((D, lst ys) :: news) → Off1 D news → Q (.ref D) { s₁ with heap := h, toks := tk }) E s)
    (hs : ∀ x, foldedSetIterable iter env x = pure x := by intro _; rfl) :
    wpAny (model prog w) A (eval (.ListComp (.Name x pe) [⟨.Tuple [.Name x px, .Name x₂ px₂] tk tp, iter, [], 0⟩] scope pos) env) Q E s := by
  refine ListComp_P F₀ hclos hcell hkind hnames hx hx₂ hxx (wpAny_mono h (fun xv s₁ h₁ => ?_) fun _ _ e => e) hs
  obtain ⟨ax, its, k, cs, news, rfl, hh, F, N, hm, hc, hsz, fin⟩ := h₁
  refine SrcLP.ledger hh F N hm hsz fun g => ?_
  refine sg_rest hx' hk' hd (.inr ⟨_, hm, rfl, _, rfl⟩) hc (fun ys hv D h tk F' N' o1 => ?_) _ 0 [] (Nat.zero_add _) trivial
  exact fin ys D h tk hv F' N' o1
end C2
end Mine
theorem Mine.off_C3 : True := by w_top off; trivial
namespace Mine
section C3
open LCg PySem.Spec PySem.Calls PyProof.Rows
variable {prog : Program} {w : World} {A : Around} {E : Value → Shared → Prop} {s : Shared} {h₀ : Heap} {L : Addr} {m : Str → Option Value} {env : Env}
/-- the turns of a comprehension over a ledger that changes: an invariant over states -/
theorem rest_ind {elt : PySem.Expr} {x : Str} {scope : Scope} {cl : List (Str × Addr)} {P : Nat → Value → Prop} {Sx : List (Addr × Obj) → Prop} {Fin : List Value → List (Addr × Obj) → Prop} {n : Nat} {σ : Type} (Inv : Nat → List Value → σ → Prop) (led : σ → List (Addr × Obj))
    (step : ∀ i ys st v I oI C oC D m₂ h tk (E' : Value → Shared → Prop), i < n → Inv i ys st → P i v → NsObj oC m₂ → m₂ x = some v → Fr h₀ L h m → News h₀ L h ((I, oI) :: (C, oC) :: (D, lst ys) :: led st) → Off3 I C D (led st) → ((@Ne Nat I C) ∧ (@Ne Nat I D) ∧ (@Ne Nat C D)) →
      wpAny (model prog w) A (eval elt (compEnvC scope cl C env)) (fun y s₂ => ∃ h' tk' st', s₂ = { s with heap := h', toks := tk' } ∧ Fr h₀ L h' m ∧ News h₀ L h' ((I, oI) :: (C, oC) :: (D, lst ys) :: led st') ∧ Off3 I C D (led st') ∧ Sx (led st') ∧ Inv (i + 1) (ys ++ [y]) st') E' { s with heap := h, toks := tk })
    (fin : ∀ ys st, Inv n ys st → Fin ys (led st)) :
    ∀ k i ys st, i + k = n → Inv i ys st → CompRest prog w A h₀ L m env elt x scope cl s Sx P Fin k i ys (led st)
  | 0, i, ys, st, hn, hi => CompRest.zero (fin ys st (by rw [← hn]; exact hi))
  | k + 1, i, ys, st, hn, hi => CompRest.succ fun v I oI C oC D m₂ h tk E' hP hC hx F N off ne => by
    refine wpAny_mono (step i ys st v I oI C oC D m₂ h tk E' (by omega) hi hP hC hx F N off ne) (fun y s₂ h₂ => ?_) fun _ _ e => e
    obtain ⟨h', tk', st', rfl, F', N', off', hS', hI'⟩ := h₂
    exact ⟨h', tk', led st', rfl, F', N', off', hS', rest_ind Inv led step fin k (i + 1) (ys ++ [y]) st' (by omega) hI'⟩
end C3
end Mine
theorem Mine.off_L1 : True := by w_top off; trivial
namespace Mine
section L1
theorem among_snoc {pos pos' : Pos} {c : Addr} (l : List Value) (h : TriplesOk l) : codeAmong pos' (l ++ [rawInt pos.line, rawInt pos.col, .ref c]) = codeAmong pos' l ∨ codeAmong pos' (l ++ [rawInt pos.line, rawInt pos.col, .ref c]) = some (.ref c) := by
  fun_induction TriplesOk l with
  | case1 =>
    simp only [List.nil_append, rawInt, codeAmong]
    split
    · exact .inr rfl
    · exact .inl rfl
  | case2 a t b u x rest ih =>
    simp only [List.cons_append, codeAmong]
    split
    · exact .inl rfl
    · exact ih h
  | case3 l h1 h2 => exact h.elim
theorem among_other {pos pos' : Pos} {c : Addr} (hne : pos.line ≠ pos'.line) (l : List Value) (h : TriplesOk l) : codeAmong pos' (l ++ [rawInt pos.line, rawInt pos.col, .ref c]) = codeAmong pos' l := by
  fun_induction TriplesOk l with
  | case1 =>
    simp only [List.nil_append, rawInt, codeAmong]
    rw [if_neg]
    simp only [Bool.and_eq_true, beq_iff_eq, not_and]
    intro e; exact absurd (Int.ofNat_inj.mp e) hne
  | case2 a t b u x rest ih =>
    simp only [List.cons_append, codeAmong]
    split
    · rfl
    · exact ih h
  | case3 l h1 h2 => exact h.elim
noncomputable def lamPos : Pos := { line := 105, col := 39, endLine := 105, endCol := 76 }
structure TabOK (ps : Array Value) (cod : List (Addr × Obj)) : Prop where
  trip : TriplesOk ps.toList
  refs : ∀ pos, codeAmong pos ps.toList = none ∨ ∃ c : Addr, codeAmong pos ps.toList = some (.ref c)
  lam : (codeAmong lamPos ps.toList = none ∧ cod = []) ∨ ∃ c oc vs t, codeAmong lamPos ps.toList = some (.ref c) ∧ cod = [(c, oc)] ∧ oc.data = .fields vs ∧ vs[1]? = some (.str "_translate.<locals>.<lambda>" t)
theorem TabOK.refs_next {pos : Pos} {ps : Array Value} {c' : Addr} (h1 : TriplesOk ps.toList) (h2 : ∀ pos, codeAmong pos ps.toList = none ∨ ∃ c : Addr, codeAmong pos ps.toList = some (.ref c)) :
    TriplesOk (ps ++ #[rawInt pos.line, rawInt pos.col, Value.ref c']).toList ∧ ∀ q, codeAmong q (ps ++ #[rawInt pos.line, rawInt pos.col, Value.ref c']).toList = none ∨ ∃ c : Addr, codeAmong q (ps ++ #[rawInt pos.line, rawInt pos.col, Value.ref c']).toList = some (.ref c) := by
  refine ⟨by simpa using TriplesOk_snoc pos.line pos.col (.ref c') _ h1, fun q => ?_⟩
  have e : (ps ++ #[rawInt pos.line, rawInt pos.col, Value.ref c']).toList = ps.toList ++ [rawInt pos.line, rawInt pos.col, .ref c'] := by simp
  rw [e]
  rcases among_snoc (pos := pos) (pos' := q) (c := c') ps.toList h1 with z | z
  · rw [z]; exact h2 q
  · exact .inr ⟨c', z⟩
theorem TabOK.next {pos : Pos} {ps ps' : Array Value} {cod : List (Addr × Obj)} (h : TabOK ps cod) (hl : pos.line ≠ 105) (n : PsNext pos ps ps') : TabOK ps' cod := by
  rcases n with rfl | ⟨_, c', rfl⟩
  · exact h
  · obtain ⟨a, b⟩ := TabOK.refs_next (pos := pos) (c' := c') h.trip h.refs
    refine ⟨a, b, ?_⟩
    have e : (ps ++ #[rawInt pos.line, rawInt pos.col, Value.ref c']).toList = ps.toList ++ [rawInt pos.line, rawInt pos.col, .ref c'] := by simp
    rw [e, among_other (pos := pos) (pos' := lamPos) hl ps.toList h.trip]
    exact h.lam
section
variable {M : Model} {A : Around} {E : Value → Shared → Prop} {s : Shared} {h₀ : Heap} {L a c P : Addr} {m mg mb : Str → Option Value} {cn : Str} {cs : Scope} {ccd : Value} {cl : List (Str × Addr)} {news : List (Addr × Obj)} {g : Obj → List (Addr × Obj)}
  {p : Program} {loose : List Str} {mean : ExcName → Option Value} {name : Str} {params : Arguments} {body : PySem.Expr} {scope : Scope} {ps : Array Value} {firstLine : Nat} {cod : List (Addr × Obj)}
theorem lam_make {Q : Value → Shared → Prop} (F : Fr h₀ L s.heap m) (N : News h₀ L s.heap news) (T : Top p loose mean mg mb h₀) (C : CodeHd h₀ c P) (hcd : ccd = .ref c) (U : UpdF P (tabObj ps) news g) (ht : TabOK ps cod) (hcod : ∀ q ∈ cod, q ∈ news)
    (hcl : closureFor scope (envX cn cs L a ccd cl) = pure [])
    (h : ∀ f c' oc vs t ctv ps' h' tk, TabOK ps' [(c', oc)] → Fr h₀ L h' m →
      News h₀ L h' ((f, kla_obj name "_translate.<locals>.<lambda>" params body scope [] ((mg "__name__").getD .none) c' ctv) :: (c', oc) :: g (tabObj ps')) →
      oc.data = .fields vs → vs[1]? = some (.str "_translate.<locals>.<lambda>" t) → (∀ q ∈ news, q.1 < f) → c' < f → Q (.ref f) { s with heap := h', toks := tk }) :
    wpAny M A (makeFunction name "_translate.<locals>.<lambda>" params (.expr body) scope (envX cn cs L a ccd cl) [] [] [] lamPos firstLine) Q E s := by
  obtain ⟨pre, post, hn, hg, _, _⟩ := U.split
  have hmem : (P, tabObj ps) ∈ news := by rw [hn]; exact List.mem_append_right _ (.head _)
  rcases ht.lam with ⟨hnf, rfl⟩ | ⟨c', oc, vs, t, hf, rfl, hd, hv⟩
  · refine kla_nest F N T C hcd U ht.trip hnf hcl fun f c' oc vs t ctv h' tk F' N' hd hv l1 l2 => ?_
    obtain ⟨x, y⟩ := TabOK.refs_next (pos := lamPos) (c' := c') ht.trip ht.refs
    refine h f c' oc vs t ctv _ h' tk ⟨x, y, .inr ⟨c', oc, vs, t, ?_, rfl, hd, hv⟩⟩ F' N' hd hv (fun q hq => Nat.lt_trans (l1 q hq) l2) l2
    have e : (ps ++ #[rawInt lamPos.line, rawInt lamPos.col, Value.ref c']).toList = ps.toList ++ [rawInt lamPos.line, rawInt lamPos.col, .ref c'] := by simp
    rw [e]; exact codeAmong_snoc _ ht.trip hnf
  · refine kla_hit F N T C hcd hmem ht.trip hf hcl fun f ctv h' tk F' N' l1 => ?_
    have hcn := hcod _ (.head _)
    refine h f c' oc vs t ctv ps h' tk ht F' (fun q hq => ?_) hd hv l1 (l1 _ hcn)
    rcases List.mem_cons.mp hq with rfl | hq
    · exact N' _ (.head _)
    · rcases List.mem_cons.mp hq with rfl | hq
      · exact N' _ (.tail _ hcn)
      · exact N' _ (.tail _ (by rw [hn]; rw [hg] at hq; exact hq))
end
end L1
end Mine
theorem Mine.off_R2 : True := by w_top off; trivial
namespace Mine
section R2
variable {prog : Program} {w : World} {M : Model} {A : Around} {E : Value → Shared → Prop} {s : Shared} {h₀ : Heap} {L : Addr} {m : Str → Option Value} {news news' : List (Addr × Obj)} {env : Env} {id : String} {self : Value}

theorem getAttr_appendK {l : Addr} {xs : Array Value} {k : Nat} {ex : Bool} {Q : Value → Shared → Prop} (F : Fr h₀ L s.heap m) (N : News h₀ L s.heap news) (hm : (l, listOf xs k) ∈ news)
    (h : ∀ q h', Fr h₀ L h' m → News h₀ L h' ((q, bmObj "list.append" (.ref l)) :: news) → (∀ p ∈ news, p.1 < q) → Q (.ref q) { s with heap := h', toks := s.toks + 1 }) :
    wpAny (model prog w) A (getAttr (.ref l) "append" ex) Q E s :=
  getAttr_append (N.get hm) (h _ _ (F.push _) (News.push F N _) fun p hp => Heap.lt_size (N p hp).1)

theorem callWith_bm {pos : Pos} {u : Addr} {args : List (Bool × Sem Value)} {Q : Value → Shared → Prop} (hplain : args.any (·.1) = false)
    (h : wpAny M A (evalArgs (.ref u) true args []) (fun x s₁ => s₁.heap.get? u = some (bmObj id self) ∧ wpAny M A (call (.ref u) x.pos x.kw) Q E s₁) E s) :
    wpAny M A (callWith pos (.ref u) [] args []) Q E s := by
  unfold callWith
  refine wpAny_bind (wpAny_holding (wpAny_mono h (fun x s₁ h₁ => wpAny_bind (wpAny_standAt ?_)) fun _ _ x => x))
  obtain ⟨ho, hcall⟩ := h₁
  simp only [hplain, List.any_nil, Bool.or_false]
  refine wpAny_bind (m := keeperOf (.ref u)) ?_
  unfold keeperOf
  refine wpAny_bind (wpAny_load ho ?_)
  refine wpAny_pure ?_
  exact wpAny_bind (wpAny_mono hcall (fun r s₂ hr => wpAny_bind (wpAny_holding (wpAny_point (wpAny_pure hr)))) fun _ _ x => x)

theorem callWith_bm1 {pos : Pos} {u : Addr} {e : PySem.Expr} {Q : Value → Shared → Prop}
    (h : wpAny M A (spliced (backTo pos (starEach [e] env))) (fun vs s₁ => s₁.heap.get? u = some (bmObj id self) ∧ wpAny M A (call (.ref u) vs) Q E s₁) E s)
    (he : starEach [e] env = [(false, eval e env)] := by rfl) :
    wpAny M A (callWith pos (.ref u) [] (backTo pos (starEach [e] env)) []) Q E s := by
  rw [he] at h ⊢
  exact callWith_bm rfl (evalArgs_plain h)

theorem entry_lapp : entryFor table "list.append" = some Builtin.«list.append» := entry_list_append
theorem list_not_module : isSubtype (.type "list") (.type "module") = pure false := by rw [isSubtype_type]; kernel_rfl
theorem list_not_type : isSubtype (.type "list") (.type "type") = pure false := by rw [isSubtype_type]; kernel_rfl
theorem bound_append {q D : Addr} {its : Array Value} {n : Nat} {x : Value} {Q : Value → Shared → Prop} (hq : s.heap.get? q = some (bmObj "list.append" (.ref D))) (hD : s.heap.get? D = some (listOf its n))
    (h : ∀ h', Heap.SameBut D s.heap h' → h'.get? D = some (listOf (its.push x) (n + 1)) → Q .none { s with heap := h' }) (hsz : its.size ≤ sizeLine) :
    wpAny (model prog w) A (call (.ref q) [x]) Q E s := by
  obtain ⟨hp, g, d, tk, os⟩ := s
  dsimp only at hq hD h
  have hT : (⟨hp, g, d, tk, os⟩ : Shared).TypeIs (.ref D) "list" := ⟨_, hD, rfl⟩
  have f1 := list_not_module
  have f2 := list_not_type
  refine wpAny_call (codeAny_of_tree ?_)
  show wpAny _ A.in1 (callAny (.ref q) ⟨[x], []⟩) _ _ _
  simp only [callAny]
  refine wpAny_bind (wpAny_load hq ?_)
  repeat (first | walk_at "st" | assumption)
  refine ⟨Code.quiet_builtin _ (by decide +kernel), codeAny_builtin entry_list_append ?_⟩
  show wpAny _ _ (updateSeq D (·.push x) >>= fun _ => ret .none) _ _ _
  refine wpAny_bind ?_
  refine wpAny_updateSeq hD rfl (wpAny_pure (h _ (Heap.SameBut.update ..) ?_))
  rw [Heap.get?_update_self _ hD (by rw [mapSeq_push]; rfl), mapSeq_push]

theorem bound_appendK {q D : Addr} {its : Array Value} {n : Nat} {x : Value} {Q : Value → Shared → Prop} (F : Fr h₀ L s.heap m) (N : News h₀ L s.heap news) (hq : (q, bmObj "list.append" (.ref D)) ∈ news)
    (U : Upd D (listOf its n) (listOf (its.push x) (n + 1)) news news')
    (h : ∀ h', Fr h₀ L h' m → News h₀ L h' news' → Q .none { s with heap := h' }) (hsz : its.size ≤ sizeLine) : wpAny (model prog w) A (call (.ref q) [x]) Q E s := by
  obtain ⟨pre, post, rfl, rfl, a, b⟩ := U.split
  have z := N (D, listOf its n) (List.mem_append.mpr (.inr (.head _)))
  exact bound_append (N.get hq) z.1 (fun h' hs ho' => h h' (F.change hs z.2.1 z.2.2) (news_set N a b hs ho')) hsz
end R2
end Mine
theorem Mine.off_R8 : True := by w_top off; trivial
namespace Mine
section R8
variable {prog : Program} {w : World} {A : Around} {E : Value → Shared → Prop} {s : Shared} {h₀ : Heap} {L : Addr} {m : Str → Option Value} {news : List (Addr × Obj)}
/-- the signs of a text, one by one -/
noncomputable def signs (l : List Nat) : List (List Nat) := l.map fun c => [c]
theorem VA_of_get : ∀ {vs : List Value} {cs : List (List Nat)}, vs.length = cs.length → (∀ (i : Nat) (c : List Nat), cs[i]? = some c → ∃ t, vs[i]? = some (Value.str (S c) t)) → VA vs cs
  | [], [], _, _ => trivial
  | v :: vs, c :: cs, h, k => ⟨by obtain ⟨t, e⟩ := k 0 c rfl; exact ⟨t, by simpa using e⟩, VA_of_get (by simpa using h) fun i d e => by obtain ⟨t, z⟩ := k (i + 1) d (by simpa using e); exact ⟨t, by simpa using z⟩⟩
  | [], _ :: _, h, _ => by simp at h
  | _ :: _, [], h, _ => by simp at h
theorem list_strK {x : Str} {t : Tok} {Q : Value → Shared → Prop} (hh : A.handled = none) (F : Fr h₀ L s.heap m) (N : News h₀ L s.heap news) (hx : x.length ≤ 1048576)
    (h : ∀ q vs e h' tk, VA vs.toList (signs x.cps.toList) → Fr h₀ L h' m → News h₀ L h' ((q, listOf vs e) :: news) → (∀ p ∈ news, p.1 < q) → Q (.ref q) { s with heap := h', toks := tk }) :
    wpAny (model prog w) A (call (.type "list") [.str x t]) Q E s := by
  refine call_list_str hh x t (fun h' tk acc' c' hk hS hI => ?_) (Nat.le_trans hx (by decide))
  have lt : ∀ p ∈ news, p.1 < s.heap.objs.size := fun p hp => Heap.lt_size (N p hp).1
  refine h _ acc' c' h' tk ?_ (F.keeps hk) (fun p hp => ?_) lt
  · refine VA_of_get ?_ fun i c hc => ?_
    · rw [Array.length_toList]; unfold signs; rw [List.length_map, Array.length_toList]; exact hI.1
    · unfold signs at hc
      rw [List.getElem?_map] at hc
      obtain ⟨d, hd, rfl⟩ := Option.map_eq_some_iff.mp hc
      have hd' : x.cps[i]? = some d := by rw [← hd]; simp
      have hi : i < acc'.size := by rw [hI.1]; exact (Array.getElem?_eq_some_iff.mp hd').1
      obtain ⟨c9, u, e1, e2⟩ := hI.2 i acc'[i] (by simp [hi])
      rw [hd'] at e1
      obtain rfl := Option.some.inj e1
      exact ⟨u, by rw [Array.getElem?_toList, Array.getElem?_eq_getElem hi, e2]⟩
  · rcases List.mem_cons.mp hp with rfl | hp
    · exact ⟨hS, Ne.symm (Nat.ne_of_lt F.ns.lt), next_is_new F⟩
    · exact ⟨hk _ _ (N p hp).1, (N p hp).2⟩
end R8
end Mine
theorem Mine.off_PL4 : True := by w_top off; trivial
namespace Mine
section PL4
/-- the lexer, as a plain function of the signs that are left: the word, and what is left behind it -/
noncomputable def wsp (c : Nat) : Bool := c == 10 || c == 9 || c == 13 || c == 32
noncomputable def lexQ : List Nat → List Nat → List Nat × List Nat
  | tok, [] => (tok, [])
  | tok, [c] => if c = 34 then (tok, []) else if c = 92 then (tok, []) else (tok ++ [c], [])
  | tok, c :: d :: r => if c = 34 then (tok, d :: r) else if c = 92 then lexQ (tok ++ [d]) r else lexQ (tok ++ [c]) (d :: r)
noncomputable def lexW : List Nat → List Nat → List Nat × List Nat
  | tok, [] => (tok, [])
  | tok, [c] => if wsp c then (tok, []) else if c = 92 then (tok, []) else (tok ++ [c], [])
  | tok, c :: d :: r => if wsp c then (tok, d :: r) else if c = 92 then lexW (tok ++ [d]) r else lexW (tok ++ [c]) (d :: r)
noncomputable def lexT : List Nat → List Nat × List Nat
  | [] => ([], [])
  | c :: r => if wsp c then lexT r else if c = 34 then lexQ [] r else if c = 92 then lexW (r.take 1) r.tail else lexW [c] r
theorem lexQ_cons (tok : List Nat) (c : Nat) (r : List Nat) : lexQ tok (c :: r) = if c = 34 then (tok, r) else if c = 92 then lexQ (tok ++ r.take 1) r.tail else lexQ (tok ++ [c]) r := by
  cases r with
  | nil =>
    simp only [lexQ, List.take_nil, List.tail_nil, List.append_nil]
  | cons d r => simp only [lexQ, List.take_succ_cons, List.take_zero, List.tail_cons]
theorem lexW_cons (tok : List Nat) (c : Nat) (r : List Nat) : lexW tok (c :: r) = if wsp c then (tok, r) else if c = 92 then lexW (tok ++ r.take 1) r.tail else lexW (tok ++ [c]) r := by
  cases r with
  | nil =>
    simp only [lexW, List.take_nil, List.tail_nil, List.append_nil]
  | cons d r => simp only [lexW, List.take_succ_cons, List.take_zero, List.tail_cons]
noncomputable def nls (l : List Nat) : Int := (l.count 10 : Nat)
theorem nls_split (l : List Nat) : nls (l.take 1) + nls l.tail = nls l := by
  cases l with
  | nil => rfl
  | cons c r =>
    show nls [c] + nls r = nls (c :: r)
    unfold nls
    simp only [List.count_cons, List.count_nil]
    omega
end PL4
end Mine
theorem Mine.off_PL10 : True := by w_top off; trivial
namespace Mine
section PL10
/-- k words drawn from a text by the lexer, and what is left -/
noncomputable def draws : Nat → List Nat → List (List Nat) × List Nat
  | 0, l => ([], l)
  | k + 1, l => ((lexT l).1 :: (draws k (lexT l).2).1, (draws k (lexT l).2).2)
theorem draws_snoc : ∀ (k : Nat) (l : List Nat), draws (k + 1) l = ((draws k l).1 ++ [(lexT (draws k l).2).1], (lexT (draws k l).2).2)
  | 0, l => rfl
  | k + 1, l => by
    have := draws_snoc k (lexT l).2
    show ((lexT l).1 :: (draws (k + 1) (lexT l).2).1, (draws (k + 1) (lexT l).2).2) = _
    rw [this]
    rfl
theorem lexQ_suf : ∀ (n : Nat) (l tok : List Nat), l.length ≤ n → (lexQ tok l).2 <:+ l
  | _, [], _, _ => List.suffix_refl _
  | n + 1, c :: r, tok, h => by
    have hr : r.length ≤ n := Nat.le_of_succ_le_succ h
    rw [lexQ_cons]
    split
    · exact List.suffix_cons c r
    split
    · exact ((lexQ_suf n r.tail _ (by rw [List.length_tail]; omega)).trans (List.tail_suffix r)).trans (List.suffix_cons c r)
    · exact (lexQ_suf n r _ hr).trans (List.suffix_cons c r)
theorem lexW_suf : ∀ (n : Nat) (l tok : List Nat), l.length ≤ n → (lexW tok l).2 <:+ l
  | _, [], _, _ => List.suffix_refl _
  | n + 1, c :: r, tok, h => by
    have hr : r.length ≤ n := Nat.le_of_succ_le_succ h
    rw [lexW_cons]
    split
    · exact List.suffix_cons c r
    split
    · exact ((lexW_suf n r.tail _ (by rw [List.length_tail]; omega)).trans (List.tail_suffix r)).trans (List.suffix_cons c r)
    · exact (lexW_suf n r _ hr).trans (List.suffix_cons c r)
theorem lexT_suf : ∀ l : List Nat, (lexT l).2 <:+ l
  | [] => List.suffix_refl _
  | c :: r => by
    unfold lexT
    split
    · exact (lexT_suf r).trans (List.suffix_cons c r)
    split
    · exact (lexQ_suf _ r _ (Nat.le_refl _)).trans (List.suffix_cons c r)
    split
    · exact ((lexW_suf _ r.tail _ (Nat.le_refl _)).trans (List.tail_suffix r)).trans (List.suffix_cons c r)
    · exact (lexW_suf _ r _ (Nat.le_refl _)).trans (List.suffix_cons c r)
end PL10
end Mine
theorem Mine.off_R11 : True := by w_top off; trivial
namespace Mine
section R11
open PySem.Spec PyProof.V PySem.SeqAt
noncomputable def sdat (cs : List (List Nat)) : List PyData := cs.map fun c => PyData.str (S c)
theorem readsAll_VA {h : Heap} : ∀ {vs : List Value} {cs : List (List Nat)}, VA vs cs → ReadsAll h vs (sdat cs) []
  | [], [], _ => .nil
  | _ :: _, c :: _, ⟨⟨t, e⟩, r⟩ => by
    subst e
    have := ReadsAll.cons (Reads.str (h := h) (S c) t) (readsAll_VA (h := h) r)
    simpa [sdat] using this
theorem reads_VA {h : Heap} {a : Addr} {vs : List Value} {cs : List (List Nat)} (hl : h.IsList a vs.toArray) (hi : VA vs cs) : Reads h (.ref a) (.list (sdat cs)) [a] := by
  obtain ⟨o, ho, hc, n, hd⟩ := hl
  exact Reads.list ho hc hd (by simpa using readsAll_VA hi)
noncomputable def OkS (cs : List (List Nat)) : Prop := ∀ c ∈ cs, PyData.strOk (S c) = true
theorem canLay_sdat : ∀ cs : List (List Nat), OkS cs → PyData.canLayAll0 (sdat cs) = true
  | [], _ => by simp [sdat, PyData.canLayAll0]
  | n :: r, hk => by
    have := canLay_sdat r (fun c hc => hk c (.tail _ hc))
    have h2 := hk n (.head _)
    simp only [sdat] at this
    simp [sdat, PyData.canLayAll0, PyData.canLay0, this, h2]
theorem depth_sdat : ∀ cs : List (List Nat), PyData.depthAll (sdat cs) ≤ 1
  | [] => by simp [sdat, PyData.depthAll]
  | n :: r => by
    have := depth_sdat r
    simp only [sdat] at this
    simp only [sdat, List.map_cons, PyData.depthAll, PyData.depth]
    omega
theorem shaped_sdat (cs : List (List Nat)) (hk : OkS cs) : shaped (.list (sdat cs)) = true := by
  have h1 := depth_sdat cs
  have h2 : PyData.depth (.list (sdat cs)) ≤ 64 := by simp only [PyData.depth]; omega
  show (PyData.canLay0 (.list (sdat cs)) && decide (PyData.depth (.list (sdat cs)) ≤ 64)) = true
  rw [Bool.and_eq_true]
  exact ⟨by simp only [PyData.canLay0]; exact canLay_sdat cs hk, decide_eq_true h2⟩
theorem noMix_sdat : ∀ ns ms : List (List Nat), noMixAll (sdat ns) (sdat ms) = true
  | [], [] => by simp [sdat, noMixAll]
  | [], _ :: _ => by simp [sdat, noMixAll]
  | _ :: _, [] => by simp [sdat, noMixAll]
  | _ :: r, _ :: q => by
    have := noMix_sdat r q
    simp only [sdat] at this
    simp [sdat, noMixAll, noMix, this]
theorem same_sdat : ∀ ns ms : List (List Nat), PySem.Spec.sameAll (sdat ns) (sdat ms) = decide (ns = ms)
  | [], [] => by simp [sdat, PySem.Spec.sameAll]
  | [], _ :: _ => by simp [sdat, PySem.Spec.sameAll]
  | _ :: _, [] => by simp [sdat, PySem.Spec.sameAll]
  | n :: r, k :: q => by
    have := same_sdat r q
    simp only [sdat] at this
    simp only [sdat, List.map_cons, PySem.Spec.sameAll, PySem.Spec.same, this]
    by_cases h : n = k
    · subst h; simp
    · have : S n ≠ S k := fun e => h (S_inj.mp e)
      simp [h, this]
variable {prog : Program} {w : World} {A : Around} {E : Value → Shared → Prop} {s : Shared}
theorem eq_strsK {a b : Addr} {vs us : Array Value} {ns ms : List (List Nat)} {Q : Value → Shared → Prop} (hl : s.heap.IsList a vs) (hi : VA vs.toList ns) (hl' : s.heap.IsList b us) (hi' : VA us.toList ms) (ho : OkS ns) (ho' : OkS ms) (hu : A.units + 64 < cLine)
    (h : Q (.bool (decide (ns = ms))) s) : wpAny (model prog w) A (compareOp .Eq (.ref a) (.ref b)) Q E s :=
  eq_dataH_same (reads_VA (by simpa using hl) hi) (reads_VA (by simpa using hl') hi') (shaped_sdat ns ho) (shaped_sdat ms ho') hu (by simp only [noMix]; exact noMix_sdat ns ms) (by simp only [PySem.Spec.same]; rw [same_sdat]; exact h)
theorem ne_strsK {a b : Addr} {vs us : Array Value} {ns ms : List (List Nat)} {Q : Value → Shared → Prop} (hl : s.heap.IsList a vs) (hi : VA vs.toList ns) (hl' : s.heap.IsList b us) (hi' : VA us.toList ms) (ho : OkS ns) (ho' : OkS ms) (hu : A.units + 64 < cLine)
    (h : Q (.bool (!decide (ns = ms))) s) : wpAny (model prog w) A (compareOp .NotEq (.ref a) (.ref b)) Q E s :=
  ne_dataH_same (reads_VA (by simpa using hl) hi) (reads_VA (by simpa using hl') hi') (shaped_sdat ns ho) (shaped_sdat ms ho') hu (by simp only [noMix]; exact noMix_sdat ns ms) (by simp only [PySem.Spec.same]; rw [same_sdat]; exact h)
end R11
end Mine
theorem Mine.off_R14 : True := by w_top off; trivial
namespace Mine
section R14
open PySem.Spec PyProof.V PySem.SeqAt
section
variable {α : Type} {f : α → PyData}
theorem sameAll_map [DecidableEq α] (hf : ∀ a b, PySem.Spec.same (f a) (f b) = decide (a = b)) : ∀ xs ys : List α, PySem.Spec.sameAll (xs.map f) (ys.map f) = decide (xs = ys)
  | [], [] => by simp [PySem.Spec.sameAll]
  | [], _ :: _ => by simp [PySem.Spec.sameAll]
  | _ :: _, [] => by simp [PySem.Spec.sameAll]
  | n :: r, k :: q => by
    simp only [List.map_cons, PySem.Spec.sameAll, hf, sameAll_map hf r q]
    by_cases h : n = k
    · subst h; simp
    · simp [h]
theorem noMixAll_map (hf : ∀ a b, noMix (f a) (f b) = true) : ∀ xs ys : List α, noMixAll (xs.map f) (ys.map f) = true
  | [], [] => by simp [noMixAll]
  | [], _ :: _ => by simp [noMixAll]
  | _ :: _, [] => by simp [noMixAll]
  | n :: r, k :: q => by simp only [List.map_cons, noMixAll, hf, noMixAll_map hf r q]; rfl
theorem canLayAll_map : ∀ {xs : List α}, (∀ a ∈ xs, PyData.canLay0 (f a) = true) → PyData.canLayAll0 (xs.map f) = true
  | [], _ => by simp [PyData.canLayAll0]
  | a :: r, h => by simp only [List.map_cons, PyData.canLayAll0, h a (.head _), canLayAll_map (fun b hb => h b (.tail _ hb))]; rfl
theorem depthAll_map {n : Nat} : ∀ {xs : List α}, (∀ a ∈ xs, PyData.depth (f a) ≤ n) → PyData.depthAll (xs.map f) ≤ n + 1
  | [], _ => by simp [PyData.depthAll]
  | a :: r, h => by
    have h1 := h a (.head _)
    have h2 := depthAll_map (n := n) (xs := r) (fun b hb => h b (.tail _ hb))
    simp only [List.map_cons, PyData.depthAll]
    omega
theorem readsAll_map {h : Heap} {R : Value → α → Prop} (hR : ∀ v a, R v a → ∃ as, Reads h v (f a) as) : ∀ {vs : List Value} {xs : List α}, All2 R vs xs → ∃ as, ReadsAll h vs (xs.map f) as
  | [], [], _ => ⟨_, .nil⟩
  | v :: _, a :: _, hx => by
    obtain ⟨as, h1⟩ := hR v a hx.1
    obtain ⟨bs, h2⟩ := readsAll_map hR hx.2
    exact ⟨_, .cons h1 h2⟩
end
noncomputable def cDat (c : Cell) : PyData := .tuple [.str (S [c.1]), .bool c.2]
noncomputable def iDat (it : Item) : PyData := .list (it.map cDat)
noncomputable def sDat (l : List Item) : PyData := .list (l.map iDat)
theorem same_c (a b : Cell) : PySem.Spec.same (cDat a) (cDat b) = decide (a = b) := by
  obtain ⟨a1, a2⟩ := a
  obtain ⟨b1, b2⟩ := b
  simp only [cDat, PySem.Spec.same, PySem.Spec.sameAll]
  by_cases h : a1 = b1
  · subst h
    by_cases h2 : a2 = b2
    · subst h2; simp
    · simp [h2]
  · have : S [a1] ≠ S [b1] := fun e => h (by simpa using S_inj.mp e)
    simp [h, this]
theorem same_i (a b : Item) : PySem.Spec.same (iDat a) (iDat b) = decide (a = b) := by
  simp only [iDat, PySem.Spec.same]; exact sameAll_map same_c a b
theorem same_s (a b : List Item) : PySem.Spec.same (sDat a) (sDat b) = decide (a = b) := by
  simp only [sDat, PySem.Spec.same]; exact sameAll_map same_i a b
theorem noMix_c (a b : Cell) : noMix (cDat a) (cDat b) = true := by simp [cDat, noMix, noMixAll]
theorem noMix_i (a b : Item) : noMix (iDat a) (iDat b) = true := by simp only [iDat, noMix]; exact noMixAll_map noMix_c a b
theorem noMix_s (a b : List Item) : noMix (sDat a) (sDat b) = true := by simp only [sDat, noMix]; exact noMixAll_map noMix_i a b
noncomputable def OkC (c : Cell) : Prop := c.1 < 128
theorem lay_c {c : Cell} (h : OkC c) : PyData.canLay0 (cDat c) = true := by
  have h2 : c.1 < 128 := h
  have : PyData.strOk (S [c.1]) = true := by
    show ((S [c.1]).cps.all (· < 0x110000)) = true
    simp; omega
  simp [cDat, PyData.canLay0, PyData.canLayAll0, this]
theorem dep_c (c : Cell) : PyData.depth (cDat c) ≤ 2 := by simp [cDat, PyData.depth, PyData.depthAll]
theorem dep_i (it : Item) : PyData.depth (iDat it) ≤ 4 := by
  have := depthAll_map (f := cDat) (n := 2) (xs := it) (fun a _ => dep_c a)
  simp only [iDat, PyData.depth]; omega
theorem dep_s (l : List Item) : PyData.depth (sDat l) ≤ 6 := by
  have := depthAll_map (f := iDat) (n := 4) (xs := l) (fun a _ => dep_i a)
  simp only [sDat, PyData.depth]; omega
theorem lay_i {it : Item} (h : ∀ c ∈ it, OkC c) : PyData.canLay0 (iDat it) = true := by
  simp only [iDat, PyData.canLay0]; exact canLayAll_map fun a ha => lay_c (h a ha)
theorem lay_s {l : List Item} (h : ∀ it ∈ l, ∀ c ∈ it, OkC c) : PyData.canLay0 (sDat l) = true := by
  simp only [sDat, PyData.canLay0]; exact canLayAll_map fun a ha => lay_i (h a ha)
theorem shaped_of {d : PyData} (h1 : PyData.canLay0 d = true) (h2 : PyData.depth d ≤ 6) : shaped d = true := by
  show (PyData.canLay0 d && decide (PyData.depth d ≤ 64)) = true
  rw [Bool.and_eq_true]
  exact ⟨h1, decide_eq_true (by omega)⟩
variable {g h : Heap} {L : Addr} {news : List (Addr × Obj)}
theorem reads_c (N : News g L h news) (v : Value) (c : Cell) (hc : CellAt news v c) : ∃ as, Reads h v (cDat c) as := by
  obtain ⟨t, u, rfl, hm⟩ := hc
  exact ⟨_, Reads.tuple (N.get hm) rfl rfl (.cons (.str _ _) (.cons (.bool _) .nil))⟩
theorem reads_i (N : News g L h news) (v : Value) (it : Item) (hc : ItemAt news v it) : ∃ as, Reads h v (iDat it) as := by
  obtain ⟨q, ws, n, rfl, hm, hx⟩ := hc
  obtain ⟨as, h1⟩ := readsAll_map (f := cDat) (reads_c N) hx
  exact ⟨_, Reads.list (N.get hm) rfl rfl h1⟩
theorem reads_s (N : News g L h news) {q : Addr} {ws : Array Value} {n : Nat} {l : List Item} (hm : (q, listOf ws n) ∈ news) (hx : ItemsAt news ws.toList l) : ∃ as, Reads h (.ref q) (sDat l) as := by
  obtain ⟨as, h1⟩ := readsAll_map (f := iDat) (reads_i N) hx
  exact ⟨_, Reads.list (N.get hm) rfl rfl h1⟩
variable {prog : Program} {w : World} {A : Around} {E : Value → Shared → Prop} {s : Shared}
theorem eq_cellK {a b : Value} {x y : Cell} {Q : Value → Shared → Prop} (N : News g L s.heap news) (ha : CellAt news a x) (hb : CellAt news b y) (o1 : OkC x) (o2 : OkC y) (hu : A.units + 64 < cLine)
    (h : Q (.bool (decide (x = y))) s) : wpAny (model prog w) A (compareOp .Eq a b) Q E s := by
  obtain ⟨as, ra⟩ := reads_c N _ _ ha
  obtain ⟨bs, rb⟩ := reads_c N _ _ hb
  exact eq_dataH_same ra rb (shaped_of (lay_c o1) (Nat.le_trans (dep_c _) (by omega))) (shaped_of (lay_c o2) (Nat.le_trans (dep_c _) (by omega))) hu (noMix_c _ _) (by rw [same_c]; exact h)
theorem ne_cellK {a b : Value} {x y : Cell} {Q : Value → Shared → Prop} (N : News g L s.heap news) (ha : CellAt news a x) (hb : CellAt news b y) (o1 : OkC x) (o2 : OkC y) (hu : A.units + 64 < cLine)
    (h : Q (.bool (!decide (x = y))) s) : wpAny (model prog w) A (compareOp .NotEq a b) Q E s := by
  obtain ⟨as, ra⟩ := reads_c N _ _ ha
  obtain ⟨bs, rb⟩ := reads_c N _ _ hb
  exact ne_dataH_same ra rb (shaped_of (lay_c o1) (Nat.le_trans (dep_c _) (by omega))) (shaped_of (lay_c o2) (Nat.le_trans (dep_c _) (by omega))) hu (noMix_c _ _) (by rw [same_c]; exact h)
theorem ne_itemsK {a b : Addr} {xs ys : Array Value} {n k : Nat} {x y : List Item} {Q : Value → Shared → Prop} (N : News g L s.heap news) (ha : (a, listOf xs n) ∈ news) (ha' : ItemsAt news xs.toList x) (hb : (b, listOf ys k) ∈ news) (hb' : ItemsAt news ys.toList y)
    (o1 : ∀ it ∈ x, ∀ c ∈ it, OkC c) (o2 : ∀ it ∈ y, ∀ c ∈ it, OkC c) (hu : A.units + 64 < cLine)
    (h : Q (.bool (!decide (x = y))) s) : wpAny (model prog w) A (compareOp .NotEq (.ref a) (.ref b)) Q E s := by
  obtain ⟨as, ra⟩ := reads_s N ha ha'
  obtain ⟨bs, rb⟩ := reads_s N hb hb'
  exact ne_dataH_same ra rb (shaped_of (lay_s o1) (dep_s _)) (shaped_of (lay_s o2) (dep_s _)) hu (noMix_s _ _) (by rw [same_s]; exact h)
end R14
end Mine
theorem Mine.off_R3 : True := by w_top off; trivial
namespace Mine
section R3
variable {prog : Program} {w : World} {M : Model} {A : Around} {E : Value → Shared → Prop} {s : Shared}
open PySem.Builtin.Str PySem.StrLaws in
theorem meets_find4 (x y : Str) (a b : Int) (t u ta tb : Tok) (ha : 0 ≤ a) (hb : 0 ≤ b) (hbl : b ≤ x.length) :
    Meets (Builtin.«str.find» ⟨[.str x t, .str y u, .int a ta, .int b tb], []⟩) (fun A R s =>
      R (.ok (.ret (.int (match occurrences x y a.toNat b.toNat 1 with | i :: _ => (i : Int) | [] => -1) s.toks))) { s with toks := s.toks + 1 }) :=
  Meets.of_wp fun prog w A R s h => by
    obtain ⟨hp, g, d, tk, os⟩ := s
    dsimp only at h
    have f1 := int_index
    have f2 : typeOf (.int a ta) = pure (.type "int") := rfl
    have f3 : typeOf (.int b tb) = pure (.type "int") := rfl
    unfold Builtin.«str.find»
    repeat (first | walk_at "st" | assumption)
    have e1 : (max 0 (if a < 0 then a + (x.length : Int) else a)).toNat = a.toNat := by rw [if_neg (by omega)]; omega
    have e2 : min (max 0 (if b < 0 then b + (x.length : Int) else b)).toNat x.length = b.toNat := by rw [if_neg (by omega)]; omega
    rw [e1, e2]
    revert h
    cases occurrences x y a.toNat b.toNat 1 with
    | nil =>
      intro h
      repeat (first | walk_at "st" | assumption)
      exact ⟨_, rfl, h⟩
    | cons i r =>
      intro h
      repeat (first | walk_at "st" | assumption)
      exact ⟨_, rfl, h⟩

open PySem.Builtin.Str PySem.StrLaws in
theorem occ_range (x y : Str) (lo hi : Nat) :
    (occurrences x y lo hi 1 = [] ∧ ∀ i, lo ≤ i → ¬ At x y hi i) ∨
    ∃ i r, occurrences x y lo hi 1 = i :: r ∧ lo ≤ i ∧ At x y hi i ∧ ∀ k, lo ≤ k → k < i → ¬ At x y hi k := by
  rw [occ_eq]
  rcases occ_first x y hi 1 (Nat.le_refl _) (List.range' lo (hi + 1 - lo)) lo (fun i hi => by have := List.mem_range'_1.mp hi; omega) with ⟨h0, hn⟩ | ⟨pre, a, post, e, h0, ha, hn⟩
  · refine .inl ⟨by rw [h0], fun i hlo h => ?_⟩
    exact hn i (by have := h.1; rw [List.mem_range'_1]; omega) h
  · have hs := range'_split_from e
    refine .inr ⟨a, ((forIn (List.range' lo (hi + 1 - lo)) ((#[] : Array Nat), lo) (occBody x y hi 1)).run.fst.toList).tail, ?_, hs.1, ha, fun k hk0 hk => hn k (hs.2 k hk0 hk)⟩
    generalize (forIn (List.range' lo (hi + 1 - lo)) ((#[] : Array Nat), lo) (occBody x y hi 1)).run.fst = arr at h0
    have h1 : arr.toList[0]? = some a := by simpa using h0
    cases hL : arr.toList with
    | nil => rw [hL] at h1; cases h1
    | cons b t => rw [hL] at h1; simp at h1; rw [h1]; rfl

open PySem.Builtin.Str PySem.StrLaws in
theorem at_one {x : Str} {c hi i : Nat} (hh : hi ≤ x.length) : At x ⟨#[c]⟩ hi i ↔ i < hi ∧ x.cps.toList[i]? = some c := by
  have hl : (⟨#[c]⟩ : Str).length = 1 := rfl
  constructor
  · rintro ⟨h1, h2⟩
    rw [hl] at h1
    exact ⟨by omega, (subAt_one x c i).mp ⟨by rw [hl]; omega, h2⟩⟩
  · rintro ⟨h1, h2⟩
    exact ⟨by rw [hl]; omega, ((subAt_one x c i).mpr h2).2⟩

theorem call_find4 {x : Str} {c : Nat} {a b : Int} {t u ta tb : Tok} {Q : Value → Shared → Prop} (ha : 0 ≤ a) (hb : 0 ≤ b) (hbl : b ≤ x.length)
    (h1 : (∀ v : Nat, a.toNat ≤ v → v < b.toNat → x.cps.toList[v]? ≠ some c) → Q (.int (-1) s.toks) { s with toks := s.toks + 1 })
    (h2 : ∀ k : Nat, a.toNat ≤ k → k < b.toNat → x.cps.toList[k]? = some c → (∀ v : Nat, a.toNat ≤ v → v < k → x.cps.toList[v]? ≠ some c) → Q (.int k s.toks) { s with toks := s.toks + 1 }) :
    wpAny (model prog w) A (call (.builtin "str.find") [.str x t, .str ⟨#[c]⟩ u, .int a ta, .int b tb]) Q E s := by
  refine call_meets F.slot_str_find (typeIs_str _ _ _) F.entry_str_find (by unfold argsOk; kernel_rfl) (meets_find4 x ⟨#[c]⟩ a b t u ta tb ha hb hbl) ?_
  have hh : b.toNat ≤ x.length := by omega
  show Q _ _
  rcases occ_range x ⟨#[c]⟩ a.toNat b.toNat with ⟨h0, hn⟩ | ⟨i, r, h0, hl, hi, hn⟩
  · rw [h0]
    exact h1 fun v hv1 hv2 hv3 => hn v hv1 ((at_one hh).mpr ⟨hv2, hv3⟩)
  · rw [h0]
    have hi' := (at_one hh).mp hi
    exact h2 i hl hi'.1 hi'.2 fun v hv1 hv2 hv3 => hn v hv1 hv2 ((at_one hh).mpr ⟨by omega, hv3⟩)
end R3
end Mine
theorem Mine.off_R4 : True := by w_top off; trivial
namespace Mine
section R4
open PySem.Builtin.Str PySem.StrLaws in
theorem has_one (x : Str) (c : Nat) : (occurrences x ⟨#[c]⟩ 0 x.length 1).isEmpty = decide (c ∉ x.cps.toList) := by
  rcases occ_range x ⟨#[c]⟩ 0 x.length with ⟨h0, hn⟩ | ⟨i, r, h0, hl, hi, hn⟩
  · rw [h0, decide_eq_true]
    · rfl
    · intro hm
      obtain ⟨v, hv, e⟩ := List.getElem_of_mem hm
      exact hn v (Nat.zero_le _) ((at_one (Nat.le_refl _)).mpr ⟨by rw [len_list]; exact hv, by rw [List.getElem?_eq_getElem hv, e]⟩)
  · rw [h0, decide_eq_false]
    · rfl
    · intro hm
      exact hm (List.mem_of_getElem? ((at_one (Nat.le_refl _)).mp hi).2)
end R4
end Mine
theorem Mine.off_W0 : True := by w_top off; trivial
namespace Mine
section W0
variable {pat : Str}
theorem lit_ob : Str.ofString "[!" = S [91, 33] := by decide +kernel
noncomputable def frontN (l : List Nat) (i : Nat) : Nat := if l[i]? = some 91 ∧ l[i + 1]? = some 33 then 3 else 2
theorem front_eq {i : Nat} (h : i < pat.length) : (if (Txt.slice pat (some (i : Int)) (some ((i : Int) + 2)) == Str.ofString "[!") = true then (3 : Int) else 2) = (frontN pat.cps.toList i : Int) := by
  rw [slice_two h, lit_ob, beq_S]
  have hl := len_list pat
  have key : ((pat.cps.toList.drop i).take 2 = [91, 33]) ↔ (pat.cps.toList[i]? = some 91 ∧ pat.cps.toList[i + 1]? = some 33) := by
    constructor
    · intro e
      have a : ((pat.cps.toList.drop i).take 2)[0]? = some 91 := by rw [e]; rfl
      have b : ((pat.cps.toList.drop i).take 2)[1]? = some 33 := by rw [e]; rfl
      rw [List.getElem?_take, if_pos (by decide), List.getElem?_drop] at a b
      exact ⟨a, b⟩
    · rintro ⟨a, b⟩
      obtain ⟨h1, e1⟩ := List.getElem?_eq_some_iff.mp a
      obtain ⟨h2, e2⟩ := List.getElem?_eq_some_iff.mp b
      rw [List.drop_eq_getElem_cons h1, List.drop_eq_getElem_cons h2, e1, e2]
      rfl
  unfold frontN
  by_cases hx : pat.cps.toList[i]? = some 91 ∧ pat.cps.toList[i + 1]? = some 33
  · rw [if_pos (decide_eq_true (key.mpr hx)), if_pos hx]; rfl
  · rw [if_neg (by simpa using fun e => hx (key.mp e)), if_neg hx]; rfl
noncomputable def shutV (l : List Nat) (i : Nat) : Int := match (if l[i]? = some 91 then shut l (i + 1) else none) with | some k => (k : Int) | none => -1
theorem find_shut {l : List Nat} {i : Nat} (h : l[i]? = some 91) : Txt.find3 (S l) (Str.ofString "]") ((i : Int) + (frontN l i : Int)) = shutV l i := by
  have hb : bnd l (i + 1) = i + frontN l i := by
    unfold bnd frontN
    by_cases hx : l[i + 1]? = some 33
    · rw [if_pos hx, if_pos ⟨h, hx⟩]
    · rw [if_neg hx, if_neg (fun z => hx z.2)]
  unfold shutV
  rw [if_pos h, lit_shut]
  have hfi : fromIndex (S l).length ((i : Int) + (frontN l i : Int)) = i + frontN l i := by
    unfold fromIndex
    split <;> omega
  have hL : (S l).length = l.length := len_list _
  have hg : ∀ v : Nat, v < l.length → ((S l).cps.getD v 0 = 93 ↔ l[v]? = some 93) := fun v hv => by
    have : (S l).cps.getD v 0 = l[v] := by simp [hv]
    rw [this, List.getElem?_eq_getElem hv]
    exact ⟨fun e => by rw [e], fun e => by simpa using e⟩
  rcases StrLaws.find3_spec (S l) 93 ((i : Int) + (frontN l i : Int)) with ⟨e, hn⟩ | ⟨k, e, h3⟩
  · rw [hfi] at hn
    have hno : shut l (i + 1) = none := fnd_none fun v hv e2 => by
      have hvl := (List.getElem?_eq_some_iff.mp e2).1
      exact hn v (by omega) (by rw [hL]; exact hvl) ((hg v hvl).mpr e2)
    rw [hno]
    exact e
  · rw [hfi] at h3
    obtain ⟨a1, a2, a3, a4⟩ := h3
    rw [hL] at a2
    have hso : shut l (i + 1) = some k := fnd_some (by omega) ((hg k a2).mp a3) fun v x y e2 => a4 v (by omega) y ((hg v (by omega)).mpr e2)
    rw [hso]
    exact e
theorem item_91 {i : Nat} (h : i < pat.length) : (Txt.item pat (i : Int) == Str.ofString "[") = true ↔ pat.cps.toList[i]? = some 91 := by
  rw [item_is (by omega) (by omega) lit_open, Int.toNat_natCast]; exact decide_eq_true_iff
theorem shutV_no {l : List Nat} {i : Nat} (h : l[i]? ≠ some 91) : shutV l i = -1 := by
  unfold shutV; rw [if_neg h]
theorem inner_eq {l : List Nat} {i k : Nat} (h91 : l[i]? = some 91) (hsh : shut l (i + 1) = some k) :
    (if (frontN l i : Int) = 3 then S [94] else S []) ++ S (cut l (i + frontN l i - 1) k) = S (innerS (cut l (i + 1) k)) := by
  obtain ⟨h1, h2, h3, h4⟩ := shut_lt hsh
  by_cases hx : l[i + 1]? = some 33
  · have ef : frontN l i = 3 := if_pos ⟨h91, hx⟩
    rw [ef, if_pos (by decide), S_append]
    unfold bnd at h4
    rw [if_pos hx] at h4
    rw [show i + 3 - 1 = i + 2 from rfl]
    have e1 : cut l (i + 1) k = 33 :: cut l (i + 2) k := by
      rw [← cut_app (i := i + 1) (j := i + 2) (k := k) (by omega) (by omega), show i + 2 = (i + 1) + 1 from rfl, cut_one hx]; rfl
    rw [e1]
    rfl
  · have ef : frontN l i = 2 := if_neg (fun z => hx z.2)
    rw [ef, if_neg (by decide)]
    have e2 : i + 2 - 1 = i + 1 := rfl
    rw [S_append, e2]
    have e3 : innerS (cut l (i + 1) k) = cut l (i + 1) k := by
      cases hc : cut l (i + 1) k with
      | nil => rfl
      | cons c r =>
        have hh := cut_head (l := l) h1
        rw [hc] at hh
        have hne : c ≠ 33 := fun e => hx (by rw [← hh, e]; rfl)
        simp only [innerS, if_neg hne]
    rw [e3]; rfl
theorem innerS_len (st : List Nat) : (innerS st).length = st.length := by
  cases st with
  | nil => rfl
  | cons c r => simp only [innerS]; split <;> rfl
theorem innerS_mem {st : List Nat} {c : Nat} (h : c ∈ innerS st) : c = 94 ∨ c ∈ st := by
  cases st with
  | nil => cases h
  | cons d r =>
    simp only [innerS] at h
    split at h
    · rcases List.mem_cons.mp h with h | h
      · exact .inl h
      · exact .inr (.tail _ h)
    · exact .inr h
end W0
end Mine
theorem Mine.off_PL6 : True := by w_top off; trivial
namespace Mine
section PL6
theorem tup_ne_list {t l : Addr} {a b : Value} {xs : Array Value} {n : Nat} : (t, tupO a b) ≠ (l, listOf xs n) := by
  intro e
  have e2 := congrArg (fun q => q.2.cls) e
  injection e2 with e2
  exact absurd e2 (by decide)
noncomputable def OkI (out : List Item) : Prop := ∀ it ∈ out, ∀ c ∈ it, OkC c
theorem itS_br {l : List Nat} {i k : Nat} {out : List Item} (h : l[i]? = some 91) (hs : shut l (i + 1) = some k) : itS l (i, out) = (k + 1, out ++ [clsI (cut l (i + 1) k)]) := by
  unfold itS
  simp only [h, hs, if_true]
theorem itS_el {l : List Nat} {i c : Nat} {out : List Item} (h : l[i]? = some c) (hs : c = 91 → shut l (i + 1) = none) : itS l (i, out) = (i + 1, if c ≠ 42 ∨ out.getLast? ≠ some [(42, false)] then out ++ [[(c, c == 34)]] else out) := by
  unfold itS
  by_cases hc : c = 91
  · subst hc; simp only [h, hs rfl, if_true]
  · simp only [h, if_neg hc]
theorem okI_cls {l : List Nat} (h : ∀ c ∈ l, c < 128) (i k : Nat) : ∀ c ∈ clsI (cut l i k), OkC c := fun c hc => by
  unfold clsI at hc
  rcases List.mem_append.mp hc with hc | hc
  · rcases List.mem_cons.mp hc with rfl | hc
    · exact (by decide : 91 < 128)
    · obtain ⟨d, hd, rfl⟩ := List.mem_map.mp hc
      rcases innerS_mem hd with rfl | hd
      · exact (by decide : 94 < 128)
      · obtain ⟨v, _, _, hv⟩ := cut_mem hd
        exact h d (List.mem_of_getElem? hv)
  · cases List.mem_singleton.mp hc
    exact (by decide : 93 < 128)
theorem OkI.add {out : List Item} {it : Item} (h : OkI out) (h2 : ∀ c ∈ it, OkC c) : OkI (out ++ [it]) := fun x hx => by
  rcases List.mem_append.mp hx with hx | hx
  · exact h x hx
  · cases List.mem_singleton.mp hx; exact h2
end PL6
end Mine
theorem Mine.off_PL7 : True := by w_top off; trivial
namespace Mine
section PL7
noncomputable def nq (c : Cell) : Bool := !decide (c = (34, true))
noncomputable def stay (c : Cell) : Bool := !c.2 || c.1 == 34
/-- a turn of `_law_words`: what is left of the cells, and the words so far -/
noncomputable def wS : List Cell × List (List Nat) → List Cell × List (List Nat)
  | ([], out) => ([], out)
  | (c :: r, out) =>
    if c = (34, true) then ((r.dropWhile nq).drop 1, out ++ [(r.takeWhile nq).map (·.1)])
    else if c.2 = true then (r, out)
    else (r.dropWhile stay, out ++ [c.1 :: (r.takeWhile stay).map (·.1)])
noncomputable def ReachW (cells rest : List Cell) (out : List (List Nat)) : Prop := ∃ n, iter wS n (cells, []) = (rest, out)
theorem ReachW.step {cells rest rest' : List Cell} {out out' : List (List Nat)} (h : ReachW cells rest out) (e : wS (rest, out) = (rest', out')) : ReachW cells rest' out' := by
  obtain ⟨n, hn⟩ := h
  exact ⟨n + 1, by show wS (iter wS n (cells, [])) = _; rw [hn, e]⟩
theorem scan_end {α : Type} {p : α → Bool} : ∀ {l : List α} {k : Nat}, (∀ j x, j < k → l[j]? = some x → p x = true) → k ≤ l.length → (∀ x, l[k]? = some x → p x = false) → l.takeWhile p = l.take k ∧ l.dropWhile p = l.drop k
  | [], k, _, _, _ => by simp
  | x :: r, 0, _, _, h => by
    have := h x rfl
    simp [this]
  | x :: r, k + 1, h1, h2, h3 => by
    have hx := h1 0 x (Nat.succ_pos _) rfl
    have ⟨a, b⟩ := scan_end (p := p) (l := r) (k := k) (fun j y hj hy => h1 (j + 1) y (Nat.succ_lt_succ hj) hy) (Nat.le_of_succ_le_succ h2) (fun y hy => h3 y hy)
    simp [hx, a, b]
theorem cat_sg : ∀ l : List Nat, (l.map fun c => [c]).flatten = l
  | [] => rfl
  | c :: r => by simp [cat_sg r]
theorem catS_sg : ∀ cs : Item, catS (cs.map fun c => (S [c.1], (0 : Tok))) = cs.map (·.1)
  | [] => rfl
  | c :: r => congrArg (List.cons c.1) (catS_sg r)
theorem join_sg : ∀ cs : Item, Txt.join (Str.ofString "") ((sg cs).map S) = S (cs.map (·.1)) := by
  intro cs
  have : Txt.join (S []) (((cs.map fun c => (S [c.1], (0 : Tok)))).map (·.1)) = S (catS (cs.map fun c => (S [c.1], (0 : Tok)))) := join_empty _
  rw [show Str.ofString "" = S [] by decide +kernel]
  have e1 : (sg cs).map S = (cs.map fun c => (S [c.1], (0 : Tok))).map (·.1) := by simp [sg, Function.comp_def]
  rw [e1, this]
  rw [catS_sg]
theorem strsOf : ∀ {vs : List Value} {cs : List (List Nat)}, VA vs cs → PyProof.Rows.StrsAre vs (cs.map S)
  | [], [], _ => .nil
  | _ :: _, _ :: _, ⟨⟨t, e⟩, r⟩ => by subst e; exact .cons _ t (strsOf r)
end PL7
end Mine
theorem Mine.off_PL8 : True := by w_top off; trivial
namespace Mine
section PL8
noncomputable def flatI (out : List Item) : List Cell := out.flatMap fun it => (32, true) :: it
theorem flatI_snoc (out : List Item) (it : Item) : flatI (out ++ [it]) = flatI out ++ ((32, true) :: it) := by simp [flatI]
noncomputable def InvI (l : List Nat) (p : Nat × List Item) : Prop := p.1 ≤ l.length ∧ (∀ it ∈ p.2, it ≠ []) ∧ (flatI p.2).length ≤ 2 * p.1
theorem clsI_len (st : List Nat) : (clsI st).length = st.length + 2 := by
  unfold clsI
  simp [innerS_len]
theorem InvI.add {l : List Nat} {i j : Nat} {out : List Item} {it : Item} (h : InvI l (i, out)) (hn : it ≠ []) (hj : j ≤ l.length) (hl : it.length + 1 + 2 * i ≤ 2 * j) : InvI l (j, out ++ [it]) := by
  obtain ⟨h1, h2, h3⟩ := h
  refine ⟨hj, fun x hx => ?_, ?_⟩
  · rcases List.mem_append.mp hx with hx | hx
    · exact h2 x hx
    · cases List.mem_singleton.mp hx; exact hn
  · show (flatI (out ++ [it])).length ≤ _
    rw [flatI_snoc, List.length_append, List.length_cons]
    dsimp only at h3 ⊢
    omega
theorem InvI.step {l : List Nat} {p : Nat × List Item} (h : InvI l p) : InvI l (itS l p) := by
  obtain ⟨i, out⟩ := p
  have h1 := h.1
  dsimp only at h1
  cases hc : l[i]? with
  | none =>
    have : itS l (i, out) = (i, out) := by unfold itS; simp only [hc]
    rw [this]; exact h
  | some c =>
    have hil := (List.getElem?_eq_some_iff.mp hc).1
    by_cases hb : ∃ k, c = 91 ∧ shut l (i + 1) = some k
    · obtain ⟨k, rfl, hs⟩ := hb
      rw [itS_br hc hs]
      have hk := shut_lt hs
      refine h.add (by unfold clsI; simp) (by omega) ?_
      rw [clsI_len, cut_len (by omega)]
      omega
    · rw [itS_el hc (fun e => by
        cases hs : shut l (i + 1) with
        | none => rfl
        | some k => exact absurd ⟨k, e, hs⟩ hb)]
      split
      · exact h.add (by simp) (by omega) (by simp; omega)
      · exact ⟨by dsimp only; omega, h.2.1, Nat.le_trans h.2.2 (by dsimp only; omega)⟩
theorem InvI.iter {l : List Nat} : ∀ n, InvI l (iter (itS l) n (0, []))
  | 0 => ⟨Nat.zero_le _, (fun _ h => (nomatch h : False).elim : ∀ it ∈ ([] : List Item), it ≠ []), (by simp [Mine.iter, flatI])⟩
  | n + 1 => (InvI.iter n).step
theorem ReachI.inv {l : List Nat} {i : Nat} {out : List Item} (h : ReachI l i out) : InvI l (i, out) := by
  obtain ⟨n, hn⟩ := h
  rw [← hn]; exact InvI.iter n
theorem ItemAt.skip {a b : List (Addr × Obj)} {c0 : Addr} {v : Value} {it : Item} (hne : it ≠ []) (h : ItemAt (a ++ (c0, listOf #[] 0) :: b) v it) : ItemAt (a ++ b) v it := by
  obtain ⟨q, ws, n, rfl, hm, hx⟩ := h
  refine ⟨q, ws, n, rfl, ?_, hx.mono (fun v c hc => ?_)⟩
  · rcases List.mem_append.mp hm with hm | hm
    · exact List.mem_append_left _ hm
    · rcases List.mem_cons.mp hm with hm | hm
      · exfalso
        injection hm with e1 e2
        injection e2 with _ _ e3
        injection e3 with e4 e5
        subst e4
        have := hx.len
        exact hne (List.eq_nil_of_length_eq_zero this.symm)
      · exact List.mem_append_right _ hm
  · obtain ⟨t, u, rfl, hm⟩ := hc
    refine ⟨t, u, rfl, ?_⟩
    rcases List.mem_append.mp hm with hm | hm
    · exact List.mem_append_left _ hm
    · rcases List.mem_cons.mp hm with hm | hm
      · exact absurd hm tup_ne_list
      · exact List.mem_append_right _ hm
theorem okI_flat {out : List Item} (h : OkI out) : ∀ c ∈ flatI out, OkC c := fun c hc => by
  obtain ⟨it, hi, hc⟩ := List.mem_flatMap.mp hc
  rcases List.mem_cons.mp hc with rfl | hc
  · exact (by decide : 32 < 128)
  · exact h it hi c hc
end PL8
end Mine
theorem Mine.off_PL9 : True := by w_top off; trivial
namespace Mine
section PL9
noncomputable def pieces : List (List Nat) := [[42], [97], [63], [91], [93], [32], [92], [34], [33], [10], [97, 45, 99], [35], [46], [94], [38], [9], [13], [11], [40]]
theorem last_piece (b : Int) (h0 : 0 ≤ b) (h4 : b < 4) : (Txt.item (Str.ofString "\t\r\x0b(") b).cps.toList ∈ pieces := by
  have : b = 0 ∨ b = 1 ∨ b = 2 ∨ b = 3 := by omega
  rcases this with rfl | rfl | rfl | rfl <;> decide +kernel
theorem piece_mem (n : Int) : (pieceStr n).cps.toList ∈ pieces := by
  unfold pieceStr
  generalize hk : (n.fmod 16).toNat = k
  have hk16 : k < 16 := by
    have h0 := Int.fmod_nonneg_of_pos n (b := 16) (by decide)
    have h1 := Int.fmod_lt_of_pos n (b := 16) (by decide)
    omega
  match k, hk16 with
  | 0, _ => exact (by decide +kernel : (Str.ofString "*").cps.toList ∈ pieces)
  | 1, _ => exact (by decide +kernel : (Str.ofString "a").cps.toList ∈ pieces)
  | 2, _ => exact (by decide +kernel : (Str.ofString "?").cps.toList ∈ pieces)
  | 3, _ => exact (by decide +kernel : (Str.ofString "[").cps.toList ∈ pieces)
  | 4, _ => exact (by decide +kernel : (Str.ofString "]").cps.toList ∈ pieces)
  | 5, _ => exact (by decide +kernel : (Str.ofString " ").cps.toList ∈ pieces)
  | 6, _ => exact (by decide +kernel : (Str.ofString "\\").cps.toList ∈ pieces)
  | 7, _ => exact (by decide +kernel : (Str.ofString "\"").cps.toList ∈ pieces)
  | 8, _ => exact (by decide +kernel : (Str.ofString "!").cps.toList ∈ pieces)
  | 9, _ => exact (by decide +kernel : (Str.ofString "\n").cps.toList ∈ pieces)
  | 10, _ => exact (by decide +kernel : (Str.ofString "a-c").cps.toList ∈ pieces)
  | 11, _ => exact (by decide +kernel : (Str.ofString "#").cps.toList ∈ pieces)
  | 12, _ => exact (by decide +kernel : (Str.ofString ".").cps.toList ∈ pieces)
  | 13, _ => exact (by decide +kernel : (Str.ofString "^").cps.toList ∈ pieces)
  | 14, _ => exact (by decide +kernel : (Str.ofString "&").cps.toList ∈ pieces)
  | 15, _ => exact last_piece _ (Int.fmod_nonneg_of_pos _ (by decide)) (Int.fmod_lt_of_pos _ (by decide))
  | k + 16, h => exact absurd h (by omega)
theorem piece_len {l : List Nat} (h : l ∈ pieces) : l.length ≤ 3 ∧ ∀ c ∈ l, c < 128 := by
  have : ∀ l ∈ pieces, l.length ≤ 3 ∧ ∀ c ∈ l, c < 128 := by decide +kernel
  exact this l h
theorem join_pieces (ns : List Int) : Txt.join (Str.ofString "") (ns.map pieceStr) = S (ns.flatMap fun n => (pieceStr n).cps.toList) := by
  have : Txt.join (S []) (((ns.map fun n => (pieceStr n, (0 : Tok)))).map (·.1)) = S (catS (ns.map fun n => (pieceStr n, (0 : Tok)))) := join_empty _
  rw [show Str.ofString "" = S [] by decide +kernel]
  have e1 : ns.map pieceStr = (ns.map fun n => (pieceStr n, (0 : Tok))).map (·.1) := by simp [Function.comp_def]
  rw [e1, this]
  unfold catS
  rw [List.flatMap_map]
theorem pieces_sum : ∀ ns : List Int, ((ns.map pieceStr).map (·.length)).sum ≤ 3 * ns.length
  | [] => Nat.le_refl _
  | n :: r => by
    have h := (piece_len (piece_mem n)).1
    have := pieces_sum r
    simp only [List.map_cons, List.sum_cons, List.length_cons]
    rw [len_list]
    omega
theorem flat_len : ∀ ns : List Int, (ns.flatMap fun n => (pieceStr n).cps.toList).length ≤ 3 * ns.length
  | [] => Nat.le_refl _
  | n :: r => by
    have h := (piece_len (piece_mem n)).1
    have := flat_len r
    rw [List.flatMap_cons, List.length_append, List.length_cons]
    omega
theorem strs_of : ∀ {ys : List Value} {ns : List Int}, ys.length = ns.length → (∀ j, j < ys.length → ∃ y n t, ys[j]? = some y ∧ ns[j]? = some n ∧ y = .str (pieceStr n) t) → PyProof.Rows.StrsAre ys (ns.map pieceStr)
  | [], [], _, _ => .nil
  | y :: ys, n :: ns, h, k => by
    obtain ⟨y', n', t, a, b, c⟩ := k 0 (Nat.succ_pos _)
    cases a; cases b; subst c
    refine .cons _ t (strs_of (Nat.succ.inj h) fun j hj => ?_)
    obtain ⟨y', n', t, a, b, c⟩ := k (j + 1) (Nat.succ_lt_succ hj)
    exact ⟨y', n', t, by simpa using a, by simpa using b, c⟩
/-- the parts written with blanks between -/
noncomputable def joinSp : List (List Nat) → List Nat
  | [] => []
  | [x] => x
  | x :: y :: r => x ++ 32 :: joinSp (y :: r)
end PL9
end Mine
theorem Mine.off_PL11 : True := by w_top off; trivial
namespace Mine
section PL11
/-- how cells are written as text: a raw sign, or a sign behind a backslash -/
inductive En : List Cell → List Nat → Prop
  | nil : En [] []
  | raw {cs t} (c : Nat) (h : c ≠ 92) (r : En cs t) : En ((c, wsp c || c == 34) :: cs) (c :: t)
  | esc {cs t} (c : Nat) (r : En cs t) : En ((c, false) :: cs) (92 :: c :: t)
theorem En.app {a b : List Cell} {x y : List Nat} (h : En a x) (k : En b y) : En (a ++ b) (x ++ y) := by
  induction h with
  | nil => exact k
  | raw c h _ ih => exact .raw c h ih
  | esc c _ ih => exact .esc c ih
theorem wsp_live (c : Nat) : (wsp c || c == 34) = live c := by
  unfold wsp live
  cases (c == 10) <;> cases (c == 9) <;> cases (c == 13) <;> cases (c == 32) <;> cases (c == 34) <;> rfl
theorem En.raw' {c : Nat} {b : Bool} {cs : List Cell} {t : List Nat} (h : c ≠ 92) (hb : live c = b) (r : En cs t) : En ((c, b) :: cs) (c :: t) := by
  have := En.raw c h r
  rwa [wsp_live, hb] at this
theorem wS_cons (c : Cell) (r : List Cell) (out : List (List Nat)) : wS (c :: r, out) = if c = (34, true) then ((r.dropWhile nq).drop 1, out ++ [(r.takeWhile nq).map (·.1)])
    else if c.2 = true then (r, out) else (r.dropWhile stay, out ++ [c.1 :: (r.takeWhile stay).map (·.1)]) := rfl
/-- inside quotes -/
theorem lexQ_en {cs : List Cell} {t : List Nat} (h : En cs t) : ∀ tok, ∃ t', lexQ tok t = (tok ++ (cs.takeWhile nq).map (·.1), t') ∧ En ((cs.dropWhile nq).drop 1) t' := by
  induction h with
  | nil => exact fun tok => ⟨[], by simp [lexQ], .nil⟩
  | @raw cs t c h r ih =>
    intro tok
    by_cases hc : c = 34
    · subst hc
      refine ⟨t, ?_, ?_⟩
      · rw [lexQ_cons, if_pos rfl]; simp [nq, wsp]
      · simpa [nq, wsp] using r
    · obtain ⟨t', a, b⟩ := ih (tok ++ [c])
      have hn : nq (c, wsp c || c == 34) = true := by simp [nq, hc]
      refine ⟨t', ?_, ?_⟩
      · rw [lexQ_cons, if_neg hc, if_neg h, a, List.takeWhile_cons, if_pos hn]; simp
      · rwa [List.dropWhile_cons, if_pos hn]
  | @esc cs t c r ih =>
    intro tok
    obtain ⟨t', a, b⟩ := ih (tok ++ [c])
    have hn : nq (c, false) = true := by simp [nq]
    refine ⟨t', ?_, ?_⟩
    · rw [lexQ_cons, if_neg (by decide), if_pos rfl]
      simp only [List.take_succ_cons, List.take_zero, List.tail_cons]
      rw [a, List.takeWhile_cons, if_pos hn]; simp
    · rwa [List.dropWhile_cons, if_pos hn]
/-- outside quotes -/
theorem lexW_en {cs : List Cell} {t : List Nat} (h : En cs t) : ∀ tok, ∃ t', lexW tok t = (tok ++ (cs.takeWhile stay).map (·.1), t') ∧ ((cs.dropWhile stay = [] ∧ t' = []) ∨ ∃ c r, cs.dropWhile stay = (c, true) :: r ∧ wsp c = true ∧ En r t') := by
  induction h with
  | nil => exact fun tok => ⟨[], by simp [lexW], .inl ⟨rfl, rfl⟩⟩
  | @raw cs t c h r ih =>
    intro tok
    by_cases hc : wsp c = true
    · have hn : stay (c, wsp c || c == 34) = false := by
        have : c ≠ 34 := fun e => by rw [e] at hc; exact absurd hc (by decide)
        simp [stay, hc, this]
      refine ⟨t, ?_, .inr ⟨c, cs, ?_, hc, r⟩⟩
      · rw [lexW_cons, if_pos hc, List.takeWhile_cons, hn]; simp
      · rw [List.dropWhile_cons, hn, hc]; rfl
    · have hn : stay (c, wsp c || c == 34) = true := by
        have hc' : wsp c = false := by simpa using hc
        by_cases h34 : c = 34
        · subst h34; rfl
        · simp [stay, hc', h34]
      obtain ⟨t', a, b⟩ := ih (tok ++ [c])
      refine ⟨t', ?_, ?_⟩
      · rw [lexW_cons, if_neg hc, if_neg h, a, List.takeWhile_cons, if_pos hn]; simp
      · rwa [List.dropWhile_cons, if_pos hn]
  | @esc cs t c r ih =>
    intro tok
    obtain ⟨t', a, b⟩ := ih (tok ++ [c])
    have hn : stay (c, false) = true := by simp [stay]
    refine ⟨t', ?_, ?_⟩
    · rw [lexW_cons, if_neg (by decide), if_pos rfl]
      simp only [List.take_succ_cons, List.take_zero, List.tail_cons]
      rw [a, List.takeWhile_cons, if_pos hn]; simp
    · rwa [List.dropWhile_cons, if_pos hn]
theorem draws_nil : ∀ k, draws k [] = (List.replicate k [], [])
  | 0 => rfl
  | k + 1 => by
    show ((lexT []).1 :: (draws k (lexT []).2).1, (draws k (lexT []).2).2) = _
    have : lexT [] = ([], []) := rfl
    rw [this, draws_nil k]; rfl
theorem draws_skip {c : Nat} {t : List Nat} (h : wsp c = true) {k : Nat} (hk : 1 ≤ k) : draws k (c :: t) = draws k t := by
  obtain ⟨k, rfl⟩ : ∃ j, k = j + 1 := ⟨k - 1, by omega⟩
  have : lexT (c :: t) = lexT t := by conv => lhs; unfold lexT; rw [if_pos h]
  unfold draws
  rw [this]
theorem iter_succ' {α : Type} (f : α → α) : ∀ (n : Nat) (x : α), iter f (n + 1) x = iter f n (f x)
  | 0, _ => rfl
  | n + 1, x => congrArg f (iter_succ' f n x)
/-- the text t holds the cells, but for a blank at their front that may be taken already -/
noncomputable def EnL (cells : List Cell) (t : List Nat) : Prop := En cells t ∨ ∃ c r, cells = (c, true) :: r ∧ wsp c = true ∧ En r t
theorem words_draws : ∀ (n : Nat) (cells : List Cell) (t : List Nat) (out out1 : List (List Nat)), EnL cells t → iter wS n (cells, out) = ([], out1) → ∃ ws, out1 = out ++ ws ∧ ∀ k, 1 ≤ k → draws (ws.length + k) t = (ws ++ List.replicate k [], [])
  | 0, cells, t, out, out1, h, e => by
    cases e
    rcases h with h | ⟨c, r, e, _⟩
    · cases h
      exact ⟨[], by simp, fun k _ => by simpa using draws_nil k⟩
    · cases e
  | n + 1, cells, t, out, out1, h, e => by
    rw [iter_succ'] at e
    rcases h with h | ⟨c, r, rfl, hw, h⟩
    · cases h with
      | nil => exact words_draws n [] [] out out1 (.inl .nil) e
      | @raw cs t c hc r =>
        by_cases h34 : c = 34
        · subst h34
          have e1 : wS ((34, wsp 34 || (34 : Nat) == 34) :: cs, out) = ((cs.dropWhile nq).drop 1, out ++ [(cs.takeWhile nq).map (·.1)]) := by
            rw [wS_cons]; exact if_pos rfl
          rw [e1] at e
          obtain ⟨t', a, b⟩ := lexQ_en r []
          obtain ⟨ws, d, f⟩ := words_draws n _ t' _ out1 (.inl b) e
          refine ⟨(cs.takeWhile nq).map (·.1) :: ws, by rw [d]; simp, fun k hk => ?_⟩
          have e2 : lexT (34 :: t) = ((cs.takeWhile nq).map (·.1), t') := by
            rw [show lexT (34 :: t) = lexQ [] t by unfold lexT; rfl, a]; rfl
          rw [show (_ :: ws : List (List Nat)).length + k = (ws.length + k) + 1 by simp; omega]
          unfold draws
          rw [e2]
          dsimp only
          rw [f k hk]; simp
        · by_cases hw : wsp c = true
          · have e1 : wS ((c, wsp c || c == 34) :: cs, out) = (cs, out) := by
              rw [hw]
              rw [wS_cons]; exact (if_neg (by simp [h34])).trans (if_pos rfl)
            rw [e1] at e
            obtain ⟨ws, d, f⟩ := words_draws n _ t _ out1 (.inl r) e
            exact ⟨ws, d, fun k hk => by rw [draws_skip hw (by omega)]; exact f k hk⟩
          · have hw' : wsp c = false := by simpa using hw
            have hb : (wsp c || c == 34) = false := by simp [hw', h34]
            rw [hb] at e
            have e1 : wS ((c, false) :: cs, out) = (cs.dropWhile stay, out ++ [c :: (cs.takeWhile stay).map (·.1)]) := by
              rw [wS_cons]; exact (if_neg (by simp)).trans (if_neg (by simp))
            rw [e1] at e
            obtain ⟨t', a, b⟩ := lexW_en r [c]
            obtain ⟨ws, d, f⟩ := words_draws n _ t' _ out1 (by
              rcases b with ⟨b1, b2⟩ | b
              · rw [b1, b2]; exact .inl .nil
              · exact .inr b) e
            refine ⟨(c :: (cs.takeWhile stay).map (·.1)) :: ws, by rw [d]; simp, fun k hk => ?_⟩
            have e2 : lexT (c :: t) = (c :: (cs.takeWhile stay).map (·.1), t') := by
              rw [show lexT (c :: t) = lexW [c] t by conv => lhs; unfold lexT; rw [if_neg hw, if_neg h34, if_neg hc], a]; rfl
            rw [show (_ :: ws : List (List Nat)).length + k = (ws.length + k) + 1 by simp; omega]
            unfold draws
            rw [e2]
            dsimp only
            rw [f k hk]; simp
      | @esc cs t c r =>
        have e1 : wS ((c, false) :: cs, out) = (cs.dropWhile stay, out ++ [c :: (cs.takeWhile stay).map (·.1)]) := by
          rw [wS_cons]; exact (if_neg (by simp)).trans (if_neg (by simp))
        rw [e1] at e
        obtain ⟨t', a, b⟩ := lexW_en r [c]
        obtain ⟨ws, d, f⟩ := words_draws n _ t' _ out1 (by
          rcases b with ⟨b1, b2⟩ | b
          · rw [b1, b2]; exact .inl .nil
          · exact .inr b) e
        refine ⟨(c :: (cs.takeWhile stay).map (·.1)) :: ws, by rw [d]; simp, fun k hk => ?_⟩
        have e2 : lexT (92 :: c :: t) = (c :: (cs.takeWhile stay).map (·.1), t') := by
          rw [show lexT (92 :: c :: t) = lexW [c] t by unfold lexT; rfl, a]; rfl
        rw [show (_ :: ws : List (List Nat)).length + k = (ws.length + k) + 1 by simp; omega]
        unfold draws
        rw [e2]
        dsimp only
        rw [f k hk]; simp
    · have h34 : c ≠ 34 := fun e => by rw [e] at hw; exact absurd hw (by decide)
      have e1 : wS ((c, true) :: r, out) = (r, out) := by
        rw [wS_cons]; exact (if_neg (by simp [h34])).trans (if_pos rfl)
      rw [e1] at e
      exact words_draws n _ t _ out1 (.inl h) e
end PL11
end Mine
theorem Mine.off_PL12 : True := by w_top off; trivial
namespace Mine
section PL12
/-- a bracket's inside, sign by sign -/
theorem body_en : ∀ st : List Nat, En (st.map fun c => (c, live c)) (ampE (StrLaws.dbl 92 st)) ∧ (ampE (StrLaws.dbl 92 st)).count 10 = st.count 10 ∧ (ampE (StrLaws.dbl 92 st)).length ≤ 2 * st.length
  | [] => ⟨.nil, rfl, Nat.le_refl _⟩
  | c :: r => by
    obtain ⟨h1, h2, h3⟩ := body_en r
    have hcat : ∀ x y : List Nat, ampE (x ++ y) = ampE x ++ ampE y := fun x y => by unfold ampE; rw [List.flatMap_append]
    have hd : StrLaws.dbl 92 (c :: r) = (if c = 92 then [c, c] else [c]) ++ StrLaws.dbl 92 r := by
      conv => lhs; unfold StrLaws.dbl
      split <;> rfl
    rw [hd, hcat]
    by_cases hc : c = 92
    · subst hc
      have e : ampE (if (92 : Nat) = 92 then [92, 92] else [92]) = [92, 92] := rfl
      rw [e]
      refine ⟨.esc 92 h1, ?_, ?_⟩
      · simp [h2]
      · simp; omega
    · rw [if_neg hc]
      by_cases ha : amp c = true
      · have e : ampE [c] = [92, c] := by simp [ampE, ha]
        have hl : live c = false := by
          unfold amp at ha
          simp only [Bool.or_eq_true, beq_iff_eq] at ha
          rcases ha with (rfl | rfl) | rfl <;> rfl
        rw [e]
        refine ⟨?_, ?_, ?_⟩
        · show En ((c, live c) :: _) _
          rw [hl]; exact .esc c h1
        · simp [List.count_cons, h2]
        · simp; omega
      · have e : ampE [c] = [c] := by simp [ampE, ha]
        rw [e]
        refine ⟨.raw' hc rfl h1, ?_, ?_⟩
        · simp [List.count_cons, h2]
        · simp; omega
theorem fix_head {c : Nat} {r : List Nat} (h1 : c ≠ 33) (h2 : c ≠ 94) (h3 : c ≠ 91) : fixS (c :: r) = c :: r := by
  exact (if_neg h1).trans (if_neg (by simp [h2, h3]))
theorem cls_en (st : List Nat) : En (clsI st) (clsT st) ∧ (clsT st).count 10 = st.count 10 ∧ (clsT st).length ≤ 2 * st.length + 3 := by
  have key : En ((innerS st).map fun c => (c, live c)) (fixS (ampE (StrLaws.dbl 92 st))) ∧ (fixS (ampE (StrLaws.dbl 92 st))).count 10 = st.count 10 ∧ (fixS (ampE (StrLaws.dbl 92 st))).length ≤ 2 * st.length + 1 := by
    cases st with
    | nil => exact ⟨.nil, rfl, Nat.zero_le _⟩
    | cons c r =>
      have hb := body_en (c :: r)
      have hr := body_en r
      have hcat : ∀ x y : List Nat, ampE (x ++ y) = ampE x ++ ampE y := fun x y => by unfold ampE; rw [List.flatMap_append]
      have hd : StrLaws.dbl 92 (c :: r) = (if c = 92 then [c, c] else [c]) ++ StrLaws.dbl 92 r := by
        conv => lhs; unfold StrLaws.dbl
        split <;> rfl
      by_cases h33 : c = 33
      · subst h33
        have e : ampE (StrLaws.dbl 92 (33 :: r)) = 33 :: ampE (StrLaws.dbl 92 r) := by rw [hd, hcat]; rfl
        rw [e]
        have e2 : fixS (33 :: ampE (StrLaws.dbl 92 r)) = 94 :: ampE (StrLaws.dbl 92 r) := rfl
        rw [e2]
        refine ⟨.raw' (c := 94) (b := false) (by decide) rfl hr.1, ?_, ?_⟩
        · simp [List.count_cons, hr.2.1]
        · have := hr.2.2; simp; omega
      have hi : innerS (c :: r) = c :: r := if_neg h33
      rw [hi]
      by_cases h94 : c = 94 ∨ c = 91
      · have e : ampE (StrLaws.dbl 92 (c :: r)) = c :: ampE (StrLaws.dbl 92 r) := by
          rw [hd, hcat]
          rcases h94 with rfl | rfl <;> rfl
        rw [e]
        have e2 : fixS (c :: ampE (StrLaws.dbl 92 r)) = 92 :: c :: ampE (StrLaws.dbl 92 r) := by
          exact (if_neg h33).trans (if_pos h94)
        rw [e2]
        have hl : live c = false := by rcases h94 with rfl | rfl <;> rfl
        refine ⟨?_, ?_, ?_⟩
        · show En ((c, live c) :: _) _
          rw [hl]; exact .esc c hr.1
        · simp [List.count_cons, hr.2.1]
        · have := hr.2.2; simp; omega
      · obtain ⟨d, r', e, hd2⟩ : ∃ d r', ampE (StrLaws.dbl 92 (c :: r)) = d :: r' ∧ (d = 92 ∨ d = c) := by
          rw [hd, hcat]
          by_cases h92 : c = 92
          · subst h92
            exact ⟨92, 92 :: ampE (StrLaws.dbl 92 r), rfl, .inl rfl⟩
          · rw [if_neg h92]
            by_cases ha : amp c = true
            · exact ⟨92, c :: ampE (StrLaws.dbl 92 r), by simp [ampE, ha], .inl rfl⟩
            · exact ⟨c, ampE (StrLaws.dbl 92 r), by simp [ampE, ha], .inr rfl⟩
        have e2 : fixS (ampE (StrLaws.dbl 92 (c :: r))) = ampE (StrLaws.dbl 92 (c :: r)) := by
          rw [e]
          rcases hd2 with rfl | rfl
          · exact fix_head (by decide) (by decide) (by decide)
          · exact fix_head h33 (fun x => h94 (.inl x)) (fun x => h94 (.inr x))
        rw [e2]
        exact ⟨hb.1, hb.2.1, Nat.le_succ_of_le hb.2.2⟩
  obtain ⟨k1, k2, k3⟩ := key
  refine ⟨?_, ?_, ?_⟩
  · show En ((91, false) :: (((innerS st).map fun c => (c, live c)) ++ [(93, false)])) (91 :: (fixS (ampE (StrLaws.dbl 92 st)) ++ [93]))
    exact .raw' (by decide) rfl (k1.app (.raw' (by decide) rfl .nil))
  · show (91 :: (fixS (ampE (StrLaws.dbl 92 st)) ++ [93])).count 10 = _
    simp [List.count_cons, k2]
  · show (91 :: (fixS (ampE (StrLaws.dbl 92 st)) ++ [93])).length ≤ _
    simp; omega
theorem special_facts : ∀ c : Nat, (special c = true → live c = true → wsp c = true) ∧ (special c = false → c ≠ 92 ∧ wsp c = false) := by
  intro c
  have h1 : special 92 = true ∧ special 10 = true ∧ special 9 = true ∧ special 13 = true ∧ special 32 = true ∧ special 34 = false := by decide +kernel
  refine ⟨fun h hl => ?_, fun h => ⟨fun e => ?_, ?_⟩⟩
  · by_cases h34 : c = 34
    · subst h34; rw [h1.2.2.2.2.2] at h; cases h
    · rw [← wsp_live] at hl; simpa [h34] using hl
  · subst e; rw [h1.1] at h; cases h
  · cases hw : wsp c with
    | false => rfl
    | true =>
      unfold wsp at hw
      simp only [Bool.or_eq_true, beq_iff_eq] at hw
      rcases hw with ((rfl | rfl) | rfl) | rfl
      · rw [h1.2.1] at h; cases h
      · rw [h1.2.2.1] at h; cases h
      · rw [h1.2.2.2.1] at h; cases h
      · rw [h1.2.2.2.2.1] at h; cases h
theorem esc_en (c : Nat) : En [(c, c == 34)] (escC c) ∧ (escC c).count 10 = [c].count 10 ∧ (escC c).length ≤ 2 := by
  obtain ⟨h1, h2⟩ := special_facts c
  unfold escC
  by_cases hs : special c = true
  · rw [if_pos hs]
    have h34 : c ≠ 34 := fun e => by
      subst e
      exact absurd hs (by decide +kernel)
    refine ⟨?_, ?_, by simp⟩
    · have : (c == 34) = false := by simpa using h34
      rw [this]; exact .esc c .nil
    · simp [List.count_cons]
  · rw [if_neg hs]
    obtain ⟨a, b⟩ := h2 (by simpa using hs)
    refine ⟨.raw' a ?_ .nil, rfl, by simp⟩
    rw [← wsp_live, b]; rfl
end PL12
end Mine
theorem Mine.off_PL13 : True := by w_top off; trivial
namespace Mine
section PL13
noncomputable def Rel (o : List Nat) (it : Item) : Prop := En it o ∧ o ≠ [42]
structure Sim (l : List Nat) (p : Nat × List (List Nat)) (q : Nat × List Item) : Prop where
  same : p.1 = q.1
  le : p.1 ≤ l.length
  rel : All2 Rel p.2 q.2
  cnt : p.2.flatten.count 10 = (l.take p.1).count 10
  len : p.2.flatten.length + p.2.length ≤ 3 * p.1
theorem cut_take (l : List Nat) (i j : Nat) (h : i ≤ j) : l.take j = l.take i ++ cut l i j := by
  unfold cut
  rw [show l.take j = l.take (i + (j - i)) by congr 1; omega, List.take_add]
theorem Sim.add {l : List Nat} {i j : Nat} {out : List (List Nat)} {items : List Item} {o : List Nat} {it : Item} (h : Sim l (i, out) (i, items)) (hij : i ≤ j) (hj : j ≤ l.length) (hr : Rel o it) (hc : o.count 10 = (cut l i j).count 10) (hl : o.length + 1 ≤ 3 * (j - i)) :
    Sim l (j, out ++ [o]) (j, items ++ [it]) := by
  refine ⟨rfl, hj, h.rel.snoc hr, ?_, ?_⟩
  · have := h.cnt
    dsimp only at this ⊢
    rw [cut_take l i j hij, List.count_append, ← this, ← hc]; simp
  · have := h.len
    dsimp only at this ⊢
    simp only [List.flatten_append, List.flatten_cons, List.flatten_nil, List.append_nil, List.length_append, List.length_cons, List.length_nil]
    omega
theorem star_en {it : Item} (h : En it [92, 42]) : it = [(42, false)] := by
  cases h with
  | esc c r => cases r; rfl
  | raw c h r => exact absurd rfl h
theorem star_of {o : List Nat} (h : En [(42, false)] o) : o = [92, 42] ∨ o = [42] := by
  have key : ∀ it : Item, En it o → it = [(42, false)] → o = [92, 42] ∨ o = [42] := by
    intro it h e
    cases h with
    | nil => cases e
    | raw c h r =>
      injection e with e1 e2
      injection e1 with e3 e4
      subst e3; subst e2
      cases r; exact .inr rfl
    | esc c r =>
      injection e with e1 e2
      injection e1 with e3 e4
      subst e3; subst e2
      cases r; exact .inl rfl
  exact key _ h rfl
theorem last_starR {out : List (List Nat)} {items : List Item} (h : All2 Rel out items) : (out.getLast? = some [92, 42]) ↔ (items.getLast? = some [(42, false)]) := by
  by_cases hn : items = []
  · subst hn
    have : out = [] := List.eq_nil_of_length_eq_zero h.len
    subst this; simp
  · obtain ⟨v, c, a, b, r⟩ := h.last hn
    rw [a, b]
    constructor
    · intro e; cases e; rw [star_en r.1]
    · intro e; cases e
      rcases star_of r.1 with e | e
      · rw [e]
      · exact absurd e r.2
theorem Sim.step {l : List Nat} {p : Nat × List (List Nat)} {q : Nat × List Item} (h : Sim l p q) : Sim l (trS l p) (itS l q) := by
  obtain ⟨i, out⟩ := p
  obtain ⟨i', items⟩ := q
  have e := h.same
  dsimp only at e
  subst e
  cases hc : l[i]? with
  | none =>
    have e1 : trS l (i, out) = (i, out) := by unfold trS; simp only [hc]
    have e2 : itS l (i, items) = (i, items) := by unfold itS; simp only [hc]
    rw [e1, e2]; exact h
  | some c =>
    have hil := (List.getElem?_eq_some_iff.mp hc).1
    have hone := cut_one hc
    by_cases hb : ∃ k, c = 91 ∧ shut l (i + 1) = some k
    · obtain ⟨k, rfl, hs⟩ := hb
      have e1 : trS l (i, out) = (k + 1, out ++ [clsT (cut l (i + 1) k)]) := by unfold trS; simp only [hc, hs]; rfl
      rw [e1, itS_br hc hs]
      have hk := shut_lt hs
      obtain ⟨c1, c2, c3⟩ := cls_en (cut l (i + 1) k)
      rw [cut_len (by omega)] at c3
      refine h.add (by omega) (by omega) ⟨c1, ?_⟩ ?_ (by omega)
      · intro e
        have := congrArg (·.head?) e
        have h2 : (clsT (cut l (i + 1) k)).head? = some 91 := rfl
        rw [show (clsT (cut l (i + 1) k)).head? = ([42] : List Nat).head? from this] at h2
        cases h2
      · rw [c2, ← cut_app (i := i) (j := i + 1) (k := k + 1) (by omega) (by omega), ← cut_app (i := i + 1) (j := k) (k := k + 1) (by omega) (by omega), hone, cut_one hk.2.2.1]
        simp
    · have hsn : c = 91 → shut l (i + 1) = none := fun e => by
        cases hs : shut l (i + 1) with
        | none => rfl
        | some k => exact absurd ⟨k, e, hs⟩ hb
      rw [itS_el hc hsn]
      by_cases h42 : c = 42
      · subst h42
        have e1 : trS l (i, out) = (i + 1, if out.getLast? = some [92, 42] then out else out ++ [[92, 42]]) := by unfold trS; simp only [hc]; rfl
        rw [e1]
        by_cases hl : out.getLast? = some [92, 42]
        · rw [if_pos hl, if_neg (by simp [(last_starR h.rel).mp hl])]
          refine ⟨rfl, hil, h.rel, ?_, Nat.le_trans h.len (by dsimp only; omega)⟩
          have := h.cnt
          dsimp only at this ⊢
          rw [cut_take l i (i + 1) (by omega), hone, List.count_append, this]; rfl
        · rw [if_neg hl, if_pos (.inr fun e => hl ((last_starR h.rel).mpr e))]
          refine h.add (by omega) hil ⟨.esc 42 .nil, by decide⟩ (by rw [hone]; rfl) (by simp)
      · have hn : (if c ≠ 42 ∨ items.getLast? ≠ some [(42, false)] then items ++ [[(c, c == 34)]] else items) = items ++ [[(c, c == 34)]] := if_pos (.inl h42)
        rw [hn]
        obtain ⟨o, e1, hr, hcn, hln⟩ : ∃ o, trS l (i, out) = (i + 1, out ++ [o]) ∧ Rel o [(c, c == 34)] ∧ o.count 10 = [c].count 10 ∧ o.length ≤ 2 := by
          by_cases h63 : c = 63
          · subst h63
            exact ⟨[92, 63], by unfold trS; simp only [hc]; rfl, ⟨.esc 63 .nil, by decide⟩, rfl, Nat.le_refl _⟩
          by_cases h91 : c = 91
          · subst h91
            exact ⟨[92, 91], by unfold trS; simp only [hc, hsn rfl]; rfl, ⟨.esc 91 .nil, by decide⟩, rfl, Nat.le_refl _⟩
          · obtain ⟨a, b, d⟩ := esc_en c
            refine ⟨escC c, by unfold trS; simp only [hc, if_neg h42, if_neg h63, if_neg h91], ⟨a, ?_⟩, b, d⟩
            unfold escC
            split
            · simp
            · simp [h42]
        rw [e1]
        exact h.add (by omega) hil hr (by rw [hone]; exact hcn) (by omega)
theorem Sim.iter {l : List Nat} : ∀ n, Sim l (iter (trS l) n (0, [])) (iter (itS l) n (0, []))
  | 0 => ⟨rfl, Nat.zero_le _, trivial, rfl, Nat.le_refl _⟩
  | n + 1 => (Sim.iter n).step
theorem iter_stay {α : Type} {f : α → α} {x : α} (h : f x = x) : ∀ n, iter f n x = x
  | 0 => rfl
  | n + 1 => by show f (iter f n x) = x; rw [iter_stay h n, h]
theorem iter_add {α : Type} (f : α → α) (n : Nat) : ∀ (k : Nat) (x : α), iter f (k + n) x = iter f k (iter f n x)
  | 0, x => by rw [Nat.zero_add]; rfl
  | k + 1, x => by
    rw [show k + 1 + n = (k + n) + 1 by omega]
    exact congrArg f (iter_add f n k x)
theorem Reach.sim {l : List Nat} {out : List (List Nat)} {items : List Item} (h : Reach l l.length out) (k : ReachI l l.length items) : Sim l (l.length, out) (l.length, items) := by
  obtain ⟨n, hn⟩ := h
  obtain ⟨m, hm⟩ := k
  have e1 : trS l (l.length, out) = (l.length, out) := by unfold trS; simp
  have e2 : itS l (l.length, items) = (l.length, items) := by unfold itS; simp
  have := Sim.iter (l := l) (m + n)
  rwa [iter_add (trS l) n m, hn, iter_stay e1, Nat.add_comm m n, iter_add (itS l) m n, hm, iter_stay e2] at this
theorem en_flat : ∀ {out : List (List Nat)} {items : List Item}, All2 Rel out items → En (flatI items) (out.flatMap (32 :: ·))
  | [], [], _ => .nil
  | o :: out, it :: items, h => by
    have e1 : flatI (it :: items) = (32, true) :: (it ++ flatI items) := rfl
    have e2 : (o :: out).flatMap (32 :: ·) = 32 :: (o ++ out.flatMap (32 :: ·)) := rfl
    rw [e1, e2]
    exact .raw' (by decide) rfl (h.1.1.app (en_flat h.2))
theorem flat_join : ∀ (o : List Nat) (out : List (List Nat)), (o :: out).flatMap (32 :: ·) = 32 :: joinSp (o :: out)
  | o, [] => by simp [joinSp]
  | o, y :: r => by
    have := flat_join y r
    rw [List.flatMap_cons, this]; rfl
theorem join_count : ∀ out : List (List Nat), (joinSp out).count 10 = out.flatten.count 10 ∧ (joinSp out).length ≤ out.flatten.length + out.length
  | [] => ⟨rfl, Nat.le_refl _⟩
  | [o] => ⟨by simp [joinSp], by simp [joinSp]⟩
  | o :: y :: r => by
    obtain ⟨a, b⟩ := join_count (y :: r)
    have e : joinSp (o :: y :: r) = o ++ 32 :: joinSp (y :: r) := rfl
    rw [e]
    refine ⟨?_, ?_⟩
    · rw [List.flatten_cons, List.count_append, List.count_append, List.count_cons, a]; rfl
    · rw [List.flatten_cons, List.length_append, List.length_append, List.length_cons, List.length_cons]; omega
theorem sum_flat (out : List (List Nat)) : (out.map (·.length)).sum = out.flatten.length := by simp
/-- the words that the lexer draws from the text are the words of the pattern's items -/
theorem law_words {pat : List Nat} {out : List (List Nat)} {items : List Item} {words : List (List Nat)} (h : Reach pat pat.length out) (hi : ReachI pat pat.length items) (hw : ReachW (flatI items) [] words) :
    draws (words.length + 2) (joinSp out) = (words ++ [[], []], []) := by
  obtain ⟨n, hn⟩ := hw
  have sim := h.sim hi
  obtain ⟨ws, e, f⟩ := words_draws n _ _ [] words (.inl (en_flat sim.rel)) hn
  have e' : words = ws := by simpa using e
  subst e'
  have f2 := f 2 (by decide)
  rw [show List.replicate 2 ([] : List Nat) = [[], []] from rfl] at f2
  cases out with
  | nil => exact f2
  | cons o out =>
    rw [flat_join] at f2
    rwa [draws_skip (by decide) (by omega)] at f2
theorem lexQ_mem : ∀ (n : Nat) (l tok : List Nat) (c : Nat), l.length ≤ n → c ∈ (lexQ tok l).1 → c ∈ tok ∨ c ∈ l
  | _, [], _, _, _, h => .inl h
  | n + 1, d :: r, tok, c, hn, h => by
    have hr : r.length ≤ n := Nat.le_of_succ_le_succ hn
    rw [lexQ_cons] at h
    split at h
    · exact .inl h
    split at h
    · rcases lexQ_mem n r.tail _ c (by rw [List.length_tail]; omega) h with h | h
      · rcases List.mem_append.mp h with h | h
        · exact .inl h
        · exact .inr (.tail _ (List.mem_of_mem_take h))
      · exact .inr (.tail _ (List.mem_of_mem_tail h))
    · rcases lexQ_mem n r _ c hr h with h | h
      · rcases List.mem_append.mp h with h | h
        · exact .inl h
        · rw [List.mem_singleton.mp h]; exact .inr (.head _)
      · exact .inr (.tail _ h)
theorem lexW_mem : ∀ (n : Nat) (l tok : List Nat) (c : Nat), l.length ≤ n → c ∈ (lexW tok l).1 → c ∈ tok ∨ c ∈ l
  | _, [], _, _, _, h => .inl h
  | n + 1, d :: r, tok, c, hn, h => by
    have hr : r.length ≤ n := Nat.le_of_succ_le_succ hn
    rw [lexW_cons] at h
    split at h
    · exact .inl h
    split at h
    · rcases lexW_mem n r.tail _ c (by rw [List.length_tail]; omega) h with h | h
      · rcases List.mem_append.mp h with h | h
        · exact .inl h
        · exact .inr (.tail _ (List.mem_of_mem_take h))
      · exact .inr (.tail _ (List.mem_of_mem_tail h))
    · rcases lexW_mem n r _ c hr h with h | h
      · rcases List.mem_append.mp h with h | h
        · exact .inl h
        · rw [List.mem_singleton.mp h]; exact .inr (.head _)
      · exact .inr (.tail _ h)
theorem lexT_mem : ∀ (l : List Nat) (c : Nat), c ∈ (lexT l).1 → c ∈ l
  | [], _, h => h
  | d :: r, c, h => by
    unfold lexT at h
    split at h
    · exact .tail _ (lexT_mem r c h)
    split at h
    · rcases lexQ_mem _ r _ c (Nat.le_refl _) h with h | h
      · cases h
      · exact .tail _ h
    split at h
    · rcases lexW_mem _ r.tail _ c (Nat.le_refl _) h with h | h
      · exact .tail _ (List.mem_of_mem_take h)
      · exact .tail _ (List.mem_of_mem_tail h)
    · rcases lexW_mem _ r _ c (Nat.le_refl _) h with h | h
      · rw [List.mem_singleton.mp h]; exact .head _
      · exact .tail _ h
theorem draws_mem : ∀ (k : Nat) (l : List Nat), ∀ t ∈ (draws k l).1, ∀ c ∈ t, c ∈ l
  | 0, _, _, h, _, _ => by cases h
  | k + 1, l, t, h, c, hc => by
    rcases List.mem_cons.mp h with rfl | h
    · exact lexT_mem l c hc
    · exact (lexT_suf l).subset (draws_mem k _ t h c hc)
theorem ok128 {cs : List (List Nat)} (h : ∀ t ∈ cs, ∀ c ∈ t, c < 128) : OkS cs := fun t ht => by
  show ((S t).cps.all (· < 0x110000)) = true
  simp only [List.all_toArray, List.all_eq_true, decide_eq_true_eq]
  intro c hc
  have := h t ht c hc
  omega
theorem en_mem {it : Item} {o : List Nat} (h : En it o) : (∀ c ∈ it, c.1 < 128) → ∀ c ∈ o, c < 128 := by
  induction h with
  | nil => intro _ c hc; cases hc
  | raw d _ _ ih =>
    intro hk c hc
    rcases List.mem_cons.mp hc with rfl | hc
    · exact hk _ (.head _)
    · exact ih (fun x hx => hk x (.tail _ hx)) c hc
  | esc d _ ih =>
    intro hk c hc
    rcases List.mem_cons.mp hc with rfl | hc
    · decide
    rcases List.mem_cons.mp hc with rfl | hc
    · exact hk _ (.head _)
    · exact ih (fun x hx => hk x (.tail _ hx)) c hc
theorem okI_step {l : List Nat} (h : ∀ c ∈ l, c < 128) {p : Nat × List Item} (k : OkI p.2) : OkI (itS l p).2 := by
  obtain ⟨i, out⟩ := p
  cases hc : l[i]? with
  | none =>
    have : itS l (i, out) = (i, out) := by unfold itS; simp only [hc]
    rw [this]; exact k
  | some c =>
    by_cases hb : ∃ k, c = 91 ∧ shut l (i + 1) = some k
    · obtain ⟨j, rfl, hs⟩ := hb
      rw [itS_br hc hs]
      exact k.add (okI_cls h _ _)
    · rw [itS_el hc (fun e => by
        cases hs : shut l (i + 1) with
        | none => rfl
        | some k => exact absurd ⟨k, e, hs⟩ hb)]
      dsimp only
      split
      · refine k.add fun x hx => ?_
        cases List.mem_singleton.mp hx
        exact h c (List.mem_of_getElem? hc)
      · exact k
theorem ReachI.ok {l : List Nat} (h : ∀ c ∈ l, c < 128) {i : Nat} {out : List Item} (r : ReachI l i out) : OkI out := by
  obtain ⟨n, hn⟩ := r
  have key : ∀ n, OkI (iter (itS l) n (0, [])).2 := by
    intro n
    induction n with
    | zero => intro x hx; cases hx
    | succ n ih => exact okI_step h ih
  have := key n
  rw [hn] at this
  exact this
theorem join_mem {out : List (List Nat)} (h : ∀ c ∈ out.flatMap (32 :: ·), c < 128) : ∀ c ∈ joinSp out, c < 128 := by
  cases out with
  | nil => intro c hc; cases hc
  | cons o out => rw [flat_join] at h; exact fun c hc => h c (.tail _ hc)
theorem law_text {pat : List Nat} {out : List (List Nat)} {items : List Item} (h128 : ∀ c ∈ pat, c < 128) (h : Reach pat pat.length out) (hi : ReachI pat pat.length items) :
    (joinSp out).count 10 = pat.count 10 ∧ ∀ c ∈ joinSp out, c < 128 := by
  have sim := h.sim hi
  refine ⟨?_, join_mem (en_mem (en_flat sim.rel) (okI_flat (hi.ok h128)))⟩
  have := sim.cnt
  dsimp only at this
  rw [(join_count out).1, this, List.take_length]
/-- the lengths, from the parts alone -/
theorem itS_runs (l : List Nat) : ∀ n, ∃ items, iter (itS l) n (0, []) = ((iter (trS l) n (0, [])).1, items) := fun n => ⟨_, by rw [(Sim.iter (l := l) n).same]⟩
theorem Reach.sizes {pat : List Nat} {out : List (List Nat)} (h : Reach pat pat.length out) (hp : pat.length ≤ 64) : (out.map (·.length)).sum ≤ 1000 ∧ (joinSp out).length ≤ 1000 := by
  obtain ⟨n, hn⟩ := h
  have := (Sim.iter (l := pat) n).len
  rw [hn] at this
  dsimp only at this
  rw [sum_flat]
  have h2 := (join_count out).2
  omega
end PL13
end Mine
theorem Mine.off_PL14 : True := by w_top off; trivial
namespace Mine
section PL14
theorem HypOK.free {p l : List Nat} (hp : 45 ∉ p) (h : HypOK l) : HypOK (p ++ l) := fun v hv => by
  by_cases hlt : v < p.length
  · rw [List.getElem?_append_left hlt] at hv
    exact absurd (List.mem_of_getElem? hv) hp
  · rw [List.getElem?_append_right (by omega)] at hv
    obtain ⟨a, b, c⟩ := h _ hv
    refine ⟨by omega, ?_, ?_⟩
    · rw [List.getElem?_append_right (by omega), show v - 1 - p.length = v - p.length - 1 by omega]; exact b
    · rw [List.getElem?_append_right (by omega), show v + 1 - p.length = v - p.length + 1 by omega]; exact c
theorem HypOK.range {l : List Nat} (h : HypOK l) : HypOK ([97, 45, 99] ++ l) := fun v hv => by
  match v, hv with
  | 0, hv => cases hv
  | 1, _ => exact ⟨Nat.le_refl _, rfl, rfl⟩
  | 2, hv => cases hv
  | v + 3, hv =>
    have hv' : l[v]? = some 45 := hv
    obtain ⟨a, b, c⟩ := h v hv'
    obtain ⟨u, rfl⟩ : ∃ u, v = u + 1 := ⟨v - 1, by omega⟩
    exact ⟨by omega, b, c⟩
theorem HypOK.pieces {l : List Nat} (h : HypOK l) : ∀ ps : List (List Nat), (∀ p ∈ ps, p ∈ pieces) → HypOK (ps.flatten ++ l)
  | [], _ => h
  | p :: ps, hp => by
    have ih := HypOK.pieces h ps fun q hq => hp q (.tail _ hq)
    rw [List.flatten_cons, List.append_assoc]
    have key : ∀ p ∈ Mine.pieces, 45 ∉ p ∨ p = [97, 45, 99] := by decide +kernel
    rcases key p (hp p (.head _)) with h1 | rfl
    · exact ih.free h1
    · exact ih.range
end PL14
end Mine
theorem Mine.off_R9 : True := by w_top off; trivial
namespace Mine
section R9
open PySem.Builtin PySem.Builtin.ObjectAttr
theorem store_function : StoreFacts "function" [.type "function", .type "object"] "object.__setattr__" "object" where
  mro := by rw [mroOf_type]; kernel_rfl
  slot := .of (owner := "object") (n := "__setattr__") (by rw [typeLookup_type, builtinLookup_eq_fast]; kernel_rfl) (by decide +kernel) (by decide +kernel) (by decide +kernel)
    (by first | exact .inl (by decide +kernel) | exact .inr (by decide +kernel)) (by rw [isSubtype_type]; kernel_rfl)
  entry := PySem.F.entry_object_sa
  kind := by decide +kernel
  split := by decide +kernel
  hasOwner := by decide +kernel
  args := fun a b c => by unfold argsOk; kernel_rfl
  passes := fun self => by kernel_rfl
theorem fn_read : typeLookup (.type "function") "read" = pure none := by rw [typeLookup_type, builtinLookup_eq_fast]; kernel_rfl
variable {prog : Program} {w : World} {A : Around} {E : Value → Shared → Prop} {s : Shared} {h₀ : Heap} {L : Addr} {m : Str → Option Value} {news : List (Addr × Obj)}
theorem meets_setattr_fn (f : Addr) (o : Obj) (v : Value) (u : Tok) (hc : o.cls = .type "function") (hdn : o.dict = none) (fd : FuncData) (hdt : o.data = .func fd) :
    Meets (Builtin.«object.__setattr__» ⟨[.ref f, .str "read" u, v], []⟩) (fun A R s => s.heap.get? f = some o ∧
      ∀ h' tk, h'.get? f = some { o with dict := some s.heap.objs.size } → h'.Ns1 s.heap.objs.size (fun y => if y = "read" then some v else none) → (∀ b ob, b ≠ f → s.heap.get? b = some ob → h'.get? b = some ob) →
        R (.ok (.ret .none)) { s with heap := h', toks := tk }) :=
  Meets.of_wp fun prog w A R s hs => by
    obtain ⟨hp, g, d, tk, os⟩ := s
    obtain ⟨hx, h⟩ := hs
    dsimp only at hx h
    have hT : (⟨hp, g, d, tk, os⟩ : Shared).TypeIs (.ref f) "function" := ⟨_, hx, hc⟩
    have hpass := store_function.passes (.ref f)
    have f1 := store_function.mro
    have f2 := fn_read
    unfold Builtin.«object.__setattr__»
    repeat (first | rw [refuse_eq] | (rw [hpass]) | (with_reducible refine wpAny_loadPart_at hx ?_; rw [hc]) | walk_at "st" | assumption)
    rw [hdn, if_neg (by have e : typeHasDict (Value.type "function") = true := by decide +kernel
                        rw [e]; decide)]
    rw [hdt]
    have hx₁ : (hp.push { cls := .type "dict", data := .dict #[] }).get? f = some o := Heap.get?_push_of_some _ hx
    have hxs : f ≠ hp.objs.size := Nat.ne_of_lt (Heap.lt_size hx)
    dsimp only
    refine wpAny_bind (wpAny_alloc' ?_)
    refine wpAny_bind (wpAny_update' hx₁ ?_)
    have hgd : ((hp.push { cls := .type "dict", data := .dict #[] }).update f fun o => { cls := o.cls, dict := some hp.objs.size, data := o.data, slots := o.slots }).get? hp.objs.size
        = some { cls := .type "dict", data := .dict #[] } :=
      (Heap.get?_update_ne _ _ _ _ hxs.symm).trans (Heap.get?_push_at rfl rfl)
    have hnd : ((hp.push { cls := .type "dict", data := .dict #[] }).update f fun o => { cls := o.cls, dict := some hp.objs.size, data := o.data, slots := o.slots }).Ns hp.objs.size (fun _ => none) :=
      ⟨_, #[], _, hgd, rfl, fun e he => absurd he (by simp), fun _ => rfl⟩
    have hfu : ((hp.push { cls := .type "dict", data := .dict #[] }).update f fun o => { cls := o.cls, dict := some hp.objs.size, data := o.data, slots := o.slots }).get? f = some { o with dict := some hp.objs.size } := by
      refine Heap.get?_update_self _ hx₁ ?_
      rw [hdt]; rfl
    generalize hH : ((hp.push { cls := .type "dict", data := .dict #[] }).update f fun o => { cls := o.cls, dict := some hp.objs.size, data := o.data, slots := o.slots }) = H at hgd hnd hfu ⊢
    refine wpAny_of_eq (t := dictMade _ _ _) (a := some hp.objs.size) (by kernel_rfl) ?_
    show wpAny _ _ (storeInDict hp.objs.size (.str "read" u) "read" v) _ _ _
    unfold storeInDict newKeyGuard
    refine wpAny_bind (wpAny_pure (wpAny_bind (wpAny_nsSet1 (Heap.Ns1.of_empty hnd) fun h' hn' hs => ?_)))
    obtain ⟨oD, esD, epD, hoD, hdD, hcD⟩ := hn'.count (Within.cons "read" v Within.nil)
    refine wpAny_bind (wpAny_lookBehind hoD (by rw [hdD]; exact pastItsLine_dict (Nat.le_trans hcD (by rw [List.length_cons, List.length_nil, sizeLine_eq]; omega))) ?_)
    refine wpAny_pure ⟨_, rfl, h h' _ ((hs.2 f hxs).trans hfu) hn' fun b ob hbf hb => ?_⟩
    rw [← hH] at hs
    exact (hs.2 b (Nat.ne_of_lt (Heap.lt_size hb))).trans ((Heap.get?_update_ne _ _ _ _ hbf).trans (Heap.get?_push_of_some _ hb))
theorem slot_fn_ga : Slot "function" "__getattribute__" "object.__getattribute__" :=
  .of (owner := "object") (n := "__getattribute__") (by rw [typeLookup_type, builtinLookup_eq_fast]; kernel_rfl) (by decide +kernel) (by decide +kernel) (by decide +kernel)
    (by first | exact .inl (by decide +kernel) | exact .inr (by decide +kernel)) (by rw [isSubtype_type]; kernel_rfl)
theorem fn_getattr : typeLookup (.type "function") "__getattr__" = pure none := by rw [typeLookup_type, builtinLookup_eq_fast]; kernel_rfl
theorem entry_object_ga : entryFor table "object.__getattribute__" = some Builtin.«object.__getattribute__» := entryFor_of_tree (by kernel_rfl)
theorem args_object_ga (a b : Value) : argsOk "object.__getattribute__" ⟨[a, b], []⟩ := by unfold argsOk; kernel_rfl
theorem meets_getattr_fn (f dx : Addr) (o : Obj) (v : Value) (u : Tok) (mm : Str → Option Value) (hc : o.cls = .type "function") (hdn : o.dict = some dx) (fd : FuncData) (hdt : o.data = .func fd) (hm : mm "read" = some v) :
    Meets (Builtin.«object.__getattribute__» ⟨[.ref f, .str "read" u], []⟩) (fun A R s => s.heap.get? f = some o ∧ s.heap.Ns dx mm ∧ R (.ok (.ret v)) s) :=
  Meets.of_wp fun prog w A R s hs => by
    obtain ⟨hp, g, d, tk, os⟩ := s
    obtain ⟨hx, hn, h⟩ := hs
    dsimp only at hx hn h
    have hT : (⟨hp, g, d, tk, os⟩ : Shared).TypeIs (.ref f) "function" := ⟨_, hx, hc⟩
    have f2 := fn_read
    unfold Builtin.«object.__getattribute__»
    repeat (first | (with_reducible refine wpAny_loadPart_at hx ?_; rw [hc]) | walk_at "st" | assumption)
    rw [hdt]
    dsimp only
    repeat (first | (with_reducible refine wpAny_loadPart_at hx ?_; rw [hc]) | walk_at "st" | assumption)
    rw [hdn]
    dsimp only
    refine wpAny_pure ?_
    show wpAny _ _ (nsGet dx "read") _ _ _
    refine wpAny_nsGet hn ?_
    rw [hm]
    dsimp only
    repeat (first | walk_at "st" | assumption)
    exact ⟨_, rfl, h⟩
theorem getAttr_read {f dx : Addr} {o : Obj} {v : Value} {mm : Str → Option Value} {ex : Bool} {Q : Value → Shared → Prop} (hx : s.heap.get? f = some o) (hn : s.heap.Ns dx mm) (hc : o.cls = .type "function") (hdn : o.dict = some dx) (fd : FuncData) (hdt : o.data = .func fd) (hm : mm "read" = some v)
    (hv : ∃ q, v = .ref q) (h : Q v { s with toks := s.toks + 1 }) :
    wpAny (model prog w) A (getAttr (.ref f) "read" ex) Q E s := by
  obtain ⟨hp, g, d, tk, os⟩ := s
  obtain ⟨q, rfl⟩ := hv
  dsimp only at hx hn h
  have hT : (⟨hp, g, d, tk + 1, os⟩ : Shared).TypeIs (.ref f) "function" := ⟨_, hx, hc⟩
  have f3 := slot_fn_ga.lookup
  have f4 := slot_fn_ga.bind (.ref f)
  have f5 := fn_getattr
  unfold getAttr getAttrBy
  repeat (first | (with_reducible refine wpAny_loadPart_at hx ?_; rw [hc]) | walk_at "st" | assumption)
  refine wpAny_ite_false (by cases ex <;> rfl) ?_
  repeat (first | ((with_reducible show wpAny _ _ (call (Value.builtin "object.__getattribute__") _) _ _ _); refine call_meets slot_fn_ga hT entry_object_ga (args_object_ga _ _) (meets_getattr_fn f dx o _ _ mm hc hdn fd hdt hm) ⟨hx, hn, ?_⟩) | walk_at "st" | assumption)
  show wpAny _ _ (handedOut (.ref _)) _ _ _
  exact wpAny_pure h
theorem getMethod_read {f dx : Addr} {o : Obj} {q : Addr} {mm : Str → Option Value} {pl : Sem Bool} {Q : Value × List Value → Shared → Prop} (hx : s.heap.get? f = some o) (hn : s.heap.Ns dx mm) (hc : o.cls = .type "function") (hdn : o.dict = some dx) (fd : FuncData) (hdt : o.data = .func fd) (hm : mm "read" = some (.ref q))
    (h : Q (.ref q, []) { s with toks := s.toks + 1 }) :
    wpAny (model prog w) A (getMethod (.ref f) "read" pl) Q E s := by
  have hT : s.TypeIs (.ref f) "function" := ⟨_, hx, hc⟩
  unfold getMethod
  refine wpAny_bind (wpAny_specialOf hT slot_fn_ga.lookup ?_)
  show wpAny _ A (if (Manifest.canonical "object.__getattribute__" != "object.__getattribute__") = true then _ else _) Q E s
  rw [if_neg (by decide +kernel)]
  refine wpAny_bind (wpAny_specialOf hT fn_getattr ?_)
  refine wpAny_bind (wpAny_specialOf hT fn_read ?_)
  show wpAny _ _ (getAttr (.ref f) "read" >>= fun v => pure (v, [])) _ _ _
  exact wpAny_bind (getAttr_read hx hn hc hdn fd hdt hm ⟨q, rfl⟩ (wpAny_pure h))
theorem setAttr_read {f : Addr} {o : Obj} {v : Value} {Q : Unit → Shared → Prop} (hx : s.heap.get? f = some o) (hc : o.cls = .type "function") (hdn : o.dict = none) (fd : FuncData) (hdt : o.data = .func fd)
    (h : ∀ h' tk, h'.get? f = some { o with dict := some s.heap.objs.size } → h'.Ns1 s.heap.objs.size (fun y => if y = "read" then some v else none) → (∀ b ob, b ≠ f → s.heap.get? b = some ob → h'.get? b = some ob) → Q () { s with heap := h', toks := tk }) :
    wpAny (model prog w) A (setAttr (.ref f) "read" v) Q E s := by
  obtain ⟨hp, g, d, tk, os⟩ := s
  dsimp only at hx h
  have hT : (⟨hp, g, d, tk + 1, os⟩ : Shared).TypeIs (.ref f) "function" := ⟨_, hx, hc⟩
  have f3 := store_function.slot.bind (.ref f)
  have f4 := store_function.slot.lookup
  unfold setAttr callSpecial? specialOf
  repeat (first | ((with_reducible show wpAny _ _ (call (Value.builtin "object.__setattr__") _) _ _ _); refine call_meets store_function.slot hT store_function.entry (store_function.args _ _ _) (meets_setattr_fn f o v _ hc hdn fd hdt) ⟨hx, fun h' tk' a b c => ?_⟩; show wpAny _ _ _ _ _ _) | (with_reducible refine wpAny_loadPart_at hx ?_; rw [hc]) | walk_at "st" | assumption)
  exact h h' tk' a b c
end R9
end Mine
theorem Mine.off_R10 : True := by w_top off; trivial
namespace Mine
section R10
open LCg
variable {prog : Program} {w : World} {A : Around} {E : Value → Shared → Prop} {s : Shared} {h₀ : Heap} {L : Addr} {m : Str → Option Value} {news : List (Addr × Obj)} {gg : Obj → List (Addr × Obj)}
theorem setAttr_readK {f : Addr} {o : Obj} {v : Value} {Q : Unit → Shared → Prop} (F : Fr h₀ L s.heap m) (N : News h₀ L s.heap news) (U : UpdF f o news gg) (hc : o.cls = .type "function") (hdn : o.dict = none) (fd : FuncData) (hdt : o.data = .func fd)
    (h : ∀ h' tk dx oD, Fr h₀ L h' m → News h₀ L h' ((dx, oD) :: gg { o with dict := some dx }) → NsObj oD (fun y => if y = "read" then some v else none) → (∀ q ∈ news, q.1 < dx) → L < dx → Q () { s with heap := h', toks := tk }) :
    wpAny (model prog w) A (setAttr (.ref f) "read" v) Q E s := by
  obtain ⟨pre, post, hn, hg, a1, a2⟩ := U.split
  have hm : (f, o) ∈ news := by rw [hn]; exact List.mem_append_right _ (.head _)
  have z := N _ hm
  dsimp only at z
  refine setAttr_read z.1 hc hdn fd hdt fun h' tk e1 e2 e3 => ?_
  obtain ⟨oD, eD, nD⟩ := ns_obj e2.ns
  have hLs : L < s.heap.objs.size := F.ns.lt
  have lt : ∀ q ∈ news, q.1 < s.heap.objs.size := fun q hq => Heap.lt_size (N q hq).1
  refine h h' tk s.heap.objs.size oD ⟨F.ns.at' fun ob e => e3 L ob (Ne.symm z.2.1) e, fun b ob e => e3 b ob (fun q => by rw [q, z.2.2] at e; cases e) (F.keep b ob e), F.above⟩ (fun q hq => ?_) nD lt hLs
  rcases List.mem_cons.mp hq with rfl | hq
  · exact ⟨eD, Ne.symm (Nat.ne_of_lt hLs), next_is_new F⟩
  · rw [hg] at hq
    have key : q = (f, { o with dict := some s.heap.objs.size }) ∨ (q ∈ news ∧ q.1 ≠ f) := by
      rcases List.mem_append.mp hq with hq | hq
      · exact .inr ⟨by rw [hn]; exact List.mem_append_left _ hq, a1 q hq⟩
      · rcases List.mem_cons.mp hq with rfl | hq
        · exact .inl rfl
        · exact .inr ⟨by rw [hn]; exact List.mem_append_right _ (.tail _ hq), a2 q hq⟩
    rcases key with rfl | ⟨hq, hne⟩
    · exact ⟨e1, z.2⟩
    · exact ⟨e3 _ _ hne (N q hq).1, (N q hq).2⟩
end R10
end Mine
theorem Mine.off_R12 : True := by w_top off; trivial
namespace Mine
section R12
variable {prog : Program} {w : World} {M : Model} {A : Around} {E : Value → Shared → Prop} {s : Shared} {env : Env}
noncomputable def FnAt (u : Addr) (h : Heap) : Prop := ∃ o fd, h.get? u = some o ∧ o.data = .func fd
theorem keeps_fn {u : Addr} (h : Heap) (X : FnAt u h) : ∃ k, (k = Keeper.frame ∨ k = Keeper.machine ∨ k = Keeper.boundFrame) ∧ Looks M h (keeperOf (.ref u)) k := by
  obtain ⟨o, fd, e, d⟩ := X
  refine ⟨.frame, .inl rfl, (Looks.ld (part := none) e).andThen ?_⟩
  rw [d]
  exact .now
theorem callWith_fn1 {pos : Pos} {u : Addr} {e : PySem.Expr} {Q : Value → Shared → Prop}
    (h : wpAny M A (spliced (backTo pos (starEach [e] env))) (fun vs s₁ => FnAt u s₁.heap ∧ wpAny M A (call (.ref u) vs) Q E s₁) E s)
    (he : starEach [e] env = [(false, eval e env)] := by rfl) :
    wpAny M A (callWith pos (.ref u) [] (backTo pos (starEach [e] env)) []) Q E s := by
  rw [he] at h ⊢
  exact callWith_of rfl keeps_fn (evalArgs_plain h)
end R12
end Mine
theorem Mine.off_R7 : True := by w_top off; trivial
namespace Mine
section R7
variable {prog : Program} {w : World} {M : Model} {A : Around} {E : Value → Shared → Prop} {s : Shared}
theorem isnot_str {x y : Str} {t u : Tok} {Q : Value → Shared → Prop} (h0 : t ≠ 0) (h1 : u ≠ 0) (h : (t = u ∧ Q (.bool false) s) ∨ (t ≠ u ∧ x ≠ y ∧ Q (.bool true) s)) : wpAny M A (compareOp .IsNot (.str x t) (.str y u)) Q E s := by
  show wpAny M A (do return .bool (!(← isSame (.str x t) (.str y u)))) Q E s
  have h00 : (t == 0 || u == 0) = false := by simp [h0, h1]
  rcases h with ⟨rfl, h⟩ | ⟨hne, hxy, h⟩
  · refine wpAny_bind (wpAny_of_eq (a := true) ?_ (wpAny_pure h))
    show (if (t == 0 || t == 0) = true then _ else if (t == t) = true then pure true else _ : Sem Bool) = _
    rw [h00]; simp
  · exact wpAny_bind (wpAny_of_eq (isSame_str_other x y t u h00 (by simpa using hne) (by simpa using hxy)) (wpAny_pure h))
theorem item_last_list {value slice : PySem.Expr} {l : Addr} {items : Array Value} {u : Tok} {v : Value} {Q : Value → Shared → Prop}
    (hl : s.heap.IsList l items) (hx : items.toList.getLast? = some v) (h : Q v s)
    (hs : subscripted slice false (.ref l) (.int (-1) u) = operate [.ref l, .int (-1) u] (getItem (.ref l) (.int (-1) u)) := by with_unfolding_all rfl) :
    wpAny (model prog w) A (subscriptTail value slice (.ref l) (.int (-1) u)) Q E s := by
  rw [List.getLast?_eq_getElem?, Array.getElem?_toList, Array.length_toList] at hx
  have hp : 1 ≤ items.size := by
    have := (Array.getElem?_eq_some_iff.mp hx).1
    omega
  refine tail_any hl.typeIs slot_list_getitem.lookup (wpAny_getItem_list_neg hl (by decide) (by omega) (by decide) ?_ h) hs
  rw [show (-1 + (items.size : Int)).toNat = items.size - 1 by omega]
  exact hx
noncomputable def RA (tS : Tok) : List Value → List (List Nat) → Prop
  | [], [] => True
  | v :: vs, c :: cs => (∃ t, v = Value.str (S c) t ∧ t ≠ 0 ∧ (c = [92, 42] → t = tS) ∧ (c ≠ [92, 42] → t ≠ tS)) ∧ RA tS vs cs
  | _, _ => False
theorem RA_len {tS : Tok} : ∀ {vs : List Value} {cs : List (List Nat)}, RA tS vs cs → vs.length = cs.length
  | [], [], _ => rfl
  | _ :: _, _ :: _, h => congrArg Nat.succ (RA_len h.2)
theorem RA_snoc {tS t : Tok} {c : List Nat} (h0 : t ≠ 0) (h1 : c = [92, 42] → t = tS) (h2 : c ≠ [92, 42] → t ≠ tS) : ∀ {vs : List Value} {cs : List (List Nat)}, RA tS vs cs → RA tS (vs ++ [Value.str (S c) t]) (cs ++ [c])
  | [], [], _ => ⟨⟨t, rfl, h0, h1, h2⟩, trivial⟩
  | _ :: _, _ :: _, h => ⟨h.1, RA_snoc h0 h1 h2 h.2⟩
theorem RA_last {tS : Tok} : ∀ {vs : List Value} {cs : List (List Nat)}, RA tS vs cs → cs ≠ [] → ∃ c t, cs.getLast? = some c ∧ vs.getLast? = some (.str (S c) t) ∧ t ≠ 0 ∧ (c = [92, 42] → t = tS) ∧ (c ≠ [92, 42] → t ≠ tS)
  | [], [], _, h => absurd rfl h
  | [v], [c], ⟨⟨t, e, a⟩, _⟩, _ => ⟨c, t, rfl, by rw [e]; rfl, a⟩
  | [_], _ :: _ :: _, h, _ => h.2.elim
  | _ :: _ :: _, [_], h, _ => h.2.elim
  | v :: v2 :: vs, c :: c2 :: cs, h, _ => by
    obtain ⟨d, t, a, b, r⟩ := RA_last h.2 (List.cons_ne_nil _ _)
    exact ⟨d, t, by rw [List.getLast?_cons_cons]; exact a, by rw [List.getLast?_cons_cons]; exact b, r⟩
theorem RA_VA {tS : Tok} : ∀ {vs : List Value} {cs : List (List Nat)}, RA tS vs cs → VA vs cs
  | [], [], _ => trivial
  | _ :: _, _ :: _, ⟨⟨t, e, _⟩, h⟩ => ⟨⟨t, e⟩, RA_VA h⟩
end R7
end Mine
theorem Mine.off_R13 : True := by w_top off; trivial
namespace Mine
section R13
open PySem.Builtin
variable {prog : Program} {w : World} {A : Around} {E : Value → Shared → Prop} {s : Shared}
noncomputable abbrev ciObj (q : Addr) (t : Tok) : Obj := { cls := .type "callable_iterator", data := .fields #[.ref q, .str (S []) t, .bool false] }
noncomputable abbrev ciEnd : Obj := { cls := .type "callable_iterator", data := .fields #[.none, .none, .bool true] }
theorem method_callable : typeLookup (.type "method") "__call__" = pure (some (.builtin "method.__call__")) := by rw [typeLookup_type, builtinLookup_eq_fast]; kernel_rfl
theorem meets_iter2 (q : Addr) (f x : Value) (y : Str) (t : Tok) : Meets (Builtin.«iter» ⟨[.ref q, .str y t], []⟩) (fun A R s => s.heap.get? q = some (methodObj f x) ∧
      R (.ok (.ret (.ref s.heap.objs.size))) { s with heap := s.heap.push { cls := .type "callable_iterator", data := .fields #[.ref q, .str y t, .bool false] } }) :=
  Meets.of_wp fun prog w A R s hs => by
    obtain ⟨hp, g, d, tk, os⟩ := s
    obtain ⟨hx, h⟩ := hs
    dsimp only at hx h
    have hT : (⟨hp, g, d, tk, os⟩ : Shared).TypeIs (.ref q) "method" := ⟨_, hx, rfl⟩
    have f1 := method_callable
    unfold Builtin.«iter»
    repeat (first | walk_at "st" | assumption)
    exact ⟨_, rfl, h⟩
theorem entry_iter : entryFor table "iter" = some Builtin.«iter» := entryFor_of_tree (by kernel_rfl)
theorem args_iter2 (a b : Value) : argsOk "iter" ⟨[a, b], []⟩ := by unfold argsOk; kernel_rfl
theorem call_iter2 {q : Addr} {f x : Value} {y : Str} {t : Tok} {Q : Value → Shared → Prop} (hq : s.heap.get? q = some (methodObj f x))
    (h : Q (.ref s.heap.objs.size) { s with heap := s.heap.push { cls := .type "callable_iterator", data := .fields #[.ref q, .str y t, .bool false] } }) :
    wpAny (model prog w) A (call (.builtin "iter") [.ref q, .str y t]) Q E s :=
  call_function_meets (by decide +kernel) (by decide +kernel) entry_iter (args_iter2 _ _) (meets_iter2 q f x y t) ⟨hq, h⟩
theorem slot_ci_iter : Slot "callable_iterator" "__iter__" "callable_iterator.__iter__" :=
  .of (owner := "callable_iterator") (n := "__iter__") (by rw [typeLookup_type, builtinLookup_eq_fast]; kernel_rfl) (by decide +kernel) (by decide +kernel) (by decide +kernel)
    (by first | exact .inl (by decide +kernel) | exact .inr (by decide +kernel)) (by rw [isSubtype_type]; kernel_rfl)
theorem slot_ci_next : Slot "callable_iterator" "__next__" "callable_iterator.__next__" :=
  .of (owner := "callable_iterator") (n := "__next__") (by rw [typeLookup_type, builtinLookup_eq_fast]; kernel_rfl) (by decide +kernel) (by decide +kernel) (by decide +kernel)
    (by first | exact .inl (by decide +kernel) | exact .inr (by decide +kernel)) (by rw [isSubtype_type]; kernel_rfl)
theorem entry_ci_iter : entryFor table "callable_iterator.__iter__" = some Builtin.«dict_keyiterator.__iter__» :=
  entryFor_alias (id' := "dict_keyiterator.__iter__") (by kernel_rfl) rfl (by decide +kernel) (by kernel_rfl)
theorem args_ci_iter (a : Value) : argsOk "callable_iterator.__iter__" ⟨[a], []⟩ := by unfold argsOk; kernel_rfl
theorem entry_ci_next : entryFor table "callable_iterator.__next__" = some Builtin.«callable_iterator.__next__» := entryFor_of_tree (by kernel_rfl)
theorem args_ci_next (a : Value) : argsOk "callable_iterator.__next__" ⟨[a], []⟩ := by unfold argsOk; kernel_rfl
theorem pyIter_ci {ci : Addr} {o : Obj} {Q : Value → Shared → Prop} (ho : s.heap.get? ci = some o) (hc : o.cls = .type "callable_iterator") (h : Q (.ref ci) s) :
    wpAny (model prog w) A (pyIter (.ref ci)) Q E s := by
  have hT : s.TypeIs (.ref ci) "callable_iterator" := ⟨_, ho, hc⟩
  refine wpAny_pyIter_slot hT slot_ci_iter (wpAny_call_entry slot_ci_iter hT entry_ci_iter ?_ (args_ci_iter _))
  show wpAny _ _ (ret (.ref ci)) _ _ s
  exact wpAny_pure ⟨_, rfl, "callable_iterator", _, hT, slot_ci_next.lookup, h⟩
theorem ci_stop {α : Type} {Q : α → Shared → Prop} (hh : A.handled = none) (h : ∀ h' x, (∀ b o, s.heap.get? b = some o → h'.get? b = some o) → (∃ o, h'.get? x = some o ∧ o.cls = .type "StopIteration") → E (.ref x) { s with heap := h' }) :
    wpAny (model prog w) A (SmallTypes.stopIteration : Sem α) Q E s := by
  unfold SmallTypes.stopIteration
  show wpAny _ _ (newExc (.type "StopIteration") [] >>= _) _ _ _
  refine wpAny_bind ?_
  simp only [newExc, newTuple]
  refine wpAny_bind (wpAny_newObj_type ?_ (by size_fits))
  refine wpAny_bind (m := firstArgMember _ _) (wpAny_of_eq (a := Value.none) (by first | rfl | (simp only [firstArgMember]; rfl)) ?_)
  refine wpAny_newObj_type ?_ (by size_fits)
  simp only [raiseNew]
  refine wpAny_bind (wpAny_handled ?_)
  rw [hh]
  refine wpAny_bind (wpAny_pure (wpAny_throw ?_))
  exact h _ _ (fun b o e => Heap.get?_push_of_some _ (Heap.get?_push_of_some _ e)) ⟨_, Heap.get?_push_size _ rfl, rfl⟩
theorem next_ended {ci : Addr} {Q : Option Value → Shared → Prop} (hh : A.handled = none) (ho : s.heap.get? ci = some ciEnd)
    (h : ∀ h', (∀ b o, s.heap.get? b = some o → h'.get? b = some o) → Q none { s with heap := h' }) : wpAny (model prog w) A (pyNext (.ref ci)) Q E s := by
  have hT : s.TypeIs (.ref ci) "callable_iterator" := ⟨_, ho, rfl⟩
  unfold pyNext
  refine wpAny_bind (wpAny_attempt (wpAny_callSpecial?_slot (name := Str.ofString "__next__") hT slot_ci_next (wpAny_call_entry slot_ci_next hT entry_ci_next ?_ (args_ci_next _))))
  show wpAny _ _ (field (.ref ci) 2 >>= _) _ _ s
  refine wpAny_bind (wpAny_field ho rfl (x := .bool true) rfl ?_)
  rw [if_pos (by decide)]
  refine wpAny_bind (wpAny_rule (wpAny_bind ?_))
  refine ci_stop (A := A.in1) hh fun h' x hk hx => ?_
  refine wpAny_bind (wpAny_isInstance (T := "StopIteration") (b := true) hx isSubtype_stop ?_)
  exact wpAny_pure (h h' hk)
theorem callBorrowed_eq (f : Value) (pos : List Value) : callBorrowed f pos = (call f pos []).keep [borrowed] := by
  show Sem.call _ _ _ _ _ = Sem.call _ _ _ _ _
  congr 1
  funext r
  cases r with
  | error e => rfl
  | ok v => cases v <;> rfl
theorem next_call {ci q f : Addr} {x : Value} {t : Tok} {of : Obj} {fd : FuncData} {Q : Option Value → Shared → Prop} (hh : A.handled = none) (ho : s.heap.get? ci = some (ciObj q t)) (hq : s.heap.get? q = some (methodObj (.ref f) x)) (hf : s.heap.get? f = some of) (hfd : of.data = .func fd)
    (h : codeAny (model prog w) A.in1 (.call (.ref f) ⟨[x], []⟩) (fun r s' => ∃ y u, r = .ok (.ret (.str y u)) ∧ s'.heap.get? ci = some (ciObj q t) ∧ s'.heap.get? q = some (methodObj (.ref f) x) ∧ s'.heap.get? f = some of ∧
      ((y ≠ S [] ∧ Q (some (.str y u)) s') ∨ (y = S [] ∧ ∀ h', Heap.ExtBut ci s'.heap h' → h'.get? ci = some ciEnd → Q none { s' with heap := h' }))) s) :
    wpAny (model prog w) A (pyNext (.ref ci)) Q E s := by
  have hT : s.TypeIs (.ref ci) "callable_iterator" := ⟨_, ho, rfl⟩
  unfold pyNext
  refine wpAny_bind (wpAny_attempt (wpAny_callSpecial?_slot (name := Str.ofString "__next__") hT slot_ci_next (wpAny_call_entry slot_ci_next hT entry_ci_next ?_ (args_ci_next _))))
  show wpAny _ _ (field (.ref ci) 2 >>= _) _ _ s
  refine wpAny_bind (wpAny_field ho rfl (x := .bool false) rfl ?_)
  rw [if_neg (by decide)]
  refine wpAny_bind (wpAny_field ho rfl (x := .ref q) rfl ?_)
  refine wpAny_bind (wpAny_attempt ?_)
  unfold callOutOfASlot
  refine wpAny_bind (m := borrowsExactly (.ref q)) ?_
  unfold borrowsExactly
  refine wpAny_bind (wpAny_load hq ?_)
  show wpAny _ _ (load f >>= _) _ _ _
  refine wpAny_bind (wpAny_load hf ?_)
  rw [hfd]
  refine wpAny_pure ?_
  rw [if_pos rfl]
  rw [callBorrowed_eq]
  refine PySem.Calls.wpAny_keep (wpAny_call (method_call hq (codeAny_mono h fun r s' hr => ?_)))
  obtain ⟨y, u, rfl, ho', hq', hf', hR⟩ := hr
  dsimp only
  refine wpAny_bind (wpAny_field ho' rfl (x := .bool false) rfl ?_)
  rw [if_neg (by decide)]
  refine wpAny_bind (wpAny_field ho' rfl (x := .str (S []) t) rfl ?_)
  refine wpAny_bind (wpAny_holding (wpAny_eqBool_str ?_))
  rcases hR with ⟨hne, hQ⟩ | ⟨rfl, hQ⟩
  · rw [if_pos (by simp [Ne.symm hne])]
    exact wpAny_pure ⟨_, rfl, wpAny_pure hQ⟩
  · rw [if_neg (by simp)]
    refine wpAny_bind (wpAny_rule ?_)
    show wpAny _ _ ((field (.ref ci) 0 >>= fun f => slotLetsGo _ f _ >>= fun _ => setField (.ref ci) 0 .none >>= fun _ => setField (.ref ci) 1 .none >>= fun _ => setField (.ref ci) 2 (.bool true)) >>= fun _ => SmallTypes.stopIteration) _ _ _
    refine wpAny_bind ?_
    refine wpAny_bind (wpAny_field ho' rfl (x := .ref q) rfl ?_)
    refine wpAny_bind ?_
    unfold slotLetsGo
    refine wpAny_bind (m := borrowsExactly (.ref q)) ?_
    unfold borrowsExactly
    refine wpAny_bind (wpAny_load hq' ?_)
    show wpAny _ _ (load f >>= _) _ _ _
    refine wpAny_bind (wpAny_load hf' ?_)
    rw [hfd]
    refine wpAny_pure ?_
    rw [if_pos rfl]
    refine wpAny_pure ?_
    refine wpAny_bind (wpAny_setField_rec ho' (by simp) fun h1 e1 b1 => ?_)
    refine wpAny_bind (wpAny_setField_rec (s := { s' with heap := h1 }) e1 (by simp) fun h2 e2 b2 => ?_)
    refine wpAny_setField_rec (s := { s' with heap := h2 }) e2 (by simp) fun h3 e3 b3 => ?_
    refine ci_stop (A := A.in1) (s := { s' with heap := h3 }) hh fun h4 z hk hx => ?_
    refine wpAny_bind (wpAny_isInstance (T := "StopIteration") (b := true) hx isSubtype_stop ?_)
    exact wpAny_pure (hQ h4 (fun b o hb e => hk b o (((b1.trans b2).trans b3).extBut b o hb e)) (hk _ _ e3))
end R13
end Mine
theorem Mine.off_R15 : True := by w_top off; trivial
namespace Mine
section R15
open LCg PySem.Calls PyProof.Rows PySem.W
variable {prog : Program} {w : World} {A : Around} {E : Value → Shared → Prop} {s : Shared} {h₀ : Heap} {L ia l : Addr} {m : Str → Option Value} {news : List (Addr × Obj)} {its : Array Value} {i k : Nat} {oI : Obj}
noncomputable def LI (o : Obj) (l : Addr) (i : Nat) : Prop := o.cls = .type "list_iterator" ∧ o.data = .fields #[.ref l, .int i 0]
theorem next_list_some {v : Value} {Q : Option Value → Shared → Prop} (hh : A.handled = none) (F : Fr h₀ L s.heap m) (N : News h₀ L s.heap ((ia, oI) :: news)) (hne : ∀ q ∈ news, q.1 ≠ ia) (hI : LI oI l i) (hl : (l, listOf its k) ∈ news) (hv : its[i]? = some v)
    (h : ∀ h' o' tk, LI o' l (i + 1) → Fr h₀ L h' m → News h₀ L h' ((ia, o') :: news) → Q (some v) { s with heap := h', toks := tk }) : wpAny (model prog w) A (pyNext (.ref ia)) Q E s := by
  have z := N (ia, oI) (.head _)
  refine (Walks.list hh ia l (hne _ hl) its).item i s Q E (Array.getElem?_eq_some_iff.mp hv).1 ⟨⟨oI, z.1, hI.1, hI.2⟩, ⟨_, (N _ (.tail _ hl)).1, rfl, _, rfl⟩⟩ fun v' h' tk hv' st hk => ?_
  rw [hv] at hv'
  cases hv'
  obtain ⟨⟨o', ho', hc', hd'⟩, _⟩ := st
  refine h h' o' tk ⟨hc', hd'⟩ (fr_but F hk (Ne.symm z.2.1) z.2.2) fun p hp => ?_
  rcases List.mem_cons.mp hp with rfl | hp
  · exact ⟨ho', z.2⟩
  · exact news_but (fun q hq => N q (.tail _ hq)) hk hne p hp
theorem next_list_none {Q : Option Value → Shared → Prop} (hh : A.handled = none) (F : Fr h₀ L s.heap m) (N : News h₀ L s.heap ((ia, oI) :: news)) (hne : ∀ q ∈ news, q.1 ≠ ia) (hI : LI oI l i) (hl : (l, listOf its k) ∈ news) (hi : i = its.size)
    (h : ∀ h' tk, Fr h₀ L h' m → News h₀ L h' news → Q none { s with heap := h', toks := tk }) : wpAny (model prog w) A (pyNext (.ref ia)) Q E s := by
  subst hi
  have z := N (ia, oI) (.head _)
  refine (Walks.list hh ia l (hne _ hl) its).done s Q E ⟨⟨oI, z.1, hI.1, hI.2⟩, ⟨_, (N _ (.tail _ hl)).1, rfl, _, rfl⟩⟩ fun h' tk hk => ?_
  exact h h' tk (fr_but F hk (Ne.symm z.2.1) z.2.2) (news_but (fun q hq => N q (.tail _ hq)) hk hne)
theorem iter_list {Q : Value → Shared → Prop} (F : Fr h₀ L s.heap m) (N : News h₀ L s.heap news) (hl : (l, listOf its k) ∈ news)
    (h : ∀ ia oI h', (∀ q ∈ news, q.1 < ia) → LI oI l 0 → Fr h₀ L h' m → News h₀ L h' ((ia, oI) :: news) → Q (.ref ia) { s with heap := h' }) : wpAny (model prog w) A (pyIter (.ref l)) Q E s := by
  refine wpAny_pyIter_list ⟨_, (N _ hl).1, rfl, _, rfl⟩ ?_
  exact h _ _ _ (news_lt N) ⟨rfl, rfl⟩ (F.push _) (News.push F N _)
end R15
end Mine
theorem Mine.off_R16 : True := by w_top off; trivial
namespace Mine
section R16
open PySem.Calls PyProof.Rows PySem.W
/-- what the law's walk has to end with, over the heap without its code tables -/
noncomputable def GoodT (s₁ : Shared) (tabs : List (Addr × Addr)) (r : Result) (s' : Shared) : Prop :=
  r = .ok (.ret (.bool true)) ∧ (∀ b o, (ghostOf s₁.heap tabs).get? b = some o → s'.heap.get? b = some o) ∧ s'.os = s₁.os ∧ AllBare s'.gens ∧ GrownAll tabs s'.heap
theorem kn_postG {M : Model} {A : Around} {cd : Code} {s s₁ : Shared} {cw : ClaimW} {cl : Str → Option Addr} {mean : ExcName → Option Value} {args : List WData} {tabs : List (Addr × Addr)} (hT : TabsAt tabs s₁.heap) (hr : ∀ a x, cw.raises a x = false) (hp : ∀ a, cw.post a (.bool true) a = true)
    (h : codeAny M A cd (GoodT s₁ tabs) s) : codeAny M A cd (GoodWG cw cl mean args s₁) s :=
  codeAny_mono h fun r s' ⟨hv, hk, hos, hg, hgr⟩ => by
    subst hv
    have keep : ∀ b o, b ∉ tabs.map (·.2) → s₁.heap.get? b = some o → s'.heap.get? b = some o := fun b o hb e => hk b o (ghost_ne e hb)
    have grown : ∀ b o, b ∈ tabs.map (·.2) → s₁.heap.get? b = some o → isCodeTable s₁.heap b ∧ o = tabObj #[] ∧ ∃ ps, s'.heap.get? b = some (tabObj ps) := fun b o hb e => by
      obtain ⟨q, hq, rfl⟩ := List.mem_map.mp hb
      have e2 := (hT q hq).2
      rw [e] at e2
      exact ⟨((hT q hq).1.tab (hT q hq).2).isCodeTable, Option.some.inj e2, hgr.get q hq⟩
    refine ⟨.inl ⟨_, .bool true, [], rfl, fun c => hr _ c, .bool true, hp _, fun _ => ⟨List.nodup_nil, fun a ha => nomatch ha⟩⟩, ⟨fun b o e => ?_, fun b o e => ?_⟩, hos, hg⟩
    · by_cases hb : b ∈ tabs.map (·.2)
      · obtain ⟨ht, rfl, ps, hP⟩ := grown b o hb e
        exact .inr (.inl ⟨ht, rfl, #[], ps, rfl, by rw [Array.empty_append]; exact hP⟩)
      · exact .inl (keep b o hb e)
    · by_cases hb : b ∈ tabs.map (·.2)
      · obtain ⟨_, _, ps, hP⟩ := grown b o hb e
        exact ⟨_, hP⟩
      · exact ⟨o, keep b o hb e⟩
end R16
end Mine
theorem Mine.off_R6 : True := by w_top off; trivial
namespace Mine
section R6
variable {prog : Program} {w : World} {A : Around} {E : Value → Shared → Prop} {s : Shared} {g : Heap} {L : Addr} {m : Str → Option Value} {news : List (Addr × Obj)} {gg : Obj → List (Addr × Obj)} {env : Env}
theorem updF_upd {d : Addr} {o o' : Obj} {l : List (Addr × Obj)} {f : Obj → List (Addr × Obj)} (U : UpdF d o l f) : Upd d o o' l (f o') := by
  induction U with
  | head h => exact .head h
  | tail h _ ih => exact .tail h ih
theorem updF_same {d : Addr} {o : Obj} {l : List (Addr × Obj)} {f : Obj → List (Addr × Obj)} (U : UpdF d o l f) : l = f o := by
  obtain ⟨pre, post, a, b, _⟩ := U.split
  rw [a, b]
theorem updF_again {d : Addr} {o o' : Obj} {l : List (Addr × Obj)} {f : Obj → List (Addr × Obj)} (U : UpdF d o l f) : UpdF d o' (f o') f := by
  induction U with
  | head h => exact .head h
  | tail h _ ih => exact .tail h ih
theorem updF_mem {d : Addr} {o : Obj} {l : List (Addr × Obj)} {f : Obj → List (Addr × Obj)} (U : UpdF d o l f) : (d, o) ∈ l := by
  obtain ⟨pre, post, a, b, _⟩ := U.split
  rw [a]; exact List.mem_append_right _ (.head _)
theorem add_call {e : PySem.Expr} {pos : Pos} {q0 r0 : Addr} {vs : Array Value} {n : Nat} {Q : Value → Shared → Prop} (_F₀ : Fr g L s.heap m) (hq : (q0, bmObj "list.append" (.ref r0)) ∈ news) (U : UpdF r0 (listOf vs n) news gg) (hv : vs.size ≤ 64)
    (h : wpAny (model prog w) A (eval e env) (fun v s₁ => Fr g L s₁.heap m ∧ News g L s₁.heap news ∧ ∀ h', Fr g L h' m → News g L h' (gg (listOf (vs.push v) (n + 1))) → Q .none { s₁ with heap := h' }) E s)
    (he : starEach [e] env = [(false, eval e env)] := by rfl) :
    wpAny (model prog w) A (callWith pos (.ref q0) [] (backTo pos (starEach [e] env)) []) Q E s := by
  refine callWith_bm1 (id := "list.append") (self := .ref r0) ?_ he
  rw [he]
  refine spliced_cons (wpAny_mono h (fun v s₁ ⟨F, N, k⟩ => spliced_nil ⟨N.get hq, ?_⟩) fun _ _ e => e)
  exact bound_appendK F N hq (updF_upd U) (fun h' F' N' => k h' F' N') (Nat.le_trans hv (by decide))
end R6
end Mine
theorem Mine.off_S6 : True := by w_top off; trivial
namespace Mine
section S6
variable {prog : Program} {w : World} {A : Around} {E : Value → Shared → Prop} {s : Shared} {g : Heap} {L : Addr} {m : Str → Option Value} {news : List (Addr × Obj)}
open PySem.Builtin.Re
noncomputable abbrev svs (l : List (Str × Tok)) : Array Value := (strValues l).toArray
noncomputable def CallOK (prog : Program) (w : World) (A : Around) (g : Heap) (L : Addr) (m : Str → Option Value) (news : List (Addr × Obj)) (repl : Value) (x : Str) (t : Tok) (pa : Addr) : Prop :=
  ∀ (s₁ : Shared) (k c : Nat) (fa ta D : Addr) (pc : Array Value) (e : Nat), Fr g L s₁.heap m → News g L s₁.heap ((fa, matchObj x t pa ta x.cps.size) :: (ta, spanTup k) :: (D, listOf pc e) :: news) → x.cps[k]? = some c → amp c = true → 0 < s₁.toks →
    (∀ q ∈ news, q.1 < D) → D < ta → ta < fa →
    wpAny (model prog w) A (call repl [.ref fa]) (fun v s₂ => ∃ u h' tk, v = .str (S [92, c]) u ∧ s₂ = { s₁ with heap := h', toks := tk } ∧ Fr g L h' m ∧ News g L h' ((D, listOf pc e) :: news)) (fun _ _ => False) s₁
noncomputable def subTail (pa D : Addr) (x : Str) (t : Tok) (repl : Value) (n : Int) (mf : Sre.M) : Sem Fin := do
  let found ← reNewMatch (.ref pa) (.str x t) 1 0 x.cps.size mf
  let item ← holding [found] (call repl [found])
  if item != .none then updateSeq D (·.push item)
  again (.builtin "re.Pattern.sub.loop" ⟨[.ref pa, .str x t, repl, rawInt 1, rawInt 0, rawInt (n + 1), rawInt mf.handed, rawInt mf.handed, .bool (mf.handed == mf.start), .ref D, .bool false], []⟩)
noncomputable def subEnd (D : Addr) (x : Str) : Sem Fin := do
  let joiner ← reSlice x.cps 0 0 0
  let text ← if ((← seqItems? (.ref D)).getD #[]).isEmpty then pure joiner else call (.builtin "str.join") [joiner, .ref D]
  ret text
theorem svs_push (l : List (Str × Tok)) (y : Str) (t : Tok) : (svs l).push (.str y t) = svs (l ++ [(y, t)]) := by
  unfold svs strValues; simp
theorem sub_loop {pa ca D : Addr} {x : Str} {t : Tok} {repl : Value} {R : Result → Shared → Prop} (hp : g.get? pa = some (patObj ca)) (hc : g.get? ca = some codeTup) (hx : x.length ≤ 256)
    (hD : ∀ q ∈ news, q.1 < D) (hcall : CallOK prog w A.in1 g L m news repl x t pa)
    (hR : ∀ h' tk' u, Fr g L h' m → News g L h' news → R (.ok (.ret (.str (S (ampE x.cps.toList)) u))) { s with heap := h', toks := tk' }) :
    ∀ (r k : Nat) (h : Heap) (tk : Nat) (l : List (Str × Tok)) (e : Nat) (n : Int), x.cps.toList.length - k = r → SubSt x.cps.toList k l → Fr g L h m → News g L h ((D, listOf (svs l) e) :: news) → 0 < tk →
    codeAny (model prog w) A (.builtin "re.Pattern.sub.loop" ⟨[.ref pa, .str x t, repl, rawInt 1, rawInt 0, rawInt n, rawInt k, rawInt k, .bool false, .ref D, .bool false], []⟩) R { s with heap := h, toks := tk } := by
  intro r
  induction r using Nat.strongRecOn with
  | ind r ih =>
    intro k h tk l e n hr hst F N hpos
    refine codeAny_builtin entry_sub_loop ?_
    rw [Around.under_plainId plain_sub_loop _]
    show wpAny _ A.in1 (reWholeTarget (.ref pa) (.str x t) >>= _) _ _ _
    refine wpAny_bind (whole_target (F.keep _ _ hp) (F.keep _ _ hc) ?_)
    have tail : ∀ (kf c : Nat) (mf : Sre.M) (h1 : Heap) (tk1 : Nat) (l1 : List (Str × Tok)) (e1 : Nat), k ≤ kf → x.cps[kf]? = some c → amp c = true → Found kf mf → SubSt x.cps.toList kf l1 → Fr g L h1 m → News g L h1 ((D, listOf (svs l1) e1) :: news) → 0 < tk1 →
        wpAny (model prog w) A.in1 (subTail pa D x t repl n mf) (fun fin s' => match fin with | .done f => R (.ok f) s' | .again c' => c'.quiet = true ∧ codeAny (model prog w) A c' R s') (fun e s' => R (.error e) s') { s with heap := h1, toks := tk1 } := by
      intro kf c mf h1 tk1 l1 e1 hk1 hc1 ha hf hst1 F1 N1 hp1
      unfold subTail
      refine wpAny_bind (new_match hf ?_)
      have hDlt : D < h1.objs.size := Heap.lt_size (N1 _ (List.Mem.head _)).1
      have N2 := News.push (F1.push (spanTup kf)) (News.push F1 N1 (spanTup kf)) (matchObj x t pa h1.objs.size x.cps.size)
      refine wpAny_bind (wpAny_holding (withToks hp1 (wpAny_mono (hcall _ kf c _ _ D _ e1 ((F1.push (spanTup kf)).push _) N2 hc1 ha hp1 hD hDlt (by rw [Heap.size_push]; exact Nat.lt_succ_self _)) (fun v s₂ h₂ => ?_) fun _ _ h => h.elim)))
      obtain ⟨u, h3, tk3, rfl, rfl, F3, N3⟩ := h₂
      intro hp3
      dsimp only
      rw [if_pos (show (Value.str (S [92, c]) u != Value.none) = true from rfl)]
      have hg := (N3 _ (List.Mem.head _)).1
      have hlt : kf < x.cps.toList.length := by
        have := (Array.getElem?_eq_some_iff.mp hc1).1
        simpa using this
      have hxl : x.cps.toList.length ≤ 256 := by rw [← len_list]; exact hx
      have hsz : (svs l1).size ≤ 512 := by
        have := hst1.len
        unfold svs strValues; simp; omega
      have hline : (svs l1).size ≤ sizeLine := by rw [sizeLine_eq]; omega
      refine wpAny_bind (wpAny_updateSeq hg rfl ?_ hline (by rw [Array.size_push]; omega))
      refine wpAny_pure ⟨plainId_quiet plain_sub_loop _, ?_⟩
      have hfalse : (kf + 1 == kf) = false := by simp
      have hl' : x.cps.toList[kf]? = some c := by simpa using hc1
      rw [hf.handed, hf.start, hfalse]
      refine ih (x.cps.toList.length - (kf + 1)) (by omega) (kf + 1) _ tk3 (l1 ++ [(S [92, c], u)]) (e1 + 1) (n + 1) rfl (hst1.hit hl' ha) (F3.change (Heap.SameBut.update ..) (N3 _ (List.Mem.head _)).2.1 (N3 _ (List.Mem.head _)).2.2) (News.setHead N3 (fun q hq => Nat.ne_of_lt (hD q hq)) (Heap.SameBut.update ..) ?_) hp3
      rw [Heap.get?_update_self _ hg (by rw [mapSeq_push]; rfl), mapSeq_push, svs_push]
    have fin : ∀ (h1 : Heap) (tk1 : Nat) (l1 : List (Str × Tok)) (e1 : Nat), SubSt x.cps.toList x.cps.toList.length l1 → Fr g L h1 m → News g L h1 ((D, listOf (svs l1) e1) :: news) → 0 < tk1 →
        wpAny (model prog w) A.in1 (subEnd D x) (fun fin s' => match fin with | .done f => R (.ok f) s' | .again c' => c'.quiet = true ∧ codeAny (model prog w) A c' R s') (fun e s' => R (.error e) s') { s with heap := h1, toks := tk1 } := by
      intro h1 tk1 l1 e1 hst1 F1 N1 hp1
      unfold subEnd
      have hxl : x.cps.toList.length ≤ 256 := by rw [← len_list]; exact hx
      have hcat : catS l1 = ampE x.cps.toList := by
        rw [hst1.cat]; unfold cut
        rw [List.drop_zero, Nat.sub_zero, List.take_length]
      refine wpAny_bind (m := reSlice x.cps 0 0 0) ?_
      show wpAny _ _ (mkStr ⟨x.cps.extract 0 0⟩) _ _ _
      rw [ext_cut]
      refine wpAny_mkStr' ?_ (by rw [len_list]; unfold cut; simp)
      have e0 : cut x.cps.toList 0 0 = [] := by unfold cut; simp
      rw [e0]
      refine wpAny_bind (m := seqItems? (.ref D)) (wpAny_seqItems (N1 _ (List.Mem.head _)).1 rfl ?_)
      cases hl : l1 with
      | nil =>
        rw [hl] at hcat
        refine wpAny_ite_true rfl (wpAny_bind (wpAny_pure (wpAny_pure ?_)))
        have e1 : ampE x.cps.toList = [] := hcat.symm
        have := hR h1 (tk1 + 1) tk1 F1 (nwt N1)
        rw [e1] at this
        exact this
      | cons q r =>
        have hne : ¬ ((Option.getD (some (svs (q :: r))) #[]).isEmpty = true) := by unfold svs strValues; simp
        rw [if_neg hne]
        have hil : h1.IsList D (strValues l1).toArray := ⟨_, (N1 _ (List.Mem.head _)).1, rfl, _, rfl⟩
        refine wpAny_bind (SC.join (l := l1) hil rfl ?_ fun t' k' => ?_)
        · have h5 := ampE_len x.cps.toList
          rw [← hcat] at h5
          have h6 : ∀ l : List (Str × Tok), ((l.map (·.1)).map (·.length)).sum = (catS l).length := by
            intro l
            induction l with
            | nil => rfl
            | cons a b ihh => simp only [List.map_cons, List.sum_cons, catS, List.flatMap_cons, List.length_append] at ihh ⊢; rw [ihh, len_list]
          refine joinOk_of ?_
          rw [h6]
          have e2 : (S []).length = 0 := rfl
          rw [e2]; omega
        · rw [join_empty, hcat]
          exact wpAny_pure (hR h1 k' t' F1 (nwt N1))
    show wpAny _ _ (do
      let f ← reNextFound ⟨.ref pa, .str x t, reCode, x.cps, 0, 1, 0, x.cps.size⟩ (k : Int).toNat false
      match f with
      | some mf => do
        if (k : Int).toNat < mf.start then updateSeq D (·.push (← reSlice x.cps 0 (k : Int).toNat mf.start))
        subTail pa D x t repl n mf
      | none => do
        if (k : Int).toNat < x.cps.size then updateSeq D (·.push (← reSlice x.cps 0 (k : Int).toNat x.cps.size))
        subEnd D x) _ _ _
    have hxl : x.cps.toList.length ≤ 256 := by rw [← len_list]; exact hx
    have hcz : x.cps.size = x.cps.toList.length := by simp
    have hgd : ∀ v, x.cps.getD v 0 = x.cps.toList.getD v 0 := fun v => by simp [List.getD_eq_getElem?_getD, Array.getD_eq_getD_getElem?]
    have hkn : (k : Int).toNat = k := Int.toNat_natCast k
    have hsz : (svs l).size ≤ 512 := by
      have := hst.len
      have := hst.le
      unfold svs strValues; simp; omega
    have hline : (svs l).size ≤ sizeLine := by rw [sizeLine_eq]; omega
    have hg := (N _ (List.Mem.head _)).1
    have push : ∀ (k' : Nat) (rest : Sem PySem.Fin) (Q : PySem.Fin → Shared → Prop) (E : Value → Shared → Prop), k < k' → k' ≤ x.cps.toList.length → (∀ v, k ≤ v → v < k' → amp (x.cps.toList.getD v 0) = false) →
        (∀ h1 tk1 l1 e1, SubSt x.cps.toList k' l1 → Fr g L h1 m → News g L h1 ((D, listOf (svs l1) e1) :: news) → 0 < tk1 → wpAny (model prog w) A.in1 rest Q E { s with heap := h1, toks := tk1 }) →
        wpAny (model prog w) A.in1 (do updateSeq D (·.push (← reSlice x.cps 0 k k')); rest) Q E { s with heap := h, toks := tk } := by
      intro k' rest Q E a1 a2 a3 hrest
      refine wpAny_bind (m := reSlice x.cps 0 k k') ?_
      show wpAny _ _ (mkStr ⟨x.cps.extract k k'⟩) _ _ _
      rw [ext_cut]
      refine wpAny_mkStr' ?_ (by rw [len_list, sizeLine_eq]; have := cut_len (l := x.cps.toList) (i := k) a2; simp only [List.toList_toArray]; omega)
      refine wpAny_bind (wpAny_updateSeq hg rfl ?_ hline (by rw [Array.size_push]; omega))
      refine hrest _ _ (l ++ [(S (cut x.cps.toList k k'), tk)]) (e + 1) (hst.gap a1 a2 a3) (F.change (Heap.SameBut.update ..) (N _ (List.Mem.head _)).2.1 (N _ (List.Mem.head _)).2.2) (News.setHead N (fun q hq => Nat.ne_of_lt (hD q hq)) (Heap.SameBut.update ..) ?_) (Nat.succ_pos _)
      rw [Heap.get?_update_self _ hg (by rw [mapSeq_push]; rfl), mapSeq_push, svs_push]
    rw [hkn]
    refine wpAny_bind (next_found (by rw [hcz]; exact hst.le) (fun hno => ?_) fun kf mf b1 b2 b3 b4 hf => ?_)
    · dsimp only
      by_cases hlt : k < x.cps.size
      · rw [if_pos hlt]
        rw [hcz]
        exact push _ _ _ _ (by omega) (Nat.le_refl _) (fun v c1 c2 => by rw [← hgd]; exact hno v c1 (by omega)) fin
      · rw [if_neg hlt]
        have : k = x.cps.toList.length := by have := hst.le; omega
        subst this
        exact fin h tk l e hst F N hpos
    · dsimp only
      have hcc : x.cps[kf]? = some (x.cps.getD kf 0) := by simp [Array.getD_eq_getD_getElem?, b2]
      rw [hf.start]
      by_cases hlt : k < kf
      · rw [if_pos hlt]
        exact push _ _ _ _ hlt (by omega) (fun v c1 c2 => by rw [← hgd]; exact b4 v c1 c2) fun h1 tk1 l1 e1 st1 F1 N1 p1 => tail kf _ mf h1 tk1 l1 e1 b1 hcc b3 hf st1 F1 N1 p1
      · rw [if_neg hlt]
        have : kf = k := by omega
        subst this
        exact tail kf _ mf h tk l e b1 hcc b3 hf hst F N hpos
end S6
end Mine
theorem Mine.off_S7 : True := by w_top off; trivial
namespace Mine
section S7
open PySem.Builtin.Re
theorem fn_call : typeLookup (.type "function") "__call__" = pure (some (.builtin "function.__call__")) := by
  rw [typeLookup_type, builtinLookup_eq_fast]; kernel_rfl
theorem str_not_bytearray : isSubtype (.type "str") (.type "bytearray") = pure false := by rw [isSubtype_type]; kernel_rfl
theorem meets_sub (prog : Program) (w : World) (pa ca f : Addr) (x : Str) (t : Tok) (fo : Obj) (hf : fo.cls = .type "function") :
    MeetsIn prog w (Builtin.«re.Pattern.sub» ⟨[.ref pa, .ref f, .str x t], []⟩) (fun A R s => s.heap.get? pa = some (patObj ca) ∧ s.heap.get? ca = some codeTup ∧ s.heap.get? f = some fo ∧
      codeAny (model prog w) A (.builtin "re.Pattern.sub.loop" ⟨[.ref pa, .str x t, .ref f, rawInt 1, rawInt 0, rawInt 0, rawInt 0, rawInt 0, .bool false, .ref s.heap.objs.size, .bool false], []⟩) R { s with heap := s.heap.push (listOf #[] 0) }) := by
  intro A R s hs
  obtain ⟨hp, g, d, tk, os⟩ := s
  obtain ⟨h1, h2, h3, h⟩ := hs
  dsimp only at h1 h2 h3 h
  have hT : (⟨hp, g, d, tk, os⟩ : Shared).TypeIs (.ref f) "function" := ⟨_, h3, hf⟩
  have f1 := fn_call
  have f2 := str_not_bytearray
  unfold Builtin.«re.Pattern.sub» reSubstitute
  repeat (first | walk_at "st" | assumption)
  exact ⟨plainId_quiet plain_sub_loop _, h⟩
end S7
end Mine
theorem Mine.off_V5 : True := by w_top off; trivial
namespace Mine
section V5
variable {prog : Program} {w : World} {A : Around} {s : Shared} {env : Env} {Q : Flow → Shared → Prop} {g : Heap} {L : Addr} {st : Stmt} {rest : List Stmt}
noncomputable def PostS (g : Heap) (L : Addr) (s : Shared) (n0 : Nat) (P : (Str → Option Value) → List (Addr × Obj) → Prop) (f : Flow) (s' : Shared) : Prop :=
  f = .next ∧ ∃ m' news', P m' news' ∧ Fr g L s'.heap m' ∧ News g L s'.heap news' ∧ AllBare s'.gens ∧ s'.os = s.os ∧ n0 ≤ s'.toks
theorem seqS {m : Str → Option Value} (_F : Fr g L s.heap m) (n0 : Nat) (P : (Str → Option Value) → List (Addr × Obj) → Prop)
    (h1 : wpAny (model prog w) A (exec st env) (PostS g L s n0 P) (fun _ _ => False) s)
    (h2 : ∀ m' news' s', P m' news' → n0 ≤ s'.toks → AllBare s'.gens → s'.os = s.os → Fr g L s'.heap m' → News g L s'.heap news' → wpAny (model prog w) A (execs rest env) Q (fun _ _ => False) s') :
    wpAny (model prog w) A (execs (st :: rest) env) Q (fun _ _ => False) s := by
  rw [execs_cons]
  refine wpAny_bind (wpAny_mono h1 (fun f s' hm => ?_) fun _ _ h => h)
  obtain ⟨rfl, m', news', hp, F, N, G, os, ht⟩ := hm
  exact h2 m' news' s' hp ht G os F N
end V5
end Mine
namespace Mine
theorem three {A B C R : Prop} (_ : A) (_ : B) (_ : C) (r : R) : R := r
/-- used by nothing: the kit's k_head writes here, on its way, the two definitions heap_1 (the part of the state that the walk knows) and view_1 -/
theorem hd (f : False) : PySem.Challenge.rw_ij0082_01.row.Holds := by
  w_on
  refine' three ?hl ?hw ?hc ?hm
  case hm => k_head
  all_goals first | exact f.elim | exact True
end Mine
namespace Mine
/-- the states between the top's statements -/
noncomputable def kAt (P : Params) (a : Nat) : Obj := ((hd.heap_1 P).lookup a).getD default
noncomputable def defRec (o : Obj) : Obj := match o.data with
  | .func fd => { cls := .none, data := .func { name := fd.name, qualname := fd.qualname, params := fd.params, body := fd.body, scope := fd.scope, globals := 0, closure := [], defaults := .none, kwdefaults := .none } }
  | _ => default
noncomputable def a1 (P : Params) : Obj := { cls := Value.type "dict", data := Data.dict #[{ hash := PyData.keyHash P (Str.ofString "builtins"), key := Value.str (Str.ofString "builtins") 162, val := Value.ref 4 }, { hash := PyData.keyHash P (Str.ofString "__main__"), key := Value.str (Str.ofString "__main__") 163, val := Value.ref 5 }, { hash := PyData.keyHash P (Str.ofString "_sre"), key := Value.str (Str.ofString "_sre") 244, val := Value.ref 12 }] 3 }
noncomputable def a13 (P : Params) : Obj := { cls := Value.type "dict", data := Data.dict #[{ hash := PyData.keyHash P (Str.ofString "__module__"), key := Value.str (Str.ofString "__module__") 189, val := Value.str (Str.ofString "_frozen_importlib") 186 }, { hash := PyData.keyHash P (Str.ofString "__firstlineno__"), key := Value.str (Str.ofString "__firstlineno__") 190, val := Value.int 971 187 }, { hash := PyData.keyHash P (Str.ofString "__doc__"), key := Value.str (Str.ofString "__doc__") 191, val := Value.builtin "_frozen_importlib.BuiltinImporter.__doc__:str#opaque" }, { hash := PyData.keyHash P (Str.ofString "_ORIGIN"), key := Value.str (Str.ofString "_ORIGIN") 192, val := Value.str (Str.ofString "built-in") 188 }, { hash := PyData.keyHash P (Str.ofString "find_spec"), key := Value.str (Str.ofString "find_spec") 193, val := Value.builtin "_frozen_importlib.BuiltinImporter.find_spec#opaque" }, { hash := PyData.keyHash P (Str.ofString "create_module"), key := Value.str (Str.ofString "create_module") 194, val := Value.builtin "_frozen_importlib.BuiltinImporter.create_module#opaque" }, { hash := PyData.keyHash P (Str.ofString "exec_module"), key := Value.str (Str.ofString "exec_module") 195, val := Value.builtin "_frozen_importlib.BuiltinImporter.exec_module#opaque" }, { hash := PyData.keyHash P (Str.ofString "get_code"), key := Value.str (Str.ofString "get_code") 196, val := Value.builtin "_frozen_importlib.BuiltinImporter.get_code#opaque" }, { hash := PyData.keyHash P (Str.ofString "get_source"), key := Value.str (Str.ofString "get_source") 197, val := Value.builtin "_frozen_importlib.BuiltinImporter.get_source#opaque" }, { hash := PyData.keyHash P (Str.ofString "is_package"), key := Value.str (Str.ofString "is_package") 198, val := Value.builtin "_frozen_importlib.BuiltinImporter.is_package#opaque" }, { hash := PyData.keyHash P (Str.ofString "load_module"), key := Value.str (Str.ofString "load_module") 199, val := Value.builtin "_frozen_importlib.BuiltinImporter.load_module#opaque" }, { hash := PyData.keyHash P (Str.ofString "__static_attributes__"), key := Value.str (Str.ofString "__static_attributes__") 200, val := Value.ref 15 }, { hash := PyData.keyHash P (Str.ofString "__dict__"), key := Value.str (Str.ofString "__dict__") 202, val := Value.ref 16 }, { hash := PyData.keyHash P (Str.ofString "__weakref__"), key := Value.str (Str.ofString "__weakref__") 204, val := Value.ref 17 }] 14 }
noncomputable def a14 (P : Params) : Obj := { cls := Value.type "type", data := Data.cls { name := Str.ofString "BuiltinImporter", bases := [Value.type "object"], mro := [Value.ref 14, Value.type "object"], ns := 13, qualname := Str.ofString "BuiltinImporter" } }
noncomputable def a15 (P : Params) : Obj := { cls := Value.type "tuple", data := Data.seq #[] }
noncomputable def a16 (P : Params) : Obj := { cls := Value.type "getset_descriptor", data := Data.fields #[Value.str (Str.ofString "__dict__") 201, Value.ref 14, Value.builtin "function.__dict__", Value.builtin "function.__dict__#set"] }
noncomputable def a17 (P : Params) : Obj := { cls := Value.type "getset_descriptor", data := Data.fields #[Value.str (Str.ofString "__weakref__") 203, Value.ref 14, Value.builtin "ExceptionGroup.__weakref__", Value.none] }
noncomputable def a18 (P : Params) : Obj := { cls := Value.none, data := Data.seq #[Value.int 13 0, Value.str (⟨⟨[6, 189, 10, 95, 95, 109, 111, 100, 117, 108, 101, 95, 95, 6, 186, 17, 95, 102, 114, 111, 122, 101, 110, 95, 105, 109, 112, 111, 114, 116, 108, 105, 98, 6, 190, 15, 95, 95, 102, 105] ++ ([114, 115, 116, 108, 105, 110, 101, 110, 111, 95, 95, 4, 187, 0, 971, 6, 191, 7, 95, 95, 100, 111, 99, 95, 95, 9, 52, 95, 102, 114, 111, 122, 101, 110, 95, 105, 109, 112, 111, 114] ++ ([116, 108, 105, 98, 46, 66, 117, 105, 108, 116, 105, 110, 73, 109, 112, 111, 114, 116, 101, 114, 46, 95, 95, 100, 111, 99, 95, 95, 58, 115, 116, 114, 35, 111, 112, 97, 113, 117, 101, 6] ++ ([192, 7, 95, 79, 82, 73, 71, 73, 78, 6, 188, 8, 98, 117, 105, 108, 116, 45, 105, 110, 6, 193, 9, 102, 105, 110, 100, 95, 115, 112, 101, 99, 9, 50, 95, 102, 114, 111, 122, 101] ++ ([110, 95, 105, 109, 112, 111, 114, 116, 108, 105, 98, 46, 66, 117, 105, 108, 116, 105, 110, 73, 109, 112, 111, 114, 116, 101, 114, 46, 102, 105, 110, 100, 95, 115, 112, 101, 99, 35, 111, 112] ++ ([97, 113, 117, 101, 6, 194, 13, 99, 114, 101, 97, 116, 101, 95, 109, 111, 100, 117, 108, 101, 9, 54, 95, 102, 114, 111, 122, 101, 110, 95, 105, 109, 112, 111, 114, 116, 108, 105, 98, 46] ++ ([66, 117, 105, 108, 116, 105, 110, 73, 109, 112, 111, 114, 116, 101, 114, 46, 99, 114, 101, 97, 116, 101, 95, 109, 111, 100, 117, 108, 101, 35, 111, 112, 97, 113, 117, 101, 6, 195, 11, 101] ++ ([120, 101, 99, 95, 109, 111, 100, 117, 108, 101, 9, 52, 95, 102, 114, 111, 122, 101, 110, 95, 105, 109, 112, 111, 114, 116, 108, 105, 98, 46, 66, 117, 105, 108, 116, 105, 110, 73, 109, 112] ++ ([111, 114, 116, 101, 114, 46, 101, 120, 101, 99, 95, 109, 111, 100, 117, 108, 101, 35, 111, 112, 97, 113, 117, 101, 6, 196, 8, 103, 101, 116, 95, 99, 111, 100, 101, 9, 49, 95, 102, 114] ++ ([111, 122, 101, 110, 95, 105, 109, 112, 111, 114, 116, 108, 105, 98, 46, 66, 117, 105, 108, 116, 105, 110, 73, 109, 112, 111, 114, 116, 101, 114, 46, 103, 101, 116, 95, 99, 111, 100, 101, 35] ++ ([111, 112, 97, 113, 117, 101, 6, 197, 10, 103, 101, 116, 95, 115, 111, 117, 114, 99, 101, 9, 51, 95, 102, 114, 111, 122, 101, 110, 95, 105, 109, 112, 111, 114, 116, 108, 105, 98, 46, 66] ++ ([117, 105, 108, 116, 105, 110, 73, 109, 112, 111, 114, 116, 101, 114, 46, 103, 101, 116, 95, 115, 111, 117, 114, 99, 101, 35, 111, 112, 97, 113, 117, 101, 6, 198, 10, 105, 115, 95, 112, 97] ++ ([99, 107, 97, 103, 101, 9, 51, 95, 102, 114, 111, 122, 101, 110, 95, 105, 109, 112, 111, 114, 116, 108, 105, 98, 46, 66, 117, 105, 108, 116, 105, 110, 73, 109, 112, 111, 114, 116, 101, 114] ++ ([46, 105, 115, 95, 112, 97, 99, 107, 97, 103, 101, 35, 111, 112, 97, 113, 117, 101, 6, 199, 11, 108, 111, 97, 100, 95, 109, 111, 100, 117, 108, 101, 9, 52, 95, 102, 114, 111, 122, 101] ++ ([110, 95, 105, 109, 112, 111, 114, 116, 108, 105, 98, 46, 66, 117, 105, 108, 116, 105, 110, 73, 109, 112, 111, 114, 116, 101, 114, 46, 108, 111, 97, 100, 95, 109, 111, 100, 117, 108, 101, 35] ++ ([111, 112, 97, 113, 117, 101, 6, 200, 21, 95, 95, 115, 116, 97, 116, 105, 99, 95, 97, 116, 116, 114, 105, 98, 117, 116, 101, 115, 95, 95, 4, 0, 0, 15, 6, 202, 8, 95, 95, 100] ++ ([105, 99, 116, 95, 95, 4, 0, 0, 16, 6, 204, 11, 95, 95, 119, 101, 97, 107, 114, 101, 102, 95, 95, 4, 0, 0, 17]))))))))))))))))⟩⟩ : Str) 0, Value.bool .true, Value.bool .true, Value.str (Str.ofString "") 205, Value.int 21 0, Value.str (⟨⟨[6, 227, 10, 95, 95, 109, 111, 100, 117, 108, 101, 95, 95, 6, 217, 17, 95, 102, 114, 111, 122, 101, 110, 95, 105, 109, 112, 111, 114, 116, 108, 105, 98, 6, 228, 15, 95, 95, 102, 105] ++ ([114, 115, 116, 108, 105, 110, 101, 110, 111, 95, 95, 4, 218, 0, 562, 6, 229, 7, 95, 95, 100, 111, 99, 95, 95, 9, 47, 95, 102, 114, 111, 122, 101, 110, 95, 105, 109, 112, 111, 114] ++ ([116, 108, 105, 98, 46, 77, 111, 100, 117, 108, 101, 83, 112, 101, 99, 46, 95, 95, 100, 111, 99, 95, 95, 58, 115, 116, 114, 35, 111, 112, 97, 113, 117, 101, 6, 230, 8, 95, 95, 105] ++ ([110, 105, 116, 95, 95, 9, 44, 95, 102, 114, 111, 122, 101, 110, 95, 105, 109, 112, 111, 114, 116, 108, 105, 98, 46, 77, 111, 100, 117, 108, 101, 83, 112, 101, 99, 46, 95, 95, 105, 110] ++ ([105, 116, 95, 95, 35, 111, 112, 97, 113, 117, 101, 6, 231, 8, 95, 95, 114, 101, 112, 114, 95, 95, 9, 44, 95, 102, 114, 111, 122, 101, 110, 95, 105, 109, 112, 111, 114, 116, 108, 105] ++ ([98, 46, 77, 111, 100, 117, 108, 101, 83, 112, 101, 99, 46, 95, 95, 114, 101, 112, 114, 95, 95, 35, 111, 112, 97, 113, 117, 101, 6, 232, 6, 95, 95, 101, 113, 95, 95, 9, 42, 95] ++ ([102, 114, 111, 122, 101, 110, 95, 105, 109, 112, 111, 114, 116, 108, 105, 98, 46, 77, 111, 100, 117, 108, 101, 83, 112, 101, 99, 46, 95, 95, 101, 113, 95, 95, 35, 111, 112, 97, 113, 117] ++ ([101, 6, 233, 6, 99, 97, 99, 104, 101, 100, 9, 42, 95, 102, 114, 111, 122, 101, 110, 95, 105, 109, 112, 111, 114, 116, 108, 105, 98, 46, 77, 111, 100, 117, 108, 101, 83, 112, 101, 99] ++ ([46, 99, 97, 99, 104, 101, 100, 35, 111, 112, 97, 113, 117, 101, 6, 234, 6, 112, 97, 114, 101, 110, 116, 9, 42, 95, 102, 114, 111, 122, 101, 110, 95, 105, 109, 112, 111, 114, 116, 108] ++ ([105, 98, 46, 77, 111, 100, 117, 108, 101, 83, 112, 101, 99, 46, 112, 97, 114, 101, 110, 116, 35, 111, 112, 97, 113, 117, 101, 6, 235, 12, 104, 97, 115, 95, 108, 111, 99, 97, 116, 105] ++ ([111, 110, 9, 48, 95, 102, 114, 111, 122, 101, 110, 95, 105, 109, 112, 111, 114, 116, 108, 105, 98, 46, 77, 111, 100, 117, 108, 101, 83, 112, 101, 99, 46, 104, 97, 115, 95, 108, 111, 99] ++ ([97, 116, 105, 111, 110, 35, 111, 112, 97, 113, 117, 101, 6, 236, 21, 95, 95, 115, 116, 97, 116, 105, 99, 95, 97, 116, 116, 114, 105, 98, 117, 116, 101, 115, 95, 95, 4, 0, 0, 23] ++ ([6, 238, 8, 95, 95, 100, 105, 99, 116, 95, 95, 4, 0, 0, 24, 6, 240, 11, 95, 95, 119, 101, 97, 107, 114, 101, 102, 95, 95, 4, 0, 0, 25, 6, 241, 8, 95, 95, 104, 97] ++ ([115, 104, 95, 95, 0])))))))))))))⟩⟩ : Str) 0, Value.bool .true, Value.bool .true, Value.str (Str.ofString "") 242] 1 }
noncomputable def a19 (P : Params) : Obj := { cls := Value.type "list", data := Data.seq #[] }
noncomputable def a20 (P : Params) : Obj := { cls := Value.type "dict", data := Data.dict #[{ hash := PyData.keyHash P (Str.ofString "name"), key := Value.str (Str.ofString "name") 208, val := Value.str (Str.ofString "_sre") 207 }, { hash := PyData.keyHash P (Str.ofString "loader"), key := Value.str (Str.ofString "loader") 209, val := Value.ref 14 }, { hash := PyData.keyHash P (Str.ofString "origin"), key := Value.str (Str.ofString "origin") 210, val := Value.str (Str.ofString "built-in") 184 }, { hash := PyData.keyHash P (Str.ofString "loader_state"), key := Value.str (Str.ofString "loader_state") 211, val := Value.none }, { hash := PyData.keyHash P (Str.ofString "submodule_search_locations"), key := Value.str (Str.ofString "submodule_search_locations") 212, val := Value.none }, { hash := PyData.keyHash P (Str.ofString "_uninitialized_submodules"), key := Value.str (Str.ofString "_uninitialized_submodules") 213, val := Value.ref 19 }, { hash := PyData.keyHash P (Str.ofString "_set_fileattr"), key := Value.str (Str.ofString "_set_fileattr") 214, val := Value.bool .false }, { hash := PyData.keyHash P (Str.ofString "_cached"), key := Value.str (Str.ofString "_cached") 215, val := Value.none }, { hash := PyData.keyHash P (Str.ofString "_initializing"), key := Value.str (Str.ofString "_initializing") 243, val := Value.bool .false }] 9 }
noncomputable def a21 (P : Params) : Obj := { cls := Value.type "dict", data := Data.dict #[{ hash := PyData.keyHash P (Str.ofString "__module__"), key := Value.str (Str.ofString "__module__") 227, val := Value.str (Str.ofString "_frozen_importlib") 217 }, { hash := PyData.keyHash P (Str.ofString "__firstlineno__"), key := Value.str (Str.ofString "__firstlineno__") 228, val := Value.int 562 218 }, { hash := PyData.keyHash P (Str.ofString "__doc__"), key := Value.str (Str.ofString "__doc__") 229, val := Value.builtin "_frozen_importlib.ModuleSpec.__doc__:str#opaque" }, { hash := PyData.keyHash P (Str.ofString "__init__"), key := Value.str (Str.ofString "__init__") 230, val := Value.builtin "_frozen_importlib.ModuleSpec.__init__#opaque" }, { hash := PyData.keyHash P (Str.ofString "__repr__"), key := Value.str (Str.ofString "__repr__") 231, val := Value.builtin "_frozen_importlib.ModuleSpec.__repr__#opaque" }, { hash := PyData.keyHash P (Str.ofString "__eq__"), key := Value.str (Str.ofString "__eq__") 232, val := Value.builtin "_frozen_importlib.ModuleSpec.__eq__#opaque" }, { hash := PyData.keyHash P (Str.ofString "cached"), key := Value.str (Str.ofString "cached") 233, val := Value.builtin "_frozen_importlib.ModuleSpec.cached#opaque" }, { hash := PyData.keyHash P (Str.ofString "parent"), key := Value.str (Str.ofString "parent") 234, val := Value.builtin "_frozen_importlib.ModuleSpec.parent#opaque" }, { hash := PyData.keyHash P (Str.ofString "has_location"), key := Value.str (Str.ofString "has_location") 235, val := Value.builtin "_frozen_importlib.ModuleSpec.has_location#opaque" }, { hash := PyData.keyHash P (Str.ofString "__static_attributes__"), key := Value.str (Str.ofString "__static_attributes__") 236, val := Value.ref 23 }, { hash := PyData.keyHash P (Str.ofString "__dict__"), key := Value.str (Str.ofString "__dict__") 238, val := Value.ref 24 }, { hash := PyData.keyHash P (Str.ofString "__weakref__"), key := Value.str (Str.ofString "__weakref__") 240, val := Value.ref 25 }, { hash := PyData.keyHash P (Str.ofString "__hash__"), key := Value.str (Str.ofString "__hash__") 241, val := Value.none }] 13 }
noncomputable def a22 (P : Params) : Obj := { cls := Value.type "type", data := Data.cls { name := Str.ofString "ModuleSpec", bases := [Value.type "object"], mro := [Value.ref 22, Value.type "object"], ns := 21, qualname := Str.ofString "ModuleSpec" } }
noncomputable def a23 (P : Params) : Obj := { cls := Value.type "tuple", data := Data.seq #[Value.str (Str.ofString "_cached") 219, Value.str (Str.ofString "_set_fileattr") 220, Value.str (Str.ofString "_uninitialized_submodules") 221, Value.str (Str.ofString "loader") 222, Value.str (Str.ofString "loader_state") 223, Value.str (Str.ofString "name") 224, Value.str (Str.ofString "origin") 225, Value.str (Str.ofString "submodule_search_locations") 226] }
noncomputable def a24 (P : Params) : Obj := { cls := Value.type "getset_descriptor", data := Data.fields #[Value.str (Str.ofString "__dict__") 237, Value.ref 22, Value.builtin "function.__dict__", Value.builtin "function.__dict__#set"] }
noncomputable def a25 (P : Params) : Obj := { cls := Value.type "getset_descriptor", data := Data.fields #[Value.str (Str.ofString "__weakref__") 239, Value.ref 22, Value.builtin "ExceptionGroup.__weakref__", Value.none] }
noncomputable def a26 (P : Params) : Obj := { cls := Value.ref 22, dict := Option.some 20 }
noncomputable def a27 (P : Params) : Obj := { cls := Value.none, data := Data.seq #[Value.int 11 0, Value.str { cps := #[6, 247, 8, 95, 95, 110, 97, 109, 101, 95, 95, 6, 246, 4, 95, 115, 114, 101, 6, 248, 7, 95, 95, 100, 111, 99, 95, 95, 0, 6, 250, 11, 95, 95, 112, 97, 99, 107, 97, 103, 101, 95, 95, 6, 249, 0, 6, 251, 10, 95, 95, 108, 111, 97, 100, 101, 114, 95, 95, 4, 0, 0, 14, 6, 252, 8, 95, 95, 115, 112, 101, 99, 95, 95, 4, 0, 0, 26, 6, 253, 7, 99, 111, 109, 112, 105, 108, 101, 9, 12, 95, 115, 114, 101, 46, 99, 111, 109, 112, 105, 108, 101, 6, 254, 8, 116, 101, 109, 112, 108, 97, 116, 101, 9, 13, 95, 115, 114, 101, 46, 116, 101, 109, 112, 108, 97, 116, 101, 6, 255, 11, 103, 101, 116, 99, 111, 100, 101, 115, 105, 122, 101, 9, 16, 95, 115, 114, 101, 46, 103, 101, 116, 99, 111, 100, 101, 115, 105, 122, 101, 6, 256, 13, 97, 115, 99, 105, 105, 95, 105, 115, 99, 97, 115, 101, 100, 9, 18, 95, 115, 114, 101, 46, 97, 115, 99, 105, 105, 95, 105, 115, 99, 97, 115, 101, 100, 6, 257, 15, 117, 110, 105, 99, 111, 100, 101, 95, 105, 115, 99, 97, 115, 101, 100, 9, 20, 95, 115, 114, 101, 46, 117, 110, 105, 99, 111, 100, 101, 95, 105, 115, 99, 97, 115, 101, 100, 6, 258, 13, 97, 115, 99, 105, 105, 95, 116, 111, 108, 111, 119, 101, 114, 9, 18, 95, 115, 114, 101, 46, 97, 115, 99, 105, 105, 95, 116, 111, 108, 111, 119, 101, 114, 6, 259, 15, 117, 110, 105, 99, 111, 100, 101, 95, 116, 111, 108, 111, 119, 101, 114, 9, 20, 95, 115, 114, 101, 46, 117, 110, 105, 99, 111, 100, 101, 95, 116, 111, 108, 111, 119, 101, 114, 6, 261, 5, 77, 65, 71, 73, 67, 4, 260, 0, 20230612, 6, 263, 8, 67, 79, 68, 69, 83, 73, 90, 69, 4, 262, 0, 4, 6, 265, 9, 77, 65, 88, 82, 69, 80, 69, 65, 84, 4, 264, 0, 4294967295, 6, 267, 9, 77, 65, 88, 71, 82, 79, 85, 80, 83, 4, 266, 0, 1073741823, 6, 269, 9, 99, 111, 112, 121, 114, 105, 103, 104, 116, 6, 268, 53, 32, 83, 82, 69, 32, 50, 46, 50, 46, 50, 32, 67, 111, 112, 121, 114, 105, 103, 104, 116, 32, 40, 99, 41, 32, 49, 57, 57, 55, 45, 50, 48, 48, 50, 32, 98, 121, 32, 83, 101, 99, 114, 101, 116, 32, 76, 97, 98, 115, 32, 65, 66, 32] } 0, Value.bool .true, Value.bool .false, Value.str (Str.ofString "_sre") 271] }
noncomputable def a28 (P : Params) : Obj := { cls := Value.type "tuple", data := Data.seq #[] }
noncomputable def a30 (P : Params) : Obj := { cls := Value.type "code", data := Data.fields #[Value.str (Str.ofString "<module>") 277, Value.str (Str.ofString "<module>") 278, Value.str (Str.ofString "/claim/cut.py") 279, Value.int 1 0, Value.int 0 0, Value.int 0 0, Value.int 0 0, Value.int 0 0, Value.ref 28, Value.bool .false, Value.int 276 0, Value.ref 29, Value.none, Value.none, Value.none, Value.none, Value.int 280 0, Value.int 1 0, Value.str (Str.ofString "/claim/cut.py") 281] }
noncomputable def a31 (P : Params) : Obj := { cls := Value.type "frame", slots := #[Option.some (Value.ref 30), Option.some (Value.ref 3), Option.some (Value.ref 3), Option.none, Option.some (Value.str (Str.ofString "__main__") 164), Option.none, Option.some (Value.ref 0)] }
noncomputable def a33 (P : Params) : Obj := { cls := Value.none, data := Data.fields #[] }
noncomputable def a39 (P : Params) : Obj := { cls := Value.type "tuple", data := Data.seq #[] }
noncomputable def a40 (P : Params) : Obj := { cls := Value.type "builtin_function_or_method", data := Data.fields #[Value.builtin "type.__prepare__", Value.type "type"] }
noncomputable def a41 (P : Params) : Obj := { cls := Value.type "dict", data := Data.dict #[{ hash := PyData.keyHash P (Str.ofString "__module__"), key := Value.str (Str.ofString "__module__") 298, val := Value.str (Str.ofString "cpy313.netrc") 289 }, { hash := PyData.keyHash P (Str.ofString "__qualname__"), key := Value.str (Str.ofString "__qualname__") 300, val := Value.str (Str.ofString "_netrclex") 299 }, { hash := PyData.keyHash P (Str.ofString "__firstlineno__"), key := Value.str (Str.ofString "__firstlineno__") 302, val := Value.int 6 301 }, { hash := PyData.keyHash P (Str.ofString "__init__"), key := Value.str (Str.ofString "__init__") 310, val := Value.ref 52 }, { hash := PyData.keyHash P (Str.ofString "_read_char"), key := Value.str (Str.ofString "_read_char") 318, val := Value.ref 59 }, { hash := PyData.keyHash P (Str.ofString "get_token"), key := Value.str (Str.ofString "get_token") 328, val := Value.ref 66 }, { hash := PyData.keyHash P (Str.ofString "push_token"), key := Value.str (Str.ofString "push_token") 336, val := Value.ref 73 }, { hash := PyData.keyHash P (Str.ofString "__static_attributes__"), key := Value.str (Str.ofString "__static_attributes__") 341, val := Value.ref 74 }] 8 }
noncomputable def a42 (P : Params) : Obj := { cls := Value.type "tuple", data := Data.seq #[] }
noncomputable def a43 (P : Params) : Obj := { cls := Value.none, data := Data.fields #[Value.int 8 0, Value.int 4 0, Value.ref 51, Value.int 14 0, Value.int 4 0, Value.ref 58, Value.int 20 0, Value.int 4 0, Value.ref 65, Value.int 47 0, Value.int 4 0, Value.ref 72] }
noncomputable def a44 (P : Params) : Obj := { cls := Value.type "code", data := Data.fields #[Value.str (Str.ofString "_netrclex") 293, Value.str (Str.ofString "_netrclex") 294, Value.str (Str.ofString "/claim/cut.py") 295, Value.int 6 0, Value.int 0 0, Value.int 0 0, Value.int 0 0, Value.int 0 0, Value.ref 42, Value.bool .false, Value.int 276 0, Value.ref 43, Value.none, Value.none, Value.none, Value.none, Value.int 296 0, Value.int 6 0, Value.str (Str.ofString "/claim/cut.py") 297] }
noncomputable def a45 (P : Params) : Obj := { cls := Value.type "frame", slots := #[Option.some (Value.ref 44), Option.some (Value.ref 3), Option.some (Value.ref 41), Option.none, Option.some (Value.str (Str.ofString "cpy313.netrc") 289), Option.none, Option.some (Value.ref 0)] }
noncomputable def a47 (P : Params) : Obj := { cls := Value.none, data := Data.fields #[] }
noncomputable def a54 (P : Params) : Obj := { cls := Value.none, data := Data.fields #[] }
noncomputable def a61 (P : Params) : Obj := { cls := Value.none, data := Data.fields #[] }
noncomputable def a68 (P : Params) : Obj := { cls := Value.none, data := Data.fields #[] }
noncomputable def a79 (P : Params) : Obj := { cls := Value.type "super", data := Data.fields #[Value.ref 76, Value.ref 76, Value.ref 76] }
noncomputable def a80 (P : Params) : Obj := { cls := Value.type "builtin_function_or_method", data := Data.fields #[Value.builtin "object.__init_subclass__", Value.ref 76] }
noncomputable def a81 (P : Params) : Obj := { cls := Value.type "list", data := Data.seq #[Value.int 14 352, Value.int 14 353, Value.int 4 354, Value.int 1 355, Value.int 1 356, Value.int 9 357, Value.int 0 358, Value.int 64 359, Value.int 0 360, Value.int 1342177280 361, Value.int 0 362, Value.int 0 363, Value.int 0 364, Value.int 0 365, Value.int 0 366, Value.int 17 367, Value.int 0 368, Value.int 13 369, Value.int 11 370, Value.int 9 371, Value.int 0 372, Value.int 64 373, Value.int 0 374, Value.int 1342177280 375, Value.int 0 376, Value.int 0 377, Value.int 0 378, Value.int 0 379, Value.int 0 380, Value.int 17 381, Value.int 1 382, Value.int 1 383] }
noncomputable def a82 (P : Params) : Obj := { cls := Value.type "dict", data := Data.dict #[] }
noncomputable def a83 (P : Params) : Obj := { cls := Value.type "tuple", data := Data.seq #[Value.none, Value.none] }
noncomputable def d86 (P : Params) : Obj := { cls := Value.type "bytes_iterator", data := Data.fields #[Value.none, Value.int 24 0] }
noncomputable def d88 (P : Params) : Obj := { cls := Value.type "dict", data := Data.dict #[] 2 }
noncomputable def d89 (P : Params) : Obj := { cls := Value.type "tuple", data := Data.seq #[] }
noncomputable def d90 (P : Params) : Obj := { cls := Value.type "StopIteration", data := Data.fields #[Value.ref 89, Value.none, Value.none, Value.none, Value.bool .false, Value.none] }
noncomputable def a3 (P : Params) : Obj := { cls := Value.type "dict", data := Data.dict #[{ hash := PyData.keyHash P (Str.ofString "__name__"), key := Value.str (Str.ofString "__name__") 165, val := Value.str (Str.ofString "__main__") 164 }, { hash := PyData.keyHash P (Str.ofString "__doc__"), key := Value.str (Str.ofString "__doc__") 166, val := Value.none }, { hash := PyData.keyHash P (Str.ofString "__package__"), key := Value.str (Str.ofString "__package__") 167, val := Value.none }, { hash := PyData.keyHash P (Str.ofString "__loader__"), key := Value.str (Str.ofString "__loader__") 168, val := Value.builtin "__main__.__loader__#opaque" }, { hash := PyData.keyHash P (Str.ofString "__spec__"), key := Value.str (Str.ofString "__spec__") 169, val := Value.none }, { hash := PyData.keyHash P (Str.ofString "__annotations__"), key := Value.str (Str.ofString "__annotations__") 170, val := Value.ref 6 }, { hash := PyData.keyHash P (Str.ofString "__builtins__"), key := Value.str (Str.ofString "__builtins__") 171, val := Value.ref 4 }, { hash := PyData.keyHash P (Str.ofString "__file__"), key := Value.str (Str.ofString "__file__") 173, val := Value.str (Str.ofString "/claim/cut.py") 172 }, { hash := PyData.keyHash P (Str.ofString "__cached__"), key := Value.str (Str.ofString "__cached__") 174, val := Value.none }, { hash := PyData.keyHash P (Str.ofString "_sre"), key := Value.str (Str.ofString "_sre") 275, val := Value.ref 12 }] 10 }
noncomputable def a29 (P : Params) : Obj := { cls := Value.none, data := Data.fields #[] }
noncomputable def c3 (P : Params) : Obj := { cls := Value.type "dict", data := Data.dict #[{ hash := PyData.keyHash P (Str.ofString "__name__"), key := Value.str (Str.ofString "__name__") 165, val := Value.str (Str.ofString "cpy313.netrc") 289 }, { hash := PyData.keyHash P (Str.ofString "__doc__"), key := Value.str (Str.ofString "__doc__") 166, val := Value.none }, { hash := PyData.keyHash P (Str.ofString "__package__"), key := Value.str (Str.ofString "__package__") 167, val := Value.none }, { hash := PyData.keyHash P (Str.ofString "__loader__"), key := Value.str (Str.ofString "__loader__") 168, val := Value.builtin "__main__.__loader__#opaque" }, { hash := PyData.keyHash P (Str.ofString "__spec__"), key := Value.str (Str.ofString "__spec__") 169, val := Value.none }, { hash := PyData.keyHash P (Str.ofString "__annotations__"), key := Value.str (Str.ofString "__annotations__") 170, val := Value.ref 6 }, { hash := PyData.keyHash P (Str.ofString "__builtins__"), key := Value.str (Str.ofString "__builtins__") 171, val := Value.ref 4 }, { hash := PyData.keyHash P (Str.ofString "__file__"), key := Value.str (Str.ofString "__file__") 173, val := Value.str (Str.ofString "/claim/cut.py") 172 }, { hash := PyData.keyHash P (Str.ofString "__cached__"), key := Value.str (Str.ofString "__cached__") 174, val := Value.none }, { hash := PyData.keyHash P (Str.ofString "_sre"), key := Value.str (Str.ofString "_sre") 275, val := Value.ref 12 }, { hash := PyData.keyHash P (Str.ofString "_wall"), key := Value.str (Str.ofString "_wall") 288, val := Value.ref 38 }, { hash := PyData.keyHash P (Str.ofString "_netrclex"), key := Value.str (Str.ofString "_netrclex") 348, val := Value.ref 76 }] 12 }
noncomputable def b3 (P : Params) : Obj := { cls := Value.type "dict", data := Data.dict #[{ hash := PyData.keyHash P (Str.ofString "__name__"), key := Value.str (Str.ofString "__name__") 165, val := Value.str (Str.ofString "re") 387 }, { hash := PyData.keyHash P (Str.ofString "__doc__"), key := Value.str (Str.ofString "__doc__") 166, val := Value.none }, { hash := PyData.keyHash P (Str.ofString "__package__"), key := Value.str (Str.ofString "__package__") 167, val := Value.none }, { hash := PyData.keyHash P (Str.ofString "__loader__"), key := Value.str (Str.ofString "__loader__") 168, val := Value.builtin "__main__.__loader__#opaque" }, { hash := PyData.keyHash P (Str.ofString "__spec__"), key := Value.str (Str.ofString "__spec__") 169, val := Value.none }, { hash := PyData.keyHash P (Str.ofString "__annotations__"), key := Value.str (Str.ofString "__annotations__") 170, val := Value.ref 6 }, { hash := PyData.keyHash P (Str.ofString "__builtins__"), key := Value.str (Str.ofString "__builtins__") 171, val := Value.ref 4 }, { hash := PyData.keyHash P (Str.ofString "__file__"), key := Value.str (Str.ofString "__file__") 173, val := Value.str (Str.ofString "/claim/cut.py") 172 }, { hash := PyData.keyHash P (Str.ofString "__cached__"), key := Value.str (Str.ofString "__cached__") 174, val := Value.none }, { hash := PyData.keyHash P (Str.ofString "_sre"), key := Value.str (Str.ofString "_sre") 275, val := Value.ref 12 }, { hash := PyData.keyHash P (Str.ofString "_wall"), key := Value.str (Str.ofString "_wall") 288, val := Value.ref 38 }, { hash := PyData.keyHash P (Str.ofString "_netrclex"), key := Value.str (Str.ofString "_netrclex") 348, val := Value.ref 76 }, { hash := PyData.keyHash P (Str.ofString "_twin_re_1"), key := Value.str (Str.ofString "_twin_re_1") 386, val := Value.ref 85 }] 13 }
noncomputable def b29 (P : Params) : Obj := { cls := Value.none, data := Data.fields #[Value.int 2 0, Value.int 0 0, Value.ref 37, Value.int 6 0, Value.int 0 0, Value.ref 44] }
noncomputable def d3 (P : Params) : Obj := { cls := Value.type "dict", data := Data.dict #[{ hash := PyData.keyHash P (Str.ofString "__name__"), key := Value.str (Str.ofString "__name__") 165, val := Value.str (Str.ofString "re") 387 }, { hash := PyData.keyHash P (Str.ofString "__doc__"), key := Value.str (Str.ofString "__doc__") 166, val := Value.none }, { hash := PyData.keyHash P (Str.ofString "__package__"), key := Value.str (Str.ofString "__package__") 167, val := Value.none }, { hash := PyData.keyHash P (Str.ofString "__loader__"), key := Value.str (Str.ofString "__loader__") 168, val := Value.builtin "__main__.__loader__#opaque" }, { hash := PyData.keyHash P (Str.ofString "__spec__"), key := Value.str (Str.ofString "__spec__") 169, val := Value.none }, { hash := PyData.keyHash P (Str.ofString "__annotations__"), key := Value.str (Str.ofString "__annotations__") 170, val := Value.ref 6 }, { hash := PyData.keyHash P (Str.ofString "__builtins__"), key := Value.str (Str.ofString "__builtins__") 171, val := Value.ref 4 }, { hash := PyData.keyHash P (Str.ofString "__file__"), key := Value.str (Str.ofString "__file__") 173, val := Value.str (Str.ofString "/claim/cut.py") 172 }, { hash := PyData.keyHash P (Str.ofString "__cached__"), key := Value.str (Str.ofString "__cached__") 174, val := Value.none }, { hash := PyData.keyHash P (Str.ofString "_sre"), key := Value.str (Str.ofString "_sre") 275, val := Value.ref 12 }, { hash := PyData.keyHash P (Str.ofString "_wall"), key := Value.str (Str.ofString "_wall") 288, val := Value.ref 38 }, { hash := PyData.keyHash P (Str.ofString "_netrclex"), key := Value.str (Str.ofString "_netrclex") 348, val := Value.ref 76 }, { hash := PyData.keyHash P (Str.ofString "_twin_re_1"), key := Value.str (Str.ofString "_twin_re_1") 386, val := Value.ref 85 }, { hash := PyData.keyHash P (Str.ofString "_special_chars_map"), key := Value.str (Str.ofString "_special_chars_map") 534, val := Value.ref 87 }] 14 }
noncomputable def LH0 (P : Params) : List Obj := [boot_o_0 P, a1 P, kAt P 2, a3 P, boot_o_4 P, boot_o_5 P, kAt P 6, boot_o_7 P, boot_o_8 P, boot_o_9 P, boot_o_10 P, kAt P 11, kAt P 12, a13 P, a14 P, a15 P, a16 P, a17 P, a18 P, a19 P, a20 P, a21 P, a22 P, a23 P, a24 P, a25 P, a26 P, a27 P]
noncomputable abbrev H0 (P : Params) : Heap := ⟨⟨LH0 P⟩, {}⟩
noncomputable def LHa (P : Params) : List Obj := [boot_o_0 P, a1 P, kAt P 2, a3 P, boot_o_4 P, boot_o_5 P, kAt P 6, boot_o_7 P, boot_o_8 P, boot_o_9 P, boot_o_10 P, kAt P 11, kAt P 12, a13 P, a14 P, a15 P, a16 P, a17 P, a18 P, a19 P, a20 P, a21 P, a22 P, a23 P, a24 P, a25 P, a26 P, a27 P, a28 P, a29 P, a30 P, a31 P]
noncomputable abbrev Ha (P : Params) : Heap := ⟨⟨LHa P⟩, {}⟩
noncomputable def LHg (P : Params) : List Obj := [boot_o_0 P, a1 P, kAt P 2, c3 P, boot_o_4 P, boot_o_5 P, kAt P 6, boot_o_7 P, boot_o_8 P, boot_o_9 P, boot_o_10 P, kAt P 11, kAt P 12, a13 P, a14 P, a15 P, a16 P, a17 P, a18 P, a19 P, a20 P, a21 P, a22 P, a23 P, a24 P, a25 P, a26 P, a27 P, a28 P, b29 P, a30 P, a31 P, kAt P 32, a33 P, kAt P 34, kAt P 35, defRec (kAt P 38), kAt P 37, kAt P 38, a39 P, a40 P, a41 P, a42 P, a43 P, a44 P, a45 P, kAt P 46, a47 P, kAt P 48, kAt P 49, defRec (kAt P 52), kAt P 51, kAt P 52, kAt P 53, a54 P, kAt P 55, kAt P 56, defRec (kAt P 59), kAt P 58, kAt P 59, kAt P 60, a61 P, kAt P 62, kAt P 63, defRec (kAt P 66), kAt P 65, kAt P 66, kAt P 67, a68 P, kAt P 69, kAt P 70, defRec (kAt P 73), kAt P 72, kAt P 73, kAt P 74, kAt P 75, kAt P 76, kAt P 77, kAt P 78, a79 P, a80 P]
noncomputable abbrev Hg (P : Params) : Heap := ⟨⟨LHg P⟩, {}⟩
noncomputable def LH1 (P : Params) : List Obj := [boot_o_0 P, a1 P, kAt P 2, b3 P, boot_o_4 P, boot_o_5 P, kAt P 6, boot_o_7 P, boot_o_8 P, boot_o_9 P, boot_o_10 P, kAt P 11, kAt P 12, a13 P, a14 P, a15 P, a16 P, a17 P, a18 P, a19 P, a20 P, a21 P, a22 P, a23 P, a24 P, a25 P, a26 P, a27 P, a28 P, b29 P, a30 P, a31 P, kAt P 32, a33 P, kAt P 34, kAt P 35, defRec (kAt P 38), kAt P 37, kAt P 38, a39 P, a40 P, a41 P, a42 P, a43 P, a44 P, a45 P, kAt P 46, a47 P, kAt P 48, kAt P 49, defRec (kAt P 52), kAt P 51, kAt P 52, kAt P 53, a54 P, kAt P 55, kAt P 56, defRec (kAt P 59), kAt P 58, kAt P 59, kAt P 60, a61 P, kAt P 62, kAt P 63, defRec (kAt P 66), kAt P 65, kAt P 66, kAt P 67, a68 P, kAt P 69, kAt P 70, defRec (kAt P 73), kAt P 72, kAt P 73, kAt P 74, kAt P 75, kAt P 76, kAt P 77, kAt P 78, a79 P, a80 P, a81 P, a82 P, a83 P, kAt P 84, kAt P 85]
noncomputable abbrev H1 (P : Params) : Heap := ⟨⟨LH1 P⟩, {}⟩
noncomputable def LH2 (P : Params) : List Obj := [boot_o_0 P, a1 P, kAt P 2, d3 P, boot_o_4 P, boot_o_5 P, kAt P 6, boot_o_7 P, boot_o_8 P, boot_o_9 P, boot_o_10 P, kAt P 11, kAt P 12, a13 P, a14 P, a15 P, a16 P, a17 P, a18 P, a19 P, a20 P, a21 P, a22 P, a23 P, a24 P, a25 P, a26 P, a27 P, a28 P, b29 P, a30 P, a31 P, kAt P 32, a33 P, kAt P 34, kAt P 35, defRec (kAt P 38), kAt P 37, kAt P 38, a39 P, a40 P, a41 P, a42 P, a43 P, a44 P, a45 P, kAt P 46, a47 P, kAt P 48, kAt P 49, defRec (kAt P 52), kAt P 51, kAt P 52, kAt P 53, a54 P, kAt P 55, kAt P 56, defRec (kAt P 59), kAt P 58, kAt P 59, kAt P 60, a61 P, kAt P 62, kAt P 63, defRec (kAt P 66), kAt P 65, kAt P 66, kAt P 67, a68 P, kAt P 69, kAt P 70, defRec (kAt P 73), kAt P 72, kAt P 73, kAt P 74, kAt P 75, kAt P 76, kAt P 77, kAt P 78, a79 P, a80 P, a81 P, a82 P, a83 P, kAt P 84, kAt P 85, d86 P, kAt P 87, d88 P, d89 P, d90 P]
noncomputable abbrev H2 (P : Params) : Heap := ⟨⟨LH2 P⟩, {}⟩
end Mine
namespace Mine
section
open PySem.Calls
noncomputable abbrev pr : Program := PySem.Challenge.rw_ij0082_01.row.prog
noncomputable abbrev bE : List Stmt := behindTheImports pr
noncomputable abbrev envM : Env := { scope := pr.main.scope, locals := mainNs, globals := mainNs, cells := [], code := .ref 30, frame := some 31 }
noncomputable abbrev cE : Code := .body bE envM
noncomputable abbrev z0 : Pos := ⟨0, 0, 0, 0⟩
noncomputable abbrev z1 : Pos := ⟨6, 0, 48, 16⟩
noncomputable abbrev z2 : Pos := ⟨50, 0, 50, 8⟩
noncomputable abbrev z3 : Pos := ⟨51, 0, 51, 18⟩
noncomputable abbrev ann0 : Option Value := some (.ref 6)
noncomputable abbrev sh (h : Heap) (tk : Nat) (os : OsState) : Shared := { heap := h, gens := #[], drawn := {}, toks := tk, os := os }
noncomputable def somes : List Obj → List (Option Obj)
  | [] => []
  | o :: r => some o :: somes r
noncomputable def peeks (a : Array Obj) : Nat → Nat → List (Option Obj)
  | 0, _ => []
  | n + 1, i => a[i]? :: peeks a n (i + 1)
theorem peeks_get {a : Array Obj} : ∀ {l : List Obj} {n i : Nat}, peeks a n i = somes l → ∀ k, k < n → a[i + k]? = l[k]?
  | l, 0, i, _, k, hk => absurd hk (Nat.not_lt_zero k)
  | [], n + 1, i, h, _, _ => nomatch h
  | o :: r, n + 1, i, h, 0, _ => by
    have := (List.cons.inj h).1
    simpa using this
  | o :: r, n + 1, i, h, k + 1, hk => by
    have := peeks_get (List.cons.inj h).2 k (Nat.lt_of_succ_lt_succ hk)
    rw [show i + (k + 1) = i + 1 + k by omega, this]; rfl
theorem peeks_eq {a : Array Obj} {l : List Obj} {n : Nat} (hn : l.length = n) (h : peeks a n 0 = somes l) (hs : a.size = n) : a = ⟨l⟩ := by
  refine Array.ext_getElem? fun i => ?_
  by_cases hi : i < n
  · have := peeks_get h i hi
    rw [Nat.zero_add] at this
    rw [this]; simp
  · rw [Array.getElem?_eq_none (by omega), Array.getElem?_eq_none (by simp; omega)]
noncomputable abbrev obsS (n : Nat) (s : Shared) := (peeks s.heap.objs n 0, s.heap.objs.size, s.heap.life, s.gens, s.drawn, s.toks, s.os)
theorem sh_of {s : Shared} {l : List Obj} {n tk : Nat} {os : OsState} (hn : l.length = n) (h : obsS n s = (somes l, n, {}, #[], {}, tk, os)) : s = sh ⟨⟨l⟩, {}⟩ tk os := by
  obtain ⟨⟨objs, life⟩, gens, drawn, toks, os'⟩ := s
  simp only [Prod.mk.injEq] at h
  obtain ⟨h1, h2, rfl, rfl, rfl, rfl, rfl⟩ := h
  rw [peeks_eq hn h1 h2]
theorem seg_of {x : Option (Flow × Shared × Code × Pos)} {f : Flow} {l : List Obj} {n tk : Nat} {os : OsState} {c : Code} {z : Pos} (hn : l.length = n) (h : x.map (fun x => (x.1, obsS n x.2.1, x.2.2)) = some (f, (somes l, n, {}, #[], {}, tk, os), c, z)) : x = some (f, sh ⟨⟨l⟩, {}⟩ tk os, c, z) := by
  obtain ⟨⟨f', s, c', z'⟩, rfl, e⟩ := Option.map_eq_some_iff.mp h
  simp only [Prod.mk.injEq] at e
  obtain ⟨rfl, e2, rfl, rfl⟩ := e
  have := sh_of (s := s) hn (by simpa only [Prod.mk.injEq] using e2)
  rw [this]
noncomputable abbrev hook : Hook := kmHook hd.heap_1 [2, 3, 6, 11, 12, 32, 34, 35, 37, 38, 46, 48, 49, 51, 52, 53, 55, 56, 58, 59, 60, 62, 63, 65, 66, 67, 69, 70, 72, 73, 74, 75, 76, 77, 78, 84, 85, 87, 91, 93, 94, 96, 97, 98, 100, 101, 103, 104, 105, 107, 108, 110, 111, 112, 114, 115, 117, 118, 119, 122, 123, 124, 127, 128, 129, 131, 132, 134, 135, 136, 139, 140] (fun _ => by kernel_rfl) [106, 99]
noncomputable abbrev LS (w : World) : Prop := (openEnds treeTable PySem.Challenge.rw_ij0082_01.row.prog w 4046).map (fun s => (openSeen hd.view_1 ["_twin_re_1", "_special_chars_map"] (importedModules PySem.Challenge.rw_ij0082_01.row.prog.main.body) (fun s => xlAt hd.view_1 [] s && recOk PySem.Challenge.rw_ij0082_01.row.records s) true s, hook.obs s)) = some (openGood hd.view_1 ["_twin_re_1", "_special_chars_map"], hook.val w)
theorem run0 : ∀ w : World, (fencedOpening treeTable pr w 4046).map (fun s => (peeks s.heap.objs 28 0, s.heap.objs.size, s.heap.life, s.gens, s.drawn, s.toks)) = some (somes (LH0 w.params), 28, {}, #[], {}, 276) := fun w => by kernel_rfl
theorem size0 : ∀ w : World, ((H0 w.params).isNs mainGlobals && (#[] : Array GenState).size == 0, (H0 w.params).objs.size, (H0 w.params).nsMap mainGlobals "__annotations__") = (true, 28, ann0) := fun w => by kernel_rfl
theorem run1 : ∀ (w : World) (os : OsState), topGo treeTable pr w 28 ann0 12 (sh (H0 w.params) 276 os) (topStub pr) = some (sh (Ha w.params) 282 os, ⟨denote treeTable cE, cE, z0, [topFrame z0]⟩) := fun w os => by kernel_rfl
theorem run2 : ∀ (w : World) (os : OsState), segRun treeTable pr w 28 ann0 1 1 (sh (Ha w.params) 282 os) (blockOf bE envM cE z0 [topFrame z0]) = some (.next, sh (Ha w.params) 282 os, cE, z0) := fun w os => by kernel_rfl
theorem run3 : ∀ (w : World) (os : OsState), (segRun treeTable pr w 28 ann0 1 362 (sh (Ha w.params) 282 os) (piecesOf (bE.take 3) envM cE z0 [topFrame z0])).map (fun x => (x.1, obsS 81 x.2.1, x.2.2)) = some (.next, (somes (LHg w.params), 81, {}, #[], {}, 349, os), cE, z1) := fun w os => by kernel_rfl
theorem run4 : ∀ (w : World) (os : OsState), (segRun treeTable pr w 28 ann0 1 91 (sh (Hg w.params) 349 os) (piecesOf ((bE.drop 3).take 2) envM cE z1 [topFrame z0])).map (fun x => (x.1, obsS 86 x.2.1, x.2.2)) = some (.next, (somes (LH1 w.params), 86, {}, #[], {}, 389, os), cE, z2) := fun w os => by kernel_rfl
noncomputable abbrev R5 (w : World) : Prop := ∀ os : OsState, (segRun treeTable pr w 28 ann0 1 1253 (sh (H1 w.params) 389 os) (piecesOf ((bE.drop 5).take 1) envM cE z2 [topFrame z0])).map (fun x => (x.1, obsS 91 x.2.1, x.2.2)) = some (.next, (somes (LH2 w.params), 91, {}, #[], {}, 535, os), cE, z3)
theorem run5ff : ∀ w : World, R5 ((w.withFollow "special-get-raises" .false).withFollow "comprehension-iter-twice" .false) := fun w os => by kernel_rfl
theorem run5ft : ∀ w : World, R5 ((w.withFollow "special-get-raises" .true).withFollow "comprehension-iter-twice" .false) := fun w os => by kernel_rfl
theorem run5tf : ∀ w : World, R5 ((w.withFollow "special-get-raises" .false).withFollow "comprehension-iter-twice" .true) := fun w os => by kernel_rfl
theorem run5tt : ∀ w : World, R5 ((w.withFollow "special-get-raises" .true).withFollow "comprehension-iter-twice" .true) := fun w os => by kernel_rfl
theorem run5 : ∀ w : World, R5 w :=
  byRow2 "comprehension-iter-twice" (byRow2 (P := fun w => R5 (w.withFollow "comprehension-iter-twice" false)) "special-get-raises" run5ff run5ft) (byRow2 (P := fun w => R5 (w.withFollow "comprehension-iter-twice" true)) "special-get-raises" run5tf run5tt)
noncomputable abbrev kept (w : World) (o : Option Shared) : Option Shared := o.bind fun s₁ => match staticsOk (importedModules pr.main.body) (H0 w.params) s₁.heap && namesBound pr s₁.heap && gensDone s₁ && laidKept (H0 w.params) s₁.heap with
  | true => some s₁
  | false => none
noncomputable abbrev looked (w : World) (o : Option Shared) := o.map (fun s => (openSeen hd.view_1 ["_twin_re_1", "_special_chars_map"] (importedModules pr.main.body) (fun s => xlAt hd.view_1 [] s && recOk PySem.Challenge.rw_ij0082_01.row.records s) true s, hook.obs s))
theorem run6 : ∀ (w : World) (os : OsState), looked w (kept w (topRun treeTable pr w 28 ann0 260 (sh (H2 w.params) 535 os) (restOf (bE.drop 6) envM cE z3 [topFrame z0]))) = some (openGood hd.view_1 ["_twin_re_1", "_special_chars_map"], hook.val w) := fun w os => by kernel_rfl
theorem lens (P : Params) : (LH0 P).length = 28 ∧ (LHg P).length = 81 ∧ (LH1 P).length = 86 ∧ (LH2 P).length = 91 := ⟨rfl, rfl, rfl, rfl⟩
theorem parts_eq (l : List Stmt) : l.take 3 ++ ((l.drop 3).take 2 ++ ((l.drop 5).take 1 ++ l.drop 6)) = l := by
  have h1 : (l.drop 5).take 1 ++ l.drop 6 = l.drop 5 := by
    have := List.take_append_drop 1 (l.drop 5)
    rwa [List.drop_drop] at this
  have h2 : (l.drop 3).take 2 ++ l.drop 5 = l.drop 3 := by
    have := List.take_append_drop 2 (l.drop 3)
    rwa [List.drop_drop] at this
  rw [h1, h2, List.take_append_drop]
theorem left : ∀ w : World, LS w := fun w => by
  obtain ⟨⟨⟨objs, life⟩, gs, d, k, os⟩, e, e'⟩ := Option.map_eq_some_iff.mp (run0 w)
  simp only [Prod.mk.injEq] at e'
  obtain ⟨p1, p2, rfl, rfl, rfl, rfl⟩ := e'
  obtain rfl := peeks_eq (lens w.params).1 p1 p2
  have hz := size0 w
  simp only [Prod.mk.injEq] at hz
  obtain ⟨q1, q2, q3⟩ := hz
  have c := run6 w os
  obtain ⟨r, hr⟩ : ∃ r, topRun treeTable pr w 28 ann0 260 (sh (H2 w.params) 535 os) (restOf (bE.drop 6) envM cE z3 [topFrame z0]) = some r := by
    cases ht : topRun treeTable pr w 28 ann0 260 (sh (H2 w.params) 535 os) (restOf (bE.drop 6) envM cE z3 [topFrame z0]) with
    | none => rw [ht] at c; cases c
    | some r => exact ⟨r, rfl⟩
  rw [hr] at c
  have t5 := piece_app (seg_of (lens w.params).2.2.2 (run5 w os)) hr
  have t4 := piece_app (seg_of (lens w.params).2.2.1 (run4 w os)) t5
  have t3 := piece_app (seg_of (lens w.params).2.1 (run3 w os)) t4
  rw [parts_eq] at t3
  have t2 := piece_block (run2 w os) t3
  have t1 := go_top (run1 w os) t2
  have t0 := topRun_mono (4046 - (12 + (1 + (362 + (91 + (1253 + 260)))))) _ _ _ _ t1
  rw [show 12 + (1 + (362 + (91 + (1253 + 260)))) + (4046 - (12 + (1 + (362 + (91 + (1253 + 260)))))) = 4046 by decide] at t0
  show (openEnds treeTable pr w 4046).map _ = _
  unfold openEnds
  rw [e]
  show (topFrom treeTable pr w 4046 (sh (H0 w.params) 276 os)).map _ = _
  have tf : topFrom treeTable pr w 4046 (sh (H0 w.params) 276 os) = kept w (some r) := by
    unfold topFrom
    dsimp only
    rw [q1, q2, q3, t0]
    simp only [kept, Option.bind_some]
    generalize (staticsOk (importedModules pr.main.body) (H0 w.params) r.heap && namesBound pr r.heap && gensDone r && laidKept (H0 w.params) r.heap) = b
    cases b <;> rfl
  rw [tf]
  exact c
end
end Mine
theorem Mine.off_V1 : True := by w_top off; trivial
namespace Mine
noncomputable def fnD (K : Frag) (a : Addr) : FuncData := match K.lookup a with | some ⟨_, _, .func f, _⟩ => f | _ => default
noncomputable def fnBody (f : FuncData) : List Stmt := match f.body with | .stmts b => b | _ => []
noncomputable def sub1 (wh : Nat) : Stmt → List Stmt
  | .If _ b o _ => match wh with | 0 => b | _ => o
  | .While _ b _ _ => b
  | .For _ _ b _ _ => b
  | _ => []
noncomputable def subs : List (Nat × Nat) → List Stmt → List Stmt
  | [], l => l
  | (i, wh) :: r, l => subs r (sub1 wh (l.getD i default))
noncomputable def anyP : Params := { strHash := fun _ => 0, shareClass := fun _ => 0, mergeTok := id, idOf := fun _ => 0, idOfShared := fun _ _ => 0, followText := fun _ => false, idOfImm := fun _ => 0 }
noncomputable def trBody : List Stmt := fnBody (fnD (hd.heap_1 anyP) 104)
noncomputable def trScope : Scope := (fnD (hd.heap_1 anyP) 104).scope
noncomputable abbrev trEnv (L : Addr) : Env := envOf (Str.ofString "_translate") trScope L 104 (.ref 103)
noncomputable def brBody : List Stmt := subs [(3, 0), (2, 1), (0, 1), (0, 0)] trBody
end Mine
theorem Mine.off_Y0 : True := by w_top off; trivial
namespace Mine
section Y0
open LCg
noncomputable def lamOf : Stmt → Arguments × PySem.Expr × Scope
  | .Assign _ (.Lambda p b sc _) _ => (p, b, sc)
  | _ => default
noncomputable def rdLam : Arguments × PySem.Expr × Scope := lamOf ((fnBody (fnD (hd.heap_1 anyP) 111)).getD 2 default)
/-- the stream that `_law_stream` makes: what of it never changes (stat), its list of signs at lo -/
noncomputable def StreamAt (stat : List (Addr × Obj)) (st lo : Addr) : Prop :=
  ∃ (o1 : Obj) (fd : FuncData) (dx : Addr) (oD : Obj) (f2 c2 : Addr) (oc2 : Obj) (ws2 : Array Value) (u2 : Tok) (nm : Str) (pm ctv : Value) (lc : Addr) (ol : Obj),
    o1.cls = .type "function" ∧ o1.dict = some dx ∧ o1.data = .func fd ∧ (st, o1) ∈ stat ∧ (dx, oD) ∈ stat ∧ NsObj oD (fun y => if y = Str.ofString "read" then some (.ref f2) else none) ∧
    (f2, kla_obj nm (Str.ofString "_law_stream.<locals>.<lambda>") rdLam.1 rdLam.2.1 rdLam.2.2 [(Str.ofString "left", lc)] pm c2 ctv) ∈ stat ∧ (c2, oc2) ∈ stat ∧ oc2.data = .fields ws2 ∧
    ws2[1]? = some (.str (Str.ofString "_law_stream.<locals>.<lambda>") u2) ∧ (lc, ol) ∈ stat ∧ ol.data = .cell (some (.ref lo))
theorem StreamAt.mk {stat : List (Addr × Obj)} {st lo : Addr} {o1 : Obj} {dx : Addr} {oD : Obj} {f2 c2 : Addr} {O2 oc2 : Obj} {ws2 : Array Value} {u2 : Tok} {lc : Addr} {ol : Obj}
    (m1 : (st, o1) ∈ stat) (m2 : (dx, oD) ∈ stat) (m3 : (f2, O2) ∈ stat) (m4 : (c2, oc2) ∈ stat) (m5 : (lc, ol) ∈ stat) (hD : NsObj oD (fun y => if y = Str.ofString "read" then some (.ref f2) else none)) (d1 : oc2.data = .fields ws2)
    (d2 : ws2[1]? = some (.str (Str.ofString "_law_stream.<locals>.<lambda>") u2)) (d3 : ol.data = .cell (some (.ref lo))) (c1 : o1.cls = .type "function") (c2' : o1.dict = some dx) (c3 : ∃ fd, o1.data = .func fd)
    (c4 : ∃ nm pm ctv, O2 = kla_obj nm (Str.ofString "_law_stream.<locals>.<lambda>") rdLam.1 rdLam.2.1 rdLam.2.2 [(Str.ofString "left", lc)] pm c2 ctv) : StreamAt stat st lo := by
  obtain ⟨fd, c3⟩ := c3
  obtain ⟨nm, pm, ctv, rfl⟩ := c4
  exact ⟨o1, fd, dx, oD, f2, c2, oc2, ws2, u2, nm, pm, ctv, lc, ol, c1, c2', c3, m1, m2, hD, m3, m4, d1, d2, m5, d3⟩
theorem StreamAt.more {stat stat' : List (Addr × Obj)} {st lo : Addr} (h : StreamAt stat st lo) (hs : ∀ q ∈ stat, q ∈ stat') : StreamAt stat' st lo := by
  obtain ⟨o1, fd, dx, oD, f2, c2, oc2, ws2, u2, nm, pm, ctv, lc, ol, a, b, c, d, e, f, g, h, i, j, k, l⟩ := h
  exact ⟨o1, fd, dx, oD, f2, c2, oc2, ws2, u2, nm, pm, ctv, lc, ol, a, b, c, hs _ d, hs _ e, f, hs _ g, hs _ h, i, j, hs _ k, l⟩
end Y0
end Mine
local macro_rules | `(tactic| walk_at "enter") => `(tactic| (refine PySem.wpAny_call ?_; k_dflt ktr_enter; refine Mine.toks_gen ?_; intro tk0; refine Mine.no_exc ?_))
local macro_rules | `(tactic| walk_at "getAttr ref") => `(tactic| ((with_reducible show wpAny _ _ (getAttr (Value.ref _) (PySem.Str.ofString "append") _) _ _ _); refine' Mine.getAttr_appendK ?k1 ?k2 ?k3 ?_; (case k1 | k2 => k_asm); (case k3 => k_mem); k_whole; intro q' h' F' N' l1; (try k_lt l1); (try k_sweep)))
local macro_rules | `(tactic| walk_at "callWith ref") => `(tactic| ((with_reducible show wpAny _ _ (callWith _ (Value.ref _) [] (backTo _ (starEach [_] _)) []) _ _ _); refine' Mine.callWith_bm1 (id := "list.append") (self := _) ?_))
local macro_rules | `(tactic| walk_at "call builtin:str.find") => `(tactic| ((with_reducible show wpAny _ _ (call (Value.builtin _) [Value.str _ _, Value.str (PySem.Str.ofString "-") _, Value.int _ _, Value.int _ _]) _ _ _); refine' Mine.call_find4 (c := 45) ?f4a ?f4b ?f4c ?_ ?_; (case f4a | f4b | f4c => omega); all_goals (intros; (try dsimp only))))
local macro_rules | `(tactic| walk_at "lot") => `(tactic| first | with_reducible assumption | (refine Mine.LoT.succ ?_; walk_at "lot") | (refine Mine.LoT.add ?_; walk_at "lot"))
local macro_rules | `(tactic| walk_at "execs cons") => `(tactic| (k_here; (with_reducible refine' Mine.execsL ?b9 ?_); (case b9 => walk_at "lot"); intro tk9 htk9; (try dsimp only)))
local macro_rules | `(tactic| walk_at "exec If") => `(tactic| (k_here; (with_reducible refine' Mine.ifL ?b9 ?_); (case b9 => walk_at "lot")))
local macro_rules | `(tactic| walk_at "ks") => `(tactic| first | (with_reducible refine Mine.lotI ?_; intro lot9; try dsimp only at lot9) | walk1 | (dsimp only; walk1) | (leave1; try dsimp only) | (k_unfold; (try dsimp only)))
local macro_rules | `(tactic| walk_at "kss") => `(tactic| repeat' (first | (with_reducible refine Mine.lotI ?_; intro lot9; try dsimp only at lot9) | (k_unfold; (try dsimp only)) | (k_end; wrow_close) | walk1 | (dsimp only; walk1) | (leave1; try dsimp only) | fail "no step"))
local macro_rules | `(tactic| walk_at "enterC") => `(tactic| (refine PySem.wpAny_call ?_; k_dflt ((refine' code_defC ?k1 ?k2 ?k3 ?k4 ?k5 ?kA ?kF ?kK ?k6 ?k7 ?k8 ?k9 ?kB ?kD ?_ ?c2 ?c3 ?c4; (case kA | kF => exact rfl); (case kK => assumption); (case k1 | k2 | k3 | k4 | k5 => k_asm); (case k6 | k7 => k_is); (case k8 => ktr_room); (case k9 => exact BindsTo.of_eq rfl); (case kD => decide +kernel); (case kB | c2 | c3 | c4 => exact rfl); k_whole; intro g' L' h' tk' cells' FG' F' N' Y' B' X' T' l1; (try k_lt l1); k_cells Y'; (try simp only [List.cons_append, List.nil_append] at N'); (try dsimp only); (try k_fold)))))
local macro_rules | `(tactic| walk_at "call type:list") => `(tactic| (k_here; (with_reducible show wpAny _ _ (call (Value.type "list") [Value.str _ _]) _ _ _); refine' Mine.list_strK rfl ?k1 ?k2 ?k3 ?_; (case k1 | k2 => k_asm); (case k3 => first | assumption | omega); k_whole; intro q' vs' e' h' tk' va' F' N' l1; (try k_lt l1); (try k_sweep)))
local macro_rules | `(tactic| k_all) => `(tactic| first | with_reducible assumption | (refine Mine.neAllLt ?_ (Nat.le_refl _); with_reducible assumption) | (refine Mine.neAllLt ?_ (Nat.le_succ _); with_reducible assumption))
local macro_rules | `(tactic| walk_at "conj") => `(tactic| ((with_reducible rename _ ∧ _ => cj9); obtain ⟨_, _⟩ := cj9))
theorem Mine.off_B1 : True := by w_top off; trivial
namespace Mine
section B1
variable {w : World} {p : Program} {loose : List Str} {mean : ExcName → Option Value} {mg mb : Str → Option Value} {dp un : Nat} {gd : Option (List Code)} {cn : Str} {cs : Scope} {a : Addr} {ccd : Value} {cl : List (Str × Addr)} {outer : List Env} {A₀ : Around} {base g : Heap} {L0 L : Addr} {m : Str → Option Value} {news : List (Addr × Obj)} {s : Shared}
    {Q : Flow → Shared → Prop} {pat : Str} {t1 ti tn : Tok} {i : Int}
noncomputable def ScanJ (pat : Str) (i k : Int) : Prop := ∃ j j2 : Int, i ≤ j ∧ j ≤ pat.length ∧ j = (if i < pat.length ∧ (Txt.item pat i == Str.ofString "!") = true then i + 1 else i) ∧
  i ≤ j2 ∧ j2 ≤ pat.length ∧ j2 = (if j < pat.length ∧ (Txt.item pat j == Str.ofString "]") = true then j + 1 else j) ∧ j2 ≤ k ∧ k ≤ pat.length ∧
  (∀ j, j2 ≤ j → j < k → (Txt.item pat j == Str.ofString "]") = false) ∧ (k < pat.length → (Txt.item pat k == Str.ofString "]") = true)
theorem br_scan (B : Below (ktrTop dp un gd cn cs L0 a ccd cl outer) base (envX cn cs L0 a ccd cl :: outer) g) (F : Fr g L s.heap m) (X : (hd.heap_1 w.params).In g) (N : News g L s.heap news) (T : Top p loose mean mg mb g)
  (hpat : m (Str.ofString "pat") = some (.str pat t1)) (hi : m (Str.ofString "i") = some (.int i ti)) (hn : m (Str.ofString "n") = some (.int pat.length tn))
  (hp : pat.length ≤ 64) (h0 : 0 ≤ i) (h1 : i ≤ pat.length) {n0 : Nat} (hpos : n0 ≤ s.toks) (hdp : dp + 10 < recursionLimit) (hun : un + 80 < cLine)
  (hk : ∀ j tj h' tk', n0 ≤ tk' → ScanJ pat i j → Fr g L h' (fun y => if y = Str.ofString "j" then some (.int j tj) else m y) → News g L h' news →
    wpAny (model Challenge.rw_ij0082_01.row.prog w) ((ktrTop dp un gd cn cs L0 a ccd cl outer).deeper (trEnv L)) (execs (brBody.drop 4) (trEnv L)) Q (fun _ _ => False) { s with heap := h', toks := tk' }) :
  wpAny (model Challenge.rw_ij0082_01.row.prog w) ((ktrTop dp un gd cn cs L0 a ccd cl outer).deeper (trEnv L)) (execs brBody (trEnv L)) Q (fun _ _ => False) s := by
  have F1 := fr3 F hpat hi hn
  clear F
  show wpAny _ _ (execs (_ :: _) (envOf _ _ _ _ _)) _ _ _
  refine seqVn hpos F1 N (Str.ofString "j") (fun v => ∃ tj, v = .int i tj) ?_ ?_
  · iterate 3 (walk_at "ks")
    exact midV ⟨_, rfl⟩ ‹_› ‹_› (fun y => rfl) (fun _ h => h)
  rintro _ h' tk' hp2 ⟨tj, rfl⟩ F2 N2
  clear F1 N
  refine seqVn hp2 F2 N2 (Str.ofString "j") (fun v => ∃ j tj, v = .int j tj ∧ i ≤ j ∧ j ≤ pat.length ∧ j = (if i < pat.length ∧ (Txt.item pat i == Str.ofString "!") = true then i + 1 else i)) ?_ ?_
  · k_steps
    · ((refine' Mine.midV ?hp9mid1 ?F9mid1 ?N9mid1 ?e9mid1 ?s9mid1; (case F9mid1 => assumption); (case N9mid1 => assumption); (case e9mid1 => first | (intro y; rfl) | (intro y; exact Mine.up2)); (case s9mid1 => exact fun _ h => h))); exact ⟨_, _, rfl, by omega, by omega, (if_pos ⟨by assumption, by assumption⟩).symm⟩
    · ((refine' Mine.midV ?hp9mid2 ?F9mid2 ?N9mid2 ?e9mid2 ?s9mid2; (case F9mid2 => assumption); (case N9mid2 => assumption); (case e9mid2 => first | (intro y; rfl) | (intro y; exact Mine.up2)); (case s9mid2 => exact fun _ h => h))); exact ⟨_, _, rfl, by omega, by omega, (if_neg fun h => Bool.false_ne_true <| Eq.trans (Eq.symm (by assumption : (Txt.item pat i == Str.ofString "!") = false)) h.2).symm⟩
    · ((refine' Mine.midV ?hp9mid3 ?F9mid3 ?N9mid3 ?e9mid3 ?s9mid3; (case F9mid3 => assumption); (case N9mid3 => assumption); (case e9mid3 => first | (intro y; rfl) | (intro y; exact Mine.up2)); (case s9mid3 => exact fun _ h => h))); exact ⟨_, _, rfl, by omega, by omega, (if_neg fun h => absurd h.1 (by assumption)).symm⟩
  rintro _ h' tk' hp3 ⟨j, tj', rfl, hj1, hj2, hj3⟩ F3 N3
  clear F2 N2
  refine seqVn hp3 F3 N3 (Str.ofString "j") (fun v => ∃ j' tj, v = .int j' tj ∧ i ≤ j' ∧ j' ≤ pat.length ∧ j' = (if j < pat.length ∧ (Txt.item pat j == Str.ofString "]") = true then j + 1 else j)) ?_ ?_
  · k_steps
    · ((refine' Mine.midV ?hp9mid4 ?F9mid4 ?N9mid4 ?e9mid4 ?s9mid4; (case F9mid4 => assumption); (case N9mid4 => assumption); (case e9mid4 => first | (intro y; rfl) | (intro y; exact Mine.up2)); (case s9mid4 => exact fun _ h => h))); exact ⟨_, _, rfl, by omega, by omega, (if_pos ⟨by assumption, by assumption⟩).symm⟩
    · ((refine' Mine.midV ?hp9mid5 ?F9mid5 ?N9mid5 ?e9mid5 ?s9mid5; (case F9mid5 => assumption); (case N9mid5 => assumption); (case e9mid5 => first | (intro y; rfl) | (intro y; exact Mine.up2)); (case s9mid5 => exact fun _ h => h))); exact ⟨_, _, rfl, by omega, by omega, (if_neg fun h => Bool.false_ne_true <| Eq.trans (Eq.symm (by assumption : (Txt.item pat j == Str.ofString "]") = false)) h.2).symm⟩
    · ((refine' Mine.midV ?hp9mid6 ?F9mid6 ?N9mid6 ?e9mid6 ?s9mid6; (case F9mid6 => assumption); (case N9mid6 => assumption); (case e9mid6 => first | (intro y; rfl) | (intro y; exact Mine.up2)); (case s9mid6 => exact fun _ h => h))); exact ⟨_, _, rfl, by omega, by omega, (if_neg fun h => absurd h.1 (by assumption)).symm⟩
  rintro _ h' tk' hp4 ⟨j2, tj2, rfl, hk1, hk2, hk3⟩ F4 N4
  clear F3 N3
  refine seqVn hp4 F4 N4 (Str.ofString "j") (fun v => ∃ k tj, v = .int k tj ∧ j2 ≤ k ∧ k ≤ pat.length ∧ (∀ j, j2 ≤ j → j < k → (Txt.item pat j == Str.ofString "]") = false) ∧ (k < pat.length → (Txt.item pat k == Str.ofString "]") = true)) ?_ ?_
  · k_steps
    ((refine' Mine.midV ?hp9mid7 ?F9mid7 ?N9mid7 ?e9mid7 ?s9mid7; (case F9mid7 => assumption); (case N9mid7 => assumption); (case e9mid7 => first | (intro y; rfl) | (intro y; exact Mine.up2)); (case s9mid7 => exact fun _ h => h)))
    exact ⟨_, _, rfl, by assumption, by omega, fun j a b => scan_t (by apply_assumption <;> assumption), fun a => scan_f (by assumption) a⟩
  rintro _ h' tk' hp5 ⟨k, tj3, rfl, hl1, hl2, hl3, hl4⟩ F5 N5
  clear F4 N4
  refine hk k tj3 h' tk' hp5 ⟨j, j2, hj1, hj2, hj3, hk1, hk2, hk3, hl1, hl2, hl3, hl4⟩ ?_ N5
  refine frc F5 fun y => ?_
  by_cases hy : y = Str.ofString "j"
  · rw [if_pos hy, if_pos hy]
  · simp only [if_neg hy]; exact congrFun (ov3 hpat hi hn) y
end B1
end Mine
theorem Mine.off_B2 : True := by w_top off; trivial
namespace Mine
section B2
variable {w : World} {p : Program} {loose : List Str} {mean : ExcName → Option Value} {mg mb : Str → Option Value} {dp un : Nat} {gd : Option (List Code)} {cn : Str} {cs : Scope} {a : Addr} {ccd : Value} {cl : List (Str × Addr)} {outer : List Env} {A₀ : Around} {base g : Heap} {L0 L : Addr} {m : Str → Option Value} {news : List (Addr × Obj)} {s : Shared}
    {Q : Flow → Shared → Prop} {pat : Str} {t1 ti tn tj tk : Tok} {i j k : Int}
noncomputable def elBody : List Stmt := subs [(4, 1)] brBody
noncomputable def hyBody : List Stmt := subs [(1, 1)] elBody
noncomputable def hwBody : List Stmt := subs [(2, 0)] hyBody
theorem hw_turn {c0 : Addr} {vs : Array Value} {e : Nat} (B : Below (ktrTop dp un gd cn cs L0 a ccd cl outer) base (envX cn cs L0 a ccd cl :: outer) g) (F : Fr g L s.heap (fun y => if y = Str.ofString "k" then some (.int k tk) else if y = Str.ofString "i" then some (.int i ti) else m y)) (X : (hd.heap_1 w.params).In g) (N : News g L s.heap ((c0, listOf vs e) :: news)) (T : Top p loose mean mg mb g)
  (hch : m (Str.ofString "chunks") = some (.ref c0)) (hpat : m (Str.ofString "pat") = some (.str pat t1)) (hj : m (Str.ofString "j") = some (.int j tj))
  (hp : pat.length ≤ 64) (h0 : 0 ≤ i) (h1 : i ≤ k) (h2 : i ≤ j) (h3 : j ≤ pat.length) (hv : vs.size ≤ 64) (hc : ∀ q ∈ news, q.1 < c0) (hdp : dp + 10 < recursionLimit) (hun : un + 80 < cLine)
  (hbrk : ∀ h' tk', (∀ v : Nat, k.toNat ≤ v → v < j.toNat → pat.cps.toList[v]? ≠ some 45) → Fr g L h' (fun y => if y = Str.ofString "k" then some (.int (-1) (s.toks + 1)) else if y = Str.ofString "i" then some (.int i ti) else m y) → News g L h' ((c0, listOf vs e) :: news) → Q .brk { s with heap := h', toks := tk' })
  (hnext : ∀ (k' : Nat) h' tk' m' t3', k.toNat ≤ k' → k' < j.toNat → pat.cps.toList[k']? = some 45 → (∀ v : Nat, k.toNat ≤ v → v < k' → pat.cps.toList[v]? ≠ some 45) →
     Fr g L h' m' → (∃ t, m' (Str.ofString "k") = some (.int ((k' : Int) + 3) t)) → (∃ t, m' (Str.ofString "i") = some (.int ((k' : Int) + 1) t)) → (∀ y, y ≠ Str.ofString "k" → y ≠ Str.ofString "i" → m' y = m y) →
     News g L h' ((c0, listOf (vs.push (.str (Txt.slice pat (some i) (some (k' : Int))) t3')) (e + 1)) :: news) → Q .next { s with heap := h', toks := tk' }) :
  wpAny (model Challenge.rw_ij0082_01.row.prog w) ((ktrTop dp un gd cn cs L0 a ccd cl outer).deeper (trEnv L)) (execs hwBody (trEnv L)) Q (fun _ _ => False) s := by
  rw [← ov3 hch hpat hj] at F
  show wpAny _ _ (execs (_ :: _) (envOf _ _ _ _ _)) _ _ _
  k_steps
  · refine hbrk _ _ (by assumption) (frc (by assumption) ?_) (by assumption)
    intro y
    by_cases e0 : y = Str.ofString "k"
    · simp only [e0, if_true]
    simp only [e0, if_false]
    by_cases e1 : y = Str.ofString "i"
    · simp only [e1, if_true]
    simp only [e1, if_false]
    exact congrFun (ov3 hch hpat hj) y
  · exact hnext _ _ _ _ _ (by assumption) (by assumption) (by assumption) (by assumption) (by assumption) ⟨_, rfl⟩ ⟨_, rfl⟩ (fun y h1 h2 => by simp only [if_neg h1, if_neg h2]; exact congrFun (ov3 hch hpat hj) y) (by assumption)
end B2
end Mine
theorem Mine.off_B10 : True := by w_top off; trivial
namespace Mine
section B10
variable {w : World} {p : Program} {loose : List Str} {mean : ExcName → Option Value} {mg mb : Str → Option Value} {dp un : Nat} {gd : Option (List Code)} {cn : Str} {cs : Scope} {a : Addr} {ccd : Value} {cl : List (Str × Addr)} {outer : List Env} {A₀ : Around} {base g : Heap} {L0 L : Addr} {m : Str → Option Value} {news : List (Addr × Obj)} {gg : Obj → List (Addr × Obj)} {s : Shared}
    {Q : Flow → Shared → Prop} {pat : Str} {t1 ti tn tj tk : Tok} {i j k : Int} {st : List Nat} {r0 q0 : Addr} {vs : Array Value} {e : Nat}
theorem fix_bang (hs0 : st ≠ []) (h : (Txt.item (S st) 0 == Str.ofString "!") = true) : Str.ofString "^" ++ Txt.slice (S st) (some 1) none = S (fixS st) := by
  cases st with
  | nil => exact absurd rfl hs0
  | cons c r =>
    rw [item_first (c := c) rfl, lit_bang, beq_S] at h
    obtain rfl : c = 33 := by simpa using h
    rw [slice_from (by decide) (by rw [len_list]; simp; omega), lit_caret, S_append]
    rfl
theorem fix_esc (hs0 : st ≠ []) (h : (Txt.item (S st) 0 == Str.ofString "!") = false) (h2 : ([Str.ofString "^", Str.ofString "["].any fun x => x == Txt.item (S st) 0) = true) : Str.ofString "\\" ++ S st = S (fixS st) := by
  cases st with
  | nil => exact absurd rfl hs0
  | cons c r =>
    rw [item_first (c := c) rfl, lit_bang, beq_S] at h
    rw [item_first (c := c) rfl, lit_caret, lit_open] at h2
    have hc : c ≠ 33 := by simpa using h
    have h3 : c = 94 ∨ c = 91 := by
      simp only [List.any_cons, List.any_nil, beq_S, Bool.or_false, Bool.or_eq_true, decide_eq_true_eq] at h2
      rcases h2 with e | e
      · exact .inl (by simpa using e.symm)
      · exact .inr (by simpa using e.symm)
    rw [lit_bs, S_append]
    simp only [fixS, if_neg hc, if_pos h3]; rfl
theorem fix_same (hs0 : st ≠ []) (h : (Txt.item (S st) 0 == Str.ofString "!") = false) (h2 : ([Str.ofString "^", Str.ofString "["].any fun x => x == Txt.item (S st) 0) = false) : st = fixS st := by
  cases st with
  | nil => exact absurd rfl hs0
  | cons c r =>
    rw [item_first (c := c) rfl, lit_bang, beq_S] at h
    rw [item_first (c := c) rfl, lit_caret, lit_open] at h2
    have hc : c ≠ 33 := by simpa using h
    have h3 : ¬ (c = 94 ∨ c = 91) := by
      simp only [List.any_cons, List.any_nil, beq_S, Bool.or_false, Bool.or_eq_false_iff, decide_eq_false_iff_not] at h2
      rintro (rfl | rfl)
      · exact h2.1 rfl
      · exact h2.2 rfl
    simp only [fixS, if_neg hc, if_neg h3]
theorem fix_len : (fixS st).length ≤ st.length + 1 := by
  cases st with
  | nil => exact Nat.zero_le _
  | cons c r => simp only [fixS]; split <;> (try split) <;> simp
theorem el_end (B : Below (ktrTop dp un gd cn cs L0 a ccd cl outer) base (envX cn cs L0 a ccd cl :: outer) g) (F : Fr g L s.heap m) (X : (hd.heap_1 w.params).In g) (N : News g L s.heap news) (T : Top p loose mean mg mb g)
  (U : UpdF r0 (listOf vs e) news gg) (hq : (q0, bmObj "list.append" (.ref r0)) ∈ news)
  (hst : m (Str.ofString "stuff") = some (.str (S st) t1)) (hj : m (Str.ofString "j") = some (.int j tj)) (hadd : m (Str.ofString "add") = some (.ref q0))
  (hs0 : st ≠ []) (hs1 : st ≠ [33]) (hsl : st.length ≤ 1000) (h0 : 0 ≤ j) (h1 : j ≤ 64) {n0 : Nat} (hn0 : 0 < n0) (hpos : n0 ≤ s.toks) (hv : vs.size ≤ 64) (hdp : dp + 10 < recursionLimit) (hun : un + 80 < cLine)
  (hk : ∀ t ti h' tk' m', n0 ≤ t → n0 ≤ tk' → Fr g L h' m' → m' (Str.ofString "i") = some (.int (j + 1) ti) → (∀ y, y ≠ Str.ofString "stuff" → y ≠ Str.ofString "i" → m' y = m y) →
     News g L h' (gg (listOf (vs.push (.str (S (91 :: fixS st ++ [93])) t)) (e + 1))) → Q .next { s with heap := h', toks := tk' }) :
  wpAny (model Challenge.rw_ij0082_01.row.prog w) ((ktrTop dp un gd cn cs L0 a ccd cl outer).deeper (trEnv L)) (execs (elBody.drop 3) (trEnv L)) Q (fun _ _ => False) s := by
  have F1 := fr3 F hst hj hadd
  clear F
  show wpAny _ _ (execs (_ :: _) (envOf _ _ _ _ _)) _ _ _
  refine seqE F1 hpos (fun m' news' => ∃ ti, m' = (fun y => if y = Str.ofString "i" then some (.int (j + 1) ti) else if y = Str.ofString "stuff" then some (.str (S st) t1) else if y = Str.ofString "j" then some (.int j tj) else if y = Str.ofString "add" then some (.ref q0) else m y) ∧ news = news') ?_ ?_
  · k_steps
    ((refine' Mine.postE ?hp9pe1 ?F9pe1 ?N9pe1; (case F9pe1 => assumption); (case N9pe1 => assumption)))
    exact ⟨_, rfl, rfl⟩
  rintro _ news' h' tk' ⟨ti, rfl, rfl⟩ hpos2 F2 N2
  have lot := LoT.mk hpos2
  clear F1 N
  have hlen2 : (S st).length ≤ 1000 := by rw [len_list]; exact hsl
  have hlen : 1 ≤ (S st).length := by rw [len_list]; cases st with | nil => exact absurd rfl hs0 | cons => simp
  iterate 5 (walk_at "ks")
  refine PySem.P.truthy_str (by omega) ?_
  rw [show ((((S st).length : Int) != 0)) = true by rw [bne_iff_ne]; omega, if_neg (by decide)]
  iterate 8 (walk_at "ks")
  rw [show (S st == Str.ofString "!") = false by rw [lit_bang, beq_S, decide_eq_false hs1]]
  iterate 2 (walk_at "ks")
  (with_reducible rename LoT _ _ => lot3)
  refine seqE F2 lot3.le (fun m' news' => ∃ t, m' = (fun y => if y = Str.ofString "stuff" then some (.str (S (fixS st)) t) else (if y = Str.ofString "i" then some (.int (j + 1) ti) else if y = Str.ofString "stuff" then some (.str (S st) t1) else if y = Str.ofString "j" then some (.int j tj) else if y = Str.ofString "add" then some (.ref q0) else m y)) ∧ news' = news) ?_ ?_
  · walk_at "kss"
    · ((refine' Mine.postE ?hp9pe2 ?F9pe2 ?N9pe2; (case F9pe2 => assumption); (case N9pe2 => assumption))); exact ⟨_, by rw [← fix_bang hs0 (by assumption)], rfl⟩
    · exact postE ⟨_, by rw [← fix_esc hs0 (by assumption) (by assumption)], rfl⟩ (by assumption) (nwt (by assumption))
    · refine postE ⟨t1, rfl, rfl⟩ (frc (by assumption) fun y => ?_) (nwt (by assumption))
      rw [← fix_same hs0 (by assumption) (by assumption)]
      by_cases hy : y = Str.ofString "stuff"
      · subst hy; rfl
      · simp only [if_neg hy]
  rintro _ _ h' tk' ⟨t, rfl, rfl⟩ hpos3 F3 N3
  clear F2 N2 lot3
  have lot := LoT.mk hpos3
  iterate 4 (walk_at "ks")
  (with_reducible rename LoT _ _ => lot4)
  refine add_call F3 hq U hv ?_
  refine PySem.wpAny_JoinedStr ?_
  show wpAny _ _ (eval (.Constant _ _ _) _) _ _ _
  iterate 1 (walk_at "ks")
  refine ⟨_, _, rfl, by rw [lit_open]; decide, ?_⟩
  show wpAny _ _ (eval (.FormattedValue _ _ _ _) _) _ _ _
  refine toksW (n := n0) lot4.succ (FormattedValue_plain ?_)
  iterate 1 (walk_at "ks")
  have hf := fix_len (st := st)
  have hfl : (S (fixS st)).length ≤ 1001 := by rw [len_list]; exact Nat.le_trans hf (by omega)
  refine formatField_str (fun t5 tk5 lot5 => ?_) (Nat.le_trans hfl (by decide))
  have e1 : Str.empty ++ Str.ofString "[" ++ S (fixS st) = S (91 :: fixS st) := by
    rw [lit_open, show Str.empty = S [] from rfl, S_append, S_append]; rfl
  have e2 : Str.empty ++ Str.ofString "[" ++ S (fixS st) ++ Str.ofString "]" = S (91 :: fixS st ++ [93]) := by
    rw [e1, lit_shut, S_append]
  refine ⟨_, _, rfl, ?_, ?_⟩
  · rw [e1, len_list]; simp only [List.length_cons]; exact Nat.le_trans (Nat.succ_le_succ (Nat.le_trans hf (Nat.succ_le_succ hsl))) (by decide)
  show wpAny _ _ (eval (.Constant _ _ _) _) _ _ _
  iterate 1 (walk_at "ks")
  refine ⟨_, _, rfl, ?_, ?_⟩
  · rw [e2, len_list]; simp only [List.length_append, List.length_cons, List.length_nil]; exact Nat.le_trans (show (fixS st).length + 1 + 1 ≤ 1003 by omega) (by decide)
  show _ ∧ _
  refine ⟨?_, F3, N3, fun h5 F5 N5 lot6 => ?_⟩
  · rw [e2, len_list]; simp only [List.length_append, List.length_cons, List.length_nil]; exact Nat.le_trans (show (fixS st).length + 1 + 1 ≤ 1003 by omega) (by decide)
  rw [e2] at N5
  have lot7 : n0 ≤ tk5 + 1 := lot5.succ.le
  walk_at "kss"
  refine hk _ ti _ _ _ lot7 (Nat.le_succ_of_le lot7) F5 rfl (fun y a1 a2 => ?_) N5
  simp only [if_neg a1, if_neg a2]
  exact congrFun (ov2 hj hadd) y
end B10
end Mine
theorem Mine.off_B3 : True := by w_top off; trivial
namespace Mine
section B3
variable {w : World} {p : Program} {loose : List Str} {mean : ExcName → Option Value} {mg mb : Str → Option Value} {dp un : Nat} {gd : Option (List Code)} {cn : Str} {cs : Scope} {a : Addr} {ccd : Value} {cl : List (Str × Addr)} {outer : List Env} {A₀ : Around} {base g : Heap} {L0 L : Addr} {m : Str → Option Value} {news : List (Addr × Obj)} {s : Shared}
    {Q : Flow → Shared → Prop} {pat : Str} {t1 ti tn tj tk : Tok} {i j k : Int}
theorem hy_pre (B : Below (ktrTop dp un gd cn cs L0 a ccd cl outer) base (envX cn cs L0 a ccd cl :: outer) g) (F : Fr g L s.heap m) (X : (hd.heap_1 w.params).In g) (N : News g L s.heap news) (T : Top p loose mean mg mb g)
  (hpat : m (Str.ofString "pat") = some (.str pat t1)) (hi : m (Str.ofString "i") = some (.int i ti)) (hj : m (Str.ofString "j") = some (.int j tj))
  (hp : pat.length ≤ 64) (h0 : 0 ≤ i) (h2 : i < j) (h3 : j < pat.length) {n0 : Nat} (hn0 : 0 < n0) (hpos : n0 ≤ s.toks) (hdp : dp + 10 < recursionLimit) (hun : un + 80 < cLine)
  (H : HypOK pat.cps.toList) (hf : pat.cps.toList[i.toNat]? ≠ some 45) (hf2 : pat.cps.toList[j.toNat]? = some 93)
  (hk : ∀ c0 (vs : Array Value) e (ch : List (List Nat)) (i' k' : Nat) m' h' tk', (∀ q ∈ news, q.1 < c0) → VA vs.toList ch → CI pat.cps.toList i.toNat ch i' k' → i' < j.toNat → (∀ v, k' ≤ v → v < j.toNat → pat.cps.toList[v]? ≠ some 45) → n0 ≤ tk' →
    Fr g L h' m' → m' (Str.ofString "chunks") = some (.ref c0) → (∃ t, m' (Str.ofString "i") = some (.int i' t)) → (∀ y, y ≠ Str.ofString "k" → y ≠ Str.ofString "i" → y ≠ Str.ofString "chunks" → m' y = m y) →
    News g L h' ((c0, listOf vs e) :: news) →
    wpAny (model Challenge.rw_ij0082_01.row.prog w) ((ktrTop dp un gd cn cs L0 a ccd cl outer).deeper (trEnv L)) (execs (hyBody.drop 3) (trEnv L)) Q (fun _ _ => False) { s with heap := h', toks := tk' }) :
  wpAny (model Challenge.rw_ij0082_01.row.prog w) ((ktrTop dp un gd cn cs L0 a ccd cl outer).deeper (trEnv L)) (execs hyBody (trEnv L)) Q (fun _ _ => False) s := by
  have F1 := fr3 F hpat hi hj
  clear F
  show wpAny _ _ (execs (_ :: _) (envOf _ _ _ _ _)) _ _ _
  refine seqE F1 hpos (fun m' news' => ∃ c0, (∀ q ∈ news, q.1 < c0) ∧ m' = (fun y => if y = Str.ofString "chunks" then some (.ref c0) else (if y = Str.ofString "pat" then some (.str pat t1) else if y = Str.ofString "i" then some (.int i ti) else if y = Str.ofString "j" then some (.int j tj) else m y)) ∧ news' = (c0, listOf #[] 0) :: news) ?_ ?_
  · iterate 5 (walk_at "ks")
    ((refine' Mine.postE ?hp9pe3 ?F9pe3 ?N9pe3; (case F9pe3 => assumption); (case N9pe3 => assumption)))
    exact ⟨_, by assumption, rfl, rfl⟩
  rintro _ _ h' tk' ⟨c0, hc, rfl, rfl⟩ hpos2 F2 N2
  clear F1 N
  refine seqE F2 hpos2 (fun m' news' => news' = (c0, listOf #[] 0) :: news ∧ ∃ kk t, m' = (fun y => if y = Str.ofString "k" then some (.int kk t) else if y = Str.ofString "chunks" then some (.ref c0) else (if y = Str.ofString "pat" then some (.str pat t1) else if y = Str.ofString "i" then some (.int i ti) else if y = Str.ofString "j" then some (.int j tj) else m y)) ∧ kk = (if (Txt.item pat i == Str.ofString "!") = true then i + 2 else i + 1)) ?_ ?_
  · k_steps
    · ((refine' Mine.postE ?hp9pe4 ?F9pe4 ?N9pe4; (case F9pe4 => assumption); (case N9pe4 => assumption)))
      exact ⟨rfl, _, _, rfl, (if_pos (by assumption)).symm⟩
    · ((refine' Mine.postE ?hp9pe5 ?F9pe5 ?N9pe5; (case F9pe5 => assumption); (case N9pe5 => assumption)))
      exact ⟨rfl, _, _, rfl, (if_neg (fun e => Bool.false_ne_true (Eq.trans (Eq.symm (by assumption : (Txt.item pat i == Str.ofString "!") = false)) e))).symm⟩
  rintro _ _ h' tk' ⟨rfl, kk, t, rfl, hkk⟩ hpos3 F3 N3
  clear F2 N2
  rw [item_is h0 (by omega) lit_bang] at hkk
  have hci : CI pat.cps.toList i.toNat [] i.toNat kk.toNat := by
    refine ⟨Nat.le_refl _, ?_, fun v a b e => ?_, ?_, fun c hc => (nomatch hc), fun c hc => (nomatch hc), fun e => absurd rfl e⟩
    · split at hkk <;> omega
    · by_cases hv : v = i.toNat
      · subst hv; exact hf e
      · have hb : pat.cps.toList[i.toNat]? = some 33 := by
          by_cases hx : pat.cps.toList[i.toNat]? = some 33
          · exact hx
          · rw [if_neg (by simpa using hx)] at hkk; omega
        have hv2 : v = i.toNat + 1 := by split at hkk <;> omega
        subst hv2
        have := (H _ e).2.1
        rw [Nat.add_sub_cancel, hb] at this; cases this
    · unfold cut; simp
  have hkk2 : kk = (kk.toNat : Int) := by split at hkk <;> omega
  have hkb : kk.toNat ≤ 67 := by split at hkk <;> omega
  have hii : i = (i.toNat : Int) := by omega
  refine seqE F3 hpos3 (fun m' news' => ∃ (vs : Array Value) (e : Nat) (ch : List (List Nat)) (i' k' : Nat), VA vs.toList ch ∧ CI pat.cps.toList i.toNat ch i' k' ∧ i' < j.toNat ∧ (∀ v, k' ≤ v → v < j.toNat → pat.cps.toList[v]? ≠ some 45) ∧
    m' (Str.ofString "chunks") = some (.ref c0) ∧ (∃ t, m' (Str.ofString "i") = some (.int i' t)) ∧ (∀ y, y ≠ Str.ofString "k" → y ≠ Str.ofString "i" → y ≠ Str.ofString "chunks" → m' y = m y) ∧ news' = (c0, listOf vs e) :: news) ?_ ?_
  · refine whileG (fun n s₁ => ∃ (h : Heap) (tk : Nat) (vs : Array Value) (e : Nat) (ch : List (List Nat)) (i' k' : Nat) (m₁ : Str → Option Value), s₁ = { s with heap := h, toks := tk } ∧ n0 ≤ tk ∧ n = 100 - k' ∧ k' ≤ 67 ∧ VA vs.toList ch ∧ CI pat.cps.toList i.toNat ch i' k' ∧ i' < j.toNat ∧
      Fr g L h m₁ ∧ (∃ t, m₁ (Str.ofString "k") = some (.int k' t)) ∧ (∃ t, m₁ (Str.ofString "i") = some (.int i' t)) ∧ m₁ (Str.ofString "chunks") = some (.ref c0) ∧ (∀ y, y ≠ Str.ofString "k" → y ≠ Str.ofString "i" → y ≠ Str.ofString "chunks" → m₁ y = m y) ∧ News g L h ((c0, listOf vs e) :: news))
      (n₀ := 100 - kk.toNat) ⟨h', tk', #[], 0, [], i.toNat, kk.toNat, _, rfl, hpos3, rfl, hkb, trivial, hci, by omega, F3, ⟨t, by rw [← hkk2]; rfl⟩, ⟨ti, by rw [← hii]; rfl⟩, rfl, fun y h1 h2 h3 => by
        simp only [if_neg h1, if_neg h3]; exact congrFun (ov3 hpat hi hj) y, N3⟩ ?_
    rintro n _ ⟨h, tk, vs, e, ch, i', k', m₁, rfl, htk, rfl, hk67, hva, hci', hij, Fm, ⟨tk1, hmk⟩, ⟨ti1, hmi⟩, hmc, hmo, Nm⟩
    clear F3 N3
    iterate 4 (walk_at "ks")
    have hlen : pat.cps.toList.length ≤ 64 := by rw [← len_list]; exact hp
    have hcnt := hci'.count
    have hvl := VA_len hva
    have hvs : vs.size ≤ 64 := by rw [← Array.length_toList, hvl]; omega
    have hjl : j.toNat < pat.cps.toList.length := by rw [← len_list]; omega
    refine withTokN htk (hw_turn B (fr2 Fm hmk hmi) X Nm T hmc ((hmo _ (by decide +kernel) (by decide +kernel) (by decide +kernel)).trans hpat) ((hmo _ (by decide +kernel) (by decide +kernel) (by decide +kernel)).trans hj) hp (by omega) (by have := hci'.lt; omega) (by omega) (by omega) hvs hc hdp hun ?_ ?_)
    · intro h2 tk2 hno F4 N4 _
      show PostE _ _ _ _ .next _
      refine postE ?_ F4 N4
      refine ⟨vs, e, ch, i', k', hva, hci', hij, fun v a b => hno v (by omega) b, hmc, ⟨ti1, rfl⟩, fun y h1 h2 h3 => ?_, rfl⟩
      simp only [if_neg h1, if_neg h2]; exact hmo y h1 h2 h3
    · intro k2 h2 tk2 m2 t3 hk1 hk2 hk3 hk4 F4 ⟨ta, hma⟩ ⟨tb, hmb⟩ hm4 N4 hpz
      have hk1' : k' ≤ k2 := by omega
      have hlt := hci'.lt
      have hst := hci'.step H hk1' hk3 (fun v a b => hk4 v (by omega) b)
      obtain ⟨_, hA, hC⟩ := H k2 hk3
      refine ⟨100 - (k2 + 3), by omega, h2, tk2, _, e + 1, ch ++ [cut pat.cps.toList i' k2], k2 + 1, k2 + 3, m2, rfl, ?_, rfl, by omega, ?_, hst, ?_, F4, ⟨ta, by rw [hma]; rfl⟩, ⟨tb, by rw [hmb]; rfl⟩, (hm4 _ (by decide +kernel) (by decide +kernel)).trans hmc, fun y h1 h2 h3 => (hm4 y h1 h2).trans (hmo y h1 h2 h3), N4⟩
      · exact hpz
      · rw [Array.toList_push, slice_eq (by omega) (by omega) (by omega)]
        have e1 : ((k2 : Int) - (i' : Int)).toNat = k2 - i' := by omega
        rw [e1, Int.toNat_natCast]
        exact VA_snoc hva
      · have : k2 + 1 ≠ j.toNat := fun e2 => by rw [e2, hf2] at hC; cases hC
        omega
  rintro m' _ h' tk' ⟨vs, e, ch, i', k', h1, h2, h3, h4, h5, h6, h7, rfl⟩ hp4 F4 N4
  exact hk c0 vs e ch i' k' m' h' tk' hc h1 h2 h3 h4 hp4 F4 h5 h6 h7 N4
end B3
end Mine
theorem Mine.off_B4 : True := by w_top off; trivial
namespace Mine
section B4
variable {w : World} {p : Program} {loose : List Str} {mean : ExcName → Option Value} {mg mb : Str → Option Value} {dp un : Nat} {gd : Option (List Code)} {cn : Str} {cs : Scope} {a : Addr} {ccd : Value} {cl : List (Str × Addr)} {outer : List Env} {A₀ : Around} {base g : Heap} {L0 L : Addr} {m : Str → Option Value} {news : List (Addr × Obj)} {s : Shared}
    {Q : Flow → Shared → Prop} {pat : Str} {t1 ti tn tj tk : Tok} {i j k : Int} {c0 : Addr} {vs : Array Value} {e : Nat}
theorem hy_a (B : Below (ktrTop dp un gd cn cs L0 a ccd cl outer) base (envX cn cs L0 a ccd cl :: outer) g) (F : Fr g L s.heap m) (X : (hd.heap_1 w.params).In g) (N : News g L s.heap ((c0, listOf vs e) :: news)) (T : Top p loose mean mg mb g)
  (hpat : m (Str.ofString "pat") = some (.str pat t1)) (hi : m (Str.ofString "i") = some (.int i ti)) (hj : m (Str.ofString "j") = some (.int j tj)) (hch : m (Str.ofString "chunks") = some (.ref c0))
  (hp : pat.length ≤ 64) (h0 : 0 ≤ i) (h2 : i < j) (h3 : j < pat.length) (hv : vs.size ≤ 64) (hc : ∀ q ∈ news, q.1 < c0) {n0 : Nat} (hn0 : 0 < n0) (hpos : n0 ≤ s.toks) (hdp : dp + 10 < recursionLimit) (hun : un + 80 < cLine)
  (hk : ∀ t m' h' tk', n0 ≤ tk' → Fr g L h' m' → (∀ y, y ≠ Str.ofString "chunk" → m' y = m y) →
    News g L h' ((c0, listOf (vs.push (.str (S (cut pat.cps.toList i.toNat j.toNat)) t)) (e + 1)) :: news) →
    wpAny (model Challenge.rw_ij0082_01.row.prog w) ((ktrTop dp un gd cn cs L0 a ccd cl outer).deeper (trEnv L)) (execs (hyBody.drop 5) (trEnv L)) Q (fun _ _ => False) { s with heap := h', toks := tk' }) :
  wpAny (model Challenge.rw_ij0082_01.row.prog w) ((ktrTop dp un gd cn cs L0 a ccd cl outer).deeper (trEnv L)) (execs (hyBody.drop 3) (trEnv L)) Q (fun _ _ => False) s := by
  have F1 := fr4 F hpat hi hj hch
  show wpAny _ _ (execs (_ :: _) (envOf _ _ _ _ _)) _ _ _
  have hsl : Txt.slice pat (some i) (some j) = S (cut pat.cps.toList i.toNat j.toNat) := by
    rw [slice_eq h0 (by omega) (by omega)]
    unfold cut
    congr 2; congr 1; omega
  have hlen : (S (cut pat.cps.toList i.toNat j.toNat)).length = j.toNat - i.toNat := by
    rw [len_list]
    have := cut_len (l := pat.cps.toList) (i := i.toNat) (j := j.toNat) (by rw [← len_list]; omega)
    simpa using this
  refine seqE F1 hpos (fun m' news' => ∃ t, m' = (fun y => if y = Str.ofString "chunk" then some (.str (S (cut pat.cps.toList i.toNat j.toNat)) t) else (if y = Str.ofString "pat" then some (.str pat t1) else if y = Str.ofString "i" then some (.int i ti) else if y = Str.ofString "j" then some (.int j tj) else if y = Str.ofString "chunks" then some (.ref c0) else m y)) ∧ news' = (c0, listOf vs e) :: news) ?_ ?_
  · k_steps
    ((refine' Mine.postE ?hp9pe6 ?F9pe6 ?N9pe6; (case F9pe6 => assumption); (case N9pe6 => assumption)))
    rw [hsl]
    exact ⟨_, rfl, rfl⟩
  rintro _ _ h' tk' ⟨t, rfl, rfl⟩ hpos2 F2 N2
  clear F1 N
  refine seqE F2 hpos2 (fun m' news' => ∃ t, m' = (fun y => if y = Str.ofString "chunk" then some (.str (S (cut pat.cps.toList i.toNat j.toNat)) t) else (if y = Str.ofString "pat" then some (.str pat t1) else if y = Str.ofString "i" then some (.int i ti) else if y = Str.ofString "j" then some (.int j tj) else if y = Str.ofString "chunks" then some (.ref c0) else m y)) ∧ news' = (c0, listOf (vs.push (.str (S (cut pat.cps.toList i.toNat j.toNat)) t)) (e + 1)) :: news) ?_ ?_
  · k_steps
    · ((refine' Mine.postE ?hp9pe7 ?F9pe7 ?N9pe7; (case F9pe7 => assumption); (case N9pe7 => assumption)))
      exact ⟨_, rfl, rfl⟩
    · exfalso; omega
  rintro _ _ h' tk' ⟨t, rfl, rfl⟩ hpos3 F3 N3
  exact hk t _ h' tk' hpos3 F3 (fun y h1 => by simp only [if_neg h1]; exact congrFun (ov4 hpat hi hj hch) y) N3
noncomputable def hfBody : List Stmt := subs [(5, 0)] hyBody
theorem hf_turn {k : Nat} {c1 c2 : List Nat} {u1 u2 : Tok} (B : Below (ktrTop dp un gd cn cs L0 a ccd cl outer) base (envX cn cs L0 a ccd cl :: outer) g) (F : Fr g L s.heap (fun y => if y = Str.ofString "k" then some (.int ((k : Int) + 1) tk) else if y = Str.ofString "chunks" then some (.ref c0) else m y)) (X : (hd.heap_1 w.params).In g) (N : News g L s.heap ((c0, listOf vs e) :: news)) (T : Top p loose mean mg mb g)
  (hkk : k < 100) (h1 : vs.toList[k]? = some (.str (S c1) u1)) (h2 : vs.toList[k + 1]? = some (.str (S c2) u2)) (h3 : c1.getLast? = some 97) (h4 : c2.head? = some 99)
  (hdp : dp + 10 < recursionLimit) (hun : un + 80 < cLine)
  (hk : ∀ h' tk', Fr g L h' (fun y => if y = Str.ofString "k" then some (.int ((k : Int) + 1) tk) else if y = Str.ofString "chunks" then some (.ref c0) else m y) → News g L h' ((c0, listOf vs e) :: news) → Q .next { s with heap := h', toks := tk' }) :
  wpAny (model Challenge.rw_ij0082_01.row.prog w) ((ktrTop dp un gd cn cs L0 a ccd cl outer).deeper (trEnv L)) (execs hfBody (trEnv L)) Q (fun _ _ => False) s := by
  have hL : s.heap.IsList c0 vs.toList.toArray := by simpa using isl N (List.Mem.head _)
  have l1 : 1 ≤ (S c1).length := by rw [len_list]; cases c1 with | nil => cases h3 | cons => simp
  have l2 : 1 ≤ (S c2).length := by rw [len_list]; cases c2 with | nil => cases h4 | cons => simp
  show wpAny _ _ (execs (_ :: _) (envOf _ _ _ _ _)) _ _ _
  iterate 10 (walk_at "ks")
  refine item_list hL (by omega) (by omega) (show vs.toList[((k : Int) + 1 - 1).toNat]? = _ by rw [show ((k : Int) + 1 - 1).toNat = k by omega]; exact h1) ?_
  iterate 9 (walk_at "ks")
  refine item_list hL (by omega) (by omega) (show vs.toList[((k : Int) + 1).toNat]? = _ by rw [show ((k : Int) + 1).toNat = k + 1 by omega]; exact h2) ?_
  rw [item_last h3]
  iterate 1 (walk_at "ks")
  refine item_str (by decide) (by omega) (by omega) ?_
  intro _
  rw [item_first h4]
  iterate 6 (walk_at "ks")
  exact hk _ _ F N
end B4
end Mine
theorem Mine.off_B5 : True := by w_top off; trivial
namespace Mine
section B5
variable {w : World} {p : Program} {loose : List Str} {mean : ExcName → Option Value} {mg mb : Str → Option Value} {dp un : Nat} {gd : Option (List Code)} {cn : Str} {cs : Scope} {a : Addr} {ccd : Value} {cl : List (Str × Addr)} {outer : List Env} {A₀ : Around} {base g : Heap} {L0 L : Addr} {m : Str → Option Value} {news : List (Addr × Obj)} {s : Shared}
    {Q : Flow → Shared → Prop} {pat : Str} {t1 ti tn tj tk : Tok} {i j k : Int} {c0 : Addr} {vs : Array Value} {e : Nat}
theorem hy_b {ch : List (List Nat)} (B : Below (ktrTop dp un gd cn cs L0 a ccd cl outer) base (envX cn cs L0 a ccd cl :: outer) g) (F : Fr g L s.heap m) (X : (hd.heap_1 w.params).In g) (N : News g L s.heap ((c0, listOf vs e) :: news)) (T : Top p loose mean mg mb g)
  (hch : m (Str.ofString "chunks") = some (.ref c0)) (hva : VA vs.toList ch) (hn : ch.length ≤ 64) (hne : ch ≠ []) (hg : ∀ c ∈ ch.dropLast, c.getLast? = some 97) (hh : ∀ c ∈ ch.drop 1, c.head? = some 99)
  (hc : ∀ q ∈ news, q.1 < c0) {n0 : Nat} (hn0 : 0 < n0) (hpos : n0 ≤ s.toks) (hdp : dp + 10 < recursionLimit) (hun : un + 80 < cLine)
  (hk : ∀ m' h' tk', n0 ≤ tk' → Fr g L h' m' → (∀ y, y ≠ Str.ofString "k" → m' y = m y) → News g L h' ((c0, listOf vs e) :: news) →
    wpAny (model Challenge.rw_ij0082_01.row.prog w) ((ktrTop dp un gd cn cs L0 a ccd cl outer).deeper (trEnv L)) (execs (hyBody.drop 6) (trEnv L)) Q (fun _ _ => False) { s with heap := h', toks := tk' }) :
  wpAny (model Challenge.rw_ij0082_01.row.prog w) ((ktrTop dp un gd cn cs L0 a ccd cl outer).deeper (trEnv L)) (execs (hyBody.drop 5) (trEnv L)) Q (fun _ _ => False) s := by
  have F1 := fr1 F hch
  have hvl := VA_len hva
  have hvs : vs.size = ch.length := by rw [← Array.length_toList, hvl]
  show wpAny _ _ (execs (_ :: _) (envOf _ _ _ _ _)) _ _ _
  refine seqE F1 hpos (fun m' news' => (∀ y, y ≠ Str.ofString "k" → m' y = m y) ∧ news' = (c0, listOf vs e) :: news) ?_ ?_
  · refine forG (fun n it s₁ => ∃ (ia : Addr) (h : Heap) (tk k : Nat) (m₁ : Str → Option Value), it = .ref ia ∧ s₁ = { s with heap := h, toks := tk } ∧ n0 ≤ tk ∧ n = k ∧ k + 1 ≤ ch.length ∧ Fr g L h m₁ ∧ m₁ (Str.ofString "chunks") = some (.ref c0) ∧ (∀ y, y ≠ Str.ofString "k" → m₁ y = m y) ∧ News g L h ((ia, riObj k k (-1)) :: (c0, listOf vs e) :: news) ∧ ∀ q ∈ (c0, listOf vs e) :: news, q.1 ≠ ia) ?_ ?_
    · refine withTokN hpos ?_
      iterate 22 (walk_at "ks")
      intro hpz
      (with_reducible rename Fr _ _ _ _ => F2)
      (with_reducible rename News _ _ _ _ => N2)
      refine wpAny_pyIter_range (by assumption) (small_down (by omega) (by omega) (by omega) (by omega)) ?_
      rw [rangeSize_downNat]
      have hl1 : 1 ≤ ch.length := by cases ch with | nil => exact absurd rfl hne | cons => simp
      have e1 : ((ch.length : Int) - 1 - 0).toNat = ch.length - 1 := by omega
      have e2 : (ch.length : Int) - 1 = ((ch.length - 1 : Nat) : Int) := by omega
      rw [e1, e2]
      refine ⟨ch.length - 1, _, _, _, ch.length - 1, _, rfl, rfl, ?_, rfl, by omega, F2.push _, rfl, fun y hy => congrFun (ov1 hch) y, News.push F2 N2 _, fun q hq => Nat.ne_of_lt (Heap.lt_size (N2 q hq).1)⟩
      exact hpz
    · rintro it n _ ⟨ia, h, tk, k, m₁, rfl, rfl, htk, rfl, hkl, Fm, hmc, hmo, Nm, hap⟩
      by_cases hk0 : n = 0
      · subst hk0
        refine end_rangeK rfl Fm Nm hap (by omega) fun h2 F2 N2 => ?_
        exact postE ⟨hmo, rfl⟩ F2 N2
      · obtain ⟨k, rfl⟩ : ∃ k, n = k + 1 := ⟨n - 1, by omega⟩
        have e3 : ((k + 1 : Nat) : Int) = (k : Int) + 1 := by omega
        have e4 : (k : Int) + 1 + -1 = (k : Int) := by omega
        have e5 : (k : Int) + 1 - 1 = (k : Int) := by omega
        rw [e3] at Nm
        rw [← ov1 hmc] at Fm
        refine next_rangeK Fm Nm hap (by omega) fun h2 F2 N2 => ?_
        show wpAny _ _ (storeName _ _ (Value.int _ _)) _ _ _
        iterate 1 (walk_at "ks")
        (with_reducible rename Fr _ _ _ _ => F3)
        (with_reducible rename News _ _ _ _ => N3)
        rw [e4, e5] at N3
        obtain ⟨c1, hc1⟩ : ∃ c1, ch[k]? = some c1 := ⟨_, List.getElem?_eq_getElem (by omega)⟩
        obtain ⟨c2, hc2⟩ : ∃ c2, ch[k + 1]? = some c2 := ⟨_, List.getElem?_eq_getElem (by omega)⟩
        obtain ⟨u1, hu1⟩ := VA_get hva hc1
        obtain ⟨u2, hu2⟩ := VA_get hva hc2
        have hN : News g L _ ((c0, listOf vs e) :: (ia, riObj k k (-1)) :: news) := nws N3 (fun q hq => by
          rcases List.mem_cons.mp hq with rfl | hq
          · exact .tail _ (.head _)
          · rcases List.mem_cons.mp hq with rfl | hq
            · exact .head _
            · exact .tail _ (.tail _ hq))
        have hc1' : c1.getLast? = some 97 := hg c1 (List.mem_iff_getElem?.mpr ⟨k, by rw [List.getElem?_dropLast]; rw [if_pos (by omega)]; exact hc1⟩)
        have hc2' : c2.head? = some 99 := hh c2 (List.mem_iff_getElem?.mpr ⟨k, by rw [List.getElem?_drop, Nat.add_comm]; exact hc2⟩)
        refine withTokN (n := n0) (by dsimp only; omega) (hf_turn (k := k) B F3 X hN T (by omega) hu1 hu2 hc1' hc2' hdp hun fun h4 tk4 F4 N4 hp4 => ?_)
        refine ⟨k, by omega, ia, h4, tk4, k, _, rfl, rfl, hp4, rfl, by omega, F4, rfl, fun y hy => ?_, nws N4 (fun q hq => ?_), hap⟩
        · simp only [if_neg hy]; exact (congrFun (ov1 hmc) y).trans (hmo y hy)
        · rcases List.mem_cons.mp hq with rfl | hq
          · exact .tail _ (.head _)
          · rcases List.mem_cons.mp hq with rfl | hq
            · exact .head _
            · exact .tail _ (.tail _ hq)
  rintro m' _ h' tk' ⟨h1, rfl⟩ hpos3 F3 N3
  exact hk m' h' tk' hpos3 F3 h1 N3
end B5
end Mine
theorem Mine.off_B6 : True := by w_top off; trivial
namespace Mine
section B6
variable {w : World} {p : Program} {loose : List Str} {mean : ExcName → Option Value} {mg mb : Str → Option Value} {dp un : Nat} {gd : Option (List Code)} {cn : Str} {cs : Scope} {a : Addr} {ccd : Value} {cl : List (Str × Addr)} {outer : List Env} {A₀ : Around} {base g : Heap} {L0 L : Addr} {m : Str → Option Value} {news : List (Addr × Obj)} {gg : Obj → List (Addr × Obj)} {s : Shared}
    {Q : Flow → Shared → Prop} {pat : Str} {t1 ti tn tj tk : Tok} {i j k : Int} {c0 : Addr} {vs : Array Value} {e : Nat} {ps : Array Value}
theorem map_range9 {α : Type} (L : List (List Nat)) (r : List Nat → α) : (List.range L.length).map (fun j => r (L.getD j [])) = L.map r := by
  conv => rhs; rw [← range_getD L []]
  rw [List.map_map]; rfl
theorem hy_c {ch : List (List Nat)} (B : Below (ktrTop dp un gd cn cs L0 a ccd cl outer) base (envX cn cs L0 a ccd cl :: outer) g) (F : Fr g L s.heap m) (X : (hd.heap_1 w.params).In g) (N : News g L s.heap ((c0, listOf vs e) :: news)) (T : Top p loose mean mg mb g) (G : AllBare s.gens) (Cc : CodeHd g 103 99)
  (U : UpdF 99 (tabObj ps) news gg) {cod : List (Addr × Obj)} (ht : TabOK ps cod)
  (hch : m (Str.ofString "chunks") = some (.ref c0)) (hva : VA vs.toList ch) (hn : ch.length ≤ 64) (hcl : ∀ c ∈ ch, c.length ≤ 64) (hcd : ∀ c ∈ ch, 45 ∉ c)
  (hc : ∀ q ∈ news, q.1 < c0) {n0 : Nat} (hn0 : 0 < n0) (hpos : n0 ≤ s.toks) (hdp : dp + 10 < recursionLimit) (hun : un + 80 < cLine)
  (hk : ∀ s' ps' t, TabOK ps' cod → Fr g L s'.heap (fun y => if y = Str.ofString "stuff" then some (.str (Txt.join "-" (ch.map esc2)) t) else m y) → News g L s'.heap ((c0, listOf vs e) :: gg (tabObj ps')) → AllBare s'.gens → s'.os = s.os → n0 ≤ s'.toks → Q .next s') :
  wpAny (model Challenge.rw_ij0082_01.row.prog w) ((ktrTop dp un gd cn cs L0 a ccd cl outer).deeper (trEnv L)) (execs (hyBody.drop 6) (trEnv L)) Q (fun _ _ => False) s := by
  have F1 := fr1 F hch
  have hvl := VA_len hva
  have hc99 : (99 : Addr) ≠ c0 := by
    obtain ⟨own, rest, e, _⟩ := U.split
    exact Nat.ne_of_lt (hc (99, tabObj ps) (by rw [e]; exact List.mem_append_right _ (.head _)))
  show wpAny _ _ (execs (_ :: _) (envOf _ _ _ _ _)) _ _ _
  refine withTokN hpos ?_
  iterate 7 (walk_at "ks")
  refine genexpN (l := c0) (items := vs) (e := e) (ps := ps) (Fv := fun i y => ∃ c, ch[i]? = some c ∧ ∃ u, y = .str (esc2 c) u) F1 N T Cc (.tail hc99.symm U) (.head _) ht.trip (ht.refs _) G (Nat.succ_pos _) rfl rfl rfl ?co ?clos ?cell ?h0 ?hx ?hk ?room ?it ?he ?hQ (fun _ => by with_unfolding_all rfl)
  case co => rfl
  case clos => rfl
  case cell => decide
  case h0 => rfl
  case hx => rfl
  case hk => rfl
  case room => show dp + 1 < recursionLimit; omega
  case it =>
    iterate 1 (walk_at "ks")
    exact ⟨rfl, rfl⟩
  case he =>
    intro C code A' E' i v s₂ m₂ hA hp hi hn hm
    obtain ⟨c, hc⟩ : ∃ c, ch[i]? = some c := ⟨_, List.getElem?_eq_getElem (by rw [← hvl, Array.length_toList]; exact (Array.getElem?_eq_some_iff.mp hi).1)⟩
    obtain ⟨u, hu⟩ := VA_get hva hc
    have hi' : vs[i]? = some (.str (S c) u) := by rw [← hu]; simp
    rw [hi] at hi'
    obtain rfl := Option.some.inj hi'
    have hcl' : (S c).length ≤ 64 := by rw [len_list]; exact hcl c (List.mem_of_getElem? hc)
    refine wpAny_mono (dash_elt hp hn hm hcl' rfl rfl rfl rfl) (fun y s₃ h₃ => ?_) fun _ _ e => e
    obtain ⟨⟨u, rfl⟩, hk3⟩ := h₃
    exact ⟨⟨c, hc, u, rfl⟩, hk3⟩
  case hQ =>
    intro ps' aa s₅ K hps F5 N5 G5 hos hp5 hLK hKn hgen
    iterate 1 (walk_at "ks")
    have hvs : vs.size = ch.length := by rw [← Array.length_toList, hvl]
    have hmap : (List.range vs.size).map (fun j => esc2 (ch.getD j [])) = ch.map esc2 := by rw [hvs]; exact map_range9 ch esc2
    refine join_rowsK F5 G5 hgen hLK (fun j => esc2 (ch.getD j [])) ?_ ?_ ?_ ?_
    · rintro j v ⟨c, hc, u, rfl⟩
      exact ⟨u, by rw [List.getD_eq_getElem?_getD, hc]; rfl⟩
    · rw [hmap]
      have h1 := esc2_sum ch hcl hcd
      refine joinOk_of ?_
      rw [List.length_map]
      have h2 : ("-" : Str).length = 1 := by decide +kernel
      rw [h2]
      omega
    · rw [hmap]
      intro s' t' F6 G6 os6 hk6
      have N6 : News g L s'.heap ((c0, listOf vs e) :: gg (tabObj ps')) := fun q hq => ⟨hk6 _ _ (hKn q hq) (N5 q hq).1, (N5 q hq).2⟩
      k_steps
      (with_reducible rename Fr _ _ _ _ => F7)
      (with_reducible rename News _ _ _ _ => N7)
      refine hk _ _ t' (ht.next (by decide) hps) (frc F7 fun y => ?_) N7 G6 (os6.trans hos) (by assumption)
      by_cases hy : y = Str.ofString "stuff"
      · rw [if_pos hy, if_pos hy]
      · rw [if_neg hy, if_neg hy]; exact congrFun (ov1 hch) y
    · rw [hvs]; unfold sizeLine; omega
end B6
end Mine
theorem Mine.off_B7 : True := by w_top off; trivial
namespace Mine
section B7
variable {w : World} {p : Program} {loose : List Str} {mean : ExcName → Option Value} {mg mb : Str → Option Value} {dp un : Nat} {gd : Option (List Code)} {cn : Str} {cs : Scope} {a : Addr} {ccd : Value} {cl : List (Str × Addr)} {outer : List Env} {A₀ : Around} {base g : Heap} {L0 L : Addr} {m : Str → Option Value} {news : List (Addr × Obj)} {gg : Obj → List (Addr × Obj)} {s : Shared}
    {Q : Flow → Shared → Prop} {pat : Str} {t1 ti tn tj tk : Tok} {i j k : Int} {ps : Array Value}
theorem hy_all (B : Below (ktrTop dp un gd cn cs L0 a ccd cl outer) base (envX cn cs L0 a ccd cl :: outer) g) (F : Fr g L s.heap m) (X : (hd.heap_1 w.params).In g) (N : News g L s.heap news) (T : Top p loose mean mg mb g) (G : AllBare s.gens) (Cc : CodeHd g 103 99)
  (U : UpdF 99 (tabObj ps) news gg) {cod : List (Addr × Obj)} (ht : TabOK ps cod)
  (hpat : m (Str.ofString "pat") = some (.str pat t1)) (hi : m (Str.ofString "i") = some (.int i ti)) (hj : m (Str.ofString "j") = some (.int j tj))
  (hp : pat.length ≤ 64) (h0 : 0 ≤ i) (h2 : i < j) (h3 : j < pat.length) {n0 : Nat} (hn0 : 0 < n0) (hpos : n0 ≤ s.toks) (hdp : dp + 10 < recursionLimit) (hun : un + 80 < cLine)
  (H : HypOK pat.cps.toList) (hf : pat.cps.toList[i.toNat]? ≠ some 45) (hf2 : pat.cps.toList[j.toNat]? = some 93)
  (hk : ∀ s' ps' t m', TabOK ps' cod → Fr g L s'.heap m' → m' (Str.ofString "stuff") = some (.str (S (StrLaws.dbl 92 (cut pat.cps.toList i.toNat j.toNat))) t) →
     (∀ y, y ≠ Str.ofString "stuff" → y ≠ Str.ofString "k" → y ≠ Str.ofString "i" → y ≠ Str.ofString "chunks" → y ≠ Str.ofString "chunk" → m' y = m y) →
     News g L s'.heap (gg (tabObj ps')) → AllBare s'.gens → s'.os = s.os → n0 ≤ s'.toks → Q .next s') :
  wpAny (model Challenge.rw_ij0082_01.row.prog w) ((ktrTop dp un gd cn cs L0 a ccd cl outer).deeper (trEnv L)) (execs hyBody (trEnv L)) Q (fun _ _ => False) s := by
  refine hy_pre B F X N T hpat hi hj hp h0 h2 h3 hn0 hpos hdp hun H hf hf2 fun c0 vs e ch i' k' m1 h1 tk1 hc hva hci hij hno hp1 F1 hmc ⟨tq, hmi⟩ hmo N1 => ?_
  have hlen : pat.cps.toList.length ≤ 64 := by rw [← len_list]; exact hp
  have hjl : j.toNat < pat.cps.toList.length := by rw [← len_list]; omega
  have hle := hci.le
  have hcut : (cut pat.cps.toList i.toNat i').length ≤ 64 := by rw [cut_len (by omega)]; omega
  have hcnt : ch.length ≤ 62 := by have := hci.count; omega
  have hvl := VA_len hva
  have hvs : vs.size ≤ 64 := by rw [← Array.length_toList, hvl]; omega
  have hmp : m1 (Str.ofString "pat") = some (.str pat t1) := (hmo _ (by decide +kernel) (by decide +kernel) (by decide +kernel)).trans hpat
  have hmj : m1 (Str.ofString "j") = some (.int j tj) := (hmo _ (by decide +kernel) (by decide +kernel) (by decide +kernel)).trans hj
  refine hy_a (s := { s with heap := h1, toks := tk1 }) B F1 X N1 T hmp hmi hmj hmc hp (by omega) (by omega) h3 hvs hc hn0 hp1 hdp hun fun t m2 h4 tk4 hp2 F2 hm2 N2 => ?_
  have e1 : (i' : Int).toNat = i' := by omega
  rw [e1] at N2
  have hva2 : VA (vs.push (.str (S (cut pat.cps.toList i' j.toNat)) t)).toList (ch ++ [cut pat.cps.toList i' j.toNat]) := by
    rw [Array.toList_push]; exact VA_snoc hva
  have hmc2 : m2 (Str.ofString "chunks") = some (.ref c0) := (hm2 _ (by decide +kernel)).trans hmc
  have hlast45 : 45 ∉ cut pat.cps.toList i' j.toNat := by
    intro hx
    obtain ⟨v, a1, a2, a3⟩ := cut_mem hx
    by_cases hv : v < k'
    · exact hci.none v a1 hv a3
    · exact hno v (by omega) a2 a3
  have hall45 : ∀ c ∈ ch ++ [cut pat.cps.toList i' j.toNat], 45 ∉ c := fun c hcm => by
    rcases List.mem_append.mp hcm with h | h
    · exact (hci.good c h).2
    · rw [List.mem_singleton.mp h]; exact hlast45
  refine hy_b (s := { s with heap := h4, toks := tk4 }) B F2 X N2 T hmc2 hva2 (by simp; omega) (by simp) (fun c hcm => ?_) (fun c hcm => ?_) hc hn0 hp2 hdp hun fun m3 h5 tk5 hp3 F3 hm3 N3 => ?_
  · rw [List.dropLast_concat] at hcm
    exact (hci.good c hcm).1
  · cases hch : ch with
    | nil => rw [hch] at hcm; simp at hcm
    | cons x r =>
      rw [hch] at hcm
      have hcm' : c ∈ r ++ [cut pat.cps.toList i' j.toNat] := by simpa using hcm
      rcases List.mem_append.mp hcm' with h | h
      · exact hci.heads c (by rw [hch]; exact h)
      · rw [List.mem_singleton.mp h, cut_head hij]
        exact hci.hd (by rw [hch]; exact List.cons_ne_nil _ _)
  have hmc3 : m3 (Str.ofString "chunks") = some (.ref c0) := (hm3 _ (by decide +kernel)).trans hmc2
  refine hy_c (s := { s with heap := h5, toks := tk5 }) B F3 X N3 T G Cc U ht hmc3 hva2 (by simp; omega) (fun c hcm => ?_) hall45 hc hn0 hp3 hdp hun fun s' ps' t5 ht5 F5 N5 G5 os5 hp5 => ?_
  · rcases List.mem_append.mp hcm with h | h
    · have := mem_flat_len h
      rw [hci.flat] at this
      omega
    · rw [List.mem_singleton.mp h, cut_len (by omega)]; omega
  · refine hk s' ps' t5 _ ht5 F5 ?_ (fun y a1 a2 a3 a4 a5 => ?_) (nwt N5) G5 os5 hp5
    · rw [if_pos rfl, join_dash ch _ (fun c hcm => (hci.good c hcm).2) hlast45, hci.flat, cut_app hle (by omega)]
    · rw [if_neg a1, hm3 y a2, hm2 y a5, hmo y a2 a3 a4]
end B7
end Mine
theorem Mine.off_B8 : True := by w_top off; trivial
namespace Mine
section B8
variable {w : World} {p : Program} {loose : List Str} {mean : ExcName → Option Value} {mg mb : Str → Option Value} {dp un : Nat} {gd : Option (List Code)} {cn : Str} {cs : Scope} {a : Addr} {ccd : Value} {cl : List (Str × Addr)} {outer : List Env} {A₀ : Around} {base g : Heap} {L0 L : Addr} {m : Str → Option Value} {news : List (Addr × Obj)} {gg : Obj → List (Addr × Obj)} {s : Shared}
    {Q : Flow → Shared → Prop} {x : Str} {t1 ti tn tj tk : Tok} {i j k : Int} {ps : Array Value} {cod : List (Addr × Obj)}
theorem el_sub (B : Below (ktrTop dp un gd cn cs L0 a ccd cl outer) base (envX cn cs L0 a ccd cl :: outer) g) (F : Fr g L s.heap m) (X : (hd.heap_1 w.params).In g) (N : News g L s.heap news) (T : Top p loose mean mg mb g) (G : AllBare s.gens) (Cc : CodeHd g 103 99)
  (U : UpdF 99 (tabObj ps) news gg) (ht : TabOK ps cod) (hcod : ∀ q ∈ cod, q ∈ news)
  (hst : m (Str.ofString "stuff") = some (.str x t1)) (hx : x.length ≤ 256) {n0 : Nat} (hn0 : 0 < n0) (hpos : n0 ≤ s.toks) (hdp : dp + 10 < recursionLimit) (hun : un + 80 < cLine)
  (hk : ∀ h' tk' ps' c' oc t, TabOK ps' [(c', oc)] → Fr g L h' (fun y => if y = Str.ofString "stuff" then some (.str (S (ampE x.cps.toList)) t) else m y) → News g L h' ((c', oc) :: gg (tabObj ps')) → n0 ≤ tk' →
    wpAny (model Challenge.rw_ij0082_01.row.prog w) ((ktrTop dp un gd cn cs L0 a ccd cl outer).deeper (trEnv L)) (execs (elBody.drop 3) (trEnv L)) Q (fun _ _ => False) { s with heap := h', toks := tk' }) :
  wpAny (model Challenge.rw_ij0082_01.row.prog w) ((ktrTop dp un gd cn cs L0 a ccd cl outer).deeper (trEnv L)) (execs (elBody.drop 2) (trEnv L)) Q (fun _ _ => False) s := by
  have F1 := fr1 F hst
  have h85 : g.get? 85 = some (patObj 84) := X _ _ rfl
  have h84 : g.get? 84 = some codeTup := X _ _ rfl
  show wpAny _ _ (execs (_ :: _) (envOf _ _ _ _ _)) _ _ _
  refine seqE F1 hpos (fun m' news' => ∃ ps' c' oc t, TabOK ps' [(c', oc)] ∧ m' = (fun y => if y = Str.ofString "stuff" then some (.str (S (ampE x.cps.toList)) t) else (if y = Str.ofString "stuff" then some (.str x t1) else m y)) ∧ news' = (c', oc) :: gg (tabObj ps')) ?_ ?_
  · iterate 3 (walk_at "ks")
    refine getMethod_builtin (T := "re.Pattern") (id := "re.Pattern.sub") ⟨_, F1.keep _ _ h85, rfl⟩ pa_pattern slot_sub type_sub (fun a e => by cases e; exact ⟨_, F1.keep _ _ h85, rfl⟩) ?_
    iterate 2 (walk_at "ks")
    refine withToks (by first | exact Nat.lt_of_lt_of_le hn0 hpos | exact Nat.succ_pos _ | omega) (kla_eval rfl ?_)
    refine lam_make F1 N T Cc rfl U ht hcod rfl fun f c' oc vs t ctv ps' h' tk' ht' F' N' hd hv l1 l2 hp' => ?_
    iterate 3 (walk_at "ks")
    refine call_meetsIn slot_sub ⟨_, F'.keep _ _ h85, rfl⟩ entry_sub (args_sub _ _ _) (meets_sub _ _ 85 84 f x t1 _ rfl) ⟨F'.keep _ _ h85, F'.keep _ _ h84, (N' _ (List.Mem.head _)).1, ?_⟩
    have hD := news_lt N'
    refine sub_loop (s := { s with heap := h', toks := tk' }) h85 h84 hx hD ?_ ?_ _ 0 (h'.push (listOf #[] 0)) tk' [] 0 0 rfl ⟨Nat.zero_le _, by unfold cut; simp [catS, ampE], Nat.le_refl _⟩ (F'.push _) (News.push F' N' _) hp'
    · intro s₁ kk c fa ta D pc e1 F2 N2 hc ha hp2 hD1 hD2 hD3
      refine wpAny_call (kla_code (env := trEnv L) (binds := [(Str.ofString "_m", .ref fa)]) B F2 X N2 T rfl rfl rfl (.tail _ (.tail _ (.tail _ (.head _)))) ⟨c', oc, vs, t, rfl, (N2 _ (.tail _ (.tail _ (.tail _ (.tail _ (.head _)))))).1, hd, hv⟩ (by show dp + 1 < recursionLimit; omega) rfl (locs rfl) ?_ rfl rfl rfl (by decide))
      intro g2 L2 h₁ FG F0 N3 B3 X3 T3
      have F3 : Fr g2 L2 h₁ (fun y => List.lookup y [(Str.ofString "_m", Value.ref fa)]) := F0
      clear F0 B F F1 F' N' N2
      iterate 5 (walk_at "ks")
      refine getMethod_builtin (T := "re.Match") (id := "re.Match.group") ⟨_, (N3 _ (.head _)).1, rfl⟩ pa_match slot_group type_group (fun a e => by cases e; exact ⟨_, (N3 _ (.head _)).1, rfl⟩) ?_
      iterate 4 (walk_at "ks")
      have e1 := (N3 _ (.head _)).1
      have e2 := (N3 _ (.tail _ (.head _))).1
      dsimp only at e1 e2
      show wpAny _ _ (call (.builtin "re.Match.group") [.ref fa, .int 1 _]) _ _ _
      refine call_group (ta := ta) (pa := 85) (x := x) (t := t1) (n := x.cps.size) (k := kk) hc ?_ ?_ ?_
      · exact e1
      · exact e2
      refine KXt.truthy_pos (K := 1) (Nat.le_refl 1) (Nat.le_refl 1) (by omega) fun tk8 => ?_
      rw [if_pos rfl]
      show wpAny _ _ (binaryOp .Add (.str _ _) (.str _ _)) _ _ _
      refine PyProof.Rows.add_str (fun t' tk9 => ?_) (by show 1 + 1 ≤ sizeLine; decide)
      refine leaveK_ F3 N3 fun kF kN => ?_
      refine ⟨t', _, _, ?_, rfl, kF, fun q hq => kN q (.tail _ (.tail _ hq))⟩
      rw [lit_bs, S_app5]; rfl
    · intro h2 tk2 u F2 N2
      show wpAny _ _ (storeName _ _ _) _ _ _
      walk_at "ks"
      (with_reducible rename Fr _ _ _ _ => F7)
      (with_reducible rename News _ _ _ _ => N7)
      exact postE ⟨ps', c', oc, u, ht', rfl, rfl⟩ F7 (nwt N7)
  · rintro _ _ h' tk' ⟨ps', c', oc, t, ht', rfl, rfl⟩ hp' F' N'
    refine hk h' tk' ps' c' oc t ht' (frc F' fun y => ?_) N' hp'
    by_cases hy : y = Str.ofString "stuff"
    · rw [if_pos hy, if_pos hy]
    · rw [if_neg hy, if_neg hy, if_neg hy]
end B8
end Mine
theorem Mine.off_B9 : True := by w_top off; trivial
namespace Mine
section B9
variable {w : World} {p : Program} {loose : List Str} {mean : ExcName → Option Value} {mg mb : Str → Option Value} {dp un : Nat} {gd : Option (List Code)} {cn : Str} {cs : Scope} {a : Addr} {ccd : Value} {cl : List (Str × Addr)} {outer : List Env} {A₀ : Around} {base g : Heap} {L0 L : Addr} {m : Str → Option Value} {news : List (Addr × Obj)} {gg : Obj → List (Addr × Obj)} {s : Shared}
    {Q : Flow → Shared → Prop} {pat : Str} {t1 ti tn tj tk : Tok} {i j k : Int} {ps : Array Value} {cod : List (Addr × Obj)}
theorem upd_same {d : Addr} {o : Obj} {l : List (Addr × Obj)} {f : Obj → List (Addr × Obj)} (U : UpdF d o l f) : l = f o := by
  obtain ⟨pre, post, a, b, _⟩ := U.split
  rw [a, b]
theorem el_one (B : Below (ktrTop dp un gd cn cs L0 a ccd cl outer) base (envX cn cs L0 a ccd cl :: outer) g) (F : Fr g L s.heap m) (X : (hd.heap_1 w.params).In g) (N : News g L s.heap news) (T : Top p loose mean mg mb g) (G : AllBare s.gens) (Cc : CodeHd g 103 99)
  (U : UpdF 99 (tabObj ps) news gg) (ht : TabOK ps cod)
  (hpat : m (Str.ofString "pat") = some (.str pat t1)) (hi : m (Str.ofString "i") = some (.int i ti)) (hj : m (Str.ofString "j") = some (.int j tj))
  (hp : pat.length ≤ 64) (h0 : 0 ≤ i) (h2 : i ≤ j) (h3 : j < pat.length) {n0 : Nat} (hn0 : 0 < n0) (hpos : n0 ≤ s.toks) (hdp : dp + 10 < recursionLimit) (hun : un + 80 < cLine)
  (H : HypOK pat.cps.toList) (hf : pat.cps.toList[i.toNat]? ≠ some 45) (hf2 : pat.cps.toList[j.toNat]? = some 93)
  (hk : ∀ s' ps' t m', TabOK ps' cod → Fr g L s'.heap m' → m' (Str.ofString "stuff") = some (.str (S (StrLaws.dbl 92 (cut pat.cps.toList i.toNat j.toNat))) t) →
     (∀ y, y ≠ Str.ofString "stuff" → y ≠ Str.ofString "k" → y ≠ Str.ofString "i" → y ≠ Str.ofString "chunks" → y ≠ Str.ofString "chunk" → m' y = m y) →
     News g L s'.heap (gg (tabObj ps')) → AllBare s'.gens → s'.os = s.os → n0 ≤ s'.toks →
     wpAny (model Challenge.rw_ij0082_01.row.prog w) ((ktrTop dp un gd cn cs L0 a ccd cl outer).deeper (trEnv L)) (execs (elBody.drop 2) (trEnv L)) Q (fun _ _ => False) s') :
  wpAny (model Challenge.rw_ij0082_01.row.prog w) ((ktrTop dp un gd cn cs L0 a ccd cl outer).deeper (trEnv L)) (execs elBody (trEnv L)) Q (fun _ _ => False) s := by
  have F1 := fr3 F hpat hi hj
  have hsl : Txt.slice pat (some i) (some j) = S (cut pat.cps.toList i.toNat j.toNat) := by
    rw [slice_eq h0 (by omega) (by omega)]
    unfold cut
    congr 2; congr 1; omega
  have hlen : (S (cut pat.cps.toList i.toNat j.toNat)).length = j.toNat - i.toNat := by
    rw [len_list]
    have := cut_len (l := pat.cps.toList) (i := i.toNat) (j := j.toNat) (by rw [← len_list]; omega)
    simpa using this
  have hjl : j.toNat < pat.cps.toList.length := by rw [← len_list]; omega
  show wpAny _ _ (execs (_ :: _) (envOf _ _ _ _ _)) _ _ _
  refine seqE F1 hpos (fun m' news' => ∃ t, m' = (fun y => if y = Str.ofString "stuff" then some (.str (S (cut pat.cps.toList i.toNat j.toNat)) t) else (if y = Str.ofString "pat" then some (.str pat t1) else if y = Str.ofString "i" then some (.int i ti) else if y = Str.ofString "j" then some (.int j tj) else m y)) ∧ news' = news) ?_ ?_
  · k_steps
    ((refine' Mine.postE ?hp9pe8 ?F9pe8 ?N9pe8; (case F9pe8 => assumption); (case N9pe8 => assumption)))
    rw [hsl]
    exact ⟨_, rfl, rfl⟩
  rintro _ _ h' tk' ⟨t, rfl, rfl⟩ hpos2 F2 N2
  clear F1 N
  refine seqS F2 n0 (fun m' news' => ∃ ps' t, TabOK ps' cod ∧ m' (Str.ofString "stuff") = some (.str (S (StrLaws.dbl 92 (cut pat.cps.toList i.toNat j.toNat))) t) ∧
     (∀ y, y ≠ Str.ofString "stuff" → y ≠ Str.ofString "k" → y ≠ Str.ofString "i" → y ≠ Str.ofString "chunks" → y ≠ Str.ofString "chunk" → m' y = m y) ∧ news' = gg (tabObj ps')) ?_ ?_
  · refine withTokN hpos2 ?_
    iterate 5 (walk_at "ks")
    rw [lit_dash, has_one, Bool.not_not]
    refine wpAny_truthy_bool ?_
    by_cases h45 : 45 ∈ cut pat.cps.toList i.toNat j.toNat
    · rw [if_neg (by simpa using h45)]
      have hij : i < j := by
        rcases Int.lt_or_le i j with h | h
        · exact h
        · exfalso
          have : cut pat.cps.toList i.toNat j.toNat = [] := by unfold cut; rw [show j.toNat - i.toNat = 0 by omega]; simp
          rw [this] at h45; cases h45
      have e9 := fun y => congrFun (ov3 hpat hi hj) y
      refine hy_all (s := { s with heap := h', toks := _ }) B F2 X N2 T G Cc U ht rfl rfl rfl hp h0 hij h3 hn0 (Nat.le_succ_of_le hpos2) hdp hun H hf hf2 fun s' ps' t' m' ht' F' hst' hm' N' G' os' hp' _ => ?_
      exact ⟨rfl, m', _, ⟨ps', t', ht', hst', fun y a1 a2 a3 a4 a5 => by rw [hm' y a1 a2 a3 a4 a5, if_neg a1]; exact e9 y, rfl⟩, F', N', G', os', hp'⟩
    · rw [if_pos (by simpa using h45)]
      rw [execs_cons]
      refine wpAny_bind ?_
      iterate 1 (walk_at "ks")
      refine repl_call (by decide +kernel) (by decide +kernel) rfl rfl (withToks (Nat.succ_pos _) ?_)
      walk_at "ks"
      refine fun hp7 => ⟨_, _, rfl, by omega, hp7, fun t' k' => ?_⟩
      show wpAny _ _ (storeName _ _ (.str _ _)) _ _ _
      rw [bs_eq]
      k_steps
      (with_reducible rename Fr _ _ _ _ => F7)
      (with_reducible rename News _ _ _ _ => N7)
      have hgg := upd_same U
      have e9 := fun y => congrFun (ov3 hpat hi hj) y
      exact ⟨rfl, _, _, ⟨ps, t', ht, rfl, fun y a1 a2 a3 a4 a5 => by simp only [if_neg a1]; exact e9 y, hgg⟩, F7, N7, G, rfl, by assumption⟩
  · rintro m' _ s' ⟨ps', t', ht', e1, e2, rfl⟩ hp' G' os' F' N'
    exact hk s' ps' t' m' ht' F' e1 e2 N' G' os' hp'
end B9
end Mine
theorem Mine.off_B11 : True := by w_top off; trivial
namespace Mine
section B11
variable {w : World} {p : Program} {loose : List Str} {mean : ExcName → Option Value} {mg mb : Str → Option Value} {dp un : Nat} {gd : Option (List Code)} {cn : Str} {cs : Scope} {a : Addr} {ccd : Value} {cl : List (Str × Addr)} {outer : List Env} {A₀ : Around} {base g : Heap} {L0 L : Addr} {m : Str → Option Value} {rest : List (Addr × Obj)} {s : Shared}
    {Q : Flow → Shared → Prop} {pat : Str} {t1 ti tn tj tk : Tok} {i0 : Nat} {ps : Array Value} {cod : List (Addr × Obj)} {r0 q0 : Addr} {vs : Array Value} {e : Nat}
theorem updF_app {d : Addr} {o : Obj} {f : Obj → List (Addr × Obj)} : ∀ {pre l : List (Addr × Obj)}, (∀ q ∈ pre, q.1 ≠ d) → UpdF d o l f → UpdF d o (pre ++ l) (fun o' => pre ++ f o')
  | [], _, _, U => U
  | x :: pre, l, h, U => .tail (h x (.head _)) (updF_app (fun q hq => h q (.tail _ hq)) U)
noncomputable def led (cod : List (Addr × Obj)) (ps : Array Value) (vs : Array Value) (e : Nat) (q0 r0 : Addr) (rest : List (Addr × Obj)) : List (Addr × Obj) := cod ++ (99, tabObj ps) :: (r0, listOf vs e) :: (q0, bmObj "list.append" (.ref r0)) :: rest
structure LedOK (q0 r0 : Addr) (rest : List (Addr × Obj)) : Prop where
  a : r0 ≠ 99
  b : q0 ≠ 99
  c : q0 ≠ r0
  d : ∀ q ∈ rest, q.1 ≠ 99 ∧ q.1 ≠ r0
theorem cod_ne {news : List (Addr × Obj)} {h : Heap} (N : News g L h news) (ht : TabOK ps cod) (hc : ∀ q ∈ cod, q ∈ news) (h99 : (99, tabObj ps) ∈ news) (hr : (r0, listOf vs e) ∈ news) : ∀ q ∈ cod, q.1 ≠ 99 ∧ q.1 ≠ r0 := by
  intro q hq
  rcases ht.lam with ⟨_, rfl⟩ | ⟨c', oc, ws, t, _, rfl, hd, hv⟩
  · cases hq
  · obtain rfl := List.mem_singleton.mp hq
    have h1 := (N _ (hc _ hq)).1
    refine ⟨fun e9 => ?_, fun e9 => ?_⟩
    · have h2 := (N _ h99).1
      dsimp only at h1 h2 e9
      rw [e9, h2] at h1
      obtain rfl := Option.some.inj h1
      have e8 : ps = ws := by simpa using hd
      subst e8
      have ht := ht.trip
      cases hl : ps.toList with
      | nil => rw [← Array.getElem?_toList, hl] at hv; simp at hv
      | cons x r =>
        cases r with
        | nil => rw [← Array.getElem?_toList, hl] at hv; simp at hv
        | cons y r =>
          rw [← Array.getElem?_toList, hl] at hv
          simp at hv
          subst hv
          rw [hl] at ht
          cases x <;> simp [TriplesOk] at ht
    · have h2 := (N _ hr).1
      dsimp only at h1 h2 e9
      rw [e9, h2] at h1
      obtain rfl := Option.some.inj h1
      cases hd
theorem led99 (O : LedOK q0 r0 rest) (hc : ∀ q ∈ cod, q.1 ≠ 99 ∧ q.1 ≠ r0) : UpdF 99 (tabObj ps) (led cod ps vs e q0 r0 rest) (fun o => cod ++ (99, o) :: (r0, listOf vs e) :: (q0, bmObj "list.append" (.ref r0)) :: rest) :=
  updF_app (fun q hq => (hc q hq).1) (.head fun q hq => by
    rcases List.mem_cons.mp hq with rfl | hq
    · exact O.a
    · rcases List.mem_cons.mp hq with rfl | hq
      · exact O.b
      · exact (O.d q hq).1)
theorem ledR (O : LedOK q0 r0 rest) (hc : ∀ q ∈ cod, q.1 ≠ 99 ∧ q.1 ≠ r0) : UpdF r0 (listOf vs e) (led cod ps vs e q0 r0 rest) (fun o => cod ++ (99, tabObj ps) :: (r0, o) :: (q0, bmObj "list.append" (.ref r0)) :: rest) :=
  updF_app (fun q hq => (hc q hq).2) (.tail (Ne.symm O.a) (.head fun q hq => by
    rcases List.mem_cons.mp hq with rfl | hq
    · exact O.c
    · exact (O.d q hq).2))
theorem led_q : (q0, bmObj "list.append" (.ref r0)) ∈ led cod ps vs e q0 r0 rest := List.mem_append_right _ (.tail _ (.tail _ (.head _)))
theorem scan_nat (h1 : i0 ≤ pat.length) {k : Int} (hj : ScanJ pat i0 k) : ∃ kN : Nat, k = kN ∧ kN ≤ pat.cps.toList.length ∧ i0 ≤ kN ∧ (kN < pat.cps.toList.length → shut pat.cps.toList i0 = some kN) ∧ (kN = pat.cps.toList.length → shut pat.cps.toList i0 = none) := by
  obtain ⟨j, j2, a1, a2, a3, b1, b2, b3, c1, c2, c3, c4⟩ := hj
  have hl := len_list pat
  have hc : ∀ (v : Int), 0 ≤ v → v < pat.length → ∀ (c : Nat) (lit : Str), lit = S [c] → ((Txt.item pat v == lit) = true ↔ pat.cps.toList[v.toNat]? = some c) := fun v h0 h1 c lit hlit => by
    rw [item_is h0 h1 hlit]; exact decide_eq_true_iff
  have hout : ∀ (v : Int) (c : Nat), 0 ≤ v → ¬ v < pat.length → pat.cps.toList[v.toNat]? ≠ some c := fun v c h0 h1 e => by
    have := (List.getElem?_eq_some_iff.mp e).1; omega
  have e1 : j.toNat = if pat.cps.toList[i0]? = some 33 then i0 + 1 else i0 := by
    by_cases hi : (i0 : Int) < pat.length
    · have := hc i0 (by omega) hi 33 _ lit_bang
      rw [Int.toNat_natCast] at this
      by_cases hx : pat.cps.toList[i0]? = some 33
      · rw [if_pos ⟨hi, this.mpr hx⟩] at a3; rw [if_pos hx]; omega
      · rw [if_neg (fun z => hx (this.mp z.2))] at a3; rw [if_neg hx]; omega
    · have := hout i0 33 (by omega) hi
      rw [Int.toNat_natCast] at this
      rw [if_neg (fun z => hi z.1)] at a3; rw [if_neg this]; omega
  have e2 : j2.toNat = if pat.cps.toList[j.toNat]? = some 93 then j.toNat + 1 else j.toNat := by
    by_cases hi : j < pat.length
    · have := hc j (by omega) hi 93 _ lit_shut
      by_cases hx : pat.cps.toList[j.toNat]? = some 93
      · rw [if_pos ⟨hi, this.mpr hx⟩] at b3; rw [if_pos hx]; omega
      · rw [if_neg (fun z => hx (this.mp z.2))] at b3; rw [if_neg hx]; omega
    · have := hout j 93 (by omega) hi
      rw [if_neg (fun z => hi z.1)] at b3; rw [if_neg this]; omega
  have key := scan_shut (l := pat.cps.toList) (i := i0) (k := k.toNat) e1 e2 (by omega) (by omega) (fun v x y ez => by
    have := c3 v (by omega) (by omega)
    have hh := (hc v (by omega) (by omega) 93 _ lit_shut).mpr (by rw [Int.toNat_natCast]; exact ez)
    rw [hh] at this; cases this) (fun hk => (hc k (by omega) (by omega) 93 _ lit_shut).mp (c4 (by omega)))
  exact ⟨k.toNat, by omega, by omega, by omega, key.1, key.2⟩
theorem br_all (B : Below (ktrTop dp un gd cn cs L0 a ccd cl outer) base (envX cn cs L0 a ccd cl :: outer) g) (F : Fr g L s.heap m) (X : (hd.heap_1 w.params).In g) (N : News g L s.heap (led cod ps vs e q0 r0 rest)) (T : Top p loose mean mg mb g) (G : AllBare s.gens) (Cc : CodeHd g 103 99)
  (O : LedOK q0 r0 rest) (ht : TabOK ps cod)
  (hpat : m (Str.ofString "pat") = some (.str pat t1)) (hi : m (Str.ofString "i") = some (.int (i0 : Int) ti)) (hn : m (Str.ofString "n") = some (.int pat.length tn)) (hadd : m (Str.ofString "add") = some (.ref q0))
  (hp : pat.length ≤ 64) (h1 : i0 ≤ pat.length) (hv : vs.size ≤ 64) {n0 : Nat} (hn0 : 0 < n0) (hpos : n0 ≤ s.toks) (hdp : dp + 10 < recursionLimit) (hun : un + 80 < cLine)
  (H : HypOK pat.cps.toList) (hf : pat.cps.toList[i0]? ≠ some 45)
  (hk : ∀ s' ps' cod' t ti m' x i', (i', x) = (match shut pat.cps.toList i0 with | some k => (k + 1, clsT (cut pat.cps.toList i0 k)) | none => (i0, [92, 91])) → TabOK ps' cod' → Fr g L s'.heap m' → m' (Str.ofString "i") = some (.int ((i' : Nat) : Int) ti) →
     (∀ y, y ≠ Str.ofString "stuff" → y ≠ Str.ofString "k" → y ≠ Str.ofString "i" → y ≠ Str.ofString "chunks" → y ≠ Str.ofString "chunk" → y ≠ Str.ofString "j" → m' y = m y) →
     News g L s'.heap (led cod' ps' (vs.push (.str (S x) t)) (e + 1) q0 r0 rest) → AllBare s'.gens → s'.os = s.os → n0 ≤ t → n0 ≤ s'.toks → Q .next s') :
  wpAny (model Challenge.rw_ij0082_01.row.prog w) ((ktrTop dp un gd cn cs L0 a ccd cl outer).deeper (trEnv L)) (execs brBody (trEnv L)) Q (fun _ _ => False) s := by
  refine br_scan B F X N T hpat hi hn hp (by omega) (by omega) hpos hdp hun fun j tj h2 tk2 hpos2 hj F2 N2 => ?_
  obtain ⟨k, rfl, hkl, hik, hs1, hs2⟩ := scan_nat h1 hj
  have lot := LoT.mk hpos2
  have hl := len_list pat
  have e0 : ∀ {y v}, y ≠ Str.ofString "j" → m y = some v → (if y = Str.ofString "j" then some (Value.int (k : Int) tj) else m y) = some v := fun a b => by rw [if_neg a]; exact b
  have F3 := fr5 F2 (e0 (by decide +kernel) hpat) (e0 (by decide +kernel) hi) (e0 (by decide +kernel) hn) (e0 (by decide +kernel) hadd) (show (if Str.ofString "j" = Str.ofString "j" then some (Value.int (k : Int) tj) else m (Str.ofString "j")) = some _ from if_pos rfl)
  clear F2
  show wpAny _ _ (execs (_ :: _) (envOf _ _ _ _ _)) _ _ _
  iterate 7 (walk_at "ks")
  intro lot2
  have em : ∀ y, y ≠ Str.ofString "j" → (if y = Str.ofString "pat" then some (Value.str pat t1) else if y = Str.ofString "i" then some (.int (i0 : Int) ti) else if y = Str.ofString "n" then some (.int pat.length tn) else if y = Str.ofString "add" then some (.ref q0) else if y = Str.ofString "j" then some (Value.int (k : Int) tj) else if y = Str.ofString "j" then some (Value.int (k : Int) tj) else m y) = m y := fun y a => by
    rw [if_neg a, if_neg a]; exact congrFun (ov4 hpat hi hn hadd) y
  have hcod : ∀ {ps' : Array Value} {cod' : List (Addr × Obj)} {h' : Heap}, TabOK ps' cod' → News g L h' (led cod' ps' vs e q0 r0 rest) → ∀ q ∈ cod', q.1 ≠ 99 ∧ q.1 ≠ r0 := fun ht' N' => cod_ne N' ht' (fun q hq => List.mem_append_left _ hq) (List.mem_append_right _ (.head _)) (List.mem_append_right _ (.tail _ (.head _)))
  by_cases hjn : (pat.length : Int) ≤ k
  · rw [if_pos (decide_eq_true hjn)]
    have hnone := hs2 (by omega)
    rw [hnone] at hk
    iterate 4 (walk_at "ks")
    (with_reducible rename LoT _ _ => lot3)
    have lot7 := lot3.le
    refine add_call F3 (led_q (ps := ps) (e := e) (vs := vs) (rest := rest) (cod := cod)) (ledR (ps := ps) (e := e) (vs := vs) O (hcod ht N2)) hv ?_
    refine wpAny_Constant_str ?_
    refine ⟨F3, N2, fun h5 F5 N5 lot6 => ?_⟩
    walk_at "kss"
    refine hk _ ps cod _ ti _ _ _ rfl ht F5 rfl (fun y a1 a2 a3 a4 a5 a6 => em y a6) ?_ G rfl lot7 (Nat.le_succ_of_le lot7)
    exact N5
  · rw [if_neg (by simpa using hjn)]
    have hsome := hs1 (by omega)
    rw [hsome] at hk
    have hsl := shut_lt hsome
    refine el_one (gg := fun o => cod ++ (99, o) :: (r0, listOf vs e) :: (q0, bmObj "list.append" (.ref r0)) :: rest) (s := { s with heap := h2, toks := _ }) B F3 X N2 T G Cc (led99 O (hcod ht N2)) ht rfl rfl rfl hp (by omega) (by omega) (by omega) hn0 lot2.le hdp hun H (by rw [Int.toNat_natCast]; exact hf) (by rw [Int.toNat_natCast]; exact hsl.2.2.1) fun s' ps' t m' ht' F' hst' hm' N' G' os' hp' => ?_
    rw [Int.toNat_natCast, Int.toNat_natCast] at hst'
    have N6 : News g L s'.heap (led cod ps' vs e q0 r0 rest) := N'
    have hcl := cut_len (l := pat.cps.toList) (i := i0) (j := k) hkl
    have hd2 := dbl_len 92 (cut pat.cps.toList i0 k)
    have ha2 := ampE_len (StrLaws.dbl 92 (cut pat.cps.toList i0 k))
    have hc9 := cls_ok hsome
    refine el_sub (gg := fun o => cod ++ (99, o) :: (r0, listOf vs e) :: (q0, bmObj "list.append" (.ref r0)) :: rest) B F' X N6 T G' Cc (led99 O (hcod ht' N6)) ht' (fun q hq => List.mem_append_left _ hq) hst' (show (StrLaws.dbl 92 (cut pat.cps.toList i0 k)).length ≤ 256 by omega) hn0 hp' hdp hun fun h3 tk3 ps2 c' oc t2 ht2 F4 N4 hp3 => ?_
    have N7 : News g L h3 (led [(c', oc)] ps2 vs e q0 r0 rest) := nws N4 fun q hq => by
      rcases List.mem_cons.mp hq with rfl | hq
      · exact .head _
      · exact .tail _ (List.mem_append_right _ hq)
    refine el_end (s := { s' with heap := h3, toks := tk3 }) (gg := fun o => [(c', oc)] ++ (99, tabObj ps2) :: (r0, o) :: (q0, bmObj "list.append" (.ref r0)) :: rest) B F4 X N7 T (ledR O (hcod ht2 N7)) led_q (if_pos rfl) ((if_neg (by decide +kernel)).trans ((hm' _ (by decide +kernel) (by decide +kernel) (by decide +kernel) (by decide +kernel) (by decide +kernel)).trans rfl))
      ((if_neg (by decide +kernel)).trans ((hm' _ (by decide +kernel) (by decide +kernel) (by decide +kernel) (by decide +kernel) (by decide +kernel)).trans rfl)) hc9.1 hc9.2 (show (ampE (StrLaws.dbl 92 (cut pat.cps.toList i0 k))).length ≤ 1000 by omega) (by omega) (by omega) hn0 hp3 hv hdp hun fun t5 ti5 h5 tk5 m5 hp5 hp6 F5 hi5 hm5 N5 => ?_
    intro lot9
    walk_at "kss"
    refine hk _ ps2 [(c', oc)] t5 ti5 m5 _ _ rfl ht2 F5 hi5 (fun y a1 a2 a3 a4 a5 a6 => ?_) N5 G' os' hp5 hp6
    rw [hm5 y a1 a3, if_neg a1, hm' y a1 a2 a3 a4 a5]
    exact em y a6
end B11
end Mine
theorem Mine.off_E1 : True := by w_top off; trivial
namespace Mine
section E1
variable {w : World} {p : Program} {loose : List Str} {mean : ExcName → Option Value} {mg mb : Str → Option Value} {dp un : Nat} {gd : Option (List Code)} {cn : Str} {cs : Scope} {a : Addr} {ccd : Value} {cl : List (Str × Addr)} {outer : List Env} {A₀ : Around} {base h₀ : Heap} {L : Addr} {m : Str → Option Value} {news : List (Addr × Obj)} {s : Shared}
    {Q E : Value → Shared → Prop}
theorem esc_spec (B : Below A₀ base outer h₀) (F : Fr h₀ L s.heap m) (X : (hd.heap_1 w.params).In h₀) (N : News h₀ L s.heap news) (T : Top p loose mean mg mb h₀) (hk : cs.kind = .function)
  {c : Nat} (hc : c < 128) {n0 : Nat} (hpos : n0 ≤ s.toks) (t : Tok) (hdp : dp + 10 < recursionLimit) (hun : un + 80 < cLine)
  (hret : ∀ t h' tk', n0 ≤ t → n0 ≤ tk' → Fr h₀ L h' m → News h₀ L h' news → Q (.str (S (escC c)) t) { s with heap := h', toks := tk' }) :
  wpAny (model Challenge.rw_ij0082_01.row.prog w) (ktrTop dp un gd cn cs L a ccd cl outer) (call (.ref 97) [.str (S [c]) t]) Q E s := by
  refine PySem.wpAny_call ?_
  k_dflt ktr_enter
  refine Mine.no_exc ?_
  refine toks_genN (n := n0) (Nat.le_trans hpos (Nat.le_add_right _ _)) fun tk0 htk0 => ?_
  rw [execs_cons]
  refine wpAny_bind (wpAny_If ?_)
  iterate 12 (walk_at "ks")
  rw [execs_cons]
  refine wpAny_bind ?_
  walk_at "ks"
  refine Call_method1 rfl rfl rfl ?_
  iterate 1 (walk_at "ks")
  refine ⟨"str", "str.translate", PySem.F.plainAttrs_str, PySem.F.slot_str_translate, PySem.F.type_str_translate, typeIs_str _ _ _, (fun _ e => nomatch e), ?_⟩
  refine callWith_builtin (args := [(false, _)]) rfl (evalArgs_plain (spliced_cons ?_))
  iterate 1 (walk_at "ks")
  refine spliced_nil ?_
  rename_i g' L' h' FG' F' N' B' X' T' 
  have e87 : g'.get? 87 = some escObj := X' _ _ rfl
  show wpAny _ _ (call (Value.builtin "str.translate") [Value.str (S [c]) t, .ref 87] []) _ _ _
  refine call_meetsIn PySem.F.slot_str_translate (typeIs_str _ _ _) PySem.F.entry_str_translate (PySem.F.args_str_translate_2 _ _) (meets_translate c t hc) ⟨rfl, F'.keep _ _ e87, fun h2 tk2 hk2 htk2 => ?_⟩
  have F2 := F'.keeps hk2
  have N2 := N'.grown hk2
  refine PySem.wpAny_pure (PySem.wpAny_pure ?_)
  show LeaveK _ _ _ _ _ _ _
  exact leaveK_ F2 N2 fun kF kN => hret _ _ _ (Nat.le_trans htk0 htk2) (Nat.le_succ_of_le (Nat.le_trans htk0 htk2)) kF kN
end E1
end Mine
theorem Mine.off_B12 : True := by w_top off; trivial
namespace Mine
section B12
variable {w : World} {p : Program} {loose : List Str} {mean : ExcName → Option Value} {mg mb : Str → Option Value} {dp un : Nat} {gd : Option (List Code)} {cn : Str} {cs : Scope} {a : Addr} {ccd : Value} {cl : List (Str × Addr)} {outer : List Env} {A₀ : Around} {base g : Heap} {L0 L : Addr} {m : Str → Option Value} {rest : List (Addr × Obj)} {s : Shared}
    {Q : Flow → Shared → Prop} {pat : Str} {t1 ti tn tj tk tS tQ : Tok} {i0 : Nat} {ps : Array Value} {cod : List (Addr × Obj)} {r0 q0 : Addr} {vs : Array Value} {e : Nat} {out : List (List Nat)}
noncomputable def mwBody : List Stmt := subs [(3, 0)] trBody
/-- what the loop of `_translate` keeps of the frame's names -/
structure TrM (m : Str → Option Value) (pat : Str) (q0 r0 : Addr) (tS tQ : Tok) : Prop where
  fpat : ∃ t, m (Str.ofString "pat") = some (.str pat t)
  fn : ∃ t, m (Str.ofString "n") = some (.int pat.length t)
  add : m (Str.ofString "add") = some (.ref q0)
  res : m (Str.ofString "res") = some (.ref r0)
  star : m (Str.ofString "STAR") = some (.str (S [92, 42]) tS)
  qm : m (Str.ofString "QUESTION_MARK") = some (.str (S [92, 63]) tQ)
theorem TrM.next {m m' : Str → Option Value} (h : TrM m pat q0 r0 tS tQ)
    (hm : ∀ y, y ≠ Str.ofString "stuff" → y ≠ Str.ofString "k" → y ≠ Str.ofString "i" → y ≠ Str.ofString "chunks" → y ≠ Str.ofString "chunk" → y ≠ Str.ofString "j" → y ≠ Str.ofString "c" → m' y = m y) : TrM m' pat q0 r0 tS tQ := by
  have e : ∀ x : String, (Str.ofString x ≠ Str.ofString "stuff" ∧ Str.ofString x ≠ Str.ofString "k" ∧ Str.ofString x ≠ Str.ofString "i" ∧ Str.ofString x ≠ Str.ofString "chunks" ∧ Str.ofString x ≠ Str.ofString "chunk" ∧ Str.ofString x ≠ Str.ofString "j" ∧ Str.ofString x ≠ Str.ofString "c") → m' (Str.ofString x) = m (Str.ofString x) :=
    fun x ⟨a, b, c, d, f, g, i⟩ => hm _ a b c d f g i
  obtain ⟨t, ht⟩ := h.fpat
  obtain ⟨u, hu⟩ := h.fn
  exact ⟨⟨t, (e "pat" (by decide +kernel)).trans ht⟩, ⟨u, (e "n" (by decide +kernel)).trans hu⟩, (e "add" (by decide +kernel)).trans h.add, (e "res" (by decide +kernel)).trans h.res, (e "STAR" (by decide +kernel)).trans h.star, (e "QUESTION_MARK" (by decide +kernel)).trans h.qm⟩
theorem tr_turn (B : Below (ktrTop dp un gd cn cs L0 a ccd cl outer) base (envX cn cs L0 a ccd cl :: outer) g) (F : Fr g L s.heap m) (X : (hd.heap_1 w.params).In g) (N : News g L s.heap (led cod ps vs e q0 r0 rest)) (T : Top p loose mean mg mb g) (G : AllBare s.gens) (Cc : CodeHd g 103 99)
  (O : LedOK q0 r0 rest) (ht : TabOK ps cod) (M : TrM m pat q0 r0 tS tQ) (hi : m (Str.ofString "i") = some (.int (i0 : Int) ti))
  (hra : RA tS vs.toList out)
  (hp : pat.length ≤ 64) (h1 : i0 < pat.length) (hv : vs.size ≤ i0) {n0 : Nat} (hS0 : tS ≠ 0) (hS : tS < n0) (hQ0 : tQ ≠ 0) (hQS : tQ ≠ tS) (hpos : n0 ≤ s.toks) (hdp : dp + 12 < recursionLimit) (hun : un + 90 < cLine)
  (H : HypOK pat.cps.toList) (h128 : ∀ c ∈ pat.cps.toList, c < 128)
  (hk : ∀ s' ps' cod' ti m' i' out' vs' e', trS pat.cps.toList (i0, out) = (i', out') → TabOK ps' cod' → Fr g L s'.heap m' → m' (Str.ofString "i") = some (.int ((i' : Nat) : Int) ti) → TrM m' pat q0 r0 tS tQ → RA tS vs'.toList out' → vs'.size ≤ vs.size + 1 → i0 < i' → i' ≤ pat.length →
     News g L s'.heap (led cod' ps' vs' e' q0 r0 rest) → AllBare s'.gens → s'.os = s.os → n0 ≤ s'.toks → Q .next s') :
  wpAny (model Challenge.rw_ij0082_01.row.prog w) ((ktrTop dp un gd cn cs L0 a ccd cl outer).deeper (trEnv L)) (execs mwBody (trEnv L)) Q (fun _ _ => False) s := by
  obtain ⟨t1, hpat⟩ := M.fpat
  obtain ⟨tn, hn⟩ := M.fn
  have hadd := M.add
  have hl := len_list pat
  obtain ⟨c, hc⟩ : ∃ c, pat.cps.toList[i0]? = some c := ⟨_, List.getElem?_eq_getElem (by omega)⟩
  have hitem : Txt.item pat (i0 : Int) = S [c] := by
    rw [item_eq (by omega) (by omega), Int.toNat_natCast, List.getD_eq_getElem?_getD, hc]; rfl
  have hn0 : 0 < n0 := Nat.lt_of_le_of_lt (Nat.zero_le _) hS
  have F1 := fr2 F hpat hi
  show wpAny _ _ (execs (_ :: _) (envOf _ _ _ _ _)) _ _ _
  refine seqVn hpos F1 N (Str.ofString "c") (fun v => ∃ t, v = .str (S [c]) t) ?_ ?_
  · k_steps
    ((refine' Mine.midV ?hp9mid8 ?F9mid8 ?N9mid8 ?e9mid8 ?s9mid8; (case F9mid8 => assumption); (case N9mid8 => assumption); (case e9mid8 => first | (intro y; rfl) | (intro y; exact Mine.up2)); (case s9mid8 => exact fun _ h => h)))
    exact ⟨_, by rw [hitem]⟩
  rintro _ h2 tk2 hp2 ⟨tc, rfl⟩ F2 N2
  refine seqVn hp2 F2 N2 (Str.ofString "i") (fun v => ∃ t, v = .int ((i0 + 1 : Nat) : Int) t) ?_ ?_
  · k_steps
    ((refine' Mine.midV ?hp9mid9 ?F9mid9 ?N9mid9 ?e9mid9 ?s9mid9; (case F9mid9 => assumption); (case N9mid9 => assumption); (case e9mid9 => first | (intro y; rfl) | (intro y; exact Mine.up2)); (case s9mid9 => exact fun _ h => h)))
    exact ⟨_, rfl⟩
  rintro _ h3 tk3 hp3 ⟨ti3, rfl⟩ F3 N3
  have lot := LoT.mk hp3
  have e9 : ∀ {y v}, y ≠ Str.ofString "i" → y ≠ Str.ofString "c" → y ≠ Str.ofString "pat" → m y = some v → (if y = Str.ofString "i" then some (Value.int ((i0 + 1 : Nat) : Int) ti3) else if y = Str.ofString "c" then some (.str (S [c]) tc) else if y = Str.ofString "pat" then some (.str pat t1) else if y = Str.ofString "i" then some (.int (i0 : Int) ti) else m y) = some v := fun a b d ez => by
    rw [if_neg a, if_neg b, if_neg d, if_neg a]; exact ez
  have e9a := e9 (y := Str.ofString "add") (by decide +kernel) (by decide +kernel) (by decide +kernel) hadd
  have e9r := e9 (y := Str.ofString "res") (by decide +kernel) (by decide +kernel) (by decide +kernel) M.res
  have e9s := e9 (y := Str.ofString "STAR") (by decide +kernel) (by decide +kernel) (by decide +kernel) M.star
  have e9q := e9 (y := Str.ofString "QUESTION_MARK") (by decide +kernel) (by decide +kernel) (by decide +kernel) M.qm
  have e9n := e9 (y := Str.ofString "n") (by decide +kernel) (by decide +kernel) (by decide +kernel) hn
  have F4 := fr5 F3 e9a e9r e9s e9q e9n
  have hcod : ∀ q ∈ cod, q.1 ≠ 99 ∧ q.1 ≠ r0 := cod_ne N3 ht (fun q hq => List.mem_append_left _ hq) (List.mem_append_right _ (.head _)) (List.mem_append_right _ (.tail _ (.head _)))
  clear F1 F2 F3 N N2
  iterate 8 (walk_at "ks")
  (with_reducible rename LoT _ _ => lot2)
  have b42 : (S [c] == Str.ofString "*") = decide (c = 42) := by rw [show Str.ofString "*" = S [42] by decide +kernel, beq_S]; simp
  have b63 : (S [c] == Str.ofString "?") = decide (c = 63) := by rw [show Str.ofString "?" = S [63] by decide +kernel, beq_S]; simp
  have b91 : (S [c] == Str.ofString "[") = decide (c = 91) := by rw [lit_open, beq_S]; simp
  rw [b42]
  have hmr : (r0, listOf vs e) ∈ led cod ps vs e q0 r0 rest := List.mem_append_right _ (.tail _ (.head _))
  have hv64 : vs.size ≤ 64 := by omega
  have U := ledR (ps := ps) (e := e) (vs := vs) O hcod
  have hlen := RA_len hra
  have hfin : ∀ (h5 : Heap) (tk5 : Nat) (out' : List (List Nat)) (vs' : Array Value) (e' : Nat), trS pat.cps.toList (i0, out) = (i0 + 1, out') → Fr g L h5 (fun y => if y = Str.ofString "add" then some (.ref q0) else if y = Str.ofString "res" then some (.ref r0) else if y = Str.ofString "STAR" then some (.str (S [92, 42]) tS) else if y = Str.ofString "QUESTION_MARK" then some (.str (S [92, 63]) tQ) else if y = Str.ofString "n" then some (.int pat.length tn) else if y = Str.ofString "i" then some (Value.int ((i0 + 1 : Nat) : Int) ti3) else if y = Str.ofString "c" then some (.str (S [c]) tc) else if y = Str.ofString "pat" then some (.str pat t1) else if y = Str.ofString "i" then some (.int (i0 : Int) ti) else m y) →
      News g L h5 (led cod ps vs' e' q0 r0 rest) → RA tS vs'.toList out' → vs'.size ≤ vs.size + 1 → n0 ≤ tk5 → Q .next { s with heap := h5, toks := tk5 } := fun h5 tk5 out' vs' e' htr F5 N5 hra5 hv5 hp5 => by
    have e8 := ov5 (m := fun y => if y = Str.ofString "i" then some (Value.int ((i0 + 1 : Nat) : Int) ti3) else if y = Str.ofString "c" then some (.str (S [c]) tc) else if y = Str.ofString "pat" then some (.str pat t1) else if y = Str.ofString "i" then some (.int (i0 : Int) ti) else m y) e9a e9r e9s e9q e9n
    rw [e8] at F5
    refine hk _ ps cod ti3 _ (i0 + 1) out' vs' e' htr ht F5 rfl (M.next fun y _ _ a3 _ _ _ a7 => ?_) hra5 hv5 (by omega) (by omega) N5 G rfl hp5
    rw [if_neg a3, if_neg a7, if_neg a3]
    by_cases hy : y = Str.ofString "pat"
    · rw [if_pos hy, hy, hpat]
    · rw [if_neg hy]
  by_cases h42 : c = 42
  · rw [if_pos (decide_eq_true h42)]
    subst h42
    iterate 6 (walk_at "ks")
    refine wpAny_truthy_list (isl N3 hmr) (by omega) ?_
    by_cases hout : out = []
    · have hvs : vs = #[] := by
        have : vs.toList = [] := by rw [← List.length_eq_zero_iff, hlen, hout]; rfl
        simpa using this
      have hemp : (!!vs.isEmpty) = true := by rw [hvs]; rfl
      rw [if_pos hemp]
      intro lot3
      rw [if_pos rfl]
      iterate 4 (walk_at "ks")
      (with_reducible rename LoT _ _ => lot4)
      refine add_call F4 led_q U hv64 ?_
      iterate 1 (walk_at "ks")
      refine ⟨F4, N3, fun h5 F5 N5 lot6 => ?_⟩
      have lot7 := lot4.le
      walk_at "kss"
      refine hfin h5 _ (out ++ [[92, 42]]) _ (e + 1) ?_ F5 N5 (by rw [Array.toList_push]; exact RA_snoc hS0 (fun _ => rfl) (fun x => absurd rfl x) hra) (by simp) lot7
      unfold trS
      dsimp only
      rw [hc]
      simp [hout]
    · have hemp : (!!vs.isEmpty) = false := by
        cases hz : vs.isEmpty with
        | false => rfl
        | true =>
          exfalso
          have hz2 : vs = #[] := by simpa using hz
          rw [hz2] at hlen
          exact hout (List.length_eq_zero_iff.mp hlen.symm)
      rw [if_neg (by rw [hemp]; decide)]
      obtain ⟨cl9, tl, hl1, hl2, hl3, hl4, hl5⟩ := RA_last hra hout
      iterate 7 (walk_at "ks")
      refine item_last_list (isl N3 hmr) hl2 ?_
      iterate 1 (walk_at "ks")
      by_cases h9 : cl9 = [92, 42]
      · refine isnot_str hl3 hS0 (.inl ⟨hl4 h9, ?_⟩)
        iterate 2 (walk_at "ks")
        (with_reducible rename LoT _ _ => lot4)
        walk_at "kss"
        (with_reducible rename LoT _ _ => lotE)
        refine hfin h3 _ out vs e ?_ F4 N3 hra (Nat.le_succ _) lotE.le
        unfold trS
        dsimp only
        rw [hc]
        simp [hl1, h9]
      · refine isnot_str hl3 hS0 (.inr ⟨hl5 h9, fun z => h9 (S_inj.mp z), ?_⟩)
        iterate 2 (walk_at "ks")
        intro lot4
        rw [if_pos rfl]
        iterate 4 (walk_at "ks")
        (with_reducible rename LoT _ _ => lot5)
        refine add_call F4 led_q U hv64 ?_
        iterate 1 (walk_at "ks")
        refine ⟨F4, N3, fun h5 F5 N5 lot6 => ?_⟩
        have lot7 := lot5.le
        walk_at "kss"
        refine hfin h5 _ (out ++ [[92, 42]]) _ (e + 1) ?_ F5 N5 (by rw [Array.toList_push]; exact RA_snoc hS0 (fun _ => rfl) (fun x => absurd rfl x) hra) (by simp) lot7
        unfold trS
        dsimp only
        rw [hc]
        simp [hl1, h9]
  rw [if_neg (by simpa using h42)]
  iterate 8 (walk_at "ks")
  rw [b63]
  (with_reducible rename LoT _ _ => lot3)
  by_cases h63 : c = 63
  · rw [if_pos (decide_eq_true h63)]
    subst h63
    iterate 4 (walk_at "ks")
    (with_reducible rename LoT _ _ => lot4)
    refine add_call F4 led_q U hv64 ?_
    iterate 1 (walk_at "ks")
    refine ⟨F4, N3, fun h5 F5 N5 lot6 => ?_⟩
    have lot7 := lot4.le
    walk_at "kss"
    refine hfin h5 _ (out ++ [[92, 63]]) _ (e + 1) ?_ F5 N5 (by rw [Array.toList_push]; exact RA_snoc hQ0 (fun x => absurd x (by decide)) (fun _ => hQS) hra) (by simp) lot7
    unfold trS
    dsimp only
    rw [hc]
    simp
  rw [if_neg (by simpa using h63)]
  iterate 8 (walk_at "ks")
  rw [b91]
  (with_reducible rename LoT _ _ => lot4)
  by_cases h91 : c = 91
  · rw [if_pos (decide_eq_true h91)]
    subst h91
    have hf45 : pat.cps.toList[i0 + 1]? ≠ some 45 := fun e45 => by
      have := (H _ e45).2.1
      rw [Nat.add_sub_cancel, hc] at this; cases this
    refine br_all (s := { s with heap := h3, toks := _ }) B F4 X N3 T G Cc O ht rfl rfl rfl rfl hp (by omega) hv64 hn0 lot4.le (by omega) (by omega) H hf45 fun s' ps' cod' t ti' m' x i' hx ht' F' hi' hm' N' G' os' ht9 hp' => ?_
    intro lot9
    walk_at "kss"
    have hx1 : i0 + 1 ≤ i' ∧ i' ≤ pat.length ∧ x ≠ [92, 42] := by
      cases hsh : shut pat.cps.toList (i0 + 1) with
      | none =>
        rw [hsh] at hx
        obtain ⟨rfl, rfl⟩ := Prod.mk.inj hx
        exact ⟨Nat.le_refl _, by omega, by decide⟩
      | some k =>
        rw [hsh] at hx
        obtain ⟨rfl, rfl⟩ := Prod.mk.inj hx
        have := shut_lt hsh
        refine ⟨by omega, by omega, fun z => ?_⟩
        unfold clsT at z
        simp at z
    have e8 := ov5 (m := fun y => if y = Str.ofString "i" then some (Value.int ((i0 + 1 : Nat) : Int) ti3) else if y = Str.ofString "c" then some (.str (S [91]) tc) else if y = Str.ofString "pat" then some (.str pat t1) else if y = Str.ofString "i" then some (.int (i0 : Int) ti) else m y) e9a e9r e9s e9q e9n
    refine hk s' ps' cod' ti' m' i' (out ++ [x]) _ _ ?_ ht' F' hi' (M.next fun y a1 a2 a3 a4 a5 a6 a7 => ?_) (by rw [Array.toList_push]; exact RA_snoc (Nat.ne_of_gt (Nat.lt_of_lt_of_le hn0 ht9)) (fun z => absurd z hx1.2.2) (fun _ => Nat.ne_of_gt (Nat.lt_of_lt_of_le hS ht9)) hra) (by simp) hx1.1 hx1.2.1 N' G' os' hp'
    · unfold trS
      dsimp only
      rw [hc]
      dsimp only
      rw [if_neg (by decide), if_neg (by decide), if_pos rfl]
      cases hsh : shut pat.cps.toList (i0 + 1) with
      | none => rw [hsh] at hx; obtain ⟨rfl, rfl⟩ := Prod.mk.inj hx; rfl
      | some k => rw [hsh] at hx; obtain ⟨rfl, rfl⟩ := Prod.mk.inj hx; rfl
    · rw [hm' y a1 a2 a3 a4 a5 a6]
      refine (congrFun e8 y).trans ?_
      rw [if_neg a3, if_neg a7, if_neg a3]
      by_cases hy : y = Str.ofString "pat"
      · rw [if_pos hy, hy, hpat]
      · rw [if_neg hy]
  rw [if_neg (by simpa using h91)]
  iterate 4 (walk_at "ks")
  (with_reducible rename LoT _ _ => lot5)
  refine add_call F4 led_q U hv64 ?_
  iterate 6 (walk_at "ks")
  refine ⟨X.keeps F4.keep, ?_⟩
  show wpAny _ (ktrTop (dp + 1) (un + 3) gd (Str.ofString "_translate") trScope L 104 (.ref 103) [] (envX cn cs L0 a ccd cl :: outer)) (call (.ref 97) [.str (S [c]) tc]) _ _ _
  refine esc_spec B F4 X N3 T rfl (h128 c (List.mem_of_getElem? hc)) (n0 := n0) ?_ tc (by omega) (by omega) fun t5 h5 tk5 hp5 hp6 F5 N5 => ⟨F5, N5, fun h6 F6 N6 lot6 => ?_⟩
  · exact lot5.le
  have hx : escC c ≠ [92, 42] := by
    unfold escC
    split
    · intro z; exact h42 (by simpa using z)
    · simp
  walk_at "kss"
  refine hfin h6 _ (out ++ [escC c]) _ (e + 1) ?_ F6 N6 (by rw [Array.toList_push]; exact RA_snoc (Nat.ne_of_gt (Nat.lt_of_lt_of_le hn0 hp5)) (fun z => absurd z hx) (fun _ => Nat.ne_of_gt (Nat.lt_of_lt_of_le hS hp5)) hra) (by simp) hp6
  unfold trS
  dsimp only
  rw [hc]
  simp [h42, h63, h91]
end B12
end Mine
theorem Mine.off_B13 : True := by w_top off; trivial
namespace Mine
section B13
variable {w : World} {p : Program} {loose : List Str} {mean : ExcName → Option Value} {mg mb : Str → Option Value} {dp un : Nat} {gd : Option (List Code)} {cn : Str} {cs : Scope} {a : Addr} {ccd : Value} {cl : List (Str × Addr)} {outer : List Env} {A₀ : Around} {base h₀ : Heap} {L : Addr} {m : Str → Option Value} {rest : List (Addr × Obj)} {s : Shared}
    {Q E : Value → Shared → Prop} {pat : Str} {t1 tS tQ : Tok}
theorem trans_spec (B : Below A₀ base outer h₀) (F : Fr h₀ L s.heap m) (X : (hd.heap_1 w.params).In h₀) (N : News h₀ L s.heap ((99, tabObj #[]) :: rest)) (T : Top p loose mean mg mb h₀) (hk : cs.kind = .function) (G : AllBare s.gens) (Cc : CodeHd h₀ 103 99)
  (hrest : ∀ q ∈ rest, q.1 ≠ 99) (hp : pat.length ≤ 64) {n0 : Nat} (hS0 : tS ≠ 0) (hS : tS < n0) (hQ0 : tQ ≠ 0) (hQS : tQ ≠ tS) (hpos : n0 ≤ s.toks)
  (H : HypOK pat.cps.toList) (h128 : ∀ c ∈ pat.cps.toList, c < 128) (hdp : dp + 13 < recursionLimit) (hun : un + 100 < cLine)
  (hret : ∀ r0 vs e out s' ps, Reach pat.cps.toList pat.cps.toList.length out → VA vs.toList out → vs.size ≤ 64 → (∀ q ∈ (99, tabObj ps) :: rest, q.1 < r0) → Fr h₀ L s'.heap m → News h₀ L s'.heap ((r0, listOf vs e) :: (99, tabObj ps) :: rest) → AllBare s'.gens → s'.os = s.os → Q (.ref r0) s') :
  wpAny (model Challenge.rw_ij0082_01.row.prog w) (ktrTop dp un gd cn cs L a ccd cl outer) (call (.ref 104) [.str pat t1, .str (S [92, 42]) tS, .str (S [92, 63]) tQ]) Q E s := by
  refine PySem.wpAny_call ?_
  k_dflt ktr_enter
  refine Mine.no_exc ?_
  refine toks_genN (n := n0) (Nat.le_trans hpos (Nat.le_add_right _ _)) fun tk0 htk0 => ?_
  rename_i g L' h' FG' F0 N' B' X' T'
  have F' : Fr g L' h' (fun y => List.lookup y [(Str.ofString "QUESTION_MARK", Value.str (S [92, 63]) tQ), (Str.ofString "STAR", Value.str (S [92, 42]) tS), (Str.ofString "pat", Value.str pat t1)]) := F0
  clear F0 B X T F N
  have lot := LoT.mk htk0
  have hl := len_list pat
  have O1 : ∀ {r0 q0 : Addr}, 99 < r0 → r0 < q0 → (∀ q ∈ rest, q.1 < r0) → LedOK q0 r0 rest := fun a b c => ⟨Nat.ne_of_gt a, Nat.ne_of_gt (Nat.lt_trans a b), Nat.ne_of_gt b, fun q hq => ⟨hrest q hq, Nat.ne_of_lt (c q hq)⟩⟩
  have Cg : CodeHd g 103 99 := Cc.keeps FG'.keep
  refine seqE F' htk0 (fun m' news' => ∃ r0, ((@LT.lt Nat _ 99 r0) ∧ ∀ q ∈ rest, q.1 < r0) ∧ m' = (fun y => if y = Str.ofString "res" then some (.ref r0) else List.lookup y [(Str.ofString "QUESTION_MARK", Value.str (S [92, 63]) tQ), (Str.ofString "STAR", Value.str (S [92, 42]) tS), (Str.ofString "pat", Value.str pat t1)]) ∧ news' = (r0, listOf #[] 0) :: (99, tabObj #[]) :: rest) ?_ ?_
  · k_steps
    ((refine' Mine.postE ?hp9pe9 ?F9pe9 ?N9pe9; (case F9pe9 => assumption); (case N9pe9 => assumption)))
    rename_i l9 _ lt9 _ _ _
    exact ⟨l9, ⟨lt9.1, allLt_mem lt9.2⟩, rfl, rfl⟩
  rintro _ _ h2 tk2 ⟨r0, ⟨l1, l2⟩, rfl, rfl⟩ hp2 F2 N2
  clear F' N' lot
  refine seqE F2 hp2 (fun m' news' => ∃ q0, @LT.lt Nat _ r0 q0 ∧ m' = (fun y => if y = Str.ofString "add" then some (.ref q0) else if y = Str.ofString "res" then some (.ref r0) else List.lookup y [(Str.ofString "QUESTION_MARK", Value.str (S [92, 63]) tQ), (Str.ofString "STAR", Value.str (S [92, 42]) tS), (Str.ofString "pat", Value.str pat t1)]) ∧ news' = (q0, bmObj "list.append" (.ref r0)) :: (r0, listOf #[] 0) :: (99, tabObj #[]) :: rest) ?_ ?_
  · k_steps
    ((refine' Mine.postE ?hp9pe10 ?F9pe10 ?N9pe10; (case F9pe10 => assumption); (case N9pe10 => assumption)))
    rename_i q9 _ lt9 _ _ _
    exact ⟨q9, lt9.1, rfl, rfl⟩
  rintro _ _ h3 tk3 ⟨q0, l3, rfl, rfl⟩ hp3 F3 N3
  clear F2 N2
  refine seqE F3 hp3 (fun m' news' => (∃ t, m' (Str.ofString "i") = some (.int 0 t)) ∧ TrM m' pat q0 r0 tS tQ ∧ news' = (q0, bmObj "list.append" (.ref r0)) :: (r0, listOf #[] 0) :: (99, tabObj #[]) :: rest) ?_ ?_
  · k_steps
    (with_reducible rename Fr _ _ _ _ => F9)
    (with_reducible rename News _ _ _ _ => N9)
    exact postE ⟨⟨_, rfl⟩, ⟨⟨_, rfl⟩, ⟨_, rfl⟩, rfl, rfl, rfl, rfl⟩, rfl⟩ F9 (nwt N9)
  rintro m4 _ h4 tk4 ⟨⟨ti, hi⟩, M, rfl⟩ hp4 F4 N4
  clear F3 N3
  have N5 : News g L' h4 (led [] #[] #[] 0 q0 r0 rest) := nws N4 fun q hq => by
    rcases List.mem_cons.mp hq with rfl | hq
    · exact .tail _ (.tail _ (.head _))
    · rcases List.mem_cons.mp hq with rfl | hq
      · exact .tail _ (.head _)
      · rcases List.mem_cons.mp hq with rfl | hq
        · exact .head _
        · exact .tail _ (.tail _ (.tail _ hq))
  have ht0 : TabOK #[] [] := ⟨trivial, fun _ => .inl rfl, .inl ⟨rfl, rfl⟩⟩
  refine seqS F4 n0 (fun m' news' => ∃ vs e out ps cod, Reach pat.cps.toList pat.cps.toList.length out ∧ RA tS vs.toList out ∧ vs.size ≤ 64 ∧ TrM m' pat q0 r0 tS tQ ∧ (∃ t, m' (Str.ofString "i") = some (.int (pat.length : Int) t)) ∧ news' = led cod ps vs e q0 r0 rest) ?_ ?_
  · refine whileG (fun n s₁ => ∃ (i : Nat) (out : List (List Nat)) (vs : Array Value) (e : Nat) (ps : Array Value) (cod : List (Addr × Obj)) (m₁ : Str → Option Value) (ti : Tok), n = pat.length - i ∧ i ≤ pat.length ∧ Reach pat.cps.toList i out ∧ RA tS vs.toList out ∧ vs.size ≤ i ∧ TabOK ps cod ∧
        Fr g L' s₁.heap m₁ ∧ m₁ (Str.ofString "i") = some (.int (i : Int) ti) ∧ TrM m₁ pat q0 r0 tS tQ ∧ News g L' s₁.heap (led cod ps vs e q0 r0 rest) ∧ AllBare s₁.gens ∧ s₁.os = s.os ∧ n0 ≤ s₁.toks)
      (n₀ := pat.length) ⟨0, [], #[], 0, #[], [], m4, ti, rfl, Nat.zero_le _, ⟨0, rfl⟩, trivial, Nat.le_refl _, ht0, F4, hi, M, N5, G, rfl, hp4⟩ ?_
    rintro n ⟨hp1, gn1, dr1, tk1, os1⟩ ⟨i, out, vs, e, ps, cod, m₁, ti1, rfl, hil, hre, hra, hvs, ht1, Fm, hmi, Mm, Nm, G1, os1', htk1⟩
    dsimp only at Fm Nm G1 os1' htk1
    obtain ⟨tn, hmn⟩ := Mm.fn
    have Fm2 := fr2 Fm hmi hmn
    have lot1 := LoT.mk htk1
    iterate 4 (walk_at "ks")
    refine wpAny_truthy_bool ?_
    by_cases hlt : (i : Int) < (pat.length : Int)
    · rw [if_pos (decide_eq_true hlt)]
      refine tr_turn (rest := rest) B' Fm X' Nm T' G1 Cg (O1 l1 l3 l2) ht1 Mm hmi hra hp (by omega) hvs hS0 hS hQ0 hQS htk1 (by omega) (by omega) H h128 fun s' ps' cod' ti' m' i' out' vs' e' htr ht' F' hi' M' hra' hvs' hi1 hi2 N' G' os' hp' => ?_
      refine ⟨pat.length - i', by omega, i', out', vs', e', ps', cod', m', ti', rfl, hi2, hre.step htr, hra', by omega, ht', F', hi', M', N', G', os'.trans os1', hp'⟩
    · rw [if_neg (by simpa using hlt)]
      obtain rfl : i = pat.length := by omega
      refine ⟨rfl, m₁, _, ⟨vs, e, out, ps, cod, by rw [← hl]; exact hre, hra, by omega, Mm, ⟨ti1, hmi⟩, rfl⟩, Fm, Nm, G1, os1', htk1⟩
  rintro m5 _ ⟨hp5, gn5, dr5, tk5, os5⟩ ⟨vs, e, out, ps, cod, hre, hra, hvs, M5, ⟨ti5, hi5⟩, rfl⟩ ht5 G5 os5' F5 N5
  dsimp only at F5 N5 G5 os5'
  obtain ⟨tn5, hn5⟩ := M5.fn
  have F6 := fr3 F5 hi5 hn5 M5.res
  iterate 7 (walk_at "ks")
  rw [if_pos (by simp)]
  iterate 3 (walk_at "ks")
  have N6 : News g L' hp5 ((r0, listOf vs e) :: (99, tabObj ps) :: rest) := nws N5 fun q hq => by
    rcases List.mem_cons.mp hq with rfl | hq
    · exact List.mem_append_right _ (.tail _ (.head _))
    rcases List.mem_cons.mp hq with rfl | hq
    · exact List.mem_append_right _ (.head _)
    · exact List.mem_append_right _ (.tail _ (.tail _ (.tail _ hq)))
  refine leaveK_ F6 N6 fun kF kN => hret r0 vs e out _ ps hre (RA_VA hra) hvs (fun q hq => ?_) kF kN G5 os5'
  rcases List.mem_cons.mp hq with rfl | hq
  · exact l1
  · exact l2 q hq
end B13
end Mine
theorem Mine.off_F1 : True := by w_top off; trivial
namespace Mine
section F1
variable {w : World} {p : Program} {loose : List Str} {mean : ExcName → Option Value} {mg mb : Str → Option Value} {dp un : Nat} {gd : Option (List Code)} {cn : Str} {cs : Scope} {a : Addr} {ccd : Value} {cl : List (Str × Addr)} {outer : List Env} {A₀ : Around} {base h₀ : Heap} {L : Addr} {m : Str → Option Value} {news : List (Addr × Obj)} {s : Shared}
    {Q E : Value → Shared → Prop}
theorem piece_spec (B : Below A₀ base outer h₀) (F : Fr h₀ L s.heap m) (X : (hd.heap_1 w.params).In h₀) (N : News h₀ L s.heap news) (T : Top p loose mean mg mb h₀) (hk : cs.kind = .function)
  (n : Int) (tk : Tok) (hdp : dp + 10 < recursionLimit) (hun : un + 80 < cLine)
  (hret : ∀ t h' tk', Fr h₀ L h' m → News h₀ L h' news → Q (.str (pieceStr n) t) { s with heap := h', toks := tk' }) :
  wpAny (model Challenge.rw_ij0082_01.row.prog w) (ktrTop dp un gd cn cs L a ccd cl outer) (call (.ref 118) [.int n tk]) Q E s := by
  walk_at "enter"
  rename_i g' L' h' FG' F0 N' B' X' T' tk0
  have F' : Fr g' L' h' (fun y => List.lookup y [(Str.ofString "n", Value.int n tk)]) := F0
  clear F0 B X T F N
  iterate 51 (walk_at "ks")
  have hk0 : 0 ≤ n.fmod 16 := Int.fmod_nonneg_of_pos _ (by decide)
  have hk1 : n.fmod 16 < 16 := Int.fmod_lt_of_pos _ (by decide)
  (with_reducible rename News _ _ _ _ => N1)
  refine piece_item (isl N1 (List.Mem.head _)) hk0 hk1 fun t => ?_
  exact leaveK_ ‹Fr _ _ _ _› N1 fun kF kN => hret _ _ _ kF (nwt kN)
end F1
end Mine
theorem Mine.off_LA : True := by w_top off; trivial
namespace Mine
section LA
open LCg
variable {w : World} {p : Program} {loose : List Str} {mean : ExcName → Option Value} {mg mb : Str → Option Value} {cd : Value} {g : Heap} {L fa a0 : Addr} {m : Str → Option Value} {news : List (Addr × Obj)} {s : Shared} {vs : List Value} {ns : List Int}
noncomputable def laBody : List Stmt := fnBody (fnD (hd.heap_1 anyP) 140)
noncomputable def laScope : Scope := (fnD (hd.heap_1 anyP) 140).scope
noncomputable abbrev laEnv (L fa : Addr) (cd : Value) : Env := envX (Str.ofString "law") laScope L fa cd [(Str.ofString "lexer", L + 1)]
noncomputable def laS0 : Stmt := laBody.getD 0 default
noncomputable def laS1 : Stmt := laBody.getD 1 default
noncomputable def laS2 : Stmt := laBody.getD 2 default
noncomputable def laS3 : Stmt := laBody.getD 3 default
noncomputable def tailL : List Nat := [98, 42, 42, 91, 33, 92, 32, 97, 93, 32, 92, 63, 91]
noncomputable def patOf (ns : List Int) : List Nat := ((ns.take 7).flatMap fun n => (pieceStr n).cps.toList) ++ tailL
theorem ints_get : ∀ {vs : List Value} {ns : List Int} {i : Nat} {v : Value}, IntsAre vs ns → vs[i]? = some v → ∃ n t, ns[i]? = some n ∧ v = .int n t
  | _, _, _, _, .nil, h => by simp at h
  | _, _, 0, _, .cons n t _, h => ⟨n, t, rfl, (by simpa using h.symm)⟩
  | _, _, i + 1, _, .cons n t r, h => by
    obtain ⟨n', t', a, b⟩ := ints_get (i := i) r (by simpa using h)
    exact ⟨n', t', by simpa using a, b⟩
theorem ints_take : ∀ (k : Nat) {vs : List Value} {ns : List Int}, IntsAre vs ns → IntsAre (vs.take k) (ns.take k)
  | 0, _, _, _ => .nil
  | _ + 1, _, _, .nil => .nil
  | k + 1, _, _, .cons n t r => .cons n t (ints_take k r)
theorem la_drawn (B : Below callerA g [] g) (F : Fr g L s.heap m) (X : (hd.heap_1 w.params).In g) (N : News g L s.heap news) (T : Top p loose mean mg mb g) (hL : g.IsList a0 vs.toArray) (hI : IntsAre vs ns) (hn : ns.length ≤ 63) (hm : m (Str.ofString "script") = some (.ref a0)) :
  wpAny (model Challenge.rw_ij0082_01.row.prog w) (callerA.deeper (laEnv L fa cd)) (exec laS0 (laEnv L fa cd)) (MidV g L m news s (Str.ofString "drawn") (fun v => ∃ t, v = .str (S (patOf ns)) t)) (fun _ _ => False) s := by
  have F1 := fr1 F hm
  with_unfolding_all show wpAny _ _ (exec (.Assign [.Name _ _] _ _) (envX _ _ _ _ _ _)) _ _ _
  iterate 7 (walk_at "ks")
  refine ListComp_U F1 rfl (by decide) rfl (by decide) rfl ?_
  iterate 7 (walk_at "ks")
  have hlen := hI.length
  refine' kms_slice_lit (its := vs.toArray) ?fz ?nz ?lz ?pz ?qz ?ez ?_ ?sz ?tz ?zz; (case fz => k_asm); (case nz => k_asm); (case lz => exact (let ⟨o, e, r⟩ := hL; ⟨o, F.keep _ _ e, r⟩)); (case pz => kmk_part); (case qz => kmk_part); (case ez => exact rfl); (case sz => with_unfolding_all rfl); (case tz => kmk_pure); (case zz => rw [List.size_toArray]; size_fits)
  intro D1 h1 F2 N2 l1
  have epk : kms_pick vs.toArray.toList none (some 7) = vs.take 7 := by
    have e2 : kms_hi (some (7 : Int)) vs.length = min 7 vs.length := rfl
    unfold kms_pick
    show (vs.drop 0).take (kms_hi (some 7) vs.length - 0) = vs.take 7
    rw [e2, List.drop_zero, Nat.sub_zero]
    by_cases h : 7 ≤ vs.length
    · rw [Nat.min_eq_left h]
    · rw [Nat.min_eq_right (by omega), List.take_of_length_le (Nat.le_refl _), List.take_of_length_le (by omega)]
  rw [epk] at N2
  have hsz : (vs.take 7).toArray.size ≤ 7 := by rw [List.size_toArray, List.length_take]; omega
  refine CompSrc.ledger rfl F2 N2 (.head _) (by size_fits) fun gg => ?_
  refine rest_grow (news0 := (D1, listOf (vs.take 7).toArray 0) :: news) (fun i y _ => ∃ n, (ns.take 7)[i]? = some n ∧ ∃ t, y = .str (pieceStr n) t) (fun _ => True) (fun _ _ _ _ _ h => h) (fun adds => .inr ⟨_, List.mem_append_right _ (.head _), rfl, _, rfl⟩) ?_ ?_ _ 0 [] [] (Nat.zero_add _) rfl (fun j hj => absurd hj (Nat.not_lt_zero j)) (fun q hq => nomatch hq)
  · intro adds hadds j v I oI C oC D ys m₂ h tk E' hj hP hC hx F N off ne
    obtain ⟨n, u, hnj, rfl⟩ := ints_get (i := j) (ns := ns.take 7) (ints_take 7 hI) (by rw [← hP]; simp)
    (try dsimp only)
    iterate 7 (walk_at "ks")
    refine ⟨X.keeps F.keep, ?_⟩
    show wpAny _ (ktrTop (1 + claimMargin + 1) (4 + 3) (some []) (Str.ofString "law") laScope L fa cd [(Str.ofString "lexer", L + 1)] []) (call (.ref 118) [.int n u]) _ _ _
    refine piece_spec B F X N T rfl n u (by decide +kernel) (by decide +kernel) fun t h' tk' F' N' => ?_
    exact ⟨h', tk', [], rfl, F', N', (by intro q hq; cases hq), n, hnj, t, rfl⟩
  · intro ys adds hy hr hq2 D h tk F N o1
    (try dsimp only)
    iterate 1 (walk_at "ks")
    have hyl : ys.length = (ns.take 7).length := by rw [hy, List.size_toArray, List.length_take, List.length_take, hlen]
    have hst := strs_of hyl fun j hj => by
      obtain ⟨y, a, n, b, t, c⟩ := hr j (by rw [← hy]; exact hj)
      exact ⟨y, n, t, a, b, c⟩
    have hsum := pieces_sum (ns.take 7)
    have hn7 : (ns.take 7).length ≤ 7 := by rw [List.length_take]; omega
    refine join_list (isl N (.head _)) (show StrsAre ys.toArray.toList _ from hst) (by rw [show (Str.ofString "").length = 0 by decide +kernel]; omega) fun t' k' => ?_
    rw [join_pieces]
    have N3 : News g L h news := fun q hq => N q (.tail _ (List.mem_append_right _ (.tail _ hq)))
    clear N N2
    have hfl := flat_len (ns.take 7)
    have epat : patOf ns = ((ns.take 7).flatMap fun n => (pieceStr n).cps.toList) ++ tailL := rfl
    rw [epat]
    generalize ((ns.take 7).flatMap fun n => (pieceStr n).cps.toList) = P0 at hfl ⊢
    have hPl : (S P0).length ≤ 21 := by rw [len_list]; show P0.length ≤ 21; omega
    iterate 3 (walk_at "ks")
    (with_reducible rename Fr _ _ _ _ => F9)
    (with_reducible rename News _ _ _ _ => N9)
    rename_i t9 k9 a9 h9
    refine midV (v := .str (S P0 ++ Str.ofString "b**[!\\ a] \\?[") t9) ?_ F9 N9 (fun y => ?_) (fun _ h => h)
    · exact ⟨t9, by rw [← S_append]; rfl⟩
    · by_cases hy : y = Str.ofString "drawn"
      · rw [if_pos hy, if_pos hy]
      · rw [if_neg hy, if_neg hy]; exact congrFun (ov1 hm) y
end LA
end Mine
theorem Mine.off_W1 : True := by w_top off; trivial
namespace Mine
section W1
variable {w : World} {p : Program} {loose : List Str} {mean : ExcName → Option Value} {mg mb : Str → Option Value} {dp un : Nat} {gd : Option (List Code)} {cn : Str} {cs : Scope} {a : Addr} {ccd : Value} {cl : List (Str × Addr)} {outer : List Env} {A₀ : Around} {base g : Heap} {L0 L : Addr} {m : Str → Option Value} {news : List (Addr × Obj)} {s : Shared}
    {Q : Flow → Shared → Prop} {pat : Str} {t1 ti tt : Tok} {r0 : Addr} {vs : Array Value} {e i : Nat} {out : List Item}
noncomputable def iiBody : List Stmt := fnBody (fnD (hd.heap_1 anyP) 123)
noncomputable def iiScope : Scope := (fnD (hd.heap_1 anyP) 123).scope
noncomputable abbrev iiEnv (L : Addr) : Env := envOf (Str.ofString "_law_items") iiScope L 123 (.ref 122)
noncomputable def iwBody : List Stmt := subs [(2, 0)] iiBody
end W1
end Mine
theorem Mine.off_W2 : True := by w_top off; trivial
namespace Mine
section W2
open LCg
variable {w : World} {p : Program} {loose : List Str} {mean : ExcName → Option Value} {mg mb : Str → Option Value} {dp un : Nat} {gd : Option (List Code)} {cn : Str} {cs : Scope} {a : Addr} {ccd : Value} {cl : List (Str × Addr)} {outer : List Env} {A₀ : Around} {base g : Heap} {L0 L : Addr} {m : Str → Option Value} {news : List (Addr × Obj)} {s : Shared}
    {Q : Flow → Shared → Prop} {pat : Str} {t1 ti tt tf tsh tin : Tok} {r0 : Addr} {vs : Array Value} {e i k : Nat} {out : List Item} {st : List Nat}
noncomputable def iBr : List Stmt := subs [(2, 0), (2, 0)] iiBody
noncomputable def iAp : List Stmt := iBr.drop 1
theorem ascii_S {l : List Nat} (h : ∀ c ∈ l, c < 128) : (S l).cps.all (· < 128) = true := by
  rw [← Array.all_toList, List.all_eq_true]
  intro c hc
  exact decide_eq_true (h c (by simpa using hc))
theorem S_getEl (l : List Nat) (j : Nat) : (S l).cps[j]? = l[j]? := by simp
theorem news_perm4 {h : Heap} {x a b c : Addr × Obj} {r : List (Addr × Obj)} (N : News g L h (x :: a :: b :: c :: r)) : News g L h (a :: b :: c :: ([x] ++ r)) := fun p hp => N p (by
  rcases List.mem_cons.mp hp with rfl | hp
  · exact .tail _ (.head _)
  rcases List.mem_cons.mp hp with rfl | hp
  · exact .tail _ (.tail _ (.head _))
  rcases List.mem_cons.mp hp with rfl | hp
  · exact .tail _ (.tail _ (.tail _ (.head _)))
  rcases List.mem_append.mp hp with hp | hp
  · cases List.mem_singleton.mp hp; exact .head _
  · exact .tail _ (.tail _ (.tail _ (.tail _ hp))))
theorem live_list : (Str.ofString " \t\n\r\"").cps.toList = [32, 9, 10, 13, 34] := by decide +kernel
theorem live_has (c : Nat) : live c = (!(Builtin.Str.occurrences (Str.ofString " \t\n\r\"") ⟨#[c]⟩ 0 (Str.ofString " \t\n\r\"").length 1).isEmpty) := by
  rw [has_one, live_list]
  unfold live
  by_cases h : c = 32 ∨ c = 9 ∨ c = 10 ∨ c = 13 ∨ c = 34
  · rcases h with rfl | rfl | rfl | rfl | rfl <;> rfl
  · simp only [not_or] at h
    simp [h.1, h.2.1, h.2.2.1, h.2.2.2.1, h.2.2.2.2]
theorem cells_of {nw : List (Addr × Obj)} : ∀ {ys : List Value} {st : List Nat}, ys.length = st.length → (∀ j, j < ys.length → ∃ y c, ys[j]? = some y ∧ st[j]? = some c ∧ CellAt nw y (c, live c)) → CellsAt nw ys (st.map fun c => (c, live c))
  | [], [], _, _ => trivial
  | y :: ys, c :: st, h, k => by
    refine ⟨?_, cells_of (Nat.succ.inj h) fun j hj => ?_⟩
    · obtain ⟨y', c', h1, h2, h3⟩ := k 0 (Nat.succ_pos _)
      cases h1; cases h2; exact h3
    · obtain ⟨y', c', h1, h2, h3⟩ := k (j + 1) (Nat.succ_lt_succ hj)
      exact ⟨y', c', by simpa using h1, by simpa using h2, h3⟩
theorem CellAt.mono' {news news' : List (Addr × Obj)} (h : ∀ t a b, (t, tupO a b) ∈ news → (t, tupO a b) ∈ news') (v : Value) (c : Cell) : CellAt news v c → CellAt news' v c := fun ⟨t, u, a, b⟩ => ⟨t, u, a, h _ _ _ b⟩
theorem it_app (B : Below (ktrTop dp un gd cn cs L0 a ccd cl outer) base (envX cn cs L0 a ccd cl :: outer) g) (F : Fr g L s.heap m) (X : (hd.heap_1 w.params).In g) (N : News g L s.heap ((r0, listOf vs e) :: news)) (T : Top p loose mean mg mb g)
  (hit : m (Str.ofString "items") = some (.ref r0)) (hin : m (Str.ofString "inner") = some (.str (S st) tin)) (hsh : m (Str.ofString "shut") = some (.int (k : Int) tsh))
  (hst : st.length ≤ 64) (hv : vs.size ≤ 64) (hne : ∀ q ∈ news, q.1 ≠ r0) (h128 : ∀ c ∈ st, c < 128)
  (hdp : dp + 16 < recursionLimit) (hun : un + 115 < cLine)
  (hret : ∀ h' tk' m' add v t, ItemAt (add ++ news) v ((91, false) :: (st.map fun c => (c, live c)) ++ [(93, false)]) → (∀ q ∈ add, r0 < q.1 ∧ ∀ r ∈ news, r.1 < q.1) → Fr g L h' m' → m' = (fun y => if y = Str.ofString "i" then some (.int ((k + 1 : Nat) : Int) t) else m y) →
     News g L h' ((r0, listOf (vs.push v) (e + 1)) :: (add ++ news)) → Q .next { s with heap := h', toks := tk' }) :
  wpAny (model Challenge.rw_ij0082_01.row.prog w) ((ktrTop dp un gd cn cs L0 a ccd cl outer).deeper (iiEnv L)) (execs iAp (iiEnv L)) Q (fun _ _ => False) s := by
  have F1 := fr3 F hit hin hsh
  clear F
  show wpAny _ _ (execs (_ :: _) (envOf _ _ _ _ _)) _ _ _
  rw [execs_cons]
  refine wpAny_bind ?_
  iterate 19 (walk_at "ks")
  (with_reducible rename Fr _ _ _ _ => F9)
  (with_reducible rename News _ _ _ _ => N9)
  refine ListComp_S F9 rfl (by decide) rfl (by decide) rfl ?_
  iterate 1 (walk_at "ks")
  have hsl : (S st).length ≤ 64 := by rw [len_list]; exact hst
  refine ⟨_, _, _, rfl, ascii_S h128, rfl, F9, N9, by size_fits, fun s₂ hs2 => ?_⟩
  obtain ⟨hh2, rfl⟩ := hs2
  refine rest_grow (fun i y nw => ∃ c, st[i]? = some c ∧ CellAt nw y (c, live c)) (fun q => r0 < q.1 ∧ ∀ r ∈ news, r.1 < q.1) (fun i y a b hab ⟨c, h1, h2⟩ => ⟨c, h1, h2.mono hab⟩) (fun _ => trivial) ?_ ?_ _ 0 [] [] (Nat.zero_add _) rfl (fun j hj => absurd hj (Nat.not_lt_zero j)) (fun q hq => nomatch hq)
  · intro adds hadds j v I oI C oC D ys m₂ h tk E' hj hP hC hx F N off ne
    obtain ⟨c, u, hc, rfl⟩ := hP
    (try dsimp only)
    iterate 10 (walk_at "ks")
    (with_reducible rename Fr _ _ _ _ => F8)
    (with_reducible rename News _ _ _ _ => N8)
    (with_reducible rename _ < _ ∧ _ < _ ∧ _ < _ ∧ AllLt _ _ => l8)
    refine ⟨_, _, [_], rfl, F8, news_perm4 N8, fun q hq => ?_, c, ?_, ?_⟩
    · cases List.mem_singleton.mp hq
      exact ⟨⟨Nat.ne_of_gt l8.1, Nat.ne_of_gt l8.2.1, Nat.ne_of_gt l8.2.2.1⟩, allLt_mem l8.2.2.2 _ (List.mem_append_right _ (.tail _ (.tail _ (.head _)))), fun r hr => allLt_mem l8.2.2.2 _ (List.mem_append_right _ (.tail _ (.tail _ (.tail _ hr))))⟩
    · rw [← hc, S_getEl]
    · exact ⟨_, u, rfl, by rw [live_has]; exact .head _⟩
  · intro ys adds hy hr hq2 D h tk F N o1
    (try dsimp only)
    have hsz : (S st).cps.size = st.length := by simp
    rw [hsz] at hy hr
    have hcell := cells_of hy fun j hj => by
      obtain ⟨y, h1, c, h2, h3⟩ := hr j (by rw [← hy]; exact hj)
      exact ⟨y, c, h1, h2, h3⟩
    refine add_arrays F N (isl N (.tail _ (List.mem_append_right _ (.head _)))) (isl N (.head _)) (fun h4 F4 N4 => ?_) (by simp only [List.size_toArray]; size_fits)
    have lt4 := news_lt N
    generalize h.objs.size = b1 at N4 lt4 ⊢
    iterate 11 (walk_at "ks")
    (with_reducible rename Fr _ _ _ _ => F5)
    (with_reducible rename News _ _ _ _ => N5)
    refine add_arrays F5 N5 (isl N5 (.tail _ (.tail _ (.head _)))) (isl N5 (.head _)) (fun h6 F6 N6 => ?_) (by simp only [List.size_toArray, List.length_append, Array.length_toList]; size_fits)
    have lt6 := news_lt N5
    (with_reducible generalize Array.size _ = b2 at N6 lt6 ⊢)
    iterate 1 (walk_at "ks")
    rename_i D1 h1 l1 dl1 hl1 ll1 D2 hD2 lD2 dl2 hl2 ll2
    have hadd : ∀ q ∈ (b2, ({ cls := Value.type "list", data := .seq ((#[Value.ref D1].toList ++ ys.toArray.toList).toArray.toList ++ #[Value.ref D2].toList).toArray } : Obj)) :: (D2, tupO (.str (Str.ofString "]") tk) (.bool false)) :: (adds ++ [(D1, tupO (.str (Str.ofString "[") s.toks) (.bool false))]), r0 < q.1 ∧ ∀ r ∈ news, r.1 < q.1 := by
      intro q hq
      rcases List.mem_cons.mp hq with rfl | hq
      · exact ⟨lt6 _ (.tail _ (.tail _ (.tail _ (.tail _ (List.mem_append_right _ (.tail _ (.tail _ (.head _)))))))), fun r hr => lt6 _ (.tail _ (.tail _ (.tail _ (.tail _ (List.mem_append_right _ (.tail _ (.tail _ (.tail _ hr))))))))⟩
      rcases List.mem_cons.mp hq with rfl | hq
      · exact ⟨allLt_mem lD2.2.2 _ (List.mem_append_right _ (.tail _ (.tail _ (.head _)))), fun r hr => allLt_mem lD2.2.2 _ (List.mem_append_right _ (.tail _ (.tail _ (.tail _ hr))))⟩
      rcases List.mem_append.mp hq with hq | hq
      · exact hq2 q hq
      · cases List.mem_singleton.mp hq
        exact ⟨l1.1, fun r hr => allLt_mem l1.2 _ hr⟩
    have N7 : News g L h6 ((r0, listOf vs e) :: (((b2, ({ cls := Value.type "list", data := .seq ((#[Value.ref D1].toList ++ ys.toArray.toList).toArray.toList ++ #[Value.ref D2].toList).toArray } : Obj)) :: (D2, tupO (.str (Str.ofString "]") tk) (.bool false)) :: (adds ++ [(D1, tupO (.str (Str.ofString "[") s.toks) (.bool false))])) ++ news)) := fun q hq => N6 q (by
      rcases List.mem_cons.mp hq with rfl | hq
      · exact .tail _ (.tail _ (.tail _ (.tail _ (.tail _ (List.mem_append_right _ (.tail _ (.tail _ (.head _))))))))
      rcases List.mem_append.mp hq with hq | hq
      · rcases List.mem_cons.mp hq with rfl | hq
        · exact .head _
        rcases List.mem_cons.mp hq with rfl | hq
        · exact .tail _ (.tail _ (.head _))
        refine .tail _ (.tail _ (.tail _ (.tail _ (.tail _ ?_))))
        rcases List.mem_append.mp hq with hq | hq
        · exact List.mem_append_left _ hq
        · cases List.mem_singleton.mp hq
          exact List.mem_append_right _ (.tail _ (.head _))
      · exact .tail _ (.tail _ (.tail _ (.tail _ (.tail _ (List.mem_append_right _ (.tail _ (.tail _ (.tail _ hq)))))))))
    have hitem : ItemAt (((b2, ({ cls := Value.type "list", data := .seq ((#[Value.ref D1].toList ++ ys.toArray.toList).toArray.toList ++ #[Value.ref D2].toList).toArray } : Obj)) :: (D2, tupO (.str (Str.ofString "]") tk) (.bool false)) :: (adds ++ [(D1, tupO (.str (Str.ofString "[") s.toks) (.bool false))])) ++ news) (.ref b2) ((91, false) :: (st.map fun c => (c, live c)) ++ [(93, false)]) := by
      refine ⟨b2, _, _, rfl, .head _, ?_⟩
      refine All2.append (R := CellAt _) (vs := .ref D1 :: ys) (cs := (91, false) :: (st.map fun c => (c, live c))) (vs' := [.ref D2]) (cs' := [(93, false)]) (And.intro ⟨D1, s.toks, rfl, ?_⟩ (hcell.mono (CellAt.mono' fun t a b hm => ?_))) (And.intro ⟨D2, tk, rfl, ?_⟩ trivial)
      · rw [lit_open]; exact List.mem_append_left _ (.tail _ (.tail _ (List.mem_append_right _ (.head _))))
      · rcases List.mem_append.mp hm with hm | hm
        · exact List.mem_append_left _ (.tail _ (.tail _ (List.mem_append_left _ hm)))
        rcases List.mem_cons.mp hm with hm | hm
        · exact absurd hm tup_ne_list
        rcases List.mem_cons.mp hm with hm | hm
        · rw [hm]; exact List.mem_append_left _ (.tail _ (.tail _ (List.mem_append_right _ (.head _))))
        rcases List.mem_cons.mp hm with hm | hm
        · exact absurd hm tup_ne_list
        · exact List.mem_append_right _ hm
      · rw [← lit_shut]; exact .tail _ (.head _)
    generalize (b2, ({ cls := Value.type "list", data := .seq ((#[Value.ref D1].toList ++ ys.toArray.toList).toArray.toList ++ #[Value.ref D2].toList).toArray } : Obj)) :: (D2, tupO (.str (Str.ofString "]") tk) (.bool false)) :: (adds ++ [(D1, tupO (.str (Str.ofString "[") s.toks) (.bool false))]) = add at N7 hadd hitem
    clear N6 lt6 lD2 N5 F5 lt4 hcell
    refine append_K F6 N7 (Upd.head fun q hq => ?_) (fun h7 F7 N8 => ?_)
    · rcases List.mem_append.mp hq with hq | hq
      · exact Nat.ne_of_gt (hadd q hq).1
      · exact hne q hq
    have em := ov3 hit hin hsh
    walk_at "kss"
    (with_reducible rename Fr _ _ _ _ => F8)
    (with_reducible rename News _ _ _ _ => N9)
    obtain ⟨t, F8⟩ : ∃ t, Fr g L _ (fun y => if y = Str.ofString "i" then some (.int ((k + 1 : Nat) : Int) t) else m y) := ⟨_, by rw [← em]; exact F8⟩
    exact hret _ _ _ add _ t hitem hadd F8 rfl N9
end W2
end Mine
theorem Mine.off_W2b : True := by w_top off; trivial
namespace Mine
section W2b
open LCg
variable {w : World} {p : Program} {loose : List Str} {mean : ExcName → Option Value} {mg mb : Str → Option Value} {dp un : Nat} {gd : Option (List Code)} {cn : Str} {cs : Scope} {a : Addr} {ccd : Value} {cl : List (Str × Addr)} {outer : List Env} {A₀ : Around} {base g : Heap} {L0 L : Addr} {m : Str → Option Value} {news : List (Addr × Obj)} {s : Shared}
    {Q : Flow → Shared → Prop} {pat : Str} {t1 ti tt tf tsh : Tok} {r0 : Addr} {vs : Array Value} {e i k : Nat} {out : List Item}
theorem it_br (B : Below (ktrTop dp un gd cn cs L0 a ccd cl outer) base (envX cn cs L0 a ccd cl :: outer) g) (F : Fr g L s.heap m) (X : (hd.heap_1 w.params).In g) (N : News g L s.heap ((r0, listOf vs e) :: news)) (T : Top p loose mean mg mb g)
  (hpat : m (Str.ofString "pattern") = some (.str pat t1)) (hi : m (Str.ofString "i") = some (.int (i : Int) ti)) (hit : m (Str.ofString "items") = some (.ref r0)) (hfr : m (Str.ofString "front") = some (.int (frontN pat.cps.toList i : Int) tf)) (hsh : m (Str.ofString "shut") = some (.int (k : Int) tsh))
  (hp : pat.length ≤ 64) (h1 : i < pat.length) (hv : vs.size ≤ i) (hne : ∀ q ∈ news, q.1 ≠ r0) (h91 : pat.cps.toList[i]? = some 91) (hs : shut pat.cps.toList (i + 1) = some k) (h128 : ∀ c ∈ pat.cps.toList, c < 128)
  (hdp : dp + 16 < recursionLimit) (hun : un + 115 < cLine)
  (hret : ∀ h' tk' m' add v, ItemAt (add ++ news) v (clsI (cut pat.cps.toList (i + 1) k)) → (∀ q ∈ add, r0 < q.1 ∧ ∀ r ∈ news, r.1 < q.1) → Fr g L h' m' → (∃ t, m' (Str.ofString "i") = some (.int ((k + 1 : Nat) : Int) t)) → (∀ y, y ≠ Str.ofString "i" → y ≠ Str.ofString "inner" → m' y = m y) →
     News g L h' ((r0, listOf (vs.push v) (e + 1)) :: (add ++ news)) → Q .next { s with heap := h', toks := tk' }) :
  wpAny (model Challenge.rw_ij0082_01.row.prog w) ((ktrTop dp un gd cn cs L0 a ccd cl outer).deeper (iiEnv L)) (execs iBr (iiEnv L)) Q (fun _ _ => False) s := by
  have F1 := fr5 F hpat hi hit hfr hsh
  have em : ∀ y, _ = m y := fun y => congrFun (ov5 hpat hi hit hfr hsh) y
  clear F
  have hf23 : frontN pat.cps.toList i = 2 ∨ frontN pat.cps.toList i = 3 := by unfold frontN; split <;> simp
  have hslt := shut_lt hs
  have hl := len_list pat
  show wpAny _ _ (execs (_ :: _) (envOf _ _ _ _ _)) _ _ _
  refine seqV F1 N (Str.ofString "inner") (fun v => ∃ t, v = .str (S (innerS (cut pat.cps.toList (i + 1) k))) t) ?_ ?_
  · have hsl : Txt.slice pat (some ((i : Int) + (frontN pat.cps.toList i : Int) - 1)) (some (k : Int)) = S (cut pat.cps.toList (i + frontN pat.cps.toList i - 1) k) := by
      have hb : bnd pat.cps.toList (i + 1) = i + frontN pat.cps.toList i := by
        unfold bnd frontN
        by_cases hx : pat.cps.toList[i + 1]? = some 33
        · rw [if_pos hx, if_pos ⟨h91, hx⟩]
        · rw [if_neg hx, if_neg (fun z => hx z.2)]
      have hbk := hslt.2.2.2
      rw [hb] at hbk
      generalize frontN pat.cps.toList i = fr at hf23 hbk ⊢
      have e1 : ((i : Int) + (fr : Int) - 1).toNat = i + fr - 1 := by omega
      have e2 : ((k : Int) - ((i : Int) + (fr : Int) - 1)).toNat = k - (i + fr - 1) := by omega
      rw [slice_eq (by omega) (by omega) (by omega), e1, e2]
      rfl
    have hin := inner_eq h91 hs
    have hz : S [] = Str.ofString "" := by decide +kernel
    walk_at "kss"
    · rw [if_pos (by assumption), ← hsl, ← lit_caret] at hin
      ((refine' Mine.midV ?hp9mid10 ?F9mid10 ?N9mid10 ?e9mid10 ?s9mid10; (case F9mid10 => assumption); (case N9mid10 => assumption); (case e9mid10 => first | (intro y; rfl) | (intro y; exact Mine.up2)); (case s9mid10 => exact fun _ h => h))); exact ⟨_, by rw [hin]⟩
    · rw [if_neg (by assumption), ← hsl, hz] at hin
      ((refine' Mine.midV ?hp9mid11 ?F9mid11 ?N9mid11 ?e9mid11 ?s9mid11; (case F9mid11 => assumption); (case N9mid11 => assumption); (case e9mid11 => first | (intro y; rfl) | (intro y; exact Mine.up2)); (case s9mid11 => exact fun _ h => h))); exact ⟨_, by rw [hin]⟩
  rintro _ h2 tk2 ⟨tin, rfl⟩ F2 N2
  refine it_app (st := innerS (cut pat.cps.toList (i + 1) k)) B F2 X N2 T (by rw [if_neg (by decide +kernel)]; exact (em _).trans hit) rfl (by rw [if_neg (by decide +kernel)]; exact (em _).trans hsh) ?_ (by omega) hne ?_ hdp hun ?_
  · have := hslt.1; have := hslt.2.1; rw [innerS_len, cut_len (by omega)]; omega
  · intro c hc
    rcases innerS_mem hc with h | h
    · omega
    · obtain ⟨v, _, _, hv⟩ := cut_mem h
      exact h128 c (List.mem_of_getElem? hv)
  · intro h' tk' m' add v t hI hA F' em' N'
    refine hret _ _ _ add v hI hA F' ⟨t, ?_⟩ (fun y h1 h2 => ?_) N'
    · rw [em']; rfl
    · rw [em']
      show (if _ then _ else _) = _
      rw [if_neg h1, if_neg h2]; exact em y
end W2b
end Mine
theorem Mine.off_W3 : True := by w_top off; trivial
namespace Mine
section W3
open LCg
variable {w : World} {p : Program} {loose : List Str} {mean : ExcName → Option Value} {mg mb : Str → Option Value} {dp un : Nat} {gd : Option (List Code)} {cn : Str} {cs : Scope} {a : Addr} {ccd : Value} {cl : List (Str × Addr)} {outer : List Env} {A₀ : Around} {base g : Heap} {L0 L : Addr} {m : Str → Option Value} {news : List (Addr × Obj)} {s : Shared}
    {Q : Flow → Shared → Prop} {pat : Str} {t1 ti tt tf tsh tin : Tok} {r0 : Addr} {vs : Array Value} {e i k c : Nat} {out : List Item} {st : List Nat}
noncomputable def iEl : List Stmt := subs [(2, 0), (2, 1)] iiBody
theorem slice_last (vs : Array Value) : (slicePick vs (some (-1)) none none).toList = vs.toList.drop (vs.toList.length - 1) := by
  rw [kms_pick_eq]
  unfold kms_pick
  show ((vs.toList.drop (vs.toList.length - 1)).take (vs.toList.length - (vs.toList.length - 1))) = _
  exact List.take_of_length_le (by rw [List.length_drop]; omega)
theorem last_star {α : Type} {l : List α} {x : α} : l.drop (l.length - 1) = [x] ↔ l.getLast? = some x := by
  rw [List.getLast?_eq_getElem?]
  constructor
  · intro h
    have : (l.drop (l.length - 1))[0]? = some x := by rw [h]; rfl
    rwa [List.getElem?_drop] at this
  · intro h
    obtain ⟨h1, h2⟩ := List.getElem?_eq_some_iff.mp h
    rw [List.drop_eq_getElem_cons h1, h2, List.drop_of_length_le (by omega)]
noncomputable def iPu : List Stmt := subs [(2, 0), (2, 1), (0, 0)] iiBody
theorem it_push (B : Below (ktrTop dp un gd cn cs L0 a ccd cl outer) base (envX cn cs L0 a ccd cl :: outer) g) (F : Fr g L s.heap m) (X : (hd.heap_1 w.params).In g) (N : News g L s.heap ((r0, listOf vs e) :: news)) (T : Top p loose mean mg mb g)
  (hpat : m (Str.ofString "pattern") = some (.str pat t1)) (hi : m (Str.ofString "i") = some (.int (i : Int) ti)) (hit : m (Str.ofString "items") = some (.ref r0))
  (hp : pat.length ≤ 64) (h1 : i < pat.length) (hv : vs.size ≤ 64) (hne : ∀ q ∈ news, q.1 ≠ r0) (hc : pat.cps.toList[i]? = some c)
  (hdp : dp + 16 < recursionLimit) (hun : un + 115 < cLine)
  (hret : ∀ h' tk' add v, ItemAt (add ++ news) v [(c, c == 34)] → (∀ q ∈ add, r0 < q.1 ∧ ∀ r ∈ news, r.1 < q.1) → Fr g L h' m →
     News g L h' ((r0, listOf (vs.push v) (e + 1)) :: (add ++ news)) → Q .next { s with heap := h', toks := tk' }) :
  wpAny (model Challenge.rw_ij0082_01.row.prog w) ((ktrTop dp un gd cn cs L0 a ccd cl outer).deeper (iiEnv L)) (execs iPu (iiEnv L)) Q (fun _ _ => False) s := by
  have F1 := fr3 F hpat hi hit
  clear F
  have hl := len_list pat
  have hitem : Txt.item pat (i : Int) = S [c] := by
    rw [item_eq (by omega) (by omega), Int.toNat_natCast, List.getD_eq_getElem?_getD, hc]; rfl
  have b34 : (S [c] == Str.ofString "\"") = decide (c = 34) := by rw [show Str.ofString "\"" = S [34] by decide +kernel, beq_S]; simp
  show wpAny _ _ (execs (_ :: _) (envOf _ _ _ _ _)) _ _ _
  rw [execs_cons]
  refine wpAny_bind ?_
  iterate 27 (walk_at "ks")
  (with_reducible rename Fr _ _ _ _ => F2)
  (with_reducible rename News _ _ _ _ => N2)
  rename_i D1 hD1 lD1 D2 h2 lD2
  rw [hitem, b34] at N2
  have N3 : News g L h2 ((r0, listOf vs e) :: ([(D2, listOf #[.ref D1] 0), (D1, tupO (.str (S [c]) s.toks) (.bool (decide (c = 34))))] ++ news)) := fun q hq => N2 q (by
    rcases List.mem_cons.mp hq with rfl | hq
    · exact .tail _ (.tail _ (.head _))
    rcases List.mem_cons.mp hq with rfl | hq
    · exact .head _
    rcases List.mem_cons.mp hq with rfl | hq
    · exact .tail _ (.head _)
    · exact .tail _ (.tail _ (.tail _ hq)))
  have hadd : ∀ q ∈ ([(D2, listOf #[.ref D1] 0), (D1, tupO (.str (S [c]) s.toks) (.bool (decide (c = 34))))] : List (Addr × Obj)), r0 < q.1 ∧ ∀ r ∈ news, r.1 < q.1 := fun q hq => by
    rcases List.mem_cons.mp hq with rfl | hq
    · exact ⟨lD2.2.1, allLt_mem lD2.2.2⟩
    · cases List.mem_singleton.mp hq
      exact ⟨lD1.1, allLt_mem lD1.2⟩
  refine append_K F2 N3 (Upd.head fun q hq => ?_) (fun h7 F7 N8 => ?_)
  · rcases List.mem_append.mp hq with hq | hq
    · exact Nat.ne_of_gt (hadd q hq).1
    · exact hne q hq
  rw [ov3 hpat hi hit] at F7
  refine wpAny_pure ?_
  exact hret _ _ _ _ ⟨D2, #[.ref D1], 0, rfl, .head _, show All2 (CellAt _) [.ref D1] [_] from And.intro ⟨D1, s.toks, rfl, .tail _ (.head _)⟩ trivial⟩ hadd F7 N8
theorem it_el (B : Below (ktrTop dp un gd cn cs L0 a ccd cl outer) base (envX cn cs L0 a ccd cl :: outer) g) (F : Fr g L s.heap m) (X : (hd.heap_1 w.params).In g) (N : News g L s.heap ((r0, listOf vs e) :: news)) (T : Top p loose mean mg mb g)
  (hpat : m (Str.ofString "pattern") = some (.str pat t1)) (hi : m (Str.ofString "i") = some (.int (i : Int) ti)) (hit : m (Str.ofString "items") = some (.ref r0))
  (hp : pat.length ≤ 64) (h1 : i < pat.length) (hv : vs.size ≤ 64) (hne : ∀ q ∈ news, q.1 ≠ r0) (hc : pat.cps.toList[i]? = some c) (hI : ItemsAt news vs.toList out) (hO : ∀ it ∈ out, ∀ c ∈ it, OkC c)
  (hdp : dp + 16 < recursionLimit) (hun : un + 115 < cLine)
  (hret : ∀ h' tk' m' add vs' e' t, ItemsAt (add ++ news) vs'.toList (if c ≠ 42 ∨ out.getLast? ≠ some [(42, false)] then out ++ [[(c, c == 34)]] else out) → vs'.size ≤ vs.size + 1 → (∀ q ∈ add, r0 < q.1 ∧ ∀ r ∈ news, r.1 < q.1) → Fr g L h' m' → m' = (fun y => if y = Str.ofString "i" then some (.int ((i + 1 : Nat) : Int) t) else m y) →
     News g L h' ((r0, listOf vs' e') :: (add ++ news)) → Q .next { s with heap := h', toks := tk' }) :
  wpAny (model Challenge.rw_ij0082_01.row.prog w) ((ktrTop dp un gd cn cs L0 a ccd cl outer).deeper (iiEnv L)) (execs iEl (iiEnv L)) Q (fun _ _ => False) s := by
  have F1 := fr3 F hpat hi hit
  clear F
  have hl := len_list pat
  have hitem : Txt.item pat (i : Int) = S [c] := by
    rw [item_eq (by omega) (by omega), Int.toNat_natCast, List.getD_eq_getElem?_getD, hc]; rfl
  have b42 : (S [c] == Str.ofString "*") = decide (c = 42) := by rw [show Str.ofString "*" = S [42] by decide +kernel, beq_S]; simp
  show wpAny _ _ (execs (_ :: _) (envOf _ _ _ _ _)) _ _ _
  rw [execs_cons]
  refine wpAny_bind ?_
  iterate 8 (walk_at "ks")
  rw [hitem]
  iterate 1 (walk_at "ks")
  have bn : (S [c] != Str.ofString "*") = decide (c ≠ 42) := by rw [bne, b42]; by_cases h : c = 42 <;> simp [h]
  rw [bn]
  refine wpAny_truthy_bool ?_
  by_cases h42 : c = 42
  · rw [if_neg (by simpa using h42)]
    iterate 12 (walk_at "ks")
    (with_reducible rename News _ _ _ _ => N2)
    dsimp only at N2 ⊢
    generalize s.heap.objs.size + 1 = b1 at N2 ⊢
    iterate 15 (walk_at "ks")
    (with_reducible rename Fr _ _ _ _ => F5)
    (with_reducible rename News _ _ _ _ => N5)
    rename_i D1 hD1 lD1 D2 hD2 lD2 D3 h5 lD3
    refine ne_itemsK (x := out.drop (out.length - 1)) (y := [[(42, false)]]) N5 (.tail _ (.tail _ (.tail _ (.head _)))) ?_ (.head _) ?_ (fun it hi => hO it (List.mem_of_mem_drop hi)) ?_ ?_ ?_
    · rw [slice_last, hI.len]
      exact (hI.drop _).mono (ItemAt.mono fun q hq => .tail _ (.tail _ (.tail _ (.tail _ (.tail _ hq)))))
    · show All2 (ItemAt _) [.ref D2] [_]
      refine And.intro ⟨D2, #[.ref D1], 0, rfl, .tail _ (.head _), ?_⟩ trivial
      show All2 (CellAt _) [.ref D1] [_]
      refine And.intro ⟨D1, s.toks + 1 + 1 + 1 + 1, rfl, ?_⟩ trivial
      rw [show S [42] = Str.ofString "*" by decide +kernel]
      exact .tail _ (.tail _ (.head _))
    · intro it hi c hc
      cases List.mem_singleton.mp hi
      cases List.mem_singleton.mp hc
      exact (by decide : (42 : Nat) < 128)
    · show un + 3 + 64 < cLine; omega
    refine wpAny_truthy_bool ?_
    have N6 : News g L h5 ((r0, listOf vs e) :: news) := fun q hq => N5 q (.tail _ (.tail _ (.tail _ (.tail _ hq))))
    rw [ov3 hpat hi hit] at F5
    by_cases hls : out.drop (out.length - 1) = [[(42, false)]]
    · rw [if_neg (by rw [decide_eq_true hls]; decide)]
      have F6 := fr3 F5 hpat hi hit
      walk_at "kss"
      (with_reducible rename Fr _ _ _ _ => F8); (with_reducible rename News _ _ _ _ => N9)
      obtain ⟨t, F8⟩ : ∃ t, Fr g L _ (fun y => if y = Str.ofString "i" then some (.int ((i + 1 : Nat) : Int) t) else m y) := ⟨_, by rw [← ov3 hpat hi hit]; exact F8⟩
      exact hret _ _ _ [] vs e t (by rw [if_neg (fun h => h.elim (fun h => h h42) (fun h => h (last_star.mp hls)))]; exact hI) (Nat.le_succ _) (fun q hq => nomatch hq) F8 rfl N9
    · rw [if_pos (by rw [decide_eq_false hls]; rfl), if_pos trivial]
      refine it_push (c := c) B F5 X N6 T hpat hi hit hp h1 hv hne hc hdp hun fun h' tk' add v hA hadd F6 N7 => ?_
      have F7 := fr3 F6 hpat hi hit
      walk_at "kss"
      (with_reducible rename Fr _ _ _ _ => F8); (with_reducible rename News _ _ _ _ => N9)
      obtain ⟨t, F8⟩ : ∃ t, Fr g L _ (fun y => if y = Str.ofString "i" then some (.int ((i + 1 : Nat) : Int) t) else m y) := ⟨_, by rw [← ov3 hpat hi hit]; exact F8⟩
      exact hret _ _ _ add (vs.push v) (e + 1) t (by rw [if_pos (.inr fun h => hls (last_star.mpr h)), Array.toList_push]; exact (hI.mono (ItemAt.mono fun q hq => List.mem_append_right _ hq)).snoc hA) (by simp) hadd F8 rfl N9
  · rw [if_pos (decide_eq_true h42), if_pos rfl]
    rw [ov3 hpat hi hit] at F1
    refine it_push (c := c) B F1 X N T hpat hi hit hp h1 hv hne hc hdp hun fun h' tk' add v hA hadd F6 N7 => ?_
    have F7 := fr3 F6 hpat hi hit
    walk_at "kss"
    (with_reducible rename Fr _ _ _ _ => F8); (with_reducible rename News _ _ _ _ => N9)
    obtain ⟨t, F8⟩ : ∃ t, Fr g L _ (fun y => if y = Str.ofString "i" then some (.int ((i + 1 : Nat) : Int) t) else m y) := ⟨_, by rw [← ov3 hpat hi hit]; exact F8⟩
    exact hret _ _ _ add (vs.push v) (e + 1) t (by rw [if_pos (.inl h42), Array.toList_push]; exact (hI.mono (ItemAt.mono fun q hq => List.mem_append_right _ hq)).snoc hA) (by simp) hadd F8 rfl N9
end W3
end Mine
theorem Mine.off_W4 : True := by w_top off; trivial
namespace Mine
section W4
open LCg
variable {w : World} {p : Program} {loose : List Str} {mean : ExcName → Option Value} {mg mb : Str → Option Value} {dp un : Nat} {gd : Option (List Code)} {cn : Str} {cs : Scope} {a : Addr} {ccd : Value} {cl : List (Str × Addr)} {outer : List Env} {A₀ : Around} {base g : Heap} {L0 L : Addr} {m : Str → Option Value} {news : List (Addr × Obj)} {s : Shared}
    {Q : Flow → Shared → Prop} {pat : Str} {t1 ti tt : Tok} {r0 : Addr} {vs : Array Value} {e i : Nat} {out : List Item}
structure ItM (m : Str → Option Value) (pat : Str) (r0 : Addr) : Prop where
  pat : ∃ t, m (Str.ofString "pattern") = some (.str pat t)
  items : m (Str.ofString "items") = some (.ref r0)
theorem ItM.next {m m' : Str → Option Value} (h : ItM m pat r0) (hm : ∀ y, y ≠ Str.ofString "i" → y ≠ Str.ofString "inner" → y ≠ Str.ofString "front" → y ≠ Str.ofString "shut" → m' y = m y) : ItM m' pat r0 := by
  obtain ⟨t, ht⟩ := h.pat
  exact ⟨⟨t, (hm _ (by decide +kernel) (by decide +kernel) (by decide +kernel) (by decide +kernel)).trans ht⟩, (hm _ (by decide +kernel) (by decide +kernel) (by decide +kernel) (by decide +kernel)).trans h.items⟩
theorem it_turn (B : Below (ktrTop dp un gd cn cs L0 a ccd cl outer) base (envX cn cs L0 a ccd cl :: outer) g) (F : Fr g L s.heap m) (X : (hd.heap_1 w.params).In g) (N : News g L s.heap ((r0, listOf vs e) :: news)) (T : Top p loose mean mg mb g)
  (M : ItM m pat r0) (hi : m (Str.ofString "i") = some (.int (i : Int) ti))
  (hp : pat.length ≤ 64) (h1 : i < pat.length) (hv : vs.size ≤ i) (hne : ∀ q ∈ news, q.1 ≠ r0) (hI : ItemsAt news vs.toList out) (hO : OkI out) (h128 : ∀ c ∈ pat.cps.toList, c < 128)
  (hdp : dp + 16 < recursionLimit) (hun : un + 115 < cLine)
  (hk : ∀ h' tk' m' add vs' e' i' out' t, itS pat.cps.toList (i, out) = (i', out') → ItemsAt (add ++ news) vs'.toList out' → OkI out' → vs'.size ≤ i' → i < i' → i' ≤ pat.length → (∀ q ∈ add, r0 < q.1 ∧ ∀ r ∈ news, r.1 < q.1) → Fr g L h' m' → ItM m' pat r0 → m' (Str.ofString "i") = some (.int (i' : Int) t) →
     News g L h' ((r0, listOf vs' e') :: (add ++ news)) → Q .next { s with heap := h', toks := tk' }) :
  wpAny (model Challenge.rw_ij0082_01.row.prog w) ((ktrTop dp un gd cn cs L0 a ccd cl outer).deeper (iiEnv L)) (execs iwBody (iiEnv L)) Q (fun _ _ => False) s := by
  obtain ⟨t1, hpat⟩ := M.pat
  have hit := M.items
  have hl := len_list pat
  have F1 := fr3 F hpat hi hit
  have em := fun y => congrFun (ov3 hpat hi hit) y
  clear F
  show wpAny _ _ (execs (_ :: _) (envOf _ _ _ _ _)) _ _ _
  refine seqV F1 N (Str.ofString "front") (fun v => ∃ t, v = .int (if (Txt.slice pat (some (i : Int)) (some ((i : Int) + 2)) == Str.ofString "[!") = true then 3 else 2) t) ?_ ?_
  · walk_at "kss"
    · ((refine' Mine.midV ?hp9mid12 ?F9mid12 ?N9mid12 ?e9mid12 ?s9mid12; (case F9mid12 => assumption); (case N9mid12 => assumption); (case e9mid12 => first | (intro y; rfl) | (intro y; exact Mine.up2)); (case s9mid12 => exact fun _ h => h))); exact ⟨_, by rw [if_pos (by assumption)]⟩
    · ((refine' Mine.midV ?hp9mid13 ?F9mid13 ?N9mid13 ?e9mid13 ?s9mid13; (case F9mid13 => assumption); (case N9mid13 => assumption); (case e9mid13 => first | (intro y; rfl) | (intro y; exact Mine.up2)); (case s9mid13 => exact fun _ h => h))); exact ⟨_, by rw [if_neg (fun e => Bool.false_ne_true (Eq.trans (Eq.symm (by assumption : (Txt.slice pat (some (i : Int)) (some ((i : Int) + 2)) == Str.ofString "[!") = false)) e))]⟩
  rintro _ h2 tk2 ⟨tf, rfl⟩ F2 N2
  rw [front_eq h1] at F2
  have hfr : frontN pat.cps.toList i = 2 ∨ frontN pat.cps.toList i = 3 := by unfold frontN; split <;> simp
  refine seqV F2 N2 (Str.ofString "shut") (fun v => ∃ t, v = .int (shutV pat.cps.toList i) t) ?_ ?_
  · walk_at "kss"
    · ((refine' Mine.midV ?hp9mid14 ?F9mid14 ?N9mid14 ?e9mid14 ?s9mid14; (case F9mid14 => assumption); (case N9mid14 => assumption); (case e9mid14 => first | (intro y; rfl) | (intro y; exact Mine.up2)); (case s9mid14 => exact fun _ h => h)))
      exact ⟨_, by rw [← find_shut ((item_91 h1).mp (by assumption)), S_list]⟩
    · ((refine' Mine.midV ?hp9mid15 ?F9mid15 ?N9mid15 ?e9mid15 ?s9mid15; (case F9mid15 => assumption); (case N9mid15 => assumption); (case e9mid15 => first | (intro y; rfl) | (intro y; exact Mine.up2)); (case s9mid15 => exact fun _ h => h)))
      exact ⟨_, by rw [shutV_no (fun z => Bool.false_ne_true (Eq.trans (Eq.symm (by assumption : (Txt.item pat (i : Int) == Str.ofString "[") = false)) ((item_91 h1).mpr z)))]⟩
  rintro _ h3 tk3 ⟨tsh, rfl⟩ F3 N3
  obtain ⟨c, hc⟩ : ∃ c, pat.cps.toList[i]? = some c := ⟨_, List.getElem?_eq_getElem (by omega)⟩
  have hm3 : ∀ y, y ≠ Str.ofString "front" → y ≠ Str.ofString "shut" → (if y = Str.ofString "shut" then some (Value.int (shutV pat.cps.toList i) tsh) else if y = Str.ofString "front" then some (.int (frontN pat.cps.toList i : Int) tf) else if y = Str.ofString "pattern" then some (Value.str pat t1) else if y = Str.ofString "i" then some (.int (i : Int) ti) else if y = Str.ofString "items" then some (.ref r0) else m y) = m y := fun y a b => by
    rw [if_neg b, if_neg a]; exact em y
  rw [execs_cons]
  refine wpAny_bind ?_
  iterate 5 (walk_at "ks")
  refine wpAny_truthy_bool ?_
  have nx : ∀ m', (∀ y, y ≠ Str.ofString "i" → y ≠ Str.ofString "inner" → m' y = (if y = Str.ofString "shut" then some (Value.int (shutV pat.cps.toList i) tsh) else if y = Str.ofString "front" then some (.int (frontN pat.cps.toList i : Int) tf) else if y = Str.ofString "pattern" then some (Value.str pat t1) else if y = Str.ofString "i" then some (.int (i : Int) ti) else if y = Str.ofString "items" then some (.ref r0) else m y)) → ItM m' pat r0 := fun m' h => M.next fun y a b c d => (h y a b).trans (hm3 y c d)
  by_cases hb : ∃ k, pat.cps.toList[i]? = some 91 ∧ shut pat.cps.toList (i + 1) = some k
  · obtain ⟨k, h91, hs⟩ := hb
    have hv9 : shutV pat.cps.toList i = (k : Int) := by unfold shutV; rw [if_pos h91, hs]
    have hslt := shut_lt hs
    rw [hv9]
    rw [if_pos (decide_eq_true (by omega))]
    rw [hv9] at F3 nx hm3
    refine it_br (k := k) (tsh := tsh) (tf := tf) B F3 X N3 T ((hm3 _ (by decide +kernel) (by decide +kernel)).trans hpat) ((hm3 _ (by decide +kernel) (by decide +kernel)).trans hi) ((hm3 _ (by decide +kernel) (by decide +kernel)).trans hit) rfl rfl hp h1 hv hne h91 hs h128 hdp hun
      fun h' tk' m' add v hA hadd F' ⟨t, hi'⟩ hm' N' => ?_
    refine wpAny_execs_nil ?_
    exact hk _ _ _ add _ _ (k + 1) _ t (itS_br h91 hs) (by rw [Array.toList_push]; exact (hI.mono (ItemAt.mono fun q hq => List.mem_append_right _ hq)).snoc hA) (hO.add (okI_cls h128 _ _)) (by simp; omega) (by omega) (by omega) hadd F' (nx _ hm') hi' N'
  · have hv9 : shutV pat.cps.toList i = -1 := by
      unfold shutV
      by_cases h91 : pat.cps.toList[i]? = some 91
      · rw [if_pos h91]
        cases hs : shut pat.cps.toList (i + 1) with
        | none => rfl
        | some k => exact absurd ⟨k, h91, hs⟩ hb
      · rw [if_neg h91]
    have hs9 : c = 91 → shut pat.cps.toList (i + 1) = none := fun e => by
      cases hs : shut pat.cps.toList (i + 1) with
      | none => rfl
      | some k => exact absurd ⟨k, by rw [hc, e], hs⟩ hb
    rw [hv9]
    rw [if_neg (by decide)]
    rw [hv9] at F3 nx hm3
    refine it_el (c := c) B F3 X N3 T ((hm3 _ (by decide +kernel) (by decide +kernel)).trans hpat) ((hm3 _ (by decide +kernel) (by decide +kernel)).trans hi) ((hm3 _ (by decide +kernel) (by decide +kernel)).trans hit) hp h1 (by omega) hne hc hI hO hdp hun
      fun h' tk' m' add vs' e' t hA hsz hadd F' hm' N' => ?_
    refine wpAny_execs_nil ?_
    refine hk _ _ _ add _ _ (i + 1) _ t (itS_el hc hs9) hA ?_ (by omega) (by omega) (by omega) hadd F' (nx _ fun y a b => by rw [hm']; exact if_neg a) (by rw [hm']; rfl) N'
    split
    · refine hO.add fun d hd => ?_
      cases List.mem_singleton.mp hd
      exact h128 c (List.mem_of_getElem? hc)
    · exact hO
end W4
end Mine
theorem Mine.off_W5 : True := by w_top off; trivial
namespace Mine
section W5
open LCg
variable {w : World} {p : Program} {loose : List Str} {mean : ExcName → Option Value} {mg mb : Str → Option Value} {dp un : Nat} {gd : Option (List Code)} {cn : Str} {cs : Scope} {a : Addr} {ccd : Value} {cl : List (Str × Addr)} {outer : List Env} {A₀ : Around} {base h₀ : Heap} {L : Addr} {m : Str → Option Value} {rest : List (Addr × Obj)} {s : Shared}
    {Q E : Value → Shared → Prop} {pat : Str} {t1 : Tok}
theorem items_spec (B : Below A₀ base outer h₀) (F : Fr h₀ L s.heap m) (X : (hd.heap_1 w.params).In h₀) (N : News h₀ L s.heap rest) (T : Top p loose mean mg mb h₀) (hk : cs.kind = .function)
  (hp : pat.length ≤ 64) (h128 : ∀ c ∈ pat.cps.toList, c < 128) (hdp : dp + 18 < recursionLimit) (hun : un + 120 < cLine)
  (hret : ∀ r0 vs e add out h' tk', ReachI pat.cps.toList pat.length out → ItemsAt (add ++ rest) vs.toList out → OkI out → vs.size ≤ 64 → (∀ q ∈ rest, q.1 < r0) → (∀ q ∈ add, r0 < q.1 ∧ ∀ r ∈ rest, r.1 < q.1) → Fr h₀ L h' m → News h₀ L h' ((r0, listOf vs e) :: (add ++ rest)) → Q (.ref r0) { s with heap := h', toks := tk' }) :
  wpAny (model Challenge.rw_ij0082_01.row.prog w) (ktrTop dp un gd cn cs L a ccd cl outer) (call (.ref 123) [.str pat t1]) Q E s := by
  walk_at "enter"
  rename_i g L' h' FG' F0 N' B' X' T' tk0
  have F' : Fr g L' h' (fun y => List.lookup y [(Str.ofString "pattern", Value.str pat t1)]) := F0
  clear F0 B X T F N
  have hl := len_list pat
  refine seqE (n0 := 0) F' (Nat.zero_le _) (fun m' news' => ∃ r0, (∀ q ∈ rest, q.1 < r0) ∧ m' = (fun y => if y = Str.ofString "items" then some (.ref r0) else List.lookup y [(Str.ofString "pattern", Value.str pat t1)]) ∧ news' = (r0, listOf #[] 0) :: rest) ?_ ?_
  · k_steps
    ((refine' Mine.postE ?hp9pe11 ?F9pe11 ?N9pe11; (case F9pe11 => assumption); (case N9pe11 => assumption)))
    rename_i l9 _ lt9 _ _ _
    exact ⟨l9, lt9, rfl, rfl⟩
  rintro _ _ h2 tk2 ⟨r0, l1, rfl, rfl⟩ _ F2 N2
  clear F' N'
  refine seqE (n0 := 0) F2 (Nat.zero_le _) (fun m' news' => (∃ t, m' (Str.ofString "i") = some (.int 0 t)) ∧ ItM m' pat r0 ∧ news' = (r0, listOf #[] 0) :: rest) ?_ ?_
  · k_steps
    (with_reducible rename Fr _ _ _ _ => F9)
    (with_reducible rename News _ _ _ _ => N9)
    exact postE ⟨⟨_, rfl⟩, ⟨⟨_, rfl⟩, rfl⟩, rfl⟩ F9 N9
  rintro m4 _ h4 tk4 ⟨⟨ti, hi⟩, M, rfl⟩ _ F4 N4
  clear F2 N2
  refine seqE (n0 := 0) F4 (Nat.zero_le _) (fun m' news' => ∃ vs e add out, ReachI pat.cps.toList pat.length out ∧ ItemsAt (add ++ rest) vs.toList out ∧ OkI out ∧ vs.size ≤ 64 ∧ ItM m' pat r0 ∧ (∀ q ∈ add, r0 < q.1 ∧ ∀ r ∈ rest, r.1 < q.1) ∧ news' = (r0, listOf vs e) :: (add ++ rest)) ?_ ?_
  · refine whileG (fun n s₁ => ∃ (h5 : Heap) (tk5 i : Nat) (out : List Item) (vs : Array Value) (e : Nat) (add : List (Addr × Obj)) (m₁ : Str → Option Value) (ti : Tok), s₁ = { s with heap := h5, toks := tk5 } ∧ n = pat.length - i ∧ i ≤ pat.length ∧ ReachI pat.cps.toList i out ∧ ItemsAt (add ++ rest) vs.toList out ∧ OkI out ∧ vs.size ≤ i ∧ (∀ q ∈ add, r0 < q.1 ∧ ∀ r ∈ rest, r.1 < q.1) ∧
        Fr g L' h5 m₁ ∧ m₁ (Str.ofString "i") = some (.int (i : Int) ti) ∧ ItM m₁ pat r0 ∧ News g L' h5 ((r0, listOf vs e) :: (add ++ rest)))
      (n₀ := pat.length) (by
        refine ⟨h4, tk4, 0, [], #[], 0, [], m4, ti, ?_, ?_, Nat.zero_le _, ⟨0, ?_⟩, ?_, ?_, Nat.le_refl _, ?_, F4, hi, M, ?_⟩
        · exact rfl
        · exact rfl
        · exact rfl
        · exact trivial
        · exact fun _ h => nomatch h
        · exact fun _ h => nomatch h
        · exact N4) ?_
    rintro n _ ⟨h5, tk5, i, out, vs, e, add, m₁, ti1, rfl, rfl, hil, hre, hI, hO, hvs, hadd, Fm, hmi, Mm, Nm⟩
    obtain ⟨t1, hpat⟩ := Mm.pat
    have Fm2 := fr2 Fm hmi hpat
    iterate 10 (walk_at "ks")
    refine wpAny_truthy_bool ?_
    by_cases hlt : (i : Int) < (pat.length : Int)
    · rw [if_pos (decide_eq_true hlt)]
      refine it_turn B' Fm X' Nm T' Mm hmi hp (by omega) hvs (fun q hq => ?_) hI hO h128 (by omega) (by omega) fun h' tk' m' add' vs' e' i' out' t htr hI' hO' hv' hi1 hi2 hadd' F' M' hi' N' => ?_
      · rcases List.mem_append.mp hq with hq | hq
        · exact Nat.ne_of_gt (hadd q hq).1
        · exact Nat.ne_of_lt (l1 q hq)
      refine ⟨pat.length - i', by omega, h', tk', i', out', vs', e', add' ++ add, m', t, rfl, rfl, hi2, hre.step htr, by rw [List.append_assoc]; exact hI', hO', hv', fun q hq => ?_, F', hi', M', by rw [List.append_assoc]; exact N'⟩
      rcases List.mem_append.mp hq with hq | hq
      · exact ⟨(hadd' q hq).1, fun r hr => (hadd' q hq).2 r (List.mem_append_right _ hr)⟩
      · exact hadd q hq
    · rw [if_neg (by simpa using hlt)]
      obtain rfl : i = pat.length := by omega
      exact ⟨rfl, m₁, _, h5, _, ⟨vs, e, add, out, hre, hI, hO, by omega, Mm, hadd, rfl⟩, rfl, Fm, Nm⟩
  rintro m5 _ h5 tk5 ⟨vs, e, add, out, hre, hI, hO, hvs, M5, hadd, rfl⟩ _ F5 N5
  have F6 := fr1 F5 M5.items
  iterate 3 (walk_at "ks")
  exact leaveK_ F6 N5 fun kF kN => hret r0 vs e add out _ _ hre hI hO hvs l1 hadd kF kN
end W5
end Mine
theorem Mine.off_X1 : True := by w_top off; trivial
namespace Mine
section X1
open LCg
section
variable {prog : Program} {w : World} {A : Around} {E : Value → Shared → Prop} {s : Shared}
theorem item_lst {value slice : PySem.Expr} {l : Addr} {items : Array Value} {j : Nat} {u : Tok} {v : Value} {Q : Value → Shared → Prop}
    (hl : s.heap.IsList l items) (hj : j < 2 ^ 62) (hx : items[j]? = some v) (h : Q v s)
    (hs : subscripted slice false (.ref l) (.int (j : Int) u) = operate [.ref l, .int (j : Int) u] (getItem (.ref l) (.int (j : Int) u)) := by with_unfolding_all rfl) :
    wpAny (model prog w) A (subscriptTail value slice (.ref l) (.int (j : Int) u)) Q E s :=
  tail_any hl.typeIs slot_list_getitem.lookup (wpAny_getItem_list hl (by omega) (by omega) (by rw [Int.toNat_natCast]; exact hx) h) hs
theorem item_tup0 {value slice : PySem.Expr} {l : Addr} {a b : Value} {u : Tok} {Q : Value → Shared → Prop}
    (hl : IsTup s.heap l #[a, b]) (h : Q a s)
    (hs : subscripted slice false (.ref l) (.int 0 u) = operate [.ref l, .int 0 u] (getItem (.ref l) (.int 0 u)) := by with_unfolding_all rfl) :
    wpAny (model prog w) A (subscriptTail value slice (.ref l) (.int 0 u)) Q E s :=
  tail_any hl.typeIs slot_tuple_getitem.lookup (getItem_tuple hl (by omega) (by omega) (seqIndex_of (by omega) (by simp)) rfl h) hs
theorem item_tup1 {value slice : PySem.Expr} {l : Addr} {a b : Value} {u : Tok} {Q : Value → Shared → Prop}
    (hl : IsTup s.heap l #[a, b]) (h : Q b s)
    (hs : subscripted slice false (.ref l) (.int 1 u) = operate [.ref l, .int 1 u] (getItem (.ref l) (.int 1 u)) := by with_unfolding_all rfl) :
    wpAny (model prog w) A (subscriptTail value slice (.ref l) (.int 1 u)) Q E s :=
  tail_any hl.typeIs slot_tuple_getitem.lookup (getItem_tuple hl (by omega) (by omega) (seqIndex_of (by omega) (by simp)) rfl h) hs
end
variable {w : World} {p : Program} {loose : List Str} {mean : ExcName → Option Value} {mg mb : Str → Option Value} {dp un : Nat} {gd : Option (List Code)} {cn : Str} {cs : Scope} {a : Addr} {ccd : Value} {cl : List (Str × Addr)} {outer : List Env} {A₀ : Around} {base g : Heap} {L0 L : Addr} {m : Str → Option Value} {news : List (Addr × Obj)} {s : Shared}
    {Q : Flow → Shared → Prop} {r0 c0 : Addr} {vs cv : Array Value} {e ck i : Nat} {ti te : Tok} {cells : Item} {out : List (List Nat)}
noncomputable def lwBody : List Stmt := fnBody (fnD (hd.heap_1 anyP) 128)
noncomputable def lwScope : Scope := (fnD (hd.heap_1 anyP) 128).scope
noncomputable abbrev lwEnv (L : Addr) : Env := envOf (Str.ofString "_law_words") lwScope L 128 (.ref 127)
noncomputable def lwTurn : List Stmt := subs [(2, 0)] lwBody
noncomputable def lwQ : List Stmt := subs [(2, 0), (1, 0)] lwBody
noncomputable def lwEl : List Stmt := subs [(2, 0), (1, 1), (0, 1)] lwBody
noncomputable def qScan : Stmt := lwQ.getD 0 default
noncomputable def wScan : Stmt := lwEl.getD 0 default
/-- what every step of `_law_words` keeps -/
structure WdM (m : Str → Option Value) (c0 r0 : Addr) : Prop where
  cells : m (Str.ofString "cells") = some (.ref c0)
  words : m (Str.ofString "words") = some (.ref r0)
theorem q_scan (B : Below (ktrTop dp un gd cn cs L0 a ccd cl outer) base (envX cn cs L0 a ccd cl :: outer) g) (X : (hd.heap_1 w.params).In g) (T : Top p loose mean mg mb g) (F : Fr g L s.heap m) (N : News g L s.heap news)
  (M : WdM m c0 r0) (he : m (Str.ofString "end") = some (.int (e : Int) te)) (hc0 : (c0, listOf cv ck) ∈ news) (hC : CellsAt news cv.toList cells) (hO : ∀ c ∈ cells, OkC c) (hsz : cells.length ≤ 200) (hle : e ≤ cells.length)
  (hdp : dp + 16 < recursionLimit) (hun : un + 115 < cLine)
  (hret : ∀ h' tk' j t, (cells.drop e).takeWhile nq = (cells.drop e).take (j - e) → (cells.drop e).dropWhile nq = cells.drop j → e ≤ j → j ≤ cells.length → Fr g L h' (fun y => if y = Str.ofString "end" then some (.int (j : Int) t) else m y) → News g L h' news → Q .next { s with heap := h', toks := tk' }) :
  wpAny (model Challenge.rw_ij0082_01.row.prog w) ((ktrTop dp un gd cn cs L0 a ccd cl outer).deeper (lwEnv L)) (exec qScan (lwEnv L)) Q (fun _ _ => False) s := by
  have hcl := hC.len
  rw [Array.length_toList] at hcl
  have e2 : ∀ (x : Value) y, (if y = Str.ofString "cells" then some (Value.ref c0) else if y = Str.ofString "end" then some x else m y) = (if y = Str.ofString "end" then some x else m y) := fun x y => by
    by_cases h2 : y = Str.ofString "cells"
    · rw [if_pos h2, h2, if_neg (by decide +kernel), M.cells]
    · rw [if_neg h2]
  have e1 : ∀ (v x : Value) y, (if y = Str.ofString "end" then some v else if y = Str.ofString "cells" then some (Value.ref c0) else if y = Str.ofString "end" then some x else m y) = (if y = Str.ofString "end" then some v else m y) := fun v x y => by
    by_cases h1 : y = Str.ofString "end"
    · rw [if_pos h1, if_pos h1]
    · rw [if_neg h1, if_neg h1, if_neg h1]
      by_cases h2 : y = Str.ofString "cells"
      · rw [if_pos h2, h2, M.cells]
      · rw [if_neg h2]
  with_unfolding_all show wpAny _ _ (exec (.While _ _ [] _) (envOf _ _ _ _ _)) _ _ _
  refine whileG (fun n s₁ => ∃ (h5 : Heap) (tk5 j : Nat) (t : Tok), s₁ = { s with heap := h5, toks := tk5 } ∧ n = cells.length - j ∧ e ≤ j ∧ j ≤ cells.length ∧ (∀ v, e ≤ v → v < j → ∀ c, cells[v]? = some c → nq c = true) ∧
        Fr g L h5 (fun y => if y = Str.ofString "end" then some (.int (j : Int) t) else m y) ∧ News g L h5 news)
      (n₀ := cells.length - e) (by
        refine ⟨s.heap, s.toks, e, te, ?_, ?_, Nat.le_refl _, hle, ?_, ?_, N⟩
        · exact rfl
        · exact rfl
        · intro v h1 h2; omega
        · exact fr1 F he) ?_
  rintro n _ ⟨h5, tk5, j, t, rfl, rfl, hej, hjl, hall, Fm, Nm⟩
  have Fm2 := fr1 Fm ((if_neg (by decide +kernel)).trans M.cells : (fun y => if y = Str.ofString "end" then some (Value.int (j : Int) t) else m y) (Str.ofString "cells") = _)
  have lit_q : S [34] = Str.ofString "\"" := by decide +kernel
  iterate 12 (walk_at "ks")
  by_cases hlt : (j : Int) < (cells.length : Int)
  · rw [if_pos (decide_eq_true hlt)]
    obtain ⟨c, hcj⟩ : ∃ c, cells[j]? = some c := ⟨_, List.getElem?_eq_getElem (by omega)⟩
    obtain ⟨v, hv, hcv⟩ := hC.get hcj
    iterate 5 (walk_at "ks")
    refine item_lst (isl Nm hc0) (by omega) (by rw [← Array.getElem?_toList]; exact hv) ?_
    iterate 7 (walk_at "ks")
    (with_reducible rename Fr _ _ _ _ => F9)
    (with_reducible rename News _ _ _ _ => N9)
    have hcc : OkC c := hO c (List.mem_of_getElem? hcj)
    refine ne_cellK (x := c) (y := (34, true)) N9 (CellAt.mono (fun q hq => .tail _ hq) _ _ hcv) ⟨_, _, rfl, by rw [lit_q]; exact .head _⟩ hcc (show (34 : Nat) < 128 by decide) (by show un + 3 + 64 < cLine; omega) ?_
    show wpAny _ _ (truthy (.bool (nq c))) _ _ _
    refine wpAny_truthy_bool ?_
    cases hb : nq c with
    | true =>
      rw [if_pos rfl]
      walk_at "kss"
      (with_reducible rename Fr _ _ _ _ => F8)
      (with_reducible rename News _ _ _ _ => N8)
      have F7 := frc F8 (e1 _ _)
      refine ⟨cells.length - (j + 1), by omega, _, _, j + 1, _, rfl, rfl, by omega, by omega, fun v h1 h2 d hd => ?_, F7, nwt N8⟩
      by_cases hvj : v = j
      · subst hvj; rw [hcj] at hd; cases hd; exact hb
      · exact hall v h1 (by omega) d hd
    | false =>
      rw [if_neg (by decide), if_neg (by decide)]
      have := scan_end (p := nq) (l := cells.drop e) (k := j - e) (fun v x hv hx => hall (e + v) (by omega) (by omega) x (by rwa [List.getElem?_drop] at hx)) (by rw [List.length_drop]; omega) (fun x hx => by rw [List.getElem?_drop, show e + (j - e) = j by omega, hcj] at hx; cases hx; exact hb)
      rw [List.drop_drop, show e + (j - e) = j by omega] at this
      exact hret _ _ j t this.1 this.2 hej hjl (frc F9 (e2 _)) (nwt N9)
  · rw [if_neg (by simpa using hlt), if_neg (by decide)]
    have := scan_end (p := nq) (l := cells.drop e) (k := j - e) (fun v x hv hx => hall (e + v) (by omega) (by omega) x (by rwa [List.getElem?_drop] at hx)) (by rw [List.length_drop]; omega) (fun x hx => by
      have h9 := (List.getElem?_eq_some_iff.mp hx).1
      rw [List.length_drop] at h9
      omega)
    rw [List.drop_drop, show e + (j - e) = j by omega] at this
    exact hret _ _ j t this.1 this.2 hej hjl Fm Nm
end X1
end Mine
theorem Mine.off_X2 : True := by w_top off; trivial
namespace Mine
section X2
open LCg
variable {w : World} {p : Program} {loose : List Str} {mean : ExcName → Option Value} {mg mb : Str → Option Value} {dp un : Nat} {gd : Option (List Code)} {cn : Str} {cs : Scope} {a : Addr} {ccd : Value} {cl : List (Str × Addr)} {outer : List Env} {A₀ : Around} {base g : Heap} {L0 L : Addr} {m : Str → Option Value} {news : List (Addr × Obj)} {s : Shared}
    {Q : Flow → Shared → Prop} {r0 c0 : Addr} {vs cv : Array Value} {e ck i : Nat} {ti te : Tok} {cells : Item} {out : List (List Nat)}
theorem w_scan (B : Below (ktrTop dp un gd cn cs L0 a ccd cl outer) base (envX cn cs L0 a ccd cl :: outer) g) (X : (hd.heap_1 w.params).In g) (T : Top p loose mean mg mb g) (F : Fr g L s.heap m) (N : News g L s.heap news)
  (M : WdM m c0 r0) (he : m (Str.ofString "end") = some (.int (e : Int) te)) (hc0 : (c0, listOf cv ck) ∈ news) (hC : CellsAt news cv.toList cells) (hO : ∀ c ∈ cells, OkC c) (hsz : cells.length ≤ 200) (hle : e ≤ cells.length)
  (hdp : dp + 16 < recursionLimit) (hun : un + 115 < cLine)
  (hret : ∀ h' tk' j t, (cells.drop e).takeWhile stay = (cells.drop e).take (j - e) → (cells.drop e).dropWhile stay = cells.drop j → e ≤ j → j ≤ cells.length → Fr g L h' (fun y => if y = Str.ofString "end" then some (.int (j : Int) t) else m y) → News g L h' news → Q .next { s with heap := h', toks := tk' }) :
  wpAny (model Challenge.rw_ij0082_01.row.prog w) ((ktrTop dp un gd cn cs L0 a ccd cl outer).deeper (lwEnv L)) (exec wScan (lwEnv L)) Q (fun _ _ => False) s := by
  have hcl := hC.len
  rw [Array.length_toList] at hcl
  have e2 : ∀ (x : Value) y, (if y = Str.ofString "cells" then some (Value.ref c0) else if y = Str.ofString "end" then some x else m y) = (if y = Str.ofString "end" then some x else m y) := fun x y => by
    by_cases h2 : y = Str.ofString "cells"
    · rw [if_pos h2, h2, if_neg (by decide +kernel), M.cells]
    · rw [if_neg h2]
  have e1 : ∀ (v x : Value) y, (if y = Str.ofString "end" then some v else if y = Str.ofString "cells" then some (Value.ref c0) else if y = Str.ofString "end" then some x else m y) = (if y = Str.ofString "end" then some v else m y) := fun v x y => by
    by_cases h1 : y = Str.ofString "end"
    · rw [if_pos h1, if_pos h1]
    · rw [if_neg h1, if_neg h1, if_neg h1]
      by_cases h2 : y = Str.ofString "cells"
      · rw [if_pos h2, h2, M.cells]
      · rw [if_neg h2]
  with_unfolding_all show wpAny _ _ (exec (.While _ _ [] _) (envOf _ _ _ _ _)) _ _ _
  refine whileG (fun n s₁ => ∃ (h5 : Heap) (tk5 j : Nat) (t : Tok), s₁ = { s with heap := h5, toks := tk5 } ∧ n = cells.length - j ∧ e ≤ j ∧ j ≤ cells.length ∧ (∀ v, e ≤ v → v < j → ∀ c, cells[v]? = some c → stay c = true) ∧
        Fr g L h5 (fun y => if y = Str.ofString "end" then some (.int (j : Int) t) else m y) ∧ News g L h5 news)
      (n₀ := cells.length - e) (by
        refine ⟨s.heap, s.toks, e, te, ?_, ?_, Nat.le_refl _, hle, ?_, ?_, N⟩
        · exact rfl
        · exact rfl
        · intro v h1 h2; omega
        · exact fr1 F he) ?_
  rintro n _ ⟨h5, tk5, j, t, rfl, rfl, hej, hjl, hall, Fm, Nm⟩
  have Fm2 := fr1 Fm ((if_neg (by decide +kernel)).trans M.cells : (fun y => if y = Str.ofString "end" then some (Value.int (j : Int) t) else m y) (Str.ofString "cells") = _)
  have lit_q : S [34] = Str.ofString "\"" := by decide +kernel
  iterate 12 (walk_at "ks")
  by_cases hlt : (j : Int) < (cells.length : Int)
  · rw [if_pos (decide_eq_true hlt)]
    obtain ⟨c, hcj⟩ : ∃ c, cells[j]? = some c := ⟨_, List.getElem?_eq_getElem (by omega)⟩
    obtain ⟨v, hv, hcv⟩ := hC.get hcj
    obtain ⟨t9, u9, rfl, hm9⟩ := hcv
    have htup : IsTup h5 t9 #[.str (S [c.1]) u9, .bool c.2] := ⟨_, Nm.get hm9, rfl, 0, rfl⟩
    iterate 8 (walk_at "ks")
    refine item_lst (isl Nm hc0) (by omega) (by rw [← Array.getElem?_toList]; exact hv) ?_
    iterate 1 (walk_at "ks")
    refine item_tup1 htup ?_
    iterate 1 (walk_at "ks")
    cases hb2 : c.2 with
    | false =>
      have hb : stay c = true := by unfold stay; rw [hb2]; rfl
      rw [if_pos (by rfl), if_pos rfl]
      walk_at "kss"
      (with_reducible rename Fr _ _ _ _ => F8)
      (with_reducible rename News _ _ _ _ => N8)
      have F7 := frc F8 (e1 _ _)
      refine ⟨cells.length - (j + 1), by omega, _, _, j + 1, _, rfl, rfl, by omega, by omega, fun v h1 h2 d hd => ?_, F7, N8⟩
      by_cases hvj : v = j
      · subst hvj; rw [hcj] at hd; cases hd; exact hb
      · exact hall v h1 (by omega) d hd
    | true =>
      rw [if_neg (by decide)]
      iterate 6 (walk_at "ks")
      refine item_lst (isl Nm hc0) (by omega) (by rw [← Array.getElem?_toList]; exact hv) ?_
      iterate 1 (walk_at "ks")
      refine item_tup0 htup ?_
      iterate 2 (walk_at "ks")
      refine wpAny_truthy_bool ?_
      have b34 : (S [c.1] == Str.ofString "\"") = (c.1 == 34) := by rw [← lit_q, beq_S]; simp; rfl
      rw [b34]
      cases hb3 : c.1 == 34 with
      | true =>
        have hb : stay c = true := by unfold stay; rw [hb3, Bool.or_true]
        rw [if_pos rfl, if_pos rfl]
        walk_at "kss"
        (with_reducible rename Fr _ _ _ _ => F8)
        (with_reducible rename News _ _ _ _ => N8)
        have F7 := frc F8 (e1 _ _)
        refine ⟨cells.length - (j + 1), by omega, _, _, j + 1, _, rfl, rfl, by omega, by omega, fun v h1 h2 d hd => ?_, F7, N8⟩
        by_cases hvj : v = j
        · subst hvj; rw [hcj] at hd; cases hd; exact hb
        · exact hall v h1 (by omega) d hd
      | false =>
        have hb : stay c = false := by unfold stay; rw [hb2, hb3]; rfl
        rw [if_neg (by decide)]
        walk_at "kss"
        have := scan_end (p := stay) (l := cells.drop e) (k := j - e) (fun v x hv hx => hall (e + v) (by omega) (by omega) x (by rwa [List.getElem?_drop] at hx)) (by rw [List.length_drop]; omega) (fun x hx => by rw [List.getElem?_drop, show e + (j - e) = j by omega, hcj] at hx; cases hx; exact hb)
        rw [List.drop_drop, show e + (j - e) = j by omega] at this
        exact hret _ _ j t this.1 this.2 hej hjl Fm Nm
  · rw [if_neg (by simpa using hlt), if_neg (by decide)]
    have := scan_end (p := stay) (l := cells.drop e) (k := j - e) (fun v x hv hx => hall (e + v) (by omega) (by omega) x (by rwa [List.getElem?_drop] at hx)) (by rw [List.length_drop]; omega) (fun x hx => by
      have h9 := (List.getElem?_eq_some_iff.mp hx).1
      rw [List.length_drop] at h9
      omega)
    rw [List.drop_drop, show e + (j - e) = j by omega] at this
    exact hret _ _ j t this.1 this.2 hej hjl Fm Nm
end X2
end Mine
theorem Mine.off_X3 : True := by w_top off; trivial
namespace Mine
section X3
open LCg
variable {w : World} {p : Program} {loose : List Str} {mean : ExcName → Option Value} {mg mb : Str → Option Value} {dp un : Nat} {gd : Option (List Code)} {cn : Str} {cs : Scope} {a : Addr} {ccd : Value} {cl : List (Str × Addr)} {outer : List Env} {A₀ : Around} {base g : Heap} {L0 L : Addr} {m : Str → Option Value} {news : List (Addr × Obj)} {s : Shared}
    {Q : Flow → Shared → Prop} {r0 c0 : Addr} {vs cv : Array Value} {e ck i wk : Nat} {ti te : Tok} {cells : Item} {out : List (List Nat)}
noncomputable def lwP1 : Stmt := lwQ.getD 1 default
noncomputable def lwP2 : Stmt := lwEl.getD 1 default
theorem pick_run' {l : List Value} {a b : Nat} (h1 : a ≤ b) (h2 : b ≤ l.length) : kms_pick l (some (a : Int)) (some (b : Int)) = (l.drop a).take (b - a) := by
  have e1 : kms_lo (some (a : Int)) l.length = a := by unfold kms_lo; simp only; rw [if_neg (by omega)]; omega
  have e2 : kms_hi (some (b : Int)) l.length = b := by unfold kms_hi; simp only; rw [if_neg (by omega)]; omega
  unfold kms_pick
  rw [e1, e2]
theorem sg_sum : ∀ cs : Item, (((sg cs).map S).map (·.length)).sum = cs.length
  | [] => rfl
  | c :: r => by
    have := sg_sum r
    unfold sg at this ⊢
    simp only [List.map_cons, List.sum_cons, List.length_cons, this]
    rw [len_list]
    simp; omega
theorem w_push1 (B : Below (ktrTop dp un gd cn cs L0 a ccd cl outer) base (envX cn cs L0 a ccd cl :: outer) g) (X : (hd.heap_1 w.params).In g) (T : Top p loose mean mg mb g) (F : Fr g L s.heap m) (N : News g L s.heap ((r0, listOf vs wk) :: news))
  (M : WdM m c0 r0) (hi : m (Str.ofString "i") = some (.int (i : Int) ti)) (he : m (Str.ofString "end") = some (.int (e : Int) te)) (hc0 : (c0, listOf cv ck) ∈ news) (hC : CellsAt news cv.toList cells) (hsz : cells.length ≤ 200) (hie : i + 1 ≤ e) (hle : e ≤ cells.length) (hv : vs.size ≤ 200) (hne : ∀ q ∈ news, q.1 ≠ r0)
  (hdp : dp + 16 < recursionLimit) (hun : un + 115 < cLine)
  (hret : ∀ h' tk' t, Fr g L h' m → News g L h' ((r0, listOf (vs.push (.str (S (((cells.drop (i + 1)).take (e - (i + 1))).map (·.1))) t)) (wk + 1)) :: news) → Q .next { s with heap := h', toks := tk' }) :
  wpAny (model Challenge.rw_ij0082_01.row.prog w) ((ktrTop dp un gd cn cs L0 a ccd cl outer).deeper (lwEnv L)) (exec lwP1 (lwEnv L)) Q (fun _ _ => False) s := by
  have hcl := hC.len
  rw [Array.length_toList] at hcl
  have hcv : cv.size ≤ 200 := by omega
  have F1 := fr4 F M.cells M.words hi he
  with_unfolding_all show wpAny _ _ (exec (.Expr (.Call (.Attribute _ _ _) _ _ _) _) (envOf _ _ _ _ _)) _ _ _
  iterate 11 (walk_at "ks")
  refine sg_comp F1 rfl (by decide) rfl (by decide) rfl rfl (by decide +kernel) (by decide +kernel) (fun C => rfl) (fun C => rfl) ?_
  iterate 11 (walk_at "ks")
  refine' kms_slice_lit ?fz ?nz ?lz ?pz ?qz ?ez ?_ ?sz ?tz ?zz; (case fz => k_asm); (case nz => k_asm); (case lz => exact isl N (.tail _ hc0)); (case pz => kmk_part); (case qz => kmk_part); (case ez => exact rfl); (case sz => with_unfolding_all rfl); (case tz => kmk_pure); (case zz => size_fits)
  intro D1 h1 F2 N2 l1
  have epk : kms_pick cv.toList (some ((i : Int) + 1)) (some (e : Int)) = (cv.toList.drop (i + 1)).take (e - (i + 1)) := pick_run' (a := i + 1) hie (by rw [Array.length_toList]; omega)
  rw [epk] at N2
  have hC2 : CellsAt ((D1, listOf ((cv.toList.drop (i + 1)).take (e - (i + 1))).toArray 0) :: (r0, listOf vs wk) :: news) ((cv.toList.drop (i + 1)).take (e - (i + 1))).toArray.toList ((cells.drop (i + 1)).take (e - (i + 1))) :=
    ((hC.drop (i + 1)).take (e - (i + 1))).mono (CellAt.mono fun q hq => .tail _ (.tail _ hq))
  refine ⟨D1, _, 0, _, _, rfl, rfl, F2, N2, .head _, hC2, by simp only [List.size_toArray, List.length_take, List.length_drop, Array.length_toList]; size_fits, fun ys D h tk hva F3 N3 o3 => ?_⟩
  (try dsimp only)
  iterate 1 (walk_at "ks")
  have hln : ((cells.drop (i + 1)).take (e - (i + 1))).length ≤ 200 := by rw [List.length_take, List.length_drop]; omega
  refine join_list (isl N3 (.head _)) (strsOf (by simpa using hva)) (by rw [sg_sum, List.length_map]; unfold sg; rw [List.length_map]; rw [show (Str.ofString "").length = 0 by decide +kernel]; omega) fun t' k' => ?_
  rw [join_sg]
  iterate 1 (walk_at "ks")
  have N4 : News g L h ((r0, listOf vs wk) :: news) := fun q hq => N3 q (.tail _ (.tail _ hq))
  refine append_K (s := { s with heap := h, toks := k' }) F3 N4 (Upd.head hne) (fun h7 F7 N8 => ?_)
  rw [ov4 M.cells M.words hi he] at F7
  exact hret _ _ _ F7 N8
end X3
end Mine
theorem Mine.off_X4 : True := by w_top off; trivial
namespace Mine
section X4
open LCg
variable {w : World} {p : Program} {loose : List Str} {mean : ExcName → Option Value} {mg mb : Str → Option Value} {dp un : Nat} {gd : Option (List Code)} {cn : Str} {cs : Scope} {a : Addr} {ccd : Value} {cl : List (Str × Addr)} {outer : List Env} {A₀ : Around} {base g : Heap} {L0 L : Addr} {m : Str → Option Value} {news : List (Addr × Obj)} {s : Shared}
    {Q : Flow → Shared → Prop} {r0 c0 : Addr} {vs cv : Array Value} {e ck i wk : Nat} {ti te : Tok} {cells : Item} {out : List (List Nat)}
theorem w_push2 (B : Below (ktrTop dp un gd cn cs L0 a ccd cl outer) base (envX cn cs L0 a ccd cl :: outer) g) (X : (hd.heap_1 w.params).In g) (T : Top p loose mean mg mb g) (F : Fr g L s.heap m) (N : News g L s.heap ((r0, listOf vs wk) :: news))
  (M : WdM m c0 r0) (hi : m (Str.ofString "i") = some (.int (i : Int) ti)) (he : m (Str.ofString "end") = some (.int (e : Int) te)) (hc0 : (c0, listOf cv ck) ∈ news) (hC : CellsAt news cv.toList cells) (hsz : cells.length ≤ 200) (hie : i ≤ e) (hle : e ≤ cells.length) (hv : vs.size ≤ 200) (hne : ∀ q ∈ news, q.1 ≠ r0)
  (hdp : dp + 16 < recursionLimit) (hun : un + 115 < cLine)
  (hret : ∀ h' tk' t, Fr g L h' m → News g L h' ((r0, listOf (vs.push (.str (S (((cells.drop i).take (e - i)).map (·.1))) t)) (wk + 1)) :: news) → Q .next { s with heap := h', toks := tk' }) :
  wpAny (model Challenge.rw_ij0082_01.row.prog w) ((ktrTop dp un gd cn cs L0 a ccd cl outer).deeper (lwEnv L)) (exec lwP2 (lwEnv L)) Q (fun _ _ => False) s := by
  have hcl := hC.len
  rw [Array.length_toList] at hcl
  have hcv : cv.size ≤ 200 := by omega
  have F1 := fr4 F M.cells M.words hi he
  with_unfolding_all show wpAny _ _ (exec (.Expr (.Call (.Attribute _ _ _) _ _ _) _) (envOf _ _ _ _ _)) _ _ _
  iterate 11 (walk_at "ks")
  refine sg_comp F1 rfl (by decide) rfl (by decide) rfl rfl (by decide +kernel) (by decide +kernel) (fun C => rfl) (fun C => rfl) ?_
  iterate 8 (walk_at "ks")
  refine' kms_slice_lit ?fz ?nz ?lz ?pz ?qz ?ez ?_ ?sz ?tz ?zz; (case fz => k_asm); (case nz => k_asm); (case lz => exact isl N (.tail _ hc0)); (case pz => kmk_part); (case qz => kmk_part); (case ez => exact rfl); (case sz => with_unfolding_all rfl); (case tz => kmk_pure); (case zz => size_fits)
  intro D1 h1 F2 N2 l1
  have epk : kms_pick cv.toList (some (i : Int)) (some (e : Int)) = (cv.toList.drop i).take (e - i) := pick_run' (a := i) hie (by rw [Array.length_toList]; omega)
  rw [epk] at N2
  have hC2 : CellsAt ((D1, listOf ((cv.toList.drop i).take (e - i)).toArray 0) :: (r0, listOf vs wk) :: news) ((cv.toList.drop i).take (e - i)).toArray.toList ((cells.drop i).take (e - i)) :=
    ((hC.drop i).take (e - i)).mono (CellAt.mono fun q hq => .tail _ (.tail _ hq))
  refine ⟨D1, _, 0, _, _, rfl, rfl, F2, N2, .head _, hC2, by simp only [List.size_toArray, List.length_take, List.length_drop, Array.length_toList]; size_fits, fun ys D h tk hva F3 N3 o3 => ?_⟩
  (try dsimp only)
  iterate 1 (walk_at "ks")
  have hln : ((cells.drop i).take (e - i)).length ≤ 200 := by rw [List.length_take, List.length_drop]; omega
  refine join_list (isl N3 (.head _)) (strsOf (by simpa using hva)) (by rw [sg_sum, List.length_map]; unfold sg; rw [List.length_map]; rw [show (Str.ofString "").length = 0 by decide +kernel]; omega) fun t' k' => ?_
  rw [join_sg]
  iterate 1 (walk_at "ks")
  have N4 : News g L h ((r0, listOf vs wk) :: news) := fun q hq => N3 q (.tail _ (.tail _ hq))
  refine append_K (s := { s with heap := h, toks := k' }) F3 N4 (Upd.head hne) (fun h7 F7 N8 => ?_)
  rw [ov4 M.cells M.words hi he] at F7
  exact hret _ _ _ F7 N8
end X4
end Mine
theorem Mine.off_X5 : True := by w_top off; trivial
namespace Mine
section X5
open LCg
variable {w : World} {p : Program} {loose : List Str} {mean : ExcName → Option Value} {mg mb : Str → Option Value} {dp un : Nat} {gd : Option (List Code)} {cn : Str} {cs : Scope} {a : Addr} {ccd : Value} {cl : List (Str × Addr)} {outer : List Env} {A₀ : Around} {base g : Heap} {L0 L : Addr} {m : Str → Option Value} {news : List (Addr × Obj)} {s : Shared}
    {Q : Flow → Shared → Prop} {r0 c0 : Addr} {vs cv : Array Value} {e ck i wk : Nat} {ti te : Tok} {cells : Item} {out : List (List Nat)}
theorem WdM.over {x : Str} {v : Value} (M : WdM m c0 r0) (h1 : x ≠ Str.ofString "cells") (h2 : x ≠ Str.ofString "words") : WdM (fun y => if y = x then some v else m y) c0 r0 :=
  ⟨by rw [if_neg (Ne.symm h1)]; exact M.cells, by rw [if_neg (Ne.symm h2)]; exact M.words⟩
theorem wS_q {r : List Cell} {c : Cell} (h : c = (34, true)) : wS (c :: r, out) = ((r.dropWhile nq).drop 1, out ++ [(r.takeWhile nq).map (·.1)]) := by show (if _ then _ else _) = _; rw [if_pos h]
theorem wS_b {r : List Cell} {c : Cell} (h : c ≠ (34, true)) (h2 : c.2 = true) : wS (c :: r, out) = (r, out) := by show (if _ then _ else _) = _; rw [if_neg h, if_pos h2]
theorem wS_w {r : List Cell} {c : Cell} (h : c ≠ (34, true)) (h2 : c.2 = false) : wS (c :: r, out) = (r.dropWhile stay, out ++ [c.1 :: (r.takeWhile stay).map (·.1)]) := by show (if _ then _ else _) = _; rw [if_neg h, if_neg (by rw [h2]; decide)]
theorem lw_turn (B : Below (ktrTop dp un gd cn cs L0 a ccd cl outer) base (envX cn cs L0 a ccd cl :: outer) g) (X : (hd.heap_1 w.params).In g) (T : Top p loose mean mg mb g) (F : Fr g L s.heap m) (N : News g L s.heap ((r0, listOf vs wk) :: news))
  (M : WdM m c0 r0) (hi : m (Str.ofString "i") = some (.int (i : Int) ti)) (hc0 : (c0, listOf cv ck) ∈ news) (hC : CellsAt news cv.toList cells) (hO : ∀ c ∈ cells, OkC c) (hsz : cells.length ≤ 200) (hil : i < cells.length) (hv : vs.size ≤ i) (hne : ∀ q ∈ news, q.1 ≠ r0) (hva : VA vs.toList out)
  (hdp : dp + 16 < recursionLimit) (hun : un + 115 < cLine)
  (hk : ∀ h' tk' m' vs' wk' i' out' t, wS (cells.drop i, out) = (cells.drop i', out') → i < i' → i' ≤ cells.length + 1 → vs'.size ≤ vs.size + 1 → VA vs'.toList out' → Fr g L h' m' → WdM m' c0 r0 → m' (Str.ofString "i") = some (.int (i' : Int) t) → News g L h' ((r0, listOf vs' wk') :: news) → Q .next { s with heap := h', toks := tk' }) :
  wpAny (model Challenge.rw_ij0082_01.row.prog w) ((ktrTop dp un gd cn cs L0 a ccd cl outer).deeper (lwEnv L)) (execs lwTurn (lwEnv L)) Q (fun _ _ => False) s := by
  have hcl := hC.len
  rw [Array.length_toList] at hcl
  obtain ⟨c, hci⟩ : ∃ c, cells[i]? = some c := ⟨_, List.getElem?_eq_getElem (by omega)⟩
  obtain ⟨v, hvi, hcv⟩ := hC.get hci
  have hdrop : cells.drop i = c :: cells.drop (i + 1) := by
    obtain ⟨h1, h2⟩ := List.getElem?_eq_some_iff.mp hci
    rw [List.drop_eq_getElem_cons h1, h2]
  have hcc : OkC c := hO c (List.mem_of_getElem? hci)
  have lit_q : S [34] = Str.ofString "\"" := by decide +kernel
  have F0 := fr1 F hi
  show wpAny _ _ (execs (_ :: _) (envOf _ _ _ _ _)) _ _ _
  refine seqV F0 N (Str.ofString "end") (fun v => ∃ t, v = .int ((i + 1 : Nat) : Int) t) ?_ ?_
  · walk_at "kss"
    ((refine' Mine.midV ?hp9mid16 ?F9mid16 ?N9mid16 ?e9mid16 ?s9mid16; (case F9mid16 => assumption); (case N9mid16 => assumption); (case e9mid16 => first | (intro y; rfl) | (intro y; exact Mine.up2)); (case s9mid16 => exact fun _ h => h)))
    exact ⟨_, rfl⟩
  rintro _ h2 tk2 ⟨te, rfl⟩ F2 N2
  replace F2 := frc F2 (m' := fun y => if y = Str.ofString "end" then some (Value.int ((i + 1 : Nat) : Int) te) else m y) (fun y => by
    by_cases h : y = Str.ofString "end"
    · rw [if_pos h, if_pos h]
    · rw [if_neg h, if_neg h]; exact congrFun (ov1 hi) y)
  have M2 : WdM (fun y => if y = Str.ofString "end" then some (Value.int ((i + 1 : Nat) : Int) te) else m y) c0 r0 := M.over (by decide +kernel) (by decide +kernel)
  have hi2 : (fun y => if y = Str.ofString "end" then some (Value.int ((i + 1 : Nat) : Int) te) else m y) (Str.ofString "i") = some (.int (i : Int) ti) := (if_neg (by decide +kernel)).trans hi
  have he2 : (fun y => if y = Str.ofString "end" then some (Value.int ((i + 1 : Nat) : Int) te) else m y) (Str.ofString "end") = some (Value.int ((i + 1 : Nat) : Int) te) := if_pos rfl
  generalize (fun y => if y = Str.ofString "end" then some (Value.int ((i + 1 : Nat) : Int) te) else m y) = m2 at F2 M2 hi2 he2
  have F3 := fr2 F2 M2.cells hi2
  rw [execs_cons]
  refine wpAny_bind ?_
  iterate 5 (walk_at "ks")
  refine item_lst (isl N2 (.tail _ hc0)) (by omega) (by rw [← Array.getElem?_toList]; exact hvi) ?_
  iterate 7 (walk_at "ks")
  (with_reducible rename Fr _ _ _ _ => F9)
  (with_reducible rename News _ _ _ _ => N9)
  replace F9 := frc F9 (m' := m2) (fun y => congrFun (ov2 M2.cells hi2) y)
  refine eq_cellK (x := c) (y := (34, true)) N9 (CellAt.mono (fun q hq => .tail _ (.tail _ hq)) _ _ hcv) ⟨_, _, rfl, by rw [lit_q]; exact .head _⟩ hcc (show (34 : Nat) < 128 by decide) (by show un + 3 + 64 < cLine; omega) ?_
  refine wpAny_truthy_bool ?_
  replace N9 := nwt N9
  by_cases hq : c = (34, true)
  · rw [if_pos (decide_eq_true hq), execs_cons]
    refine wpAny_bind ?_
    refine q_scan (cells := cells) B X T F9 N9 M2 he2 (.tail _ hc0) (hC.mono (CellAt.mono fun q hq => .tail _ hq)) hO hsz (by omega) hdp hun fun h3 tk3 j t s1 s2 hej hjl F3 N3 => ?_
    (try dsimp only)
    have M3 : WdM (fun y => if y = Str.ofString "end" then some (Value.int (j : Int) t) else m2 y) c0 r0 := M2.over (by decide +kernel) (by decide +kernel)
    rw [execs_cons]
    refine wpAny_bind ?_
    refine w_push1 (i := i) (e := j) (ti := ti) (te := t) B X T F3 N3 M3 ((if_neg (by decide +kernel)).trans hi2) (if_pos rfl) hc0 hC hsz hej hjl (by omega) hne hdp hun fun h4 tk4 t4 F4 N4 => ?_
    (try dsimp only)
    walk_at "kss"
    (with_reducible rename Fr _ _ _ _ => F8)
    (with_reducible rename News _ _ _ _ => N8)
    obtain ⟨t8, F8⟩ : ∃ t8, Fr g L _ (fun y => if y = Str.ofString "i" then some (Value.int ((j + 1 : Nat) : Int) t8) else if y = Str.ofString "end" then some (Value.int (j : Int) t) else m2 y) := ⟨_, F8⟩
    refine hk _ _ _ _ _ (j + 1) (out ++ [((cells.drop (i + 1)).take (j - (i + 1))).map (·.1)]) t8 ?_ (by omega) (by omega) (by simp) ?_ F8 (M3.over (by decide +kernel) (by decide +kernel)) (if_pos rfl) N8
    · rw [hdrop, wS_q hq, s1, s2, List.drop_drop]
    · rw [Array.toList_push]; exact VA_snoc hva
  · rw [if_neg (by simpa using hq)]
    obtain ⟨t9, u9, rfl, hm9⟩ := hcv
    have F10 := fr2 F9 M2.cells hi2
    rw [execs_cons]
    refine wpAny_bind ?_
    iterate 6 (walk_at "ks")
    refine item_lst (isl N9 (.tail _ hc0)) (by omega) (by rw [← Array.getElem?_toList]; exact hvi) ?_
    iterate 1 (walk_at "ks")
    refine item_tup1 ⟨_, N9.get (.tail _ hm9), rfl, 0, rfl⟩ ?_
    refine wpAny_truthy_bool ?_
    cases hb2 : c.2 with
    | true =>
      rw [if_pos rfl]
      have F11 := fr1 F9 he2
      walk_at "kss"
      (with_reducible rename Fr _ _ _ _ => F8)
      (with_reducible rename News _ _ _ _ => N8)
      refine hk _ _ _ _ _ (i + 1) out te ?_ (by omega) (by omega) (Nat.le_succ _) hva (frc F8 (m' := fun y => if y = Str.ofString "i" then some (Value.int ((i + 1 : Nat) : Int) te) else m2 y) fun y => ?_) (M2.over (by decide +kernel) (by decide +kernel)) (if_pos rfl) N8
      · rw [hdrop, wS_b hq hb2]
      · by_cases h : y = Str.ofString "i"
        · rw [if_pos h, if_pos h]
        · rw [if_neg h, if_neg h]; exact congrFun (ov1 he2) y
    | false =>
      rw [if_neg (by decide), execs_cons]
      refine wpAny_bind ?_
      refine w_scan (cells := cells) B X T F9 N9 M2 he2 (.tail _ hc0) (hC.mono (CellAt.mono fun q hq => .tail _ hq)) hO hsz (by omega) hdp hun fun h3 tk3 j t s1 s2 hej hjl F3 N3 => ?_
      (try dsimp only)
      have M3 : WdM (fun y => if y = Str.ofString "end" then some (Value.int (j : Int) t) else m2 y) c0 r0 := M2.over (by decide +kernel) (by decide +kernel)
      rw [execs_cons]
      refine wpAny_bind ?_
      refine w_push2 (i := i) (e := j) (ti := ti) (te := t) B X T F3 N3 M3 ((if_neg (by decide +kernel)).trans hi2) (if_pos rfl) hc0 hC hsz (by omega) hjl (by omega) hne hdp hun fun h4 tk4 t4 F4 N4 => ?_
      (try dsimp only)
      walk_at "kss"
      (with_reducible rename Fr _ _ _ _ => F8)
      (with_reducible rename News _ _ _ _ => N8)
      refine hk _ _ _ _ _ j (out ++ [((cells.drop i).take (j - i)).map (·.1)]) t ?_ (by omega) (by omega) (by simp) ?_ F8 (M3.over (by decide +kernel) (by decide +kernel)) (if_pos rfl) N8
      · have e9 : j - i = (j - (i + 1)) + 1 := by omega
        rw [hdrop, wS_w hq hb2, s1, s2, e9, List.take_succ_cons, List.map_cons]
      · rw [Array.toList_push]; exact VA_snoc hva
end X5
end Mine
theorem Mine.off_X6 : True := by w_top off; trivial
namespace Mine
section X6
open LCg
variable {w : World} {p : Program} {loose : List Str} {mean : ExcName → Option Value} {mg mb : Str → Option Value} {dp un : Nat} {gd : Option (List Code)} {cn : Str} {cs : Scope} {a : Addr} {ccd : Value} {cl : List (Str × Addr)} {outer : List Env} {A₀ : Around} {base h₀ : Heap} {L : Addr} {m : Str → Option Value} {rest : List (Addr × Obj)} {s : Shared}
    {Q E : Value → Shared → Prop} {c0 : Addr} {cv : Array Value} {ck : Nat} {cells : Item}
theorem words_spec (B : Below A₀ base outer h₀) (F : Fr h₀ L s.heap m) (X : (hd.heap_1 w.params).In h₀) (N : News h₀ L s.heap rest) (T : Top p loose mean mg mb h₀) (hk : cs.kind = .function)
  (hc0 : (c0, listOf cv ck) ∈ rest) (hC : CellsAt rest cv.toList cells) (hO : ∀ c ∈ cells, OkC c) (hsz : cells.length ≤ 200) (hdp : dp + 18 < recursionLimit) (hun : un + 120 < cLine)
  (hret : ∀ r0 vs e out h' tk', ReachW cells [] out → VA vs.toList out → vs.size ≤ 201 → (∀ q ∈ rest, q.1 < r0) → Fr h₀ L h' m → News h₀ L h' ((r0, listOf vs e) :: rest) → Q (.ref r0) { s with heap := h', toks := tk' }) :
  wpAny (model Challenge.rw_ij0082_01.row.prog w) (ktrTop dp un gd cn cs L a ccd cl outer) (call (.ref 128) [.ref c0]) Q E s := by
  walk_at "enter"
  rename_i g L' h' FG' F0 N' B' X' T' tk0
  have F' : Fr g L' h' (fun y => List.lookup y [(Str.ofString "cells", Value.ref c0)]) := F0
  clear F0 B X T F N
  have hcl := hC.len
  rw [Array.length_toList] at hcl
  refine seqE (n0 := 0) F' (Nat.zero_le _) (fun m' news' => ∃ r0, (∀ q ∈ rest, q.1 < r0) ∧ m' = (fun y => if y = Str.ofString "words" then some (.ref r0) else List.lookup y [(Str.ofString "cells", Value.ref c0)]) ∧ news' = (r0, listOf #[] 0) :: rest) ?_ ?_
  · k_steps
    ((refine' Mine.postE ?hp9pe12 ?F9pe12 ?N9pe12; (case F9pe12 => assumption); (case N9pe12 => assumption)))
    rename_i l9 _ lt9 _ _ _
    exact ⟨l9, lt9, rfl, rfl⟩
  rintro _ _ h2 tk2 ⟨r0, l1, rfl, rfl⟩ _ F2 N2
  clear F' N'
  refine seqE (n0 := 0) F2 (Nat.zero_le _) (fun m' news' => (∃ t, m' (Str.ofString "i") = some (.int 0 t)) ∧ WdM m' c0 r0 ∧ news' = (r0, listOf #[] 0) :: rest) ?_ ?_
  · k_steps
    (with_reducible rename Fr _ _ _ _ => F9)
    (with_reducible rename News _ _ _ _ => N9)
    exact postE ⟨⟨_, rfl⟩, ⟨rfl, rfl⟩, rfl⟩ F9 N9
  rintro m4 _ h4 tk4 ⟨⟨ti, hi⟩, M, rfl⟩ _ F4 N4
  clear F2 N2
  refine seqE (n0 := 0) F4 (Nat.zero_le _) (fun m' news' => ∃ vs e out, ReachW cells [] out ∧ VA vs.toList out ∧ vs.size ≤ 201 ∧ WdM m' c0 r0 ∧ news' = (r0, listOf vs e) :: rest) ?_ ?_
  · refine whileG (fun n s₁ => ∃ (h5 : Heap) (tk5 i : Nat) (out : List (List Nat)) (vs : Array Value) (e : Nat) (m₁ : Str → Option Value) (ti : Tok), s₁ = { s with heap := h5, toks := tk5 } ∧ n = cells.length + 1 - i ∧ i ≤ cells.length + 1 ∧ ReachW cells (cells.drop i) out ∧ VA vs.toList out ∧ vs.size ≤ i ∧
        Fr g L' h5 m₁ ∧ m₁ (Str.ofString "i") = some (.int (i : Int) ti) ∧ WdM m₁ c0 r0 ∧ News g L' h5 ((r0, listOf vs e) :: rest))
      (n₀ := cells.length + 1) (by
        refine ⟨h4, tk4, 0, [], #[], 0, m4, ti, ?_, ?_, Nat.zero_le _, ⟨0, ?_⟩, ?_, Nat.le_refl _, F4, hi, M, N4⟩
        · exact rfl
        · exact rfl
        · exact rfl
        · exact trivial) ?_
    rintro n _ ⟨h5, tk5, i, out, vs, e, m₁, ti1, rfl, rfl, hil, hre, hva, hvs, Fm, hmi, Mm, Nm⟩
    have Fm2 := fr2 Fm hmi Mm.cells
    have hc1 : (c0, listOf cv ck) ∈ (r0, listOf vs e) :: rest := .tail _ hc0
    iterate 10 (walk_at "ks")
    refine wpAny_truthy_bool ?_
    by_cases hlt : (i : Int) < (cells.length : Int)
    · rw [if_pos (decide_eq_true hlt)]
      refine lw_turn B' X' T' Fm Nm Mm hmi hc0 hC hO hsz (by omega) hvs (fun q hq => Nat.ne_of_lt (l1 q hq)) hva (by omega) (by omega) fun h' tk' m' vs' wk' i' out' t hst hi1 hi2 hv' hva' F' M' hi' N' => ?_
      exact ⟨cells.length + 1 - i', by omega, h', tk', i', out', vs', wk', m', t, rfl, rfl, hi2, hre.step hst, hva', by omega, F', hi', M', N'⟩
    · rw [if_neg (by simpa using hlt)]
      rw [List.drop_of_length_le (by omega)] at hre
      exact ⟨rfl, m₁, _, h5, _, ⟨vs, e, out, hre, hva, by omega, Mm, rfl⟩, rfl, Fm, Nm⟩
  rintro m5 _ h5 tk5 ⟨vs, e, out, hre, hva, hvs, M5, rfl⟩ _ F5 N5
  have F6 := fr1 F5 M5.words
  iterate 3 (walk_at "ks")
  exact leaveK_ F6 N5 fun kF kN => hret r0 vs e out _ _ hre hva hvs l1 kF kN
end X6
end Mine
theorem Mine.off_Z1 : True := by w_top off; trivial
namespace Mine
section Z1
open LCg
variable {w : World} {p : Program} {loose : List Str} {mean : ExcName → Option Value} {mg mb : Str → Option Value} {dp un : Nat} {gd : Option (List Code)} {cn : Str} {cs : Scope} {a : Addr} {ccd : Value} {cl : List (Str × Addr)} {outer : List Env} {A₀ : Around} {base g : Heap} {L0 L : Addr} {m : Str → Option Value} {news : List (Addr × Obj)} {s : Shared}
    {Q : Flow → Shared → Prop} {q c0 : Addr} {cv ws : Array Value} {ck n : Nat} {cells it : Item}
noncomputable def duBody : List Stmt := fnBody (fnD (hd.heap_1 anyP) 135)
noncomputable def duScope : Scope := (fnD (hd.heap_1 anyP) 135).scope
noncomputable abbrev duEnv (L : Addr) : Env := envOf (Str.ofString "_law_due") duScope L 135 (.ref 134)
noncomputable def duTurn : List Stmt := subs [(1, 0)] duBody
theorem du_turn (B : Below (ktrTop dp un gd cn cs L0 a ccd cl outer) base (envX cn cs L0 a ccd cl :: outer) g) (X : (hd.heap_1 w.params).In g) (T : Top p loose mean mg mb g) (F : Fr g L s.heap m) (N : News g L s.heap ((c0, listOf cv ck) :: news))
  (hc : m (Str.ofString "cells") = some (.ref c0)) (hit : m (Str.ofString "item") = some (.ref q)) (hq : (q, listOf ws n) ∈ news) (hne : ∀ q ∈ news, q.1 ≠ c0) (hC : CellsAt news cv.toList cells) (hI : CellsAt news ws.toList it) (hsz : cells.length + it.length ≤ 400)
  (hdp : dp + 16 < recursionLimit) (hun : un + 115 < cLine)
  (hret : ∀ h' tk' add cv' ck', CellsAt (add ++ news) cv'.toList (cells ++ ((32, true) :: it)) → (∀ q ∈ add, q.1 ≠ c0 ∧ ∀ r ∈ news, r.1 < q.1) → Fr g L h' m → News g L h' ((c0, listOf cv' ck') :: (add ++ news)) → Q .next { s with heap := h', toks := tk' }) :
  wpAny (model Challenge.rw_ij0082_01.row.prog w) ((ktrTop dp un gd cn cs L0 a ccd cl outer).deeper (duEnv L)) (execs duTurn (duEnv L)) Q (fun _ _ => False) s := by
  have hcl := hC.len
  have hil := hI.len
  rw [Array.length_toList] at hcl hil
  have F1 := fr2 F hc hit
  show wpAny _ _ (execs (_ :: _) (envOf _ _ _ _ _)) _ _ _
  rw [execs_cons]
  refine wpAny_bind ?_
  iterate 19 (walk_at "ks")
  (with_reducible rename Fr _ _ _ _ => F5)
  (with_reducible rename News _ _ _ _ => N5)
  rename_i D1 hD1 lD1 D2 h5 lD2
  refine add_arrays F5 N5 (isl N5 (.head _)) (isl N5 (.tail _ (.tail _ (.tail _ hq)))) (fun h6 F6 N6 => ?_) (by simp only [List.size_toArray, List.length_singleton]; size_fits)
  have lt6 := news_lt N5
  (with_reducible generalize Array.size _ = b2 at N6 lt6 ⊢)
  iterate 1 (walk_at "ks")
  have N7 : News g L h6 ((c0, listOf cv ck) :: ([(b2, listOf (#[Value.ref D1].toList ++ ws.toList).toArray 0), (D1, tupO (.str (Str.ofString " ") s.toks) (.bool true))] ++ news)) := fun r hr => N6 r (by
    rcases List.mem_cons.mp hr with rfl | hr
    · exact .tail _ (.tail _ (.tail _ (.head _)))
    rcases List.mem_cons.mp hr with rfl | hr
    · exact .head _
    rcases List.mem_cons.mp hr with rfl | hr
    · exact .tail _ (.tail _ (.head _))
    · exact .tail _ (.tail _ (.tail _ (.tail _ hr))))
  have hadd : ∀ r ∈ ([(b2, listOf (#[Value.ref D1].toList ++ ws.toList).toArray 0), (D1, tupO (.str (Str.ofString " ") s.toks) (.bool true))] : List (Addr × Obj)), r.1 ≠ c0 ∧ ∀ u ∈ news, u.1 < r.1 := fun r hr => by
    rcases List.mem_cons.mp hr with rfl | hr
    · exact ⟨Nat.ne_of_gt (lt6 _ (.tail _ (.tail _ (.head _)))), fun u hu => lt6 _ (.tail _ (.tail _ (.tail _ hu)))⟩
    · cases List.mem_singleton.mp hr
      exact ⟨Nat.ne_of_gt lD1.1, fun u hu => allLt_mem lD1.2 _ hu⟩
  have hsz1 : (#[Value.ref D1].toList ++ ws.toList).toArray.size = it.length + 1 := by simp; omega
  refine kl_extend (l := cv.toList ++ (#[Value.ref D1].toList ++ ws.toList)) F6 N7 (.tail _ (.head _)) rfl (by simp) (Upd.head fun r hr => ?_) ?_ (by rw [Array.length_toList]; size_fits) (by rw [hsz1]; size_fits) (fun h7 F7 N8 => ?_)
  · rcases List.mem_append.mp hr with hr | hr
    · exact (hadd r hr).1
    · exact hne r hr
  · intro h
    have h2 : Builtin.List.listTooLong (cv.size + (#[Value.ref D1].toList ++ ws.toList).toArray.size) = true := (Bool.and_eq_true_iff.mp h).2
    rw [hsz1] at h2
    have h3 : cv.size + (it.length + 1) > sizeLine := of_decide_eq_true h2
    have h4 : cv.size + (it.length + 1) ≤ sizeLine := by size_fits
    exact absurd h4 (Nat.not_le.mpr h3)
  rw [ov2 hc hit] at F7
  refine wpAny_execs_nil ?_
  refine hret _ _ _ _ _ ?_ hadd F7 N8
  show CellsAt _ (cv.toList ++ (.ref D1 :: ws.toList)) _
  refine All2.append (hC.mono (CellAt.mono fun r hr => List.mem_append_right _ hr)) (And.intro ⟨D1, s.toks, rfl, ?_⟩ (hI.mono (CellAt.mono fun r hr => List.mem_append_right _ hr)))
  rw [show S [32] = Str.ofString " " by decide +kernel]
  exact .tail _ (.head _)
end Z1
end Mine
theorem Mine.off_Z2 : True := by w_top off; trivial
namespace Mine
section Z2
open LCg
variable {w : World} {p : Program} {loose : List Str} {mean : ExcName → Option Value} {mg mb : Str → Option Value} {dp un : Nat} {gd : Option (List Code)} {cn : Str} {cs : Scope} {a : Addr} {ccd : Value} {cl : List (Str × Addr)} {outer : List Env} {A₀ : Around} {base h₀ : Heap} {L : Addr} {m : Str → Option Value} {rest : List (Addr × Obj)} {s : Shared}
    {Q E : Value → Shared → Prop} {pat : Str} {t1 : Tok}
theorem ItemsAt.skip {a b : List (Addr × Obj)} {c0 : Addr} : ∀ {vs : List Value} {out : List Item}, (∀ it ∈ out, it ≠ []) → ItemsAt (a ++ (c0, listOf #[] 0) :: b) vs out → ItemsAt (a ++ b) vs out
  | [], [], _, _ => trivial
  | _ :: _, _ :: _, h, x => And.intro (ItemAt.skip (h _ (.head _)) x.1) (ItemsAt.skip (fun it hi => h it (.tail _ hi)) x.2)
theorem due_spec (B : Below A₀ base outer h₀) (F : Fr h₀ L s.heap m) (X : (hd.heap_1 w.params).In h₀) (N : News h₀ L s.heap rest) (T : Top p loose mean mg mb h₀) (hk : cs.kind = .function)
  (hp : pat.length ≤ 64) (h128 : ∀ c ∈ pat.cps.toList, c < 128) (hdp : dp + 22 < recursionLimit) (hun : un + 130 < cLine)
  (hret : ∀ r0 vs e out words h' tk', ReachI pat.cps.toList pat.length out → ReachW (flatI out) [] words → VA vs.toList (words ++ [[], []]) → vs.size ≤ 210 → (∀ q ∈ rest, q.1 < r0) → Fr h₀ L h' m → News h₀ L h' ((r0, listOf vs e) :: rest) → Q (.ref r0) { s with heap := h', toks := tk' }) :
  wpAny (model Challenge.rw_ij0082_01.row.prog w) (ktrTop dp un gd cn cs L a ccd cl outer) (call (.ref 135) [.str pat t1]) Q E s := by
  walk_at "enter"
  rename_i g L' h' FG' F0 N' B' X' T' tk0
  have F' : Fr g L' h' (fun y => List.lookup y [(Str.ofString "pattern", Value.str pat t1)]) := F0
  clear F0 B X T F N
  have hl := len_list pat
  refine seqE (n0 := 0) F' (Nat.zero_le _) (fun m' news' => ∃ c0, (∀ q ∈ rest, q.1 < c0) ∧ m' = (fun y => if y = Str.ofString "cells" then some (.ref c0) else List.lookup y [(Str.ofString "pattern", Value.str pat t1)]) ∧ news' = (c0, listOf #[] 0) :: rest) ?_ ?_
  · k_steps
    ((refine' Mine.postE ?hp9pe13 ?F9pe13 ?N9pe13; (case F9pe13 => assumption); (case N9pe13 => assumption)))
    rename_i l9 _ lt9 _ _ _
    exact ⟨l9, lt9, rfl, rfl⟩
  rintro _ _ h2 tk2 ⟨c0, l1, rfl, rfl⟩ _ F2 N2
  clear F' N'
  refine seqE (n0 := 0) F2 (Nat.zero_le _) (fun m' news' => m' (Str.ofString "cells") = some (.ref c0) ∧ ∃ out cv ck add, ReachI pat.cps.toList pat.length out ∧ OkI out ∧ CellsAt (add ++ rest) cv.toList (flatI out) ∧ (∀ q ∈ add, q.1 ≠ c0 ∧ ∀ r ∈ rest, r.1 < q.1) ∧ news' = (c0, listOf cv ck) :: (add ++ rest)) ?_ ?_
  · refine forG (fun n it s₁ => ∃ (ia : Addr) (oI : Obj) (h5 : Heap) (tk5 i : Nat) (m₁ : Str → Option Value) (r1 : Addr) (its : Array Value) (ki : Nat) (out : List Item) (cv : Array Value) (ck : Nat) (add : List (Addr × Obj)), it = .ref ia ∧ s₁ = { s with heap := h5, toks := tk5 } ∧ n = out.length - i ∧ i ≤ out.length ∧ LI oI r1 i ∧
        ReachI pat.cps.toList pat.length out ∧ OkI out ∧ ItemsAt (add ++ rest) its.toList out ∧ CellsAt (add ++ rest) cv.toList (flatI (out.take i)) ∧ (r1, listOf its ki) ∈ add ++ rest ∧ (∀ q ∈ add, q.1 ≠ c0 ∧ q.1 ≠ ia ∧ ∀ r ∈ rest, r.1 < q.1) ∧ (∀ q ∈ rest, q.1 ≠ ia) ∧ c0 ≠ ia ∧
        Fr g L' h5 m₁ ∧ m₁ (Str.ofString "cells") = some (.ref c0) ∧ News g L' h5 ((ia, oI) :: (c0, listOf cv ck) :: (add ++ rest))) ?_ ?_
    · have F3 := F2
      iterate 6 (walk_at "ks")
      refine ⟨X'.keeps F2.keep, ?_⟩
      show wpAny _ (ktrTop (dp + 1) (un + 3) gd (Str.ofString "_law_due") duScope L' 135 (.ref 134) [] (envX cn cs L a ccd cl :: outer)) (call (.ref 123) [.str pat t1]) _ _ _
      refine items_spec B' F2 X' N2 T' rfl hp h128 (by omega) (by omega) fun r1 its ki add out h3 tk3 hre hI hO hsz l2 hadd F4 N4 => ?_
      have hne := hre.inv.2.1
      refine iter_list F4 N4 (.head _) fun ia oI h4 l3 hLI F5 N5 => ?_
      refine ⟨out.length, ia, oI, h4, tk3, 0, _, r1, its, ki, out, #[], 0, (r1, listOf its ki) :: add, rfl, ?_, rfl, Nat.zero_le _, hLI, hre, hO, (ItemsAt.skip hne hI).mono (ItemAt.mono fun q hq => .tail _ hq), ?_, .head _, fun q hq => ?_, fun q hq => ?_, ?_, F5, rfl, fun q hq => N5 q ?_⟩
      · exact rfl
      · exact trivial
      · rcases List.mem_cons.mp hq with rfl | hq
        · exact ⟨Nat.ne_of_gt (l2 _ (.head _)), Nat.ne_of_lt (l3 _ (.head _)), fun r hr => l2 r (.tail _ hr)⟩
        · exact ⟨Nat.ne_of_gt ((hadd q hq).2 _ (.head _)), Nat.ne_of_lt (l3 _ (.tail _ (List.mem_append_left _ hq))), fun r hr => (hadd q hq).2 r (.tail _ hr)⟩
      · exact Nat.ne_of_lt (l3 _ (.tail _ (List.mem_append_right _ (.tail _ hq))))
      · exact Nat.ne_of_lt (l3 _ (.tail _ (List.mem_append_right _ (.head _))))
      · rcases List.mem_cons.mp hq with rfl | hq
        · exact .head _
        rcases List.mem_cons.mp hq with rfl | hq
        · exact .tail _ (.tail _ (List.mem_append_right _ (.head _)))
        rcases List.mem_cons.mp hq with rfl | hq
        · exact .tail _ (.head _)
        rcases List.mem_append.mp hq with hq | hq
        · exact .tail _ (.tail _ (List.mem_append_left _ hq))
        · exact .tail _ (.tail _ (List.mem_append_right _ (.tail _ hq)))
    · rintro it n _ ⟨ia, oI, h5, tk5, i, m₁, r1, its, ki, out, cv, ck, add, rfl, rfl, rfl, hil, hli, hre, hO, hI, hC, hr1, hadd, hria, hcia, Fm, hmc, Nm⟩
      have hoff : ∀ q ∈ (c0, listOf cv ck) :: (add ++ rest), q.1 ≠ ia := fun q hq => by
        rcases List.mem_cons.mp hq with rfl | hq
        · exact hcia
        rcases List.mem_append.mp hq with hq | hq
        · exact (hadd q hq).2.1
        · exact hria q hq
      have hil2 := hI.len
      rw [Array.length_toList] at hil2
      by_cases hlt : i < out.length
      · obtain ⟨itm, hitm⟩ : ∃ itm, out[i]? = some itm := ⟨_, List.getElem?_eq_getElem hlt⟩
        obtain ⟨v, hv, q, ws, nq, rfl, hmq, hcw⟩ := hI.get hitm
        refine next_list_some rfl Fm Nm hoff hli (.tail _ hr1) (by rw [← Array.getElem?_toList]; exact hv) fun h6 o6 tk6 hli6 F6 N6 => ?_
        with_unfolding_all show wpAny _ _ (storeName (duEnv L') _ (Value.ref _)) _ _ _
        iterate 1 (walk_at "ks")
        (with_reducible rename Fr _ _ _ _ => F7)
        (with_reducible rename News _ _ _ _ => N7)
        have htk : flatI (out.take (i + 1)) = flatI (out.take i) ++ ((32, true) :: itm) := by rw [List.take_add_one, hitm]; exact flatI_snoc _ _
        have hszf : (flatI (out.take i)).length + itm.length ≤ 400 := by
          have h1 := hre.inv.2.2
          have h2 : (flatI (out.take (i + 1))).length ≤ (flatI out).length := by
            have : flatI out = flatI (out.take (i + 1)) ++ flatI (out.drop (i + 1)) := by unfold flatI; rw [← List.flatMap_append, List.take_append_drop]
            rw [this, List.length_append]; omega
          rw [htk, List.length_append, List.length_cons] at h2
          dsimp only at h1
          omega
        refine du_turn (m := _) (cells := flatI (out.take i)) (it := itm) (news := (ia, o6) :: (add ++ rest)) (q := q) (c0 := c0) (cv := cv) (ck := ck) (ws := ws) (n := nq) B' X' T' F7 (fun r hr => N7 r ?_) ((if_neg (by decide +kernel)).trans hmc) rfl (.tail _ hmq) (fun r hr => ?_) (hC.mono (CellAt.mono fun r hr => .tail _ hr)) (hcw.mono (CellAt.mono fun r hr => .tail _ hr)) hszf (by omega) (by omega) fun h8 tk8 add2 cv2 ck2 hC2 hadd2 F8 N8 => ?_
        · rcases List.mem_cons.mp hr with rfl | hr
          · exact .tail _ (.head _)
          rcases List.mem_cons.mp hr with rfl | hr
          · exact .head _
          · exact .tail _ (.tail _ hr)
        · rcases List.mem_cons.mp hr with rfl | hr
          · exact Ne.symm hcia
          rcases List.mem_append.mp hr with hr | hr
          · exact (hadd r hr).1
          · exact Nat.ne_of_lt (l1 r hr)
        have hup : ∀ r ∈ add ++ rest, r ∈ (add2 ++ add) ++ rest := fun r hr => by rw [List.append_assoc]; exact List.mem_append_right _ hr
        refine ⟨out.length - (i + 1), by omega, ia, o6, h8, tk8, i + 1, _, r1, its, ki, out, cv2, ck2, add2 ++ add, rfl, rfl, rfl, hlt, hli6, hre, hO, hI.mono (ItemAt.mono hup), ?_, hup _ hr1, fun r hr => ?_, hria, hcia, F8, (if_neg (by decide +kernel)).trans hmc, fun r hr => N8 r ?_⟩
        · rw [htk]
          refine hC2.mono (CellAt.mono' fun t' a' b' hm => ?_)
          rcases List.mem_append.mp hm with hm | hm
          · rw [List.append_assoc]; exact List.mem_append_left _ hm
          rcases List.mem_cons.mp hm with hm | hm
          · exfalso
            have e2 := congrArg (fun q => q.2.cls) hm
            dsimp only at e2
            rw [hli6.1] at e2
            injection e2 with e2
            exact absurd e2 (by decide)
          · exact hup _ hm
        · rcases List.mem_append.mp hr with hr | hr
          · exact ⟨(hadd2 r hr).1, Nat.ne_of_gt ((hadd2 r hr).2 _ (.head _)), fun u hu => (hadd2 r hr).2 u (.tail _ (List.mem_append_right _ hu))⟩
          · exact hadd r hr
        · rcases List.mem_cons.mp hr with rfl | hr
          · exact .tail _ (List.mem_append_right _ (.head _))
          rcases List.mem_cons.mp hr with rfl | hr
          · exact .head _
          rcases List.mem_append.mp hr with hr | hr
          · rcases List.mem_append.mp hr with hr | hr
            · exact .tail _ (List.mem_append_left _ hr)
            · exact .tail _ (List.mem_append_right _ (.tail _ (List.mem_append_left _ hr)))
          · exact .tail _ (List.mem_append_right _ (.tail _ (List.mem_append_right _ hr)))
      · obtain rfl : i = out.length := by omega
        refine next_list_none rfl Fm Nm hoff hli (.tail _ hr1) hil2.symm fun h6 tk6 F6 N6 => ?_
        refine postE ⟨hmc, out, cv, ck, add, hre, hO, by rwa [List.take_of_length_le (Nat.le_refl _)] at hC, fun q hq => ⟨(hadd q hq).1, (hadd q hq).2.2⟩, rfl⟩ F6 N6
  rintro m5 _ h5 tk5 ⟨hc5, out, cv, ck, add, hre, hO, hC, hadd, rfl⟩ _ F5 N5
  have F6 := fr1 F5 hc5
  have hinv := hre.inv
  have hsz : (flatI out).length ≤ 200 := by
    have h1 := hinv.2.2
    dsimp only at h1
    omega
  iterate 9 (walk_at "ks")
  refine ⟨X'.keeps F6.keep, ?_⟩
  show wpAny _ (ktrTop (dp + 1) (un + 3) gd (Str.ofString "_law_due") duScope L' 135 (.ref 134) [] (envX cn cs L a ccd cl :: outer)) (call (.ref 128) [.ref c0]) _ _ _
  refine words_spec B' F6 X' N5 T' rfl (.head _) (hC.mono (CellAt.mono fun q hq => .tail _ hq)) (okI_flat hO) hsz (by omega) (by omega) fun r2 vs e words h6 tk6 hrw hva hvs l6 F7 N7 => ?_
  (try dsimp only)
  iterate 7 (walk_at "ks")
  (with_reducible rename Fr _ _ _ _ => F8)
  (with_reducible rename News _ _ _ _ => N8)
  refine add_arrays F8 N8 (isl N8 (.tail _ (.head _))) (isl N8 (.head _)) (fun h9 F9 N9 => ?_) (by simp; size_fits)
  have lt9 := news_lt N8
  (with_reducible generalize Array.size _ = b9 at N9 lt9 ⊢)
  have N10 : News g L' h9 ((b9, listOf (vs.toList ++ [Value.str (Str.ofString "") tk6, Value.str (Str.ofString "") (tk6 + 1)]).toArray 0) :: rest) := fun q hq => N9 q (by
    rcases List.mem_cons.mp hq with rfl | hq
    · exact .head _
    · exact .tail _ (.tail _ (.tail _ (.tail _ (List.mem_append_right _ hq)))))
  refine leaveK_ F9 N10 fun kF kN => hret b9 _ 0 out words _ _ hre hrw ?_ ?_ (fun q hq => lt9 q (.tail _ (.tail _ (.tail _ (List.mem_append_right _ hq))))) kF kN
  · show VA (vs.toList ++ [Value.str (Str.ofString "") tk6, Value.str (Str.ofString "") (tk6 + 1)]) _
    rw [show Str.ofString "" = S [] by decide +kernel]
    have := VA_snoc (t := tk6 + 1) (c := []) (VA_snoc (t := tk6) (c := []) hva)
    rwa [List.append_assoc, List.append_assoc] at this
  · simp; omega
end Z2
end Mine
theorem Mine.off_LB : True := by w_top off; trivial
namespace Mine
section LB
open LCg
variable {w : World} {p : Program} {loose : List Str} {mean : ExcName → Option Value} {mg mb : Str → Option Value} {cd : Value} {g : Heap} {L fa a0 : Addr} {m : Str → Option Value} {news : List (Addr × Obj)} {s : Shared} {pat : List Nat} {tp : Tok} {Q : Flow → Shared → Prop}
theorem la_due (B : Below callerA g [] g) (F : Fr g L s.heap m) (X : (hd.heap_1 w.params).In g) (N : News g L s.heap news) (T : Top p loose mean mg mb g) (hm : m (Str.ofString "drawn") = some (.str (S pat) tp)) (hp : pat.length ≤ 64) (h128 : ∀ c ∈ pat, c < 128)
  (hret : ∀ r0 vs e out words h' tk', ReachI pat pat.length out → ReachW (flatI out) [] words → VA vs.toList (words ++ [[], []]) → vs.size ≤ 210 → (∀ q ∈ news, q.1 < r0) → Fr g L h' (fun y => if y = Str.ofString "due" then some (.ref r0) else m y) → News g L h' ((r0, listOf vs e) :: news) → Q .next { s with heap := h', toks := tk' }) :
  wpAny (model Challenge.rw_ij0082_01.row.prog w) (callerA.deeper (laEnv L fa cd)) (exec laS1 (laEnv L fa cd)) Q (fun _ _ => False) s := by
  have F1 := fr1 F hm
  with_unfolding_all show wpAny _ _ (exec (.Assign [.Name _ _] _ _) (envX _ _ _ _ _ _)) _ _ _
  iterate 7 (walk_at "ks")
  refine ⟨X.keeps F.keep, ?_⟩
  show wpAny _ (ktrTop (1 + claimMargin + 1) (4 + 3) (some []) (Str.ofString "law") laScope L fa cd [(Str.ofString "lexer", L + 1)] []) (call (.ref 135) [.str (S pat) tp]) _ _ _
  refine due_spec B F X N T rfl (by rw [len_list]; exact hp) (by simpa using h128) (by decide +kernel) (by decide +kernel) fun r0 vs e out words h' tk' a1 a2 a3 a4 a5 F2 N2 => ?_
  have a1' : ReachI pat pat.length out := by rw [len_list] at a1; exact a1
  (try dsimp only)
  walk_at "kss"
  (with_reducible rename Fr _ _ _ _ => F9)
  (with_reducible rename News _ _ _ _ => N9)
  exact hret r0 vs e out words _ _ a1' a2 a3 a4 a5 F9 N9
end LB
end Mine
theorem Mine.off_Y1 : True := by w_top off; trivial
namespace Mine
section Y1
variable {w : World} {p : Program} {loose : List Str} {mean : ExcName → Option Value} {mg mb : Str → Option Value} {dp un : Nat} {gd : Option (List Code)} {cn : Str} {cs : Scope} {a : Addr} {ccd : Value} {cl : List (Str × Addr)} {outer : List Env} {A₀ : Around} {base h₀ : Heap} {L : Addr} {m : Str → Option Value} {rest : List (Addr × Obj)} {s : Shared}
    {Q E : Value → Shared → Prop} {pat : Str} {t1 tS tQ : Tok}
theorem pick8 {g h : Heap} {a1 a2 a3 a4 a5 a6 a7 a8 : Addr × Obj} (N : News g L h (a1 :: a2 :: a3 :: a4 :: a5 :: a6 :: a7 :: a8 :: rest)) : News g L h (a6 :: ([a4, a1, a2, a3, a7] ++ a8 :: rest)) := by
  refine nws N fun q hq => ?_
  simp only [List.cons_append, List.nil_append, List.mem_cons] at hq ⊢
  rcases hq with h | h | h | h | h | h | h | h <;> simp [h]
theorem stream_spec (B : Below A₀ base outer h₀) (F : Fr h₀ L s.heap m) (X : (hd.heap_1 w.params).In h₀) (N : News h₀ L s.heap ((106, tabObj #[]) :: rest)) (T : Top p loose mean mg mb h₀) (hk : cs.kind = .function) (Cc : CodeHd h₀ 110 106)
  (hrest : ∀ q ∈ rest, q.1 ≠ 106) (hp : pat.length ≤ 1000)  (hdp : dp + 13 < recursionLimit) (hun : un + 100 < cLine)
  (hret : ∀ h' tk' st lo vs e stat ps, VA vs.toList (signs pat.cps.toList) → StreamAt stat st lo → (∀ q ∈ stat, ∀ p ∈ (106, tabObj ps) :: rest, p.1 < q.1) → (∀ p ∈ (106, tabObj ps) :: rest, p.1 < lo) → (∀ q ∈ stat, q.1 ≠ lo) →
     Fr h₀ L h' m → News h₀ L h' ((lo, listOf vs e) :: (stat ++ (106, tabObj ps) :: rest)) → Q (.ref st) { s with heap := h', toks := tk'}) :
  wpAny (model Challenge.rw_ij0082_01.row.prog w) (ktrTop dp un gd cn cs L a ccd cl outer) (call (.ref 111) [.str pat t1]) Q E s := by
  walk_at "enterC"
  walk_at "conj"
  iterate 13 (walk_at "ks")
  rename_i g' L' h' tk' FG' B' X' T' o1 d1 lt1 lt2 q1 vs1 e1 h1 tk1 va1 l1 h2 o2 F2 N2 d2
  have Cg : CodeHd g' 110 106 := Cc.keeps FG'.keep
  have hL1 : @LT.lt Nat _ (L' + 1) q1 := l1.1
  have U1 : UpdF 106 (tabObj #[]) ((q1, listOf vs1 e1) :: (L' + 1, o2) :: (106, tabObj #[]) :: rest) (fun o => (q1, listOf vs1 e1) :: (L' + 1, o2) :: (106, o) :: rest) :=
    .tail (Nat.ne_of_gt l1.2.1) (.tail (Nat.ne_of_gt (Nat.lt_succ_of_lt lt1)) (.head hrest))
  refine kla_eval rfl ?_
  refine kla_nest F2 N2 T' Cg rfl U1 trivial rfl rfl fun f1 c1 oc1 ws1 u1 ctv1 h3 tk3 F3 N3 hd3 hv3 l3 l4 => ?_
  iterate 3 (walk_at "ks")
  have hc106 : @LT.lt Nat _ 106 c1 := l3 (106, _) (.tail _ (.tail _ (.head _)))
  have hcL : @LT.lt Nat _ (L' + 1) c1 := l3 (L' + 1, _) (.tail _ (.head _))
  have hcq : @LT.lt Nat _ q1 c1 := l3 (q1, _) (.head _)
  have hcr : ∀ q ∈ rest, q.1 < c1 := fun q hq => l3 q (.tail _ (.tail _ (.tail _ hq)))
  (with_reducible rename Fr _ _ _ _ => F4)
  (with_reducible rename News _ _ _ _ => N4)
  refine kla_eval rfl ?_
  refine kla_nest F4 N4 T' Cg rfl (.tail (Nat.ne_of_gt (Nat.lt_trans hc106 l4)) (.tail (Nat.ne_of_gt hc106) (.tail (Nat.ne_of_gt l1.2.1) (.tail (Nat.ne_of_gt (Nat.lt_succ_of_lt lt1)) (.head hrest))))) ?_ ?_ rfl fun f2 c2 oc2 ws2 u2 ctv2 h5 tk5 F5 N5 hd5 hv5 l5 l6 => ?_
  · exact trivial
  · rfl
  iterate 1 (walk_at "ks")
  have hf1 : ∀ {a b : Nat}, a < c2 → a = b → b < c2 := fun x y => y ▸ x
  refine setAttr_readK F5 N5 (.tail (Nat.ne_of_gt (Nat.lt_trans (l5 (f1, _) (.head _)) l6)) (.tail (Nat.ne_of_gt (l5 (f1, _) (.head _))) (.head fun q hq => ?_))) rfl rfl _ rfl fun h6 tk6 dx oD F6 N6 hD l7 l8 => ?_
  · rcases List.mem_cons.mp hq with rfl | hq
    · exact Nat.ne_of_lt l4
    · rcases List.mem_cons.mp hq with rfl | hq
      · exact Nat.ne_of_lt (Nat.lt_trans hcq l4)
      · rcases List.mem_cons.mp hq with rfl | hq
        · exact Nat.ne_of_lt (Nat.lt_trans hcL l4)
        · rcases List.mem_cons.mp hq with rfl | hq
          · exact Nat.ne_of_lt (Nat.lt_trans hc106 l4)
          · exact Nat.ne_of_lt (Nat.lt_trans (hcr q hq) l4)
  iterate 3 (walk_at "ks")
  have n1 : c1 < c2 := l5 (c1, oc1) (.tail _ (.head _))
  have n2 : f1 < c2 := l5 (f1, _) (.head _)
  have n3 : f1 < dx := l7 (f1, _) (.tail _ (.tail _ (.head _)))
  have n4 : q1 < dx := l7 (q1, _) (.tail _ (.tail _ (.tail _ (.tail _ (.head _)))))
  have hrL : ∀ q ∈ rest, q.1 < L' := allLt_mem lt2
  have nL : L' + 1 < q1 := hL1
  have N7 := pick8 N6
  refine leaveK_ F6 N7 fun kF kN => hret _ _ f1 q1 vs1 e1 _ _ va1 (StreamAt.mk (.head _) (.tail _ (.head _)) (.tail _ (.tail _ (.head _))) (.tail _ (.tail _ (.tail _ (.head _)))) (.tail _ (.tail _ (.tail _ (.tail _ (.head _))))) hD hd5 hv5 d2 rfl rfl ⟨_, rfl⟩ ⟨_, _, _, rfl⟩) ?_ ?_ ?_ kF kN
  · intro q hq r hr
    have x : r.1 < L' := by
      rcases List.mem_cons.mp hr with rfl | hr
      · exact lt1
      · exact hrL r hr
    have y : r.1 < c1 := by
      rcases List.mem_cons.mp hr with rfl | hr
      · exact hc106
      · exact hcr r hr
    simp only [List.mem_cons, List.not_mem_nil, or_false] at hq
    rcases hq with rfl | rfl | rfl | rfl | rfl
    · exact Nat.lt_trans y l4
    · exact Nat.lt_trans (Nat.lt_trans y l4) n3
    · exact Nat.lt_trans (Nat.lt_trans y n1) l6
    · exact Nat.lt_trans y n1
    · exact Nat.lt_succ_of_lt x
  · intro r hr
    rcases List.mem_cons.mp hr with rfl | hr
    · exact Nat.lt_trans (Nat.lt_succ_of_lt lt1) nL
    · exact Nat.lt_trans (Nat.lt_succ_of_lt (hrL r hr)) nL
  · intro q hq
    simp only [List.mem_cons, List.not_mem_nil, or_false] at hq
    rcases hq with rfl | rfl | rfl | rfl | rfl
    · exact Nat.ne_of_gt (Nat.lt_trans hcq l4)
    · exact Nat.ne_of_gt n4
    · exact Nat.ne_of_gt (Nat.lt_trans (Nat.lt_trans hcq n1) l6)
    · exact Nat.ne_of_gt (Nat.lt_trans hcq n1)
    · exact Nat.ne_of_lt nL
end Y1
end Mine
theorem Mine.off_Y2 : True := by w_top off; trivial
namespace Mine
section Y2
open LCg
variable {w : World} {p : Program} {loose : List Str} {mean : ExcName → Option Value} {mg mb : Str → Option Value} {dp un : Nat} {gd : Option (List Code)} {cn : Str} {cs : Scope} {a : Addr} {ccd : Value} {cl : List (Str × Addr)} {outer : List Env} {A₀ : Around} {base h₀ : Heap} {L : Addr} {m : Str → Option Value} {news : List (Addr × Obj)} {s : Shared}
    {Q E : Value → Shared → Prop} {l : List Nat} {vs : Array Value} {e : Nat} {lo f2 c2 lc : Addr} {oc2 ol : Obj} {ws2 : Array Value} {u2 tk : Tok} {nm : Str} {pm ctv : Value}
theorem okS_of {cs : List (List Nat)} (h : ∀ c ∈ cs, ∀ d ∈ c, d < 128) : OkS cs := fun c hc => by
  show ((S c).cps.all (· < 0x110000)) = true
  rw [Array.all_eq_true_iff_forall_mem]
  intro d hd
  have := h c hc d (by simpa using hd)
  simp; omega
theorem okS_signs (h : ∀ c ∈ l, c < 128) : OkS (signs l) := okS_of fun c hc d hd => by
  unfold signs at hc
  obtain ⟨x, hx, rfl⟩ := List.mem_map.mp hc
  obtain rfl := List.mem_singleton.mp hd
  exact h _ hx
theorem cells_all {l : List (Str × NameKind)} (h : (l.all fun x => x.2 != .cell) = true) : ∀ x ∈ l, x.2 ≠ .cell := fun x hx => by
  have := List.all_eq_true.mp h x hx
  simpa using this
theorem rd_call (B : Below A₀ base outer h₀) (F : Fr h₀ L s.heap m) (X : (hd.heap_1 w.params).In h₀) (N : News h₀ L s.heap ((lo, listOf vs e) :: news)) (T : Top p loose mean mg mb h₀) (hk : cs.kind = .function)
  (hne : ∀ q ∈ news, q.1 ≠ lo) (hf : (f2, kla_obj nm (Str.ofString "_law_stream.<locals>.<lambda>") rdLam.1 rdLam.2.1 rdLam.2.2 [(Str.ofString "left", lc)] pm c2 ctv) ∈ news) (hc2 : (c2, oc2) ∈ news) (hd2 : oc2.data = .fields ws2) (hv2 : ws2[1]? = some (.str (Str.ofString "_law_stream.<locals>.<lambda>") u2))
  (hlc : (lc, ol) ∈ news) (hol : ol.data = .cell (some (.ref lo))) (hva : VA vs.toList (signs l)) (hl : l.length ≤ 1000) (h128 : ∀ c ∈ l, c < 128) (hdp : dp + 13 < recursionLimit) (hun : un + 100 < cLine)
  (hret : ∀ h' tk' t vs' e', VA vs'.toList (signs l.tail) → Fr h₀ L h' m → News h₀ L h' ((lo, listOf vs' e') :: news) → Q (.str (S (l.take 1)) t) { s with heap := h', toks := tk'}) :
  wpAny (model Challenge.rw_ij0082_01.row.prog w) (ktrTop dp un gd cn cs L a ccd cl outer) (call (.ref f2) [.int 1 tk]) Q E s := by
  refine PySem.wpAny_call (kla_code (env := envX cn cs L a ccd cl) (binds := [(Str.ofString "size", .int 1 tk)]) B F X N T rfl rfl hk (.tail _ hf) ⟨c2, oc2, ws2, u2, rfl, (N _ (.tail _ hc2)).1, hd2, hv2⟩ (by show dp < recursionLimit; omega) ?b1 ?b2 ?_ ?b3 ?b4 ?b5 ?b6)
  case b1 => kernel_rfl
  case b2 => exact locs (by kernel_rfl)
  case b3 => kernel_rfl
  case b4 => kernel_rfl
  case b5 => kernel_rfl
  case b6 => exact cells_all (by kernel_rfl)
  intro g2 L2 h₁ FG F0 N3 B3 X3 T3
  have F3 : Fr g2 L2 h₁ (fun y => List.lookup y [(Str.ofString "size", Value.int 1 tk)]) := F0
  clear F0 B F N X T
  refine Mine.no_exc ?_
  with_unfolding_all show wpAny _ ((ktrTop dp un gd cn cs L a ccd cl outer).deeper (envX _ (Scope.mk _ _ _ _ _) _ _ _ _)) (eval (.IfExp _ _ _ _) (envX _ (Scope.mk _ _ _ _ _) _ _ _ _)) _ _ _
  iterate 2 (walk_at "ks")
  refine nameX_F N3 rfl (.tail _ hlc) hol ?_ rfl rfl
  iterate 3 (walk_at "ks")
  (with_reducible rename News _ _ _ _ => N4)
  (with_reducible rename _ ∧ _ => l9)
  refine ne_strsK (isl N4 (.tail _ (.head _))) hva (isl N4 (.head _)) (show VA (#[] : Array Value).toList [] from trivial) (okS_signs h128) (fun c hc => nomatch hc) ?_ ?_
  · show un + 3 + 64 < cLine; omega
  iterate 1 (walk_at "ks")
  (with_reducible rename Fr _ _ _ _ => F4)
  cases hl0 : l with
  | nil =>
    subst hl0
    rw [if_neg (by decide)]
    iterate 1 (walk_at "ks")
    refine leaveK_ F4 (nwt N4) fun kF kN => ?_
    exact hret _ _ _ vs e hva kF kN
  | cons c r =>
    subst hl0
    rw [if_pos (by simp [signs])]
    obtain ⟨v, rest, hvs⟩ : ∃ v rest, vs.toList = v :: rest := by
      cases hz : vs.toList with
      | nil => rw [hz] at hva; exact hva.elim
      | cons v rest => exact ⟨v, rest, rfl⟩
    rw [hvs] at hva
    obtain ⟨⟨t, rfl⟩, hva2⟩ := hva
    have hsz : 1 ≤ vs.size := by rw [← Array.length_toList, hvs]; simp
    have hvl := VA_len hva2
    iterate 1 (walk_at "ks")
    refine nameX_F N4 rfl (.tail _ (.tail _ hlc)) hol ?_ rfl rfl
    iterate 5 (walk_at "ks")
    show wpAny _ _ (call (Value.builtin "list.pop") [Value.ref lo, Value.int 0 _]) _ _ _
    have hidx : seqIndex? 0 vs.size = some 0 := by
      have h1 : 0 < vs.size := by omega
      simp [seqIndex?, h1]
    refine kl_popAt (k := 0) (p := []) (q := rest) F4 N4 rfl hidx (by rw [hvs]; rfl) (.tail (Nat.ne_of_gt l9.1) (.head hne)) ?_ fun h9 F9 N9 => ?_
    · rw [hvs, List.length_cons, hvl, List.length_map]; simp only [List.length_cons] at hl; exact Nat.le_trans hl (by decide)
    refine leaveK_ F9 (nwt N9) fun kF kN => ?_
    exact hret _ _ t rest.toArray (e + 1) (show VA rest (signs r) from hva2) kF kN
end Y2
end Mine
theorem Mine.off_Y3 : True := by w_top off; trivial
namespace Mine
section Y3
variable {w : World} {p : Program} {loose : List Str} {mean : ExcName → Option Value} {mg mb : Str → Option Value} {dp un : Nat} {gd : Option (List Code)} {cn : Str} {cs : Scope} {a : Addr} {ccd : Value} {cl : List (Str × Addr)} {outer : List Env} {A₀ : Around} {base h₀ : Heap} {L : Addr} {m : Str → Option Value} {news : List (Addr × Obj)} {s : Shared}
    {Q E : Value → Shared → Prop} {st : Addr}
structure LTok where
  a : Tok
  b : Tok
  c : Tok
  d : Tok
  u : Tok
/-- the lexer's own dict: line number ln, stream st, list pb of words pushed back -/
noncomputable abbrev lexD (P : Params) (ln : Int) (uln : Tok) (st pb : Addr) (t : LTok) : Obj :=
  dictOf [{ hash := PyData.keyHash P (Str.ofString "lineno"), key := .str (Str.ofString "lineno") t.a, val := .int ln uln }, { hash := PyData.keyHash P (Str.ofString "instream"), key := .str (Str.ofString "instream") t.b, val := .ref st },
    { hash := PyData.keyHash P (Str.ofString "whitespace"), key := .str (Str.ofString "whitespace") t.c, val := .str (Str.ofString "\n\t\r ") t.u }, { hash := PyData.keyHash P (Str.ofString "pushback"), key := .str (Str.ofString "pushback") t.d, val := .ref pb }] 4
theorem init_spec (B : Below A₀ base outer h₀) (F : Fr h₀ L s.heap m) (X : (hd.heap_1 w.params).In h₀) (N : News h₀ L s.heap news) (T : Top p loose mean mg mb h₀) (hk : cs.kind = .function)
   (hdp : dp + 13 < recursionLimit) (hun : un + 100 < cLine)
  (hret : ∀ h' tk' x dx pb t u, (∀ q ∈ news, q.1 < dx) → dx < x → x < pb → Fr h₀ L h' m → News h₀ L h' ((pb, listOf #[] 0) :: (x, instObj 76 dx) :: (dx, lexD w.params 1 u st pb t) :: news) → Q (.ref x) { s with heap := h', toks := tk'}) :
  wpAny (model Challenge.rw_ij0082_01.row.prog w) (ktrTop dp un gd cn cs L a ccd cl outer) (call (.ref 76) [.ref st] []) Q E s := by
  k_dflt (refine' call_cls ?k1 ?k2 ?k3 ?k4 ?k5 ?k6 ?_; (case k1 => k_asm); (case k2 => k_asm); (case k3 => k_asm); (case k4 => k_is); (case k5 => k_is); (case k6 => k_is); k_whole; intro x' d' h' F' N' l1 l2; have l1' := l1; (try k_lt l1); (try k_lt2 l2); ktr_enter)
  walk_at "kss"
  rename_i kF kN _ _
  (with_reducible rename _ ∧ _ => l3)
  exact hret _ _ x' d' _ ⟨_, _, _, _, _⟩ _ l1' l2 l3.1 kF kN
end Y3
end Mine
theorem Mine.off_LD : True := by w_top off; trivial
namespace Mine
section LD
open LCg
variable {w : World} {p : Program} {loose : List Str} {mean : ExcName → Option Value} {mg mb : Str → Option Value} {cd : Value} {g : Heap} {L fa a0 : Addr} {m : Str → Option Value} {news : List (Addr × Obj)} {s : Shared} {pat : List Nat} {tp : Tok} {oC : Obj} {Q : Flow → Shared → Prop}
theorem join_sp (out : List (List Nat)) : Txt.join (Str.ofString " ") (out.map S) = S (joinSp out) := by
  unfold Txt.join
  rw [StrLaws.glued_eq_join, show Str.ofString " " = S [32] by decide +kernel]
  have key : ∀ out : List (List Nat), Str.join (S [32]) (out.map S) = S (joinSp out) := by
    intro out
    induction out with
    | nil => rfl
    | cons x r ih =>
      cases r with
      | nil => rfl
      | cons y r =>
        rw [List.map_cons, List.map_cons, PyProof.Rows.join_cons_cons, ← List.map_cons, ih, S_app5, S_app5]
        simp [joinSp]
  exact key out
theorem sumS : ∀ out : List (List Nat), ((out.map S).map (·.length)).sum = (out.map (·.length)).sum
  | [] => rfl
  | x :: r => by
    have := sumS r
    simp only [List.map_cons, List.sum_cons, this]
    rw [len_list]
theorem la_lexer (B : Below callerA g [] g) (F : Fr g L s.heap m) (X : (hd.heap_1 w.params).In g) (N : News g L s.heap ((L + 1, oC) :: (106, tabObj #[]) :: (99, tabObj #[]) :: news)) (T : Top p loose mean mg mb g) (C1 : CodeHd g 110 106) (C2 : CodeHd g 103 99) (G : AllBare s.gens)
  (hoC : oC.data = .cell none) (l0 : @LT.lt Nat _ 106 L ∧ @LT.lt Nat _ 99 L) (hnew : ∀ q ∈ news, L + 1 < q.1)
  (hm : m (Str.ofString "drawn") = some (.str (S pat) tp)) (hp : pat.length ≤ 64) (h128 : ∀ c ∈ pat, c < 128) (H : HypOK pat)
  (htx : ∀ out, Reach pat pat.length out → (out.map (·.length)).sum ≤ 1000 ∧ (joinSp out).length ≤ 1000)
  (hret : ∀ s' x dx pb lo st out lvs le stat ps ps2 o9 lu lt, Reach pat pat.length out → VA lvs.toList (signs (joinSp out)) → StreamAt stat st lo → @LT.lt Nat _ lo dx → @LT.lt Nat _ dx x → @LT.lt Nat _ x pb →
     (∀ q ∈ (L + 1, o9) :: (stat ++ (106, tabObj ps2) :: (99, tabObj ps) :: news), q.1 ≠ dx ∧ q.1 ≠ lo ∧ @LT.lt Nat _ q.1 dx) → o9.data = .cell (some (.ref x)) → Fr g L s'.heap m →
     News g L s'.heap ((L + 1, o9) :: (pb, listOf #[] 0) :: (x, instObj 76 dx) :: (dx, lexD w.params 1 lu st pb lt) :: (lo, listOf lvs le) :: (stat ++ (106, tabObj ps2) :: (99, tabObj ps) :: news)) → AllBare s'.gens → s'.os = s.os → Q .next s') :
  wpAny (model Challenge.rw_ij0082_01.row.prog w) (callerA.deeper (laEnv L fa cd)) (exec laS2 (laEnv L fa cd)) Q (fun _ _ => False) s := by
  have F1 := fr1 F hm
  with_unfolding_all show wpAny _ _ (exec (.Assign [.Name _ _] _ _) (envX _ _ _ _ _ _)) _ _ _
  iterate 24 (walk_at "ks")
  refine ⟨X.keeps F.keep, ?_⟩
  show wpAny _ (ktrTop (1 + claimMargin + 1) (4 + 3) (some []) (Str.ofString "law") laScope L fa cd [(Str.ofString "lexer", L + 1)] []) (call (.ref 104) [.str (S pat) tp, .str (Str.ofString "\\*") (s.toks + 1), .str (Str.ofString "\\?") (s.toks + 1 + 1)]) _ _ _
  rw [show Str.ofString "\\*" = S [92, 42] by decide +kernel, show Str.ofString "\\?" = S [92, 63] by decide +kernel]
  have N1 : News g L s.heap ((99, tabObj #[]) :: (L + 1, oC) :: (106, tabObj #[]) :: news) := nws N fun q hq => by
    simp only [List.mem_cons] at hq ⊢
    rcases hq with h | h | h | h <;> simp [h]
  have h99 : @LT.lt Nat _ 99 (L + 1) := Nat.lt_succ_of_lt l0.2
  have h106 : @LT.lt Nat _ 106 (L + 1) := Nat.lt_succ_of_lt l0.1
  refine trans_spec B F X N1 T rfl G C2 (fun q hq => ?_) (by rw [len_list]; exact hp) (n0 := s.toks + 3) (Nat.succ_ne_zero _) (show @LT.lt Nat _ (s.toks + 1) (s.toks + 3) from Nat.lt_succ_of_lt (Nat.lt_succ_self _)) (Nat.succ_ne_zero _) (show (s.toks + 1 + 1 : Nat) ≠ s.toks + 1 from Nat.succ_ne_self _) (Nat.le_refl _) (by simpa using H) (by simpa using h128) (by decide +kernel) (by decide +kernel) fun r0 vs e out s2 ps hre hva hvs hlt F2 N2 G2 o2 => ?_
  · rcases List.mem_cons.mp hq with rfl | hq
    · exact Nat.ne_of_gt h99
    rcases List.mem_cons.mp hq with rfl | hq
    · exact (by decide : (106 : Nat) ≠ 99)
    · exact Nat.ne_of_gt (Nat.lt_trans h99 (hnew q hq))
  (try dsimp only)
  iterate 1 (walk_at "ks")
  have hre' : Reach pat pat.length out := by simpa using hre
  obtain ⟨hx1, hx2⟩ := htx out hre'
  refine join_list (isl N2 (.head _)) (strsOf hva) (by rw [sumS, List.length_map, show (Str.ofString " ").length = 1 by decide +kernel, ← VA_len hva, Array.length_toList]; omega) fun t' k' => ?_
  rw [join_sp]
  iterate 1 (walk_at "ks")
  refine ⟨X.keeps F2.keep, ?_⟩
  show wpAny _ (ktrTop (1 + claimMargin + 1) (4 + 3) (some []) (Str.ofString "law") laScope L fa cd [(Str.ofString "lexer", L + 1)] []) (call (.ref 111) [.str (S (joinSp out)) t']) _ _ _
  have N3 : News g L s2.heap ((106, tabObj #[]) :: (99, tabObj ps) :: (L + 1, oC) :: news) := nws N2 fun q hq => by
    simp only [List.mem_cons] at hq ⊢
    rcases hq with h | h | h | h <;> simp [h]
  refine stream_spec (s := { s2 with toks := k' }) B F2 X N3 T rfl C1 (fun q hq => ?_) (by rw [len_list]; exact hx2) (by decide +kernel) (by decide +kernel) fun h3 tk3 st lo lvs le stat ps2 hva3 hst l3 l4 l5 F3 N4 => ?_
  · rcases List.mem_cons.mp hq with rfl | hq
    · exact (by decide : (99 : Nat) ≠ 106)
    rcases List.mem_cons.mp hq with rfl | hq
    · exact Nat.ne_of_gt h106
    · exact Nat.ne_of_gt (Nat.lt_trans h106 (hnew q hq))
  (try dsimp only)
  iterate 1 (walk_at "ks")
  refine ⟨X.keeps F3.keep, ?_⟩
  show wpAny _ (ktrTop (1 + claimMargin + 1) (4 + 3) (some []) (Str.ofString "law") laScope L fa cd [(Str.ofString "lexer", L + 1)] []) (call (.ref 76) [.ref st]) _ _ _
  refine init_spec B F3 X N4 T rfl (by decide +kernel) (by decide +kernel) fun h5 tk5 x dx pb lt lu l6 l7 l8 F5 N5 => ?_
  (try dsimp only)
  have hall : ∀ q ∈ ((pb, listOf #[] 0) :: (x, instObj 76 dx) :: (dx, lexD w.params 1 lu st pb lt) :: (lo, listOf lvs le) :: (stat ++ (106, tabObj ps2) :: (99, tabObj ps) :: news) : List (Addr × Obj)), q.1 ≠ L + 1 := fun q hq => by
    have hdx : @LT.lt Nat _ (L + 1) dx := l6 (L + 1, oC) (.tail _ (List.mem_append_right _ (.tail _ (.tail _ (.head _)))))
    rcases List.mem_cons.mp hq with rfl | hq
    · exact Nat.ne_of_gt (Nat.lt_trans (Nat.lt_trans hdx l7) l8)
    rcases List.mem_cons.mp hq with rfl | hq
    · exact Nat.ne_of_gt (Nat.lt_trans hdx l7)
    rcases List.mem_cons.mp hq with rfl | hq
    · exact Nat.ne_of_gt hdx
    rcases List.mem_cons.mp hq with rfl | hq
    · exact Nat.ne_of_gt (l4 (L + 1, oC) (.tail _ (.tail _ (.head _))))
    rcases List.mem_append.mp hq with hq | hq
    · exact Nat.ne_of_gt (l3 q hq (L + 1, oC) (.tail _ (.tail _ (.head _))))
    rcases List.mem_cons.mp hq with rfl | hq
    · exact Nat.ne_of_lt h106
    rcases List.mem_cons.mp hq with rfl | hq
    · exact Nat.ne_of_lt h99
    · exact Nat.ne_of_gt (hnew q hq)
  have N6 : News g L h5 ((L + 1, oC) :: ((pb, listOf #[] 0) :: (x, instObj 76 dx) :: (dx, lexD w.params 1 lu st pb lt) :: (lo, listOf lvs le) :: (stat ++ (106, tabObj ps2) :: (99, tabObj ps) :: news))) := nws N5 fun q hq => by
    simp only [List.mem_cons, List.mem_append] at hq ⊢
    rcases hq with h | h | h | h | h | h | h | h | h <;> simp [h]
  refine storeX_C F5 N6 (c := L + 1) rfl (UpdF.head hall) hoC fun h9 o9 F9 N9 hd9 => ?_
  have hlo : @LT.lt Nat _ lo dx := l6 (lo, listOf lvs le) (.head _)
  refine hret _ x dx pb lo st out lvs le stat ps ps2 o9 lu lt hre' (by simpa using hva3) hst hlo l7 l8 (fun q hq => ?_) hd9 F9 N9 G2 o2
  rcases List.mem_cons.mp hq with rfl | hq
  · have hdx : @LT.lt Nat _ (L + 1) dx := l6 (L + 1, oC) (.tail _ (List.mem_append_right _ (.tail _ (.tail _ (.head _)))))
    exact ⟨Nat.ne_of_lt hdx, Nat.ne_of_lt (l4 (L + 1, oC) (.tail _ (.tail _ (.head _)))), hdx⟩
  rcases List.mem_append.mp hq with hq | hq
  · have := l6 q (.tail _ (List.mem_append_left _ hq))
    exact ⟨Nat.ne_of_lt this, l5 q hq, this⟩
  have hq' : q ∈ (106, tabObj ps2) :: (99, tabObj ps) :: (L + 1, oC) :: news := by
    simp only [List.mem_cons] at hq ⊢
    rcases hq with h | h | h <;> simp [h]
  have := l6 q (.tail _ (List.mem_append_right _ hq'))
  exact ⟨Nat.ne_of_lt this, Nat.ne_of_lt (l4 q hq'), this⟩
end LD
end Mine
theorem Mine.off_Y4 : True := by w_top off; trivial
namespace Mine
section Y4
open LCg
variable {w : World} {p : Program} {loose : List Str} {mean : ExcName → Option Value} {mg mb : Str → Option Value} {dp un : Nat} {gd : Option (List Code)} {cn : Str} {cs : Scope} {a : Addr} {ccd : Value} {cl : List (Str × Addr)} {outer : List Env} {A₀ : Around} {base h₀ : Heap} {L : Addr} {m : Str → Option Value} {news : List (Addr × Obj)} {s : Shared}
    {Q E : Value → Shared → Prop} {R : Result → Shared → Prop} {st lo x dx pb : Addr} {ln : Int} {uln : Tok} {t : LTok} {l : List Nat} {vs : Array Value} {e : Nat}
theorem lit_nl : Str.ofString "\n" = S [10] := by decide +kernel
theorem nl_yes (h : (S (l.take 1) == Str.ofString "\n") = true) : nls (l.take 1) = 1 := by
  rw [lit_nl, beq_S] at h
  rw [of_decide_eq_true h]; rfl
theorem nl_no (h : (S (l.take 1) == Str.ofString "\n") = false) : nls (l.take 1) = 0 := by
  rw [lit_nl, beq_S] at h
  have h := of_decide_eq_false h
  cases l with
  | nil => rfl
  | cons c r =>
    have hc : c ≠ 10 := fun e => h (by rw [e]; rfl)
    simp [nls, hc]
noncomputable abbrev lexL (P : Params) (ln : Int) (uln : Tok) (st pb x dx lo : Addr) (t : LTok) (vs : Array Value) (e : Nat) (news : List (Addr × Obj)) : List (Addr × Obj) :=
  (dx, lexD P ln uln st pb t) :: (x, instObj 76 dx) :: (pb, listOf #[] 0) :: (lo, listOf vs e) :: news
structure LexO (pb x dx lo : Addr) (news : List (Addr × Obj)) : Prop where
  a : @LT.lt Nat _ lo dx
  b : @LT.lt Nat _ dx x
  c : @LT.lt Nat _ x pb
  d : ∀ q ∈ news, q.1 ≠ dx
  f : ∀ q ∈ news, q.1 ≠ lo
theorem read_code (B : Below A₀ base outer h₀) (F : Fr h₀ L s.heap m) (X : (hd.heap_1 w.params).In h₀) (N : News h₀ L s.heap (lexL w.params ln uln st pb x dx lo t vs e news)) (T : Top p loose mean mg mb h₀) (hk : cs.kind = .function)
  (hst : StreamAt news st lo) (O : LexO pb x dx lo news) (hva : VA vs.toList (signs l)) (hl : l.length ≤ 1000) (h128 : ∀ c ∈ l, c < 128) (hln : 0 ≤ ln ∧ ln ≤ 100000)
  (hdp : dp + 15 < recursionLimit) (hun : un + 110 < cLine)
  (hret : ∀ h' tk' u vs' e' uln', VA vs'.toList (signs l.tail) → Fr h₀ L h' m → News h₀ L h' (lexL w.params (ln + nls (l.take 1)) uln' st pb x dx lo t vs' e' news) → R (.ok (.ret (.str (S (l.take 1)) u))) { s with heap := h', toks := tk'}) :
  codeAny (model Challenge.rw_ij0082_01.row.prog w) (ktrTop dp un gd cn cs L a ccd cl outer) (.call (.ref 59) ⟨[.ref x], []⟩) R s := by
  k_dflt ktr_enter
  refine Mine.toks_gen ?_
  intro tk0
  refine Mine.no_exc ?_
  have O1 := O.a
  have O2 := O.b
  have O3 := O.c
  have O4 := O.d
  have O5 := O.f
  iterate 6 (walk_at "ks")
  rename_i g' L' h' FG' F0 N' B' X' T'
  have F' : Fr g' L' h' (fun y => List.lookup y [(Str.ofString "self", Value.ref x)]) := F0
  clear F0 B F N X T
  obtain ⟨o1, fd, dr, oD, f2, c2, oc2, ws2, u2, nm, pm, ctv, lc, ol, s1, s2, s3, s4, s5, s6, s7, s8, s9, s10, s11, s12⟩ := hst
  have tl4 : ∀ {q : Addr × Obj}, q ∈ news → q ∈ lexL w.params ln uln st pb x dx lo t vs e news := fun hq => .tail _ (.tail _ (.tail _ (.tail _ hq)))
  refine getMethod_read (N' _ (tl4 s4)).1 (s6.ns (N' _ (tl4 s5)).1) s1 s2 fd s3 (if_pos rfl) ?_
  refine callWith_fn1 ?_
  iterate 3 (walk_at "ks")
  refine ⟨⟨_, _, (N' _ (tl4 s7)).1, rfl⟩, ?_⟩
  have N1 : News g' L' h' ((lo, listOf vs e) :: (dx, lexD w.params ln uln st pb t) :: (x, instObj 76 dx) :: (pb, listOf #[] 0) :: news) := nws N' fun q hq => by
    simp only [List.mem_cons] at hq ⊢
    rcases hq with h | h | h | h | h <;> simp [h]
  show wpAny _ (ktrTop (dp + 1) (un + 3) gd (Str.ofString "_netrclex._read_char") _ L' 59 (.ref 58) [] (envX cn cs L a ccd cl :: outer)) (call (.ref f2) [.int 1 _]) _ _ _
  refine rd_call B' F' X' N1 T' rfl (fun q hq => ?_) (.tail _ (.tail _ (.tail _ s7))) (.tail _ (.tail _ (.tail _ s8))) s9 s10 (.tail _ (.tail _ (.tail _ s11))) s12 hva hl h128 (by omega) (by omega) fun h2 tk2 u vs2 e2 hva2 F2 N2 => ?_
  · rcases List.mem_cons.mp hq with rfl | hq
    · exact Nat.ne_of_gt O1
    · rcases List.mem_cons.mp hq with rfl | hq
      · exact Nat.ne_of_gt (Nat.lt_trans O1 O2)
      · rcases List.mem_cons.mp hq with rfl | hq
        · exact Nat.ne_of_gt (Nat.lt_trans (Nat.lt_trans O1 O2) O3)
        · exact O5 q hq
  have N3 : News g' L' h2 (lexL w.params ln uln st pb x dx lo t vs2 e2 news) := nws N2 fun q hq => by
    simp only [List.mem_cons] at hq ⊢
    rcases hq with h | h | h | h | h <;> simp [h]
  clear N1 N2 N' F'
  walk_at "kss"
  · rw [nl_yes (by assumption)] at hret
    exact leaveK_ (by assumption) (by assumption) fun kF kN => hret _ _ u vs2 e2 _ hva2 kF kN
  · rw [nl_no (by assumption), Int.add_zero] at hret
    exact leaveK_ (by assumption) (by assumption) fun kF kN => hret _ _ u vs2 e2 uln hva2 kF kN
end Y4
end Mine
theorem Mine.off_Y5 : True := by w_top off; trivial
namespace Mine
section Y5
open LCg
variable {w : World} {p : Program} {loose : List Str} {mean : ExcName → Option Value} {mg mb : Str → Option Value} {dp un : Nat} {gd : Option (List Code)} {cn : Str} {cs : Scope} {a : Addr} {ccd : Value} {cl : List (Str × Addr)} {outer : List Env} {A₀ : Around} {base h₀ : Heap} {L : Addr} {m : Str → Option Value} {news : List (Addr × Obj)} {s : Shared}
    {E : Value → Shared → Prop} {R : Result → Shared → Prop} {st lo x dx pb ci q : Addr} {ln : Int} {uln tq : Tok} {t : LTok} {l : List Nat} {vs : Array Value} {e : Nat}
/-- the ledger of a word being read: the iterator, the bound method, the lexer -/
noncomputable abbrev tokL (oc : Obj) (P : Params) (ln : Int) (uln : Tok) (st pb x dx lo ci q : Addr) (t : LTok) (vs : Array Value) (e : Nat) (news : List (Addr × Obj)) : List (Addr × Obj) :=
  (ci, oc) :: (q, methodObj (.ref 59) (.ref x)) :: lexL P ln uln st pb x dx lo t vs e news
structure TokO (pb x dx lo ci q : Addr) (news : List (Addr × Obj)) : Prop where
  o : LexO pb x dx lo news
  a : @LT.lt Nat _ pb q
  b : @LT.lt Nat _ q ci
  c : ∀ r ∈ news, r.1 ≠ ci
theorem tokL_lex {oc : Obj} {h : Heap} (N : News h₀ L h (tokL oc w.params ln uln st pb x dx lo ci q t vs e news)) : News h₀ L h (lexL w.params ln uln st pb x dx lo t vs e ((ci, oc) :: (q, methodObj (.ref 59) (.ref x)) :: news)) := nws N fun z hz => by
  simp only [List.mem_cons] at hz ⊢
  rcases hz with h | h | h | h | h | h | h <;> simp [h]
theorem lex_tokL {oc : Obj} {h : Heap} (N : News h₀ L h (lexL w.params ln uln st pb x dx lo t vs e ((ci, oc) :: (q, methodObj (.ref 59) (.ref x)) :: news))) : News h₀ L h (tokL oc w.params ln uln st pb x dx lo ci q t vs e news) := nws N fun z hz => by
  simp only [List.mem_cons] at hz ⊢
  rcases hz with h | h | h | h | h | h | h <;> simp [h]
theorem TokO.lex {oc oq : Obj} (O : TokO pb x dx lo ci q news) : LexO pb x dx lo ((ci, oc) :: (q, oq) :: news) := by
  obtain ⟨⟨a, b, c, d, f⟩, g, h, i⟩ := O
  refine ⟨a, b, c, fun r hr => ?_, fun r hr => ?_⟩
  · rcases List.mem_cons.mp hr with rfl | hr
    · exact Nat.ne_of_gt (Nat.lt_trans (Nat.lt_trans (Nat.lt_trans b c) g) h)
    · rcases List.mem_cons.mp hr with rfl | hr
      · exact Nat.ne_of_gt (Nat.lt_trans (Nat.lt_trans b c) g)
      · exact d r hr
  · rcases List.mem_cons.mp hr with rfl | hr
    · exact Nat.ne_of_gt (Nat.lt_trans a (Nat.lt_trans (Nat.lt_trans (Nat.lt_trans b c) g) h))
    · rcases List.mem_cons.mp hr with rfl | hr
      · exact Nat.ne_of_gt (Nat.lt_trans a (Nat.lt_trans (Nat.lt_trans b c) g))
      · exact f r hr
theorem read_tok {oc : Obj} (B : Below A₀ base outer h₀) (F : Fr h₀ L s.heap m) (X : (hd.heap_1 w.params).In h₀) (N : News h₀ L s.heap (tokL oc w.params ln uln st pb x dx lo ci q t vs e news)) (T : Top p loose mean mg mb h₀) (hk : cs.kind = .function)
  (hst : StreamAt news st lo) (O : TokO pb x dx lo ci q news) (hva : VA vs.toList (signs l)) (hl : l.length ≤ 1000) (h128 : ∀ c ∈ l, c < 128) (hln : 0 ≤ ln ∧ ln ≤ 100000)
  (hdp : dp + 15 < recursionLimit) (hun : un + 110 < cLine)
  (hret : ∀ h' tk' u vs' e' uln', VA vs'.toList (signs l.tail) → Fr h₀ L h' m → News h₀ L h' (tokL oc w.params (ln + nls (l.take 1)) uln' st pb x dx lo ci q t vs' e' news) → R (.ok (.ret (.str (S (l.take 1)) u))) { s with heap := h', toks := tk'}) :
  codeAny (model Challenge.rw_ij0082_01.row.prog w) (ktrTop dp un gd cn cs L a ccd cl outer) (.call (.ref 59) ⟨[.ref x], []⟩) R s :=
  read_code B F X (tokL_lex N) T hk (hst.more fun q hq => .tail _ (.tail _ hq)) O.lex hva hl h128 hln hdp hun fun h' tk' u vs' e' uln' hva' F' N' => hret h' tk' u vs' e' uln' hva' F' (lex_tokL N')
theorem next_rd {Q : Option Value → Shared → Prop} (B : Below A₀ base outer h₀) (F : Fr h₀ L s.heap m) (X : (hd.heap_1 w.params).In h₀) (N : News h₀ L s.heap (tokL (ciObj q tq) w.params ln uln st pb x dx lo ci q t vs e news)) (T : Top p loose mean mg mb h₀) (hk : cs.kind = .function)
  (hst : StreamAt news st lo) (O : TokO pb x dx lo ci q news) (hva : VA vs.toList (signs l)) (hl : l.length ≤ 1000) (h128 : ∀ c ∈ l, c < 128) (hln : 0 ≤ ln ∧ ln ≤ 100000)
  (hdp : dp + 15 < recursionLimit) (hun : un + 111 < cLine)
  (hend : l = [] → ∀ h' tk' vs' e' uln', VA vs'.toList (signs []) → Fr h₀ L h' m → News h₀ L h' (tokL ciEnd w.params ln uln' st pb x dx lo ci q t vs' e' news) → Q none { s with heap := h', toks := tk' })
  (hret : ∀ c r, l = c :: r → ∀ h' tk' u vs' e' uln', VA vs'.toList (signs r) → Fr h₀ L h' m → News h₀ L h' (tokL (ciObj q tq) w.params (ln + nls [c]) uln' st pb x dx lo ci q t vs' e' news) → Q (some (.str (S [c]) u)) { s with heap := h', toks := tk'}) :
  wpAny (model Challenge.rw_ij0082_01.row.prog w) (ktrTop dp un gd cn cs L a ccd cl outer) (pyNext (.ref ci)) Q E s := by
  have e59 : ∃ of fd, h₀.get? 59 = some of ∧ of.data = .func fd := ⟨_, _, X _ _ rfl, rfl⟩
  obtain ⟨of, fd, e59, hfd⟩ := e59
  have hci := (N _ (.head _)).1
  have hq := (N _ (.tail _ (.head _))).1
  refine next_call (f := 59) (x := .ref x) rfl hci hq (F.keep _ _ e59) hfd ?_
  show codeAny _ (ktrTop dp (un + 1) gd cn cs L a ccd cl outer) _ _ _
  refine read_tok B F X N T hk hst O hva hl h128 hln hdp (by omega) fun h' tk' u vs' e' uln' hva' F' N' => ?_
  refine ⟨_, u, rfl, (N' _ (.head _)).1, (N' _ (.tail _ (.head _))).1, F'.keep _ _ e59, ?_⟩
  cases hl0 : l with
  | nil =>
    subst hl0
    rw [show ln + nls (([] : List Nat).take 1) = ln from Int.add_zero ln] at N'
    refine .inr ⟨rfl, fun h2 hx he => ?_⟩
    have z := N' _ (.head _)
    refine hend rfl h2 tk' vs' e' uln' hva' (fr_ext F' hx (fun e => z.2.1 e.symm) z.2.2) fun r hr => ?_
    rcases List.mem_cons.mp hr with rfl | hr
    · exact ⟨he, z.2⟩
    · have hr0 := hr
      have hne : r.1 ≠ ci := by
        have O2 := O.o
        simp only [List.mem_cons] at hr
        rcases hr with rfl | rfl | rfl | rfl | rfl | hr
        · exact Nat.ne_of_lt O.b
        · exact Nat.ne_of_lt (Nat.lt_trans (Nat.lt_trans (Nat.lt_trans O2.b O2.c) O.a) O.b)
        · exact Nat.ne_of_lt (Nat.lt_trans (Nat.lt_trans O2.c O.a) O.b)
        · exact Nat.ne_of_lt (Nat.lt_trans O.a O.b)
        · exact Nat.ne_of_lt (Nat.lt_trans O2.a (Nat.lt_trans (Nat.lt_trans (Nat.lt_trans O2.b O2.c) O.a) O.b))
        · exact O.c r hr
      have y := N' r (.tail _ hr0)
      exact ⟨hx _ _ hne y.1, y.2⟩
  | cons c r =>
    subst hl0
    exact .inl ⟨fun z => by have := S_inj.mp z; simp at this, hret c r rfl h' tk' u vs' e' uln' hva' F' N'⟩
end Y5
end Mine
theorem Mine.off_Y6 : True := by w_top off; trivial
namespace Mine
section Y6
open LCg
variable {w : World} {p : Program} {loose : List Str} {mean : ExcName → Option Value} {mg mb : Str → Option Value} {dp un : Nat} {gd : Option (List Code)} {cn : Str} {cs : Scope} {a : Addr} {ccd : Value} {cl : List (Str × Addr)} {outer : List Env} {A₀ : Around} {base g : Heap} {L0 L : Addr} {m : Str → Option Value} {news : List (Addr × Obj)} {s : Shared}
    {Q : Flow → Shared → Prop} {st lo x dx pb ci q : Addr} {ln : Int} {uln tq : Tok} {t : LTok} {l tok : List Nat} {vs : Array Value} {e c : Nat}
noncomputable def gtBody : List Stmt := fnBody (fnD (hd.heap_1 anyP) 66)
noncomputable def gtScope : Scope := (fnD (hd.heap_1 anyP) 66).scope
noncomputable abbrev gtEnv (L : Addr) : Env := envOf (Str.ofString "_netrclex.get_token") gtScope L 66 (.ref 65)
noncomputable def qBody : List Stmt := subs [(3, 0), (1, 0), (0, 0)] gtBody
noncomputable def wBody : List Stmt := subs [(3, 0), (1, 1), (2, 0)] gtBody
structure GtM (m : Str → Option Value) (x ci : Addr) (tok : List Nat) : Prop where
  self : m (Str.ofString "self") = some (.ref x)
  fiter : m (Str.ofString "fiter") = some (.ref ci)
  token : ∃ t, m (Str.ofString "token") = some (.str (S tok) t)
theorem q_turn {oc : Obj} {tc : Tok} (B : Below (ktrTop dp un gd cn cs L0 a ccd cl outer) base (envX cn cs L0 a ccd cl :: outer) g) (F : Fr g L s.heap m) (X : (hd.heap_1 w.params).In g) (N : News g L s.heap (tokL oc w.params ln uln st pb x dx lo ci q t vs e news)) (T : Top p loose mean mg mb g)
  (M : GtM m x ci tok) (hch : m (Str.ofString "ch") = some (.str (S [c]) tc)) (hst : StreamAt news st lo) (O : TokO pb x dx lo ci q news) (hva : VA vs.toList (signs l)) (hl : l.length ≤ 1000) (htk : tok.length ≤ 1000) (h128 : ∀ c ∈ l, c < 128) (hln : 0 ≤ ln ∧ ln ≤ 100000)
  (hdp : dp + 16 < recursionLimit) (hun : un + 115 < cLine)
  (hq : c = 34 → ∀ u h' tk', Fr g L h' m → News g L h' (tokL oc w.params ln uln st pb x dx lo ci q t vs e news) → Q (.ret (.str (S tok) u)) { s with heap := h', toks := tk' })
  (hb : c = 92 → ∀ h' tk' m' vs' e' uln', Fr g L h' m' → GtM m' x ci (tok ++ l.take 1) → VA vs'.toList (signs l.tail) → News g L h' (tokL oc w.params (ln + nls (l.take 1)) uln' st pb x dx lo ci q t vs' e' news) → Q .next { s with heap := h', toks := tk' })
  (hc : c ≠ 34 → c ≠ 92 → ∀ h' tk' m', Fr g L h' m' → GtM m' x ci (tok ++ [c]) → News g L h' (tokL oc w.params ln uln st pb x dx lo ci q t vs e news) → Q .next { s with heap := h', toks := tk' }) :
  wpAny (model Challenge.rw_ij0082_01.row.prog w) ((ktrTop dp un gd cn cs L0 a ccd cl outer).deeper (gtEnv L)) (execs qBody (gtEnv L)) Q (fun _ _ => False) s := by
  obtain ⟨tt, htok⟩ := M.token
  have hT : (S tok).length ≤ 1000 := by rw [len_list]; exact htk
  have F1 := fr3 F M.self htok hch
  clear F
  show wpAny _ _ (execs (_ :: _) (envOf _ _ _ _ _)) _ _ _
  have b34 : (S [c] == Str.ofString "\"") = decide (c = 34) := by rw [show Str.ofString "\"" = S [34] by decide +kernel, beq_S]; simp
  have b92 : (S [c] == Str.ofString "\\") = decide (c = 92) := by rw [lit_bs, beq_S]; simp
  iterate 7 (walk_at "ks")
  rw [b34]
  have em : ∀ y, (if y = Str.ofString "self" then some (Value.ref x) else if y = Str.ofString "token" then some (Value.str (S tok) tt) else if y = Str.ofString "ch" then some (Value.str (S [c]) tc) else m y) = m y := fun y => congrFun (ov3 M.self htok hch) y
  by_cases h34 : c = 34
  · rw [if_pos (decide_eq_true h34)]
    walk_at "kss"
    have F2 : Fr g L s.heap m := frc F1 em
    exact hq h34 tt _ _ F2 N
  rw [if_neg (by simpa using h34)]
  iterate 8 (walk_at "ks")
  rw [b92]
  by_cases h92 : c = 92
  · rw [if_pos (decide_eq_true h92)]
    iterate 6 (walk_at "ks")
    refine callWith_K0 (X.keeps F1.keep) (by k_is) ?_
    show wpAny _ (ktrTop (dp + 1) (un + 3) gd (Str.ofString "_netrclex.get_token") gtScope L 66 (.ref 65) [] (envX cn cs L0 a ccd cl :: outer)) (call (.ref 59) [.ref x] []) _ _ _
    refine wpAny_call (read_tok (oc := oc) B F1 X N T rfl hst O hva hl h128 hln (by omega) (by omega) fun h' tk' u vs' e' uln' hva' F' N' => ?_)
    have hl1 : (S (l.take 1)).length ≤ 1 := by rw [len_list]; simp only [List.length_take]; exact Nat.min_le_left _ _
    dsimp only
    walk_at "kss"
    (with_reducible rename Fr _ _ _ _ => F9)
    (with_reducible rename News _ _ _ _ => N9)
    exact hb h92 _ _ _ vs' e' uln' F9 ⟨rfl, M.fiter, ⟨_, by rw [← S_append]; rfl⟩⟩ hva' N9
  rw [if_neg (by simpa using h92)]
  walk_at "kss"
  (with_reducible rename Fr _ _ _ _ => F9)
  (with_reducible rename News _ _ _ _ => N9)
  exact hc h34 h92 _ _ _ F9 ⟨rfl, M.fiter, ⟨_, by rw [← S_append]; rfl⟩⟩ N9
end Y6
end Mine
theorem Mine.off_Y7 : True := by w_top off; trivial
namespace Mine
section Y7
open LCg
variable {w : World} {p : Program} {loose : List Str} {mean : ExcName → Option Value} {mg mb : Str → Option Value} {dp un : Nat} {gd : Option (List Code)} {cn : Str} {cs : Scope} {a : Addr} {ccd : Value} {cl : List (Str × Addr)} {outer : List Env} {A₀ : Around} {base g : Heap} {L0 L : Addr} {m : Str → Option Value} {news : List (Addr × Obj)} {s : Shared}
    {Q : Flow → Shared → Prop} {st lo x dx pb ci q : Addr} {ln : Int} {uln tq : Tok} {t : LTok} {l tok : List Nat} {vs : Array Value} {e c : Nat}
theorem ws_list : (Str.ofString "\n\t\r ").cps.toList = [10, 9, 13, 32] := by decide +kernel
theorem ws_has (c : Nat) : (Builtin.Str.occurrences (Str.ofString "\n\t\r ") ⟨#[c]⟩ 0 (Str.ofString "\n\t\r ").length 1).isEmpty = !wsp c := by
  rw [has_one, ws_list]
  unfold wsp
  by_cases h : c = 10 ∨ c = 9 ∨ c = 13 ∨ c = 32
  · rcases h with rfl | rfl | rfl | rfl <;> rfl
  · simp only [not_or] at h
    simp [h.1, h.2.1, h.2.2.1, h.2.2.2]
theorem w_turn {oc : Obj} {tc : Tok} (B : Below (ktrTop dp un gd cn cs L0 a ccd cl outer) base (envX cn cs L0 a ccd cl :: outer) g) (F : Fr g L s.heap m) (X : (hd.heap_1 w.params).In g) (N : News g L s.heap (tokL oc w.params ln uln st pb x dx lo ci q t vs e news)) (T : Top p loose mean mg mb g)
  (M : GtM m x ci tok) (hch : m (Str.ofString "ch") = some (.str (S [c]) tc)) (hst : StreamAt news st lo) (O : TokO pb x dx lo ci q news) (hva : VA vs.toList (signs l)) (hl : l.length ≤ 1000) (htk : tok.length ≤ 1000) (h128 : ∀ c ∈ l, c < 128) (hln : 0 ≤ ln ∧ ln ≤ 100000)
  (hdp : dp + 16 < recursionLimit) (hun : un + 115 < cLine)
  (hq : wsp c = true → ∀ u h' tk', Fr g L h' m → News g L h' (tokL oc w.params ln uln st pb x dx lo ci q t vs e news) → Q (.ret (.str (S tok) u)) { s with heap := h', toks := tk' })
  (hb : wsp c = false → c = 92 → ∀ h' tk' m' vs' e' uln', Fr g L h' m' → GtM m' x ci (tok ++ l.take 1) → VA vs'.toList (signs l.tail) → News g L h' (tokL oc w.params (ln + nls (l.take 1)) uln' st pb x dx lo ci q t vs' e' news) → Q .next { s with heap := h', toks := tk' })
  (hc : wsp c = false → c ≠ 92 → ∀ h' tk' m', Fr g L h' m' → GtM m' x ci (tok ++ [c]) → News g L h' (tokL oc w.params ln uln st pb x dx lo ci q t vs e news) → Q .next { s with heap := h', toks := tk' }) :
  wpAny (model Challenge.rw_ij0082_01.row.prog w) ((ktrTop dp un gd cn cs L0 a ccd cl outer).deeper (gtEnv L)) (execs wBody (gtEnv L)) Q (fun _ _ => False) s := by
  obtain ⟨tt, htok⟩ := M.token
  have hT : (S tok).length ≤ 1000 := by rw [len_list]; exact htk
  have F1 := fr3 F M.self htok hch
  clear F
  have O1 := O.o.b
  have O2 := O.o.c
  show wpAny _ _ (execs (_ :: _) (envOf _ _ _ _ _)) _ _ _
  have b92 : (S [c] == Str.ofString "\\") = decide (c = 92) := by rw [lit_bs, beq_S]; simp
  iterate 8 (walk_at "ks")
  rw [ws_has, Bool.not_not]
  refine wpAny_truthy_bool ?_
  have em : ∀ y, (if y = Str.ofString "self" then some (Value.ref x) else if y = Str.ofString "token" then some (Value.str (S tok) tt) else if y = Str.ofString "ch" then some (Value.str (S [c]) tc) else m y) = m y := fun y => congrFun (ov3 M.self htok hch) y
  cases hw : wsp c with
  | true =>
    rw [if_pos rfl]
    walk_at "kss"
    have F2 : Fr g L s.heap m := frc F1 em
    exact hq hw tt _ _ F2 N
  | false =>
    rw [if_neg (by decide)]
    iterate 8 (walk_at "ks")
    rw [b92]
    by_cases h92 : c = 92
    · rw [if_pos (decide_eq_true h92)]
      iterate 6 (walk_at "ks")
      refine callWith_K0 (X.keeps F1.keep) (by k_is) ?_
      show wpAny _ (ktrTop (dp + 1) (un + 3) gd (Str.ofString "_netrclex.get_token") gtScope L 66 (.ref 65) [] (envX cn cs L0 a ccd cl :: outer)) (call (.ref 59) [.ref x] []) _ _ _
      refine wpAny_call (read_tok (oc := oc) B F1 X N T rfl hst O hva hl h128 hln (by omega) (by omega) fun h' tk' u vs' e' uln' hva' F' N' => ?_)
      have hl1 : (S (l.take 1)).length ≤ 1 := by rw [len_list]; simp only [List.length_take]; exact Nat.min_le_left _ _
      dsimp only
      walk_at "kss"
      (with_reducible rename Fr _ _ _ _ => F9)
      (with_reducible rename News _ _ _ _ => N9)
      exact hb hw h92 _ _ _ vs' e' uln' F9 ⟨rfl, M.fiter, ⟨_, by rw [← S_append]; rfl⟩⟩ hva' N9
    rw [if_neg (by simpa using h92)]
    walk_at "kss"
    (with_reducible rename Fr _ _ _ _ => F9)
    (with_reducible rename News _ _ _ _ => N9)
    exact hc hw h92 _ _ _ F9 ⟨rfl, M.fiter, ⟨_, by rw [← S_append]; rfl⟩⟩ N9
end Y7
end Mine
theorem Mine.off_Y8 : True := by w_top off; trivial
namespace Mine
section Y8
open LCg
variable {w : World} {p : Program} {loose : List Str} {mean : ExcName → Option Value} {mg mb : Str → Option Value} {dp un : Nat} {gd : Option (List Code)} {cn : Str} {cs : Scope} {a : Addr} {ccd : Value} {cl : List (Str × Addr)} {outer : List Env} {A₀ : Around} {base g : Heap} {L0 L : Addr} {m : Str → Option Value} {news : List (Addr × Obj)} {s : Shared}
    {Q : Flow → Shared → Prop} {st lo x dx pb ci q : Addr} {ln K : Int} {uln tq : Tok} {t : LTok} {l tok : List Nat} {vs : Array Value} {e c : Nat} {T R : List Nat}
noncomputable def qFor : Stmt := (subs [(3, 0), (1, 0)] gtBody).getD 0 default
noncomputable def wFor : Stmt := (subs [(3, 0), (1, 1)] gtBody).getD 2 default
/-- what every loop over the lexer's iterator keeps -/
structure LiveI (P : Params) (g : Heap) (L : Addr) (K : Int) (st pb x dx lo ci q : Addr) (tq : Tok) (t : LTok) (news : List (Addr × Obj)) (h : Heap) (m : Str → Option Value) (tok l : List Nat) (ln : Int) (uln : Tok) (vs : Array Value) (e : Nat) : Prop where
  ln0 : 0 ≤ ln
  K : ln + nls l = K
  len : tok.length + l.length ≤ 1000
  c128 : ∀ c ∈ l, c < 128
  va : VA vs.toList (signs l)
  F : Fr g L h m
  M : GtM m x ci tok
  N : News g L h (tokL (ciObj q tq) P ln uln st pb x dx lo ci q t vs e news)
theorem nls_nonneg (l : List Nat) : 0 ≤ nls l := Int.natCast_nonneg _
theorem nls_one (c : Nat) (r : List Nat) : nls [c] + nls r = nls (c :: r) := nls_split (c :: r)
theorem q_loop (B : Below (ktrTop dp un gd cn cs L0 a ccd cl outer) base (envX cn cs L0 a ccd cl :: outer) g) (X : (hd.heap_1 w.params).In g) (TT : Top p loose mean mg mb g)
  (I0 : LiveI w.params g L K st pb x dx lo ci q tq t news s.heap m tok l ln uln vs e) (hst : StreamAt news st lo) (O : TokO pb x dx lo ci q news) (hK : K ≤ 100000) (hT : lexQ tok l = (T, R))
  (hdp : dp + 20 < recursionLimit) (hun : un + 125 < cLine)
  (hret : ∀ u h' tk' m' vs' e' ln' uln', ln' + nls R = K → 0 ≤ ln' → VA vs'.toList (signs R) → Fr g L h' m' → News g L h' (tokL (ciObj q tq) w.params ln' uln' st pb x dx lo ci q t vs' e' news) → Q (.ret (.str (S T) u)) { s with heap := h', toks := tk' })
  (hend : ∀ h' tk' m' vs' e' ln' uln', R = [] → ln' = K → VA vs'.toList (signs []) → Fr g L h' m' → GtM m' x ci T → News g L h' (tokL ciEnd w.params ln' uln' st pb x dx lo ci q t vs' e' news) → Q .next { s with heap := h', toks := tk' }) :
  wpAny (model Challenge.rw_ij0082_01.row.prog w) ((ktrTop dp un gd cn cs L0 a ccd cl outer).deeper (gtEnv L)) (exec qFor (gtEnv L)) Q (fun _ _ => False) s := by
  with_unfolding_all show wpAny _ _ (exec (.For (.Name _ _) _ _ [] _) (gtEnv L)) _ _ _
  refine forG (fun n it s₁ => it = .ref ci ∧ ∃ (h : Heap) (tk : Nat) (m₁ : Str → Option Value) (tok l : List Nat) (ln : Int) (uln : Tok) (vs : Array Value) (e : Nat), s₁ = { s with heap := h, toks := tk } ∧ n = l.length ∧ lexQ tok l = (T, R) ∧ LiveI w.params g L K st pb x dx lo ci q tq t news h m₁ tok l ln uln vs e) ?_ ?_
  · have F := I0.F
    have hfi := I0.M.fiter
    have F1 := fr1 F hfi
    with_unfolding_all show wpAny _ _ (eval (.Name _ _) (envOf _ _ _ _ _)) _ _ _
    iterate 1 (walk_at "ks")
    exact pyIter_ci (I0.N _ (.head _)).1 rfl ⟨l.length, rfl, s.heap, s.toks, m, tok, l, ln, uln, vs, e, rfl, rfl, hT, I0⟩
  · rintro it n _ ⟨rfl, h, tk, m₁, tok1, l1, ln1, uln1, vs1, e1, rfl, rfl, hT1, I1⟩
    have hn0 := nls_nonneg l1
    have hK1 := I1.K
    have hlen := I1.len
    have hln0 := I1.ln0
    show wpAny _ (ktrTop (dp + 1) (un + 3) gd (Str.ofString "_netrclex.get_token") gtScope L 66 (.ref 65) [] (envX cn cs L0 a ccd cl :: outer)) _ _ _ _
    refine next_rd B I1.F X I1.N TT rfl hst O I1.va (by omega) I1.c128 ⟨by omega, by omega⟩ (by omega) (by omega) ?_ ?_
    · rintro rfl h2 tk2 vs2 e2 uln2 hva2 F2 N2
      obtain ⟨rfl, rfl⟩ := Prod.mk.inj (hT1 : (tok1, ([] : List Nat)) = (T, R))
      exact hend h2 tk2 m₁ vs2 e2 ln1 uln2 rfl (by have : nls [] = 0 := rfl; omega) hva2 F2 I1.M N2
    · rintro c r rfl h2 tk2 u vs2 e2 uln2 hva2 F2 N2
      have hone := nls_one c r
      have hn1 := nls_nonneg [c]
      have hn2 := nls_nonneg r
      rw [lexQ_cons] at hT1
      simp only [List.length_cons] at hlen
      have hr128 : ∀ d ∈ r, d < 128 := fun d hd => I1.c128 d (.tail _ hd)
      with_unfolding_all show wpAny _ _ (storeName (gtEnv L) _ (Value.str _ _)) _ _ _
      iterate 1 (walk_at "ks")
      (with_reducible rename Fr _ _ _ _ => F3)
      (with_reducible rename News _ _ _ _ => N3)
      obtain ⟨tt, htt⟩ := I1.M.token
      refine q_turn B F3 X N3 TT ⟨I1.M.self, I1.M.fiter, ⟨tt, htt⟩⟩ rfl hst O hva2 (by omega) (by omega) hr128 ⟨by omega, by omega⟩ (by omega) (by omega) (fun h34 u3 h4 tk4 F4 N4 => ?_) (fun h92 h4 tk4 m4 vs4 e4 uln4 F4 M4 va4 N4 => ?_) (fun h34 h92 h4 tk4 m4 F4 M4 N4 => ?_)
      · subst h34
        rw [if_pos rfl] at hT1
        obtain ⟨rfl, rfl⟩ := Prod.mk.inj hT1
        exact hret u3 h4 tk4 _ vs2 e2 _ uln2 (by omega) (by omega) hva2 F4 N4
      · have hsp := nls_split r
        have hn3 := nls_nonneg (r.take 1)
        have hl2 : r.tail.length = r.length - 1 := List.length_tail
        have hl3 : (r.take 1).length ≤ r.length - r.tail.length := by rw [hl2, List.length_take]; omega
        subst h92
        rw [if_neg (by decide), if_pos rfl] at hT1
        exact ⟨r.tail.length, by rw [hl2, List.length_cons]; omega, rfl, h4, tk4, m4, tok1 ++ r.take 1, r.tail, _, uln4, vs4, e4, rfl, rfl, hT1, ⟨by omega, by omega, by rw [List.length_append]; omega, fun d hd => hr128 d (List.mem_of_mem_tail hd), va4, F4, M4, N4⟩⟩
      · rw [if_neg h34, if_neg h92] at hT1
        exact ⟨r.length, by simp, rfl, h4, tk4, m4, tok1 ++ [c], r, _, uln2, vs2, e2, rfl, rfl, hT1, ⟨by omega, by omega, by rw [List.length_append, List.length_singleton]; omega, hr128, hva2, F4, M4, N4⟩⟩
theorem w_loop (B : Below (ktrTop dp un gd cn cs L0 a ccd cl outer) base (envX cn cs L0 a ccd cl :: outer) g) (X : (hd.heap_1 w.params).In g) (TT : Top p loose mean mg mb g)
  (I0 : LiveI w.params g L K st pb x dx lo ci q tq t news s.heap m tok l ln uln vs e) (hst : StreamAt news st lo) (O : TokO pb x dx lo ci q news) (hK : K ≤ 100000) (hT : lexW tok l = (T, R))
  (hdp : dp + 20 < recursionLimit) (hun : un + 125 < cLine)
  (hret : ∀ u h' tk' m' vs' e' ln' uln', ln' + nls R = K → 0 ≤ ln' → VA vs'.toList (signs R) → Fr g L h' m' → News g L h' (tokL (ciObj q tq) w.params ln' uln' st pb x dx lo ci q t vs' e' news) → Q (.ret (.str (S T) u)) { s with heap := h', toks := tk' })
  (hend : ∀ h' tk' m' vs' e' ln' uln', R = [] → ln' = K → VA vs'.toList (signs []) → Fr g L h' m' → GtM m' x ci T → News g L h' (tokL ciEnd w.params ln' uln' st pb x dx lo ci q t vs' e' news) → Q .next { s with heap := h', toks := tk' }) :
  wpAny (model Challenge.rw_ij0082_01.row.prog w) ((ktrTop dp un gd cn cs L0 a ccd cl outer).deeper (gtEnv L)) (exec wFor (gtEnv L)) Q (fun _ _ => False) s := by
  with_unfolding_all show wpAny _ _ (exec (.For (.Name _ _) _ _ [] _) (gtEnv L)) _ _ _
  refine forG (fun n it s₁ => it = .ref ci ∧ ∃ (h : Heap) (tk : Nat) (m₁ : Str → Option Value) (tok l : List Nat) (ln : Int) (uln : Tok) (vs : Array Value) (e : Nat), s₁ = { s with heap := h, toks := tk } ∧ n = l.length ∧ lexW tok l = (T, R) ∧ LiveI w.params g L K st pb x dx lo ci q tq t news h m₁ tok l ln uln vs e) ?_ ?_
  · have F := I0.F
    have hfi := I0.M.fiter
    have F1 := fr1 F hfi
    with_unfolding_all show wpAny _ _ (eval (.Name _ _) (envOf _ _ _ _ _)) _ _ _
    iterate 1 (walk_at "ks")
    exact pyIter_ci (I0.N _ (.head _)).1 rfl ⟨l.length, rfl, s.heap, s.toks, m, tok, l, ln, uln, vs, e, rfl, rfl, hT, I0⟩
  · rintro it n _ ⟨rfl, h, tk, m₁, tok1, l1, ln1, uln1, vs1, e1, rfl, rfl, hT1, I1⟩
    have hn0 := nls_nonneg l1
    have hK1 := I1.K
    have hlen := I1.len
    have hln0 := I1.ln0
    show wpAny _ (ktrTop (dp + 1) (un + 3) gd (Str.ofString "_netrclex.get_token") gtScope L 66 (.ref 65) [] (envX cn cs L0 a ccd cl :: outer)) _ _ _ _
    refine next_rd B I1.F X I1.N TT rfl hst O I1.va (by omega) I1.c128 ⟨by omega, by omega⟩ (by omega) (by omega) ?_ ?_
    · rintro rfl h2 tk2 vs2 e2 uln2 hva2 F2 N2
      obtain ⟨rfl, rfl⟩ := Prod.mk.inj (hT1 : (tok1, ([] : List Nat)) = (T, R))
      exact hend h2 tk2 m₁ vs2 e2 ln1 uln2 rfl (by have : nls [] = 0 := rfl; omega) hva2 F2 I1.M N2
    · rintro c r rfl h2 tk2 u vs2 e2 uln2 hva2 F2 N2
      have hone := nls_one c r
      have hn1 := nls_nonneg [c]
      have hn2 := nls_nonneg r
      rw [lexW_cons] at hT1
      simp only [List.length_cons] at hlen
      have hr128 : ∀ d ∈ r, d < 128 := fun d hd => I1.c128 d (.tail _ hd)
      with_unfolding_all show wpAny _ _ (storeName (gtEnv L) _ (Value.str _ _)) _ _ _
      iterate 1 (walk_at "ks")
      (with_reducible rename Fr _ _ _ _ => F3)
      (with_reducible rename News _ _ _ _ => N3)
      obtain ⟨tt, htt⟩ := I1.M.token
      refine w_turn B F3 X N3 TT ⟨I1.M.self, I1.M.fiter, ⟨tt, htt⟩⟩ rfl hst O hva2 (by omega) (by omega) hr128 ⟨by omega, by omega⟩ (by omega) (by omega) (fun hw u3 h4 tk4 F4 N4 => ?_) (fun hw h92 h4 tk4 m4 vs4 e4 uln4 F4 M4 va4 N4 => ?_) (fun hw h92 h4 tk4 m4 F4 M4 N4 => ?_)
      · rw [if_pos hw] at hT1
        obtain ⟨rfl, rfl⟩ := Prod.mk.inj hT1
        exact hret u3 h4 tk4 _ vs2 e2 _ uln2 (by omega) (by omega) hva2 F4 N4
      · have hsp := nls_split r
        have hn3 := nls_nonneg (r.take 1)
        have hl2 : r.tail.length = r.length - 1 := List.length_tail
        have hl3 : (r.take 1).length ≤ r.length - r.tail.length := by rw [hl2, List.length_take]; omega
        subst h92
        rw [if_neg (by decide), if_pos rfl] at hT1
        exact ⟨r.tail.length, by rw [hl2, List.length_cons]; omega, rfl, h4, tk4, m4, tok1 ++ r.take 1, r.tail, _, uln4, vs4, e4, rfl, rfl, hT1, ⟨by omega, by omega, by rw [List.length_append]; omega, fun d hd => hr128 d (List.mem_of_mem_tail hd), va4, F4, M4, N4⟩⟩
      · rw [if_neg (by rw [hw]; decide), if_neg h92] at hT1
        exact ⟨r.length, by simp, rfl, h4, tk4, m4, tok1 ++ [c], r, _, uln2, vs2, e2, rfl, rfl, hT1, ⟨by omega, by omega, by rw [List.length_append, List.length_singleton]; omega, hr128, hva2, F4, M4, N4⟩⟩
end Y8
end Mine
theorem Mine.off_Y9 : True := by w_top off; trivial
namespace Mine
section Y9
open LCg
variable {w : World} {p : Program} {loose : List Str} {mean : ExcName → Option Value} {mg mb : Str → Option Value} {dp un : Nat} {gd : Option (List Code)} {cn : Str} {cs : Scope} {a : Addr} {ccd : Value} {cl : List (Str × Addr)} {outer : List Env} {A₀ : Around} {base g : Heap} {L0 L : Addr} {m : Str → Option Value} {news : List (Addr × Obj)} {s : Shared}
    {Q : Flow → Shared → Prop} {st lo x dx pb ci q : Addr} {ln K : Int} {uln tq : Tok} {t : LTok} {l tok : List Nat} {vs : Array Value} {e c : Nat} {T R : List Nat}
noncomputable def oFor : Stmt := gtBody.getD 3 default
noncomputable def oBody : List Stmt := subs [(3, 0)] gtBody
/-- a turn of the outer loop, behind the first sign c of what is left -/
theorem o_turn {tc : Tok} (B : Below (ktrTop dp un gd cn cs L0 a ccd cl outer) base (envX cn cs L0 a ccd cl :: outer) g) (X : (hd.heap_1 w.params).In g) (TT : Top p loose mean mg mb g)
  (I0 : LiveI w.params g L K st pb x dx lo ci q tq t news s.heap m [] l ln uln vs e) (hch : m (Str.ofString "ch") = some (.str (S [c]) tc)) (hst : StreamAt news st lo) (O : TokO pb x dx lo ci q news) (hK : K ≤ 100000) (hl : l.length < 1000) (hT : lexT (c :: l) = (T, R))
  (hdp : dp + 20 < recursionLimit) (hun : un + 125 < cLine)
  (hcont : lexT l = (T, R) → ∀ h' tk' m', LiveI w.params g L K st pb x dx lo ci q tq t news h' m' [] l ln uln vs e → Q .cont { s with heap := h', toks := tk' })
  (hret : ∀ u h' tk' m' vs' e' ln' uln', ln' + nls R = K → 0 ≤ ln' → VA vs'.toList (signs R) → Fr g L h' m' → News g L h' (tokL (ciObj q tq) w.params ln' uln' st pb x dx lo ci q t vs' e' news) → Q (.ret (.str (S T) u)) { s with heap := h', toks := tk' })
  (hend : ∀ h' tk' m' vs' e' ln' uln', R = [] → ln' = K → VA vs'.toList (signs []) → Fr g L h' m' → GtM m' x ci T → News g L h' (tokL ciEnd w.params ln' uln' st pb x dx lo ci q t vs' e' news) → Q .next { s with heap := h', toks := tk' }) :
  wpAny (model Challenge.rw_ij0082_01.row.prog w) ((ktrTop dp un gd cn cs L0 a ccd cl outer).deeper (gtEnv L)) (execs oBody (gtEnv L)) Q (fun _ _ => False) s := by
  obtain ⟨tt, htok⟩ := I0.M.token
  have F1 := fr3 I0.F I0.M.self htok hch
  have N := I0.N
  have O1 := O.o.b
  have O2 := O.o.c
  have hln0 := I0.ln0
  have hKK := I0.K
  have hn0 := nls_nonneg l
  show wpAny _ _ (execs (_ :: _) (envOf _ _ _ _ _)) _ _ _
  have b34 : (S [c] == Str.ofString "\"") = decide (c = 34) := by rw [show Str.ofString "\"" = S [34] by decide +kernel, beq_S]; simp
  have b92 : (S [c] == Str.ofString "\\") = decide (c = 92) := by rw [lit_bs, beq_S]; simp
  have em : ∀ y, (if y = Str.ofString "self" then some (Value.ref x) else if y = Str.ofString "token" then some (Value.str (S []) tt) else if y = Str.ofString "ch" then some (Value.str (S [c]) tc) else m y) = m y := fun y => congrFun (ov3 I0.M.self htok hch) y
  simp only [lexT] at hT
  iterate 8 (walk_at "ks")
  rw [ws_has, Bool.not_not]
  refine wpAny_truthy_bool ?_
  cases hw : wsp c with
  | true =>
    rw [if_pos rfl]
    rw [hw, if_pos rfl] at hT
    walk_at "kss"
    exact hcont hT _ _ m ⟨I0.ln0, I0.K, I0.len, I0.c128, I0.va, frc F1 em, I0.M, N⟩
  | false =>
    rw [if_neg (by decide)]
    rw [hw, if_neg (by decide)] at hT
    iterate 9 (walk_at "ks")
    rw [b34]
    by_cases h34 : c = 34
    · rw [if_pos (decide_eq_true h34)]
      rw [if_pos h34] at hT
      rw [execs_cons]
      refine wpAny_bind (q_loop (m := m) (tok := []) (l := l) (ln := ln) (uln := uln) (vs := vs) (e := e) B X TT ⟨I0.ln0, I0.K, I0.len, I0.c128, I0.va, I0.F, I0.M, I0.N⟩ hst O hK hT hdp hun (fun u h2 tk2 m2 vs2 e2 ln2 uln2 a1 a2 a3 F2 N2 => ?_) (fun h2 tk2 m2 vs2 e2 ln2 uln2 a1 a2 a3 F2 M2 N2 => ?_))
      · refine wpAny_pure ?_
        exact hret u h2 tk2 m2 vs2 e2 ln2 uln2 a1 a2 a3 F2 N2
      · walk_at "kss"
        exact hend h2 _ m2 vs2 e2 ln2 uln2 a1 a2 a3 F2 M2 N2
    rw [if_neg (by simpa using h34)]
    rw [if_neg h34] at hT
    refine seqE (n0 := 0) F1 (Nat.zero_le _) (fun m' news' => ∃ (ch l' : List Nat) (ln' : Int) (uln' : Tok) (vs' : Array Value) (e' : Nat) (u : Tok), news' = tokL (ciObj q tq) w.params ln' uln' st pb x dx lo ci q t vs' e' news ∧ m' (Str.ofString "ch") = some (.str (S ch) u) ∧ GtM m' x ci [] ∧
        (ch, l') = (if c = 92 then (l.take 1, l.tail) else ([c], l)) ∧ ln' + nls l' = K ∧ 0 ≤ ln' ∧ VA vs'.toList (signs l')) ?_ ?_
    · iterate 6 (walk_at "ks")
      rw [b92]
      by_cases h92 : c = 92
      · rw [if_pos (decide_eq_true h92)]
        iterate 6 (walk_at "ks")
        refine callWith_K0 (X.keeps F1.keep) (by k_is) ?_
        show wpAny _ (ktrTop (dp + 1) (un + 3) gd (Str.ofString "_netrclex.get_token") gtScope L 66 (.ref 65) [] (envX cn cs L0 a ccd cl :: outer)) (call (.ref 59) [.ref x] []) _ _ _
        refine wpAny_call (read_tok B F1 X N TT rfl hst O I0.va (by omega) I0.c128 ⟨by omega, by omega⟩ (by omega) (by omega) fun h' tk' u vs' e' uln' hva' F' N' => ?_)
        have hl1 : (S (l.take 1)).length ≤ 1 := by rw [len_list]; simp only [List.length_take]; exact Nat.min_le_left _ _
        dsimp only
        walk_at "kss"
        (with_reducible rename Fr _ _ _ _ => F9)
        (with_reducible rename News _ _ _ _ => N9)
        have hsp := nls_split l
        have hn3 := nls_nonneg (l.take 1)
        refine' postE ?hp9 F9 N9
        exact ⟨l.take 1, l.tail, _, uln', vs', e', u, rfl, rfl, ⟨rfl, I0.M.fiter, ⟨tt, rfl⟩⟩, by rw [if_pos h92], by omega, by omega, hva'⟩
      · rw [if_neg (by simpa using h92)]
        walk_at "kss"
        refine' postE (h' := s.heap) ?hp8 F1 N
        exact ⟨[c], l, ln, uln, vs, e, tc, rfl, rfl, ⟨rfl, I0.M.fiter, ⟨tt, rfl⟩⟩, by rw [if_neg h92], hKK, hln0, I0.va⟩
    rintro m2 _ h2 tk2 ⟨ch, l2, ln2, uln2, vs2, e2, u2, rfl, hch2, M2, hcl, hK2, hln2, hva2⟩ _ F2 N2
    obtain ⟨tt2, htok2⟩ := M2.token
    have hchl : ch.length ≤ 1 ∧ ch.length + l2.length ≤ 1000 ∧ (∀ d ∈ l2, d < 128) ∧ lexW ch l2 = (T, R) := by
      by_cases h92 : c = 92
      · rw [if_pos h92] at hcl hT
        obtain ⟨rfl, rfl⟩ := Prod.mk.inj hcl
        refine ⟨by rw [List.length_take]; exact Nat.min_le_left _ _, by rw [List.length_take, List.length_tail]; omega, fun d hd => I0.c128 d (List.mem_of_mem_tail hd), hT⟩
      · rw [if_neg h92] at hcl hT
        obtain ⟨rfl, rfl⟩ := Prod.mk.inj hcl
        exact ⟨Nat.le_refl _, by simp; omega, I0.c128, hT⟩
    have hchl2 : (S ch).length ≤ 1 := by rw [len_list]; exact hchl.1
    have F3 := fr3 F2 M2.self htok2 hch2
    clear F2
    have em2 : ∀ y, (if y = Str.ofString "self" then some (Value.ref x) else if y = Str.ofString "token" then some (Value.str (S []) tt2) else if y = Str.ofString "ch" then some (Value.str (S ch) u2) else m2 y) = m2 y := fun y => congrFun (ov3 M2.self htok2 hch2) y
    refine seqV F3 N2 (Str.ofString "token") (fun v => ∃ t, v = .str (S ch) t) ?_ ?_
    · walk_at "kss"
      ((refine' Mine.midV ?hp9mid17 ?F9mid17 ?N9mid17 ?e9mid17 ?s9mid17; (case F9mid17 => assumption); (case N9mid17 => assumption); (case e9mid17 => first | (intro y; rfl) | (intro y; exact Mine.up2)); (case s9mid17 => exact fun _ h => h)))
      exact ⟨_, by rw [S_append]; rfl⟩
    rintro _ h4 tk4 ⟨tt3, rfl⟩ F4 N4
    rw [execs_cons]
    refine wpAny_bind (w_loop (m := _) (tok := ch) (l := l2) (ln := ln2) (uln := uln2) (vs := vs2) (e := e2) B X TT ⟨hln2, hK2, hchl.2.1, hchl.2.2.1, hva2, F4, ⟨rfl, M2.fiter, ⟨tt3, rfl⟩⟩, N4⟩ hst O hK hchl.2.2.2 hdp hun (fun u h2 tk2 m2 vs2 e2 ln2 uln2 a1 a2 a3 F2 N2 => ?_) (fun h2 tk2 m2 vs2 e2 ln2 uln2 a1 a2 a3 F2 M2 N2 => ?_))
    · refine wpAny_pure ?_
      exact hret u h2 tk2 m2 vs2 e2 ln2 uln2 a1 a2 a3 F2 N2
    · walk_at "kss"
      exact hend h2 _ m2 vs2 e2 ln2 uln2 a1 a2 a3 F2 M2 N2
end Y9
end Mine
theorem Mine.off_Y10 : True := by w_top off; trivial
namespace Mine
section Y10
open LCg
variable {w : World} {p : Program} {loose : List Str} {mean : ExcName → Option Value} {mg mb : Str → Option Value} {dp un : Nat} {gd : Option (List Code)} {cn : Str} {cs : Scope} {a : Addr} {ccd : Value} {cl : List (Str × Addr)} {outer : List Env} {A₀ : Around} {base g h₀ : Heap} {L0 L : Addr} {m : Str → Option Value} {news : List (Addr × Obj)} {s : Shared}
    {st lo x dx pb ci q : Addr} {ln K : Int} {uln tq : Tok} {t : LTok} {l tok : List Nat} {vs : Array Value} {e c : Nat} {T R : List Nat}
theorem o_loop {Q : Flow → Shared → Prop} (B : Below (ktrTop dp un gd cn cs L0 a ccd cl outer) base (envX cn cs L0 a ccd cl :: outer) g) (X : (hd.heap_1 w.params).In g) (TT : Top p loose mean mg mb g)
  (I0 : LiveI w.params g L K st pb x dx lo ci q tq t news s.heap m [] l ln uln vs e) (hst : StreamAt news st lo) (O : TokO pb x dx lo ci q news) (hK : K ≤ 100000) (hT : lexT l = (T, R))
  (hdp : dp + 20 < recursionLimit) (hun : un + 125 < cLine)
  (hret : ∀ u h' tk' m' vs' e' ln' uln', ln' + nls R = K → 0 ≤ ln' → VA vs'.toList (signs R) → Fr g L h' m' → News g L h' (tokL (ciObj q tq) w.params ln' uln' st pb x dx lo ci q t vs' e' news) → Q (.ret (.str (S T) u)) { s with heap := h', toks := tk' })
  (hend : ∀ h' tk' m' vs' e' ln' uln', R = [] → ln' = K → VA vs'.toList (signs []) → Fr g L h' m' → GtM m' x ci T → News g L h' (tokL ciEnd w.params ln' uln' st pb x dx lo ci q t vs' e' news) → Q .next { s with heap := h', toks := tk' }) :
  wpAny (model Challenge.rw_ij0082_01.row.prog w) ((ktrTop dp un gd cn cs L0 a ccd cl outer).deeper (gtEnv L)) (exec oFor (gtEnv L)) Q (fun _ _ => False) s := by
  with_unfolding_all show wpAny _ _ (exec (.For (.Name _ _) _ _ [] _) (gtEnv L)) _ _ _
  refine forG (fun n it s₁ => it = .ref ci ∧ ((∃ (h : Heap) (tk : Nat) (m₁ : Str → Option Value) (l : List Nat) (ln : Int) (uln : Tok) (vs : Array Value) (e : Nat), s₁ = { s with heap := h, toks := tk } ∧ n = l.length + 1 ∧ lexT l = (T, R) ∧ LiveI w.params g L K st pb x dx lo ci q tq t news h m₁ [] l ln uln vs e) ∨
      (∃ (h : Heap) (tk : Nat) (m₁ : Str → Option Value) (ln : Int) (uln : Tok) (vs : Array Value) (e : Nat), s₁ = { s with heap := h, toks := tk } ∧ n = 0 ∧ R = [] ∧ ln = K ∧ VA vs.toList (signs []) ∧ Fr g L h m₁ ∧ GtM m₁ x ci T ∧ News g L h (tokL ciEnd w.params ln uln st pb x dx lo ci q t vs e news)))) ?_ ?_
  · have F := I0.F
    have hfi := I0.M.fiter
    have F1 := fr1 F hfi
    with_unfolding_all show wpAny _ _ (eval (.Name _ _) (envOf _ _ _ _ _)) _ _ _
    iterate 1 (walk_at "ks")
    exact pyIter_ci (I0.N _ (.head _)).1 rfl ⟨l.length + 1, rfl, .inl ⟨s.heap, s.toks, m, l, ln, uln, vs, e, rfl, rfl, hT, I0⟩⟩
  · rintro it n _ ⟨rfl, ⟨h, tk, m₁, l1, ln1, uln1, vs1, e1, rfl, rfl, hT1, I1⟩ | ⟨h, tk, m₁, ln1, uln1, vs1, e1, rfl, rfl, hR, hl1, va1, F1, M1, N1⟩⟩
    · have hn0 := nls_nonneg l1
      have hK1 := I1.K
      have hlen := I1.len
      have hln0 := I1.ln0
      simp only [List.length_nil] at hlen
      show wpAny _ (ktrTop (dp + 1) (un + 3) gd (Str.ofString "_netrclex.get_token") gtScope L 66 (.ref 65) [] (envX cn cs L0 a ccd cl :: outer)) _ _ _ _
      refine next_rd B I1.F X I1.N TT rfl hst O I1.va (by omega) I1.c128 ⟨by omega, by omega⟩ (by omega) (by omega) ?_ ?_
      · rintro rfl h2 tk2 vs2 e2 uln2 hva2 F2 N2
        obtain ⟨rfl, rfl⟩ := Prod.mk.inj (hT1 : (([] : List Nat), ([] : List Nat)) = (T, R))
        exact hend h2 tk2 m₁ vs2 e2 ln1 uln2 rfl (by have : nls [] = 0 := rfl; omega) hva2 F2 I1.M N2
      · rintro c r rfl h2 tk2 u vs2 e2 uln2 hva2 F2 N2
        have hone := nls_one c r
        have hn1 := nls_nonneg [c]
        have hn2 := nls_nonneg r
        simp only [List.length_cons] at hlen
        have hr128 : ∀ d ∈ r, d < 128 := fun d hd => I1.c128 d (.tail _ hd)
        with_unfolding_all show wpAny _ _ (storeName (gtEnv L) _ (Value.str _ _)) _ _ _
        iterate 1 (walk_at "ks")
        (with_reducible rename Fr _ _ _ _ => F3)
        (with_reducible rename News _ _ _ _ => N3)
        obtain ⟨tt, htt⟩ := I1.M.token
        refine o_turn (m := _) (l := r) (ln := ln1 + nls [c]) (uln := uln2) (vs := vs2) (e := e2) B X TT ⟨by omega, by omega, by simp; omega, hr128, hva2, F3, ⟨I1.M.self, I1.M.fiter, ⟨tt, htt⟩⟩, N3⟩ rfl hst O hK (by omega) hT1 hdp hun (fun hT4 h4 tk4 m4 I4 => ?_) (fun u3 h4 tk4 m4 vs4 e4 ln4 uln4 a1 a2 a3 F4 N4 => ?_) (fun h4 tk4 m4 vs4 e4 ln4 uln4 a1 a2 a3 F4 M4 N4 => ?_)
        · exact ⟨r.length + 1, by simp, rfl, .inl ⟨h4, tk4, m4, r, _, uln2, vs2, e2, rfl, rfl, hT4, I4⟩⟩
        · exact hret u3 h4 tk4 m4 vs4 e4 ln4 uln4 a1 a2 a3 F4 N4
        · exact ⟨0, Nat.succ_pos _, rfl, .inr ⟨h4, tk4, m4, ln4, uln4, vs4, e4, rfl, rfl, a1, a2, a3, F4, M4, N4⟩⟩
    · refine next_ended rfl (N1 _ (.head _)).1 fun h2 hk2 => ?_
      exact hend h2 tk m₁ vs1 e1 ln1 uln1 hR hl1 va1 (F1.keeps hk2) M1 (N1.grown hk2)
end Y10
end Mine
theorem Mine.off_Y11 : True := by w_top off; trivial
namespace Mine
section Y11
open LCg
variable {w : World} {p : Program} {loose : List Str} {mean : ExcName → Option Value} {mg mb : Str → Option Value} {dp un : Nat} {gd : Option (List Code)} {cn : Str} {cs : Scope} {a : Addr} {ccd : Value} {cl : List (Str × Addr)} {outer : List Env} {A₀ : Around} {base h₀ : Heap} {L : Addr} {m : Str → Option Value} {news : List (Addr × Obj)} {s : Shared}
    {Q E : Value → Shared → Prop} {st lo x dx pb : Addr} {ln : Int} {uln : Tok} {t : LTok} {l : List Nat} {vs : Array Value} {e : Nat} {T R : List Nat}
theorem tok_spec (B : Below A₀ base outer h₀) (F : Fr h₀ L s.heap m) (X : (hd.heap_1 w.params).In h₀) (N : News h₀ L s.heap (lexL w.params ln uln st pb x dx lo t vs e news)) (TT : Top p loose mean mg mb h₀) (hk : cs.kind = .function)
  (hst : StreamAt news st lo) (O : LexO pb x dx lo news) (hva : VA vs.toList (signs l)) (hl : l.length ≤ 1000) (h128 : ∀ c ∈ l, c < 128) (hln : 0 ≤ ln ∧ ln + nls l ≤ 100000) (hT : lexT l = (T, R))
  (hdp : dp + 25 < recursionLimit) (hun : un + 135 < cLine)
  (hret : ∀ u h' tk' vs' e' ln' uln', ln' + nls R = ln + nls l → 0 ≤ ln' → VA vs'.toList (signs R) → Fr h₀ L h' m → News h₀ L h' (lexL w.params ln' uln' st pb x dx lo t vs' e' news) → Q (.str (S T) u) { s with heap := h', toks := tk'}) :
  wpAny (model Challenge.rw_ij0082_01.row.prog w) (ktrTop dp un gd cn cs L a ccd cl outer) (call (.ref 66) [.ref x]) Q E s := by
  refine PySem.wpAny_call ?_
  have T := TT
  k_dflt ktr_enter
  refine Mine.toks_gen ?_
  intro tk0
  refine Mine.no_exc ?_
  have O1 := O.a
  have O2 := O.b
  have O3 := O.c
  have O4 := O.d
  have O5 := O.f
  rename_i g' L' h' FG' F0 N' B' X' T'
  have F' : Fr g' L' h' (fun y => List.lookup y [(Str.ofString "self", Value.ref x)]) := F0
  clear F0 B F N X TT T
  iterate 6 (walk_at "ks")
  refine wpAny_truthy_list (isl N' (.tail _ (.tail _ (.head _)))) (by decide) ?_
  rw [if_neg (by decide)]
  iterate 18 (walk_at "ks")
  (with_reducible rename Fr _ _ _ _ => F2)
  (with_reducible rename News _ _ _ _ => N2)
  (with_reducible rename _ ∧ _ => l2)
  rename_i q2 _
  refine call_iter2 (N2 _ (.head _)).1 ?_
  have F3 := F2.push (ciObj q2 (tk + 1 + 1 + 1))
  have N3 := News.push F2 N2 (ciObj q2 (tk + 1 + 1 + 1))
  have hlt := news_lt N2
  clear F2 N2
  dsimp only
  iterate 1 (walk_at "ks")
  (with_reducible rename Fr _ _ _ _ => F4)
  (with_reducible rename News _ _ _ _ => N4)
  have hO : TokO pb x dx lo _ q2 news := ⟨O, l2.2.2.1, hlt _ (.head _), fun r hr => Nat.ne_of_lt (hlt r (.tail _ (.tail _ (.tail _ (.tail _ (.tail _ hr))))))⟩
  rw [execs_cons]
  refine wpAny_bind (o_loop (m := _) (l := l) (ln := ln) (uln := uln) (vs := vs) (e := e) B' X' T' ⟨hln.1, rfl, by simpa using hl, h128, hva, F4, ⟨rfl, rfl, ⟨_, rfl⟩⟩, N4⟩ hst hO hln.2 hT (by omega) (by omega) (fun u h5 tk5 m5 vs5 e5 ln5 uln5 a1 a2 a3 F5 N5 => ?_) (fun h5 tk5 m5 vs5 e5 ln5 uln5 a1 a2 a3 F5 M5 N5 => ?_))
  · refine wpAny_pure ?_
    exact leaveK_ F5 (nwt (nwt N5)) fun kF kN => hret u h5 tk5 vs5 e5 ln5 uln5 a1 a2 a3 kF kN
  · obtain ⟨tt, htt⟩ := M5.token
    have F6 := fr1 F5 htt
    show wpAny _ _ (execs (_ :: _) (envOf _ _ _ _ _)) _ _ _
    iterate 3 (walk_at "ks")
    subst a1
    have hn0 : nls [] = 0 := rfl
    exact leaveK_ F6 (nwt (nwt N5)) fun kF kN => hret tt h5 _ vs5 e5 ln5 uln5 (by omega) (by have := nls_nonneg l; omega) a3 kF kN
end Y11
end Mine
theorem Mine.off_LE : True := by w_top off; trivial
namespace Mine
section LE
open LCg
variable {w : World} {p : Program} {loose : List Str} {mean : ExcName → Option Value} {mg mb : Str → Option Value} {cd : Value} {g : Heap} {L fa r0 : Addr} {m : Str → Option Value} {nn : List (Addr × Obj)} {s : Shared} {st lo x dx pb : Addr} {t : LTok} {o9 : Obj} {pat : List Nat} {tp : Tok} {Q : Flow → Shared → Prop}
theorem count_nl (l : List Nat) : Txt.count (S l) (Str.ofString "\n") = ((l.count 10 : Nat) : Int) := by
  rw [show Str.ofString "\n" = S [10] by decide +kernel]
  refine (count_cnt (S l) 10).trans ?_
  show cnt 10 l = _
  induction l with
  | nil => rfl
  | cons c r ih =>
    rw [cnt_cons, ih, List.count_cons]
    by_cases h : c = 10
    · simp [h]; omega
    · have : (c == 10) = false := by simpa using h
      simp [this, h]
theorem pcount (l : List Nat) : l.count 10 ≤ l.length := List.count_le_length
theorem la_ret (B : Below callerA g [] g) (F : Fr g L s.heap m) (X : (hd.heap_1 w.params).In g) (T : Top p loose mean mg mb g) {ln : Int} {uln : Tok} {vs dv : Array Value} {e de : Nat} {due : List (List Nat)} {l : List Nat}
  (N : News g L s.heap (lexL w.params ln uln st pb x dx lo t vs e nn)) (h9 : (L + 1, o9) ∈ nn) (hd9 : o9.data = .cell (some (.ref x))) (hdue : m (Str.ofString "due") = some (.ref r0)) (hdrawn : m (Str.ofString "drawn") = some (.str (S pat) tp)) (hp : pat.length ≤ 64) (hres : (draws dv.size l).1 = due) (hok : OkS due) (hln2 : ln + nls l - nls (draws dv.size l).2 = 1 + (pat.count 10 : Nat)) (hQ : ∀ h tk vs1 e1 ln1 uln1, Fr g L h m → News g L h (lexL w.params ln1 uln1 st pb x dx lo t vs1 e1 nn) → Q (.ret (.bool true)) { s with heap := h, toks := tk }) (hr0 : (r0, listOf dv de) ∈ nn)
  (hst : StreamAt nn st lo) (O : LexO pb x dx lo nn) (hva : VA vs.toList (signs l)) (hl : l.length ≤ 1000) (h128 : ∀ c ∈ l, c < 128) (hln : 0 ≤ ln ∧ ln + nls l ≤ 100000) (hdv : VA dv.toList due) (hsz : dv.size ≤ 210) :
  wpAny (model Challenge.rw_ij0082_01.row.prog w) (callerA.deeper (laEnv L fa cd)) (exec laS3 (laEnv L fa cd)) Q (fun _ _ => False) s := by
  have F1 := fr1 F hdue
  with_unfolding_all show wpAny _ _ (exec (.Return (some _) _) (envX _ _ _ _ _ _)) _ _ _
  iterate 3 (walk_at "ks")
  refine ListComp_U (cl := [(Str.ofString "lexer", L + 1)]) F1 rfl (by decide) rfl (by decide) rfl ?_
  iterate 1 (walk_at "ks")
  have hlen := VA_len hdv
  have hpc := pcount pat
  have hun : (callerA.deeper (laEnv L fa cd)).units + 64 < cLine := (by decide +kernel : 4 + 3 + 64 < cLine)
  rw [Array.length_toList] at hlen
  have hh : ((callerA.deeper (laEnv L fa cd)).handled = none) := rfl
  refine CompSrc.ledger hh F1 N (.tail _ (.tail _ (.tail _ (.tail _ hr0)))) (by size_fits) fun gg => ?_
  refine rest_ind (σ := Int × Tok × Array Value × Nat × List Nat) (fun i ys z => VA ys (draws i l).1 ∧ z.2.2.2.2 = (draws i l).2 ∧ VA z.2.2.1.toList (signs z.2.2.2.2) ∧ 0 ≤ z.1 ∧ z.1 + nls z.2.2.2.2 = ln + nls l ∧ z.2.2.2.2.length ≤ 1000 ∧ ∀ c ∈ z.2.2.2.2, c < 128)
    (fun z => lexL w.params z.1 z.2.1 st pb x dx lo t z.2.2.1 z.2.2.2.1 nn) ?_ ?_ _ 0 [] (ln, uln, vs, e, l) (Nat.zero_add _) ⟨trivial, rfl, hva, hln.1, rfl, hl, h128⟩
  · rintro i ys ⟨ln1, uln1, vs1, e1, l1⟩ v I oI C oC D m₂ h tk E' hi ⟨a1, a2, a3, a4, a5, a6, a7⟩ hP hC hx F2 N2 off ne
    dsimp only at a2 a3 a4 a5 a6 a7 N2 off ⊢
    have h9' : (L + 1, o9) ∈ (I, oI) :: (C, oC) :: (D, lst ys) :: lexL w.params ln1 uln1 st pb x dx lo t vs1 e1 nn := .tail _ (.tail _ (.tail _ (.tail _ (.tail _ (.tail _ (.tail _ h9))))))
    iterate 5 (walk_at "ks")
    show wpAny _ (ktrTop (1 + claimMargin + 1) (4 + 3) (some []) (Str.ofString "law") laScope L fa cd [(Str.ofString "lexer", L + 1)] []) (call (.ref 66) [.ref x]) _ _ _
    have N3 : News g L h (lexL w.params ln1 uln1 st pb x dx lo t vs1 e1 ((I, oI) :: (C, oC) :: (D, lst ys) :: nn)) := nws N2 fun q hq => by
      simp only [List.mem_cons] at hq ⊢
      rcases hq with h | h | h | h | h | h | h | h <;> simp [h]
    have offm := off.mem
    have hdxo := offm (dx, lexD w.params ln1 uln1 st pb t) (.head _)
    have hloo := offm (lo, listOf vs1 e1) (.tail _ (.tail _ (.tail _ (.head _))))
    have O3 : LexO pb x dx lo ((I, oI) :: (C, oC) :: (D, lst ys) :: nn) := ⟨O.a, O.b, O.c, fun q hq => by
        rcases List.mem_cons.mp hq with rfl | hq
        · exact Ne.symm hdxo.1
        rcases List.mem_cons.mp hq with rfl | hq
        · exact Ne.symm hdxo.2.1
        rcases List.mem_cons.mp hq with rfl | hq
        · exact Ne.symm hdxo.2.2
        · exact O.d q hq, fun q hq => by
        rcases List.mem_cons.mp hq with rfl | hq
        · exact Ne.symm hloo.1
        rcases List.mem_cons.mp hq with rfl | hq
        · exact Ne.symm hloo.2.1
        rcases List.mem_cons.mp hq with rfl | hq
        · exact Ne.symm hloo.2.2
        · exact O.f q hq⟩
    refine tok_spec (T := (lexT l1).1) (R := (lexT l1).2) B F2 X N3 T rfl (hst.more fun q hq => .tail _ (.tail _ (.tail _ hq))) O3 a3 a6 a7 ⟨a4, by omega⟩ rfl (by decide +kernel) (by decide +kernel) fun u h' tk' vs' e' ln' uln' b1 b2 b3 F5 N5 => ?_
    have hsuf := lexT_suf l1
    have hds := draws_snoc i l
    rw [← a2] at hds
    refine ⟨h', tk', (ln', uln', vs', e', (lexT l1).2), rfl, F5, nws N5 fun q hq => ?_, Off3.of fun q hq => ?_, .inr ⟨_, .tail _ (.tail _ (.tail _ (.tail _ hr0))), rfl, _, rfl⟩, ?_, ?_, b3, b2, ?_, ?_, fun c hc => a7 c (hsuf.subset hc)⟩
    · simp only [List.mem_cons] at hq ⊢
      rcases hq with h | h | h | h | h | h | h | h <;> simp [h]
    · rcases List.mem_cons.mp hq with rfl | hq
      · exact hdxo
      rcases List.mem_cons.mp hq with rfl | hq
      · exact offm (x, instObj 76 dx) (.tail _ (.head _))
      rcases List.mem_cons.mp hq with rfl | hq
      · exact offm (pb, listOf #[] 0) (.tail _ (.tail _ (.head _)))
      rcases List.mem_cons.mp hq with rfl | hq
      · exact hloo
      · exact offm q (.tail _ (.tail _ (.tail _ (.tail _ hq))))
    · rw [hds]; exact VA_snoc a1
    · rw [hds]
    · show ln' + nls (lexT l1).2 = _; omega
    · exact Nat.le_trans hsuf.length_le a6
  · rintro ys ⟨ln1, uln1, vs1, e1, l1⟩ ⟨a1, a2, a3, a4, a5, a6, a7⟩ D h tk F2 N2 o1
    dsimp only at a2 a3 a4 a5 a6 a7 N2 ⊢
    (try dsimp only)
    iterate 1 (walk_at "ks")
    refine eq_strsK (isl N2 (.head _)) (by simpa using a1) (isl N2 (.tail _ (.tail _ (.tail _ (.tail _ (.tail _ hr0)))))) hdv (hres ▸ hok) hok hun ?_
    rw [decide_eq_true hres]
    have N3 : News g L h ((L + 1, o9) :: lexL w.params ln1 uln1 st pb x dx lo t vs1 e1 nn) := fun q hq => N2 q (.tail _ (by
      rcases List.mem_cons.mp hq with rfl | hq
      · exact .tail _ (.tail _ (.tail _ (.tail _ h9)))
      · exact hq))
    have F3 := fr1 F2 (show (if Str.ofString "drawn" = Str.ofString "due" then some (Value.ref r0) else m (Str.ofString "drawn")) = _ from (if_neg (by decide +kernel)).trans hdrawn)
    clear F2
    iterate 15 (walk_at "ks")
    (try dsimp only)
    iterate 2 (walk_at "ks")
    (try dsimp only)
    rw [count_nl]
    iterate 2 (walk_at "ks")
    (try dsimp only)
    have hb : (ln1 == 1 + ((pat.count 10 : Nat) : Int)) = true := by
      rw [beq_iff_eq]; rw [a2] at a5; omega
    rw [hb]
    refine hQ h _ vs1 e1 ln1 uln1 ?_ (nwt N2)
    have e2 := ov2 hdrawn hdue
    rw [e2] at F3
    exact F3
end LE
end Mine
theorem Mine.off_LW : True := by w_top off; trivial
namespace Mine
section LW0
open LCg
variable {w : World} {p : Program} {loose : List Str} {mean : ExcName → Option Value} {mg mb : Str → Option Value} {cd : Value} {g : Heap} {L fa a0 : Addr} {m : Str → Option Value} {s : Shared} {vs : List Value} {ns : List Int} {oC : Obj} {Q : Flow → Shared → Prop} {E : Value → Shared → Prop}
theorem body_eq : laBody = [laS0, laS1, laS2, laS3] := by kernel_rfl
theorem pat_facts (ns : List Int) : HypOK (patOf ns) ∧ (patOf ns).length ≤ 64 ∧ ∀ c ∈ patOf ns, c < 128 := by
  have hmem : ∀ q ∈ (ns.take 7).map (fun n => (pieceStr n).cps.toList), q ∈ pieces := fun q hq => by
    obtain ⟨n, _, rfl⟩ := List.mem_map.mp hq
    exact piece_mem n
  have e : patOf ns = ((ns.take 7).map fun n => (pieceStr n).cps.toList).flatten ++ tailL := by unfold patOf; rw [List.flatMap_def]
  refine ⟨?_, ?_, ?_⟩
  · rw [e]
    exact HypOK.pieces (fun v hv => absurd (List.mem_of_getElem? hv) (by decide)) _ hmem
  · have h1 := flat_len (ns.take 7)
    have h2 : (ns.take 7).length ≤ 7 := by rw [List.length_take]; omega
    unfold patOf
    rw [List.length_append]
    have h3 : tailL.length = 13 := rfl
    omega
  · intro c hc
    rw [e] at hc
    rcases List.mem_append.mp hc with hc | hc
    · obtain ⟨q, hq, hcq⟩ := List.mem_flatten.mp hc
      exact (piece_len (hmem q hq)).2 c hcq
    · have : ∀ c ∈ tailL, c < 128 := by decide
      exact this c hc
theorem law_body (B : Below callerA g [] g) (F : Fr g L s.heap m) (X : (hd.heap_1 w.params).In g) (N : News g L s.heap [(L + 1, oC), (106, tabObj #[]), (99, tabObj #[])]) (T : Top p loose mean mg mb g) (C1 : CodeHd g 110 106) (C2 : CodeHd g 103 99) (G : AllBare s.gens)
  (hoC : oC.data = .cell none) (l0 : @LT.lt Nat _ 106 L ∧ @LT.lt Nat _ 99 L) (hL : g.IsList a0 vs.toArray) (hI : IntsAre vs ns) (hn : ns.length ≤ 63) (hm : m (Str.ofString "script") = some (.ref a0))
  (hQ : ∀ s' ps ps2, (∀ b o, g.get? b = some o → s'.heap.get? b = some o) → s'.heap.get? 106 = some (tabObj ps2) → s'.heap.get? 99 = some (tabObj ps) → AllBare s'.gens → s'.os = s.os → Q (.ret (.bool true)) s') :
  wpAny (model Challenge.rw_ij0082_01.row.prog w) (callerA.deeper (laEnv L fa cd)) (execs laBody (laEnv L fa cd)) Q E s := by
  refine wpAny_mono (E := fun _ _ => False) ?_ (fun _ _ h => h) fun _ _ h => h.elim
  obtain ⟨H1, H2, H3⟩ := pat_facts ns
  rw [body_eq]
  refine seqVn (n0 := 0) (Nat.zero_le _) F N _ _ (la_drawn B F X N T hL hI hn hm) ?_
  rintro _ h1 tk1 _ ⟨tp, rfl⟩ F1 N1
  generalize patOf ns = pat at H1 H2 H3 F1 ⊢
  rw [execs_cons]
  refine wpAny_bind (la_due B F1 X N1 T (if_pos rfl) H2 H3 fun r0 dv de items words h2 tk2 d1 d2 d3 d4 d5 F2 N2 => ?_)
  have hdr : (fun y => if y = Str.ofString "due" then some (Value.ref r0) else if y = Str.ofString "drawn" then some (Value.str (S pat) tp) else m y) (Str.ofString "drawn") = some (Value.str (S pat) tp) := (if_neg (by decide +kernel)).trans (if_pos rfl)
  have N2' : News g L h2 ((L + 1, oC) :: (106, tabObj #[]) :: (99, tabObj #[]) :: [(r0, listOf dv de)]) := nws N2 fun q hq => by
    simp only [List.mem_cons, List.not_mem_nil, or_false] at hq ⊢
    rcases hq with h | h | h | h <;> simp [h]
  have hr0 : @LT.lt Nat _ (L + 1) r0 := d5 (L + 1, oC) (.head _)
  (try dsimp only)
  rw [execs_cons]
  refine wpAny_bind (la_lexer (s := { s with heap := h2, toks := tk2 }) B F2 X N2' T C1 C2 G hoC l0 (fun q hq => by cases List.mem_singleton.mp hq; exact hr0) hdr H2 H3 H1 (fun out ho => ho.sizes H2) ?_)
  intro s' x dx pb lo st out lvs le stat ps ps2 o9 lu lt e1 e2 e3 e4 e5 e6 e7 e8 F3 N3 G3 os3
  (try dsimp only)
  have hl := (e1.sizes H2).2
  obtain ⟨hcnt, hch⟩ := law_text H3 e1 d1
  have hdraw := law_words e1 d1 d2
  have hdl := VA_len d3
  rw [Array.length_toList, List.length_append] at hdl
  have hdl2 : dv.size = words.length + 2 := hdl
  have hnl : nls (joinSp out) = ((pat.count 10 : Nat) : Int) := by unfold nls; rw [hcnt]
  have hpc := pcount pat
  have m9 : (L + 1, o9) ∈ (L + 1, o9) :: (stat ++ (106, tabObj ps2) :: (99, tabObj ps) :: [(r0, listOf dv de)]) := .head _
  have mst : ∀ q ∈ stat, q ∈ (L + 1, o9) :: (stat ++ (106, tabObj ps2) :: (99, tabObj ps) :: [(r0, listOf dv de)]) := fun q hq => .tail _ (List.mem_append_left _ hq)
  have m106 : (106, tabObj ps2) ∈ (L + 1, o9) :: (stat ++ (106, tabObj ps2) :: (99, tabObj ps) :: [(r0, listOf dv de)]) := .tail _ (List.mem_append_right _ (.head _))
  have m99 : (99, tabObj ps) ∈ (L + 1, o9) :: (stat ++ (106, tabObj ps2) :: (99, tabObj ps) :: [(r0, listOf dv de)]) := .tail _ (List.mem_append_right _ (.tail _ (.head _)))
  have mr0 : (r0, listOf dv de) ∈ (L + 1, o9) :: (stat ++ (106, tabObj ps2) :: (99, tabObj ps) :: [(r0, listOf dv de)]) := .tail _ (List.mem_append_right _ (.tail _ (.tail _ (.head _))))
  have N4 : News g L s'.heap (lexL w.params 1 lu st pb x dx lo lt lvs le ((L + 1, o9) :: (stat ++ (106, tabObj ps2) :: (99, tabObj ps) :: [(r0, listOf dv de)]))) := nws N3 fun q hq => by
    rcases List.mem_cons.mp hq with rfl | hq
    · exact .tail _ (.tail _ (.tail _ (.head _)))
    rcases List.mem_cons.mp hq with rfl | hq
    · exact .tail _ (.tail _ (.head _))
    rcases List.mem_cons.mp hq with rfl | hq
    · exact .tail _ (.head _)
    rcases List.mem_cons.mp hq with rfl | hq
    · exact .tail _ (.tail _ (.tail _ (.tail _ (.head _))))
    rcases List.mem_cons.mp hq with rfl | hq
    · exact .head _
    · exact .tail _ (.tail _ (.tail _ (.tail _ (.tail _ hq))))
  have O : LexO pb x dx lo ((L + 1, o9) :: (stat ++ (106, tabObj ps2) :: (99, tabObj ps) :: [(r0, listOf dv de)])) := ⟨e4, e5, e6, fun q hq => (e7 q hq).1, fun q hq => (e7 q hq).2.1⟩
  generalize ((L + 1, o9) :: (stat ++ (106, tabObj ps2) :: (99, tabObj ps) :: [(r0, listOf dv de)])) = nn at m9 mst m106 m99 mr0 N4 O
  refine wpAny_execs_cons ?_
  refine la_ret (due := words ++ [[], []]) (l := joinSp out) B F3 X T N4 m9 e8 (if_pos rfl) hdr H2 (by rw [hdl2, hdraw]) (ok128 fun t ht c hc => ?_) (by rw [hdl2, hdraw]; show _ - nls [] = _; rw [hnl]; show (1 : Int) + _ - 0 = _; omega) (fun h tk vs1 le1 ln1 uln1 F9 N9 => ?_) mr0 (e3.more mst) O e2 hl hch ⟨by decide, by rw [hnl]; omega⟩ d3 d4
  · have := draws_mem (words.length + 2) (joinSp out) t (by rw [hdraw]; exact ht) c hc
    exact hch c this
  · refine hQ _ ps ps2 F9.keep ?_ ?_ G3 os3
    · exact (N9 _ (.tail _ (.tail _ (.tail _ (.tail _ m106))))).1
    · exact (N9 _ (.tail _ (.tail _ (.tail _ (.tail _ m99))))).1
end LW0
section LW
open LCg
theorem post_true (a : List WData) : PySem.Challenge.rw_ij0082_01.row.claim.post a (.bool true) a = true := by
  show WTm.holds _ (.eq .res (.lit (.bool true))) _ = true
  simp [WTm.holds, WTm.value, PySem.W.same]
local macro_rules | `(tactic| kn_posts) => `(tactic| refine Mine.kn_postG (by assumption) (fun _ _ => rfl) Mine.post_true ?_)
theorem allBare_nil {g : Array GenState} (h : g = #[]) : AllBare g := by subst h; intro i hi; exact absurd hi (by simp)
theorem lawT : PySem.Challenge.rw_ij0082_01.Holds := by
  w_on
  refine holds_law (by kernel_rfl) fun said => ?_
  refine holds_open (q := hd.view_1) (loose := ["_twin_re_1", "_special_chars_map"]) (Xt := fun s => xlAt hd.view_1 [] s && recOk PySem.Challenge.rw_ij0082_01.row.records s) (XP := XL hd.view_1 []) (Yf := Hook.obs hook) (Ya := Hook.val hook) (YP := Hook.says hook) (N := 4046) left (Hook.of hook) (Hook.keeps hook) (fun s e => xl_of s (Bool.and_eq_true_iff.mp e).1) XL.keeps (by rfl) (by rfl) (by rfl) (fun s e => recFacts_of (Bool.and_eq_true_iff.mp e).2) (by rfl) (by first | assumption | decide +kernel) (by decide +kernel) ⟨rfl, rfl, rfl, rfl, rfl, by decide +kernel⟩ ?hw ?hc
  case hw => w_witness2
  clear said
  w_top off
  unfold hook
  k_go0
  (with_reducible rename Below _ _ _ _ => B9)
  (with_reducible rename Fr _ _ _ _ => F9)
  (with_reducible rename News _ _ _ _ => N9)
  (with_reducible rename Obj.data _ = Data.cell _ => oc9)
  (with_reducible rename Shared.gens _ = #[] => g9)
  (with_reducible rename IntsAre _ _ => I9)
  (with_reducible rename ¬ _ < _ => n9)
  (with_reducible rename _ ∧ _ => l9)
  (with_reducible rename Heap.IsList (ghostOf _ _) _ _ => L9)
  refine law_body B9 F9 (by assumption) N9 (by assumption) (by assumption) (by assumption) (allBare_nil g9) oc9 l9 L9 I9 (by omega) ?_ ?_
  · rfl
  · intro s' ps ps2 k1 k2 k3 k4 k5
    exact ⟨rfl, k1, k5, k4, ⟨⟨_, k2⟩, ⟨_, k3⟩, trivial⟩⟩
end LW
end Mine
theorem PySem.Challenge.cw_ij0082_01_holds : PySem.Challenge.rw_ij0082_01.Holds :=
  Mine.lawT
