import PyProof.Rows.All
import Wide.All
import OpenK.AllK
import Wide.FinOn
import PySem.Challenge.RW_sn0011_01
set_option Elab.async false
set_option maxRecDepth 100000
namespace Mine
-- HD
section
open PySem PySem.W PyProof.Rows
set_option maxRecDepth 100000 in
set_option maxHeartbeats 8000000 in
open_top hd for PySem.Challenge.rw_sn0011_01
end
-- BA
section
open PySem PySem.W PyProof.Rows
open PySem PySem.Spec PySem.Calls

/-- every object that stood stands -/
abbrev Ex (h h' : Heap) : Prop := ∀ b o, h.get? b = some o → h'.get? b = some o

/-- what the top left, and the limits -/
structure Bs (P : Params) (h : Heap) : Prop where
  K : (hd.heap_39 P).In h
  nolimit : h.NoLimit
  g : ∃ mg, h.Ns mainGlobals mg
  b : ∃ mb, h.Ns builtinsNs mb ∧ ∀ x : Str, x ≠ "__name__" → mb x = bootBuiltins x

theorem Bs.keeps {P : Params} {h h' : Heap} (B : Bs P h) (k : Ex h h') : Bs P h' :=
  ⟨B.K.keeps k, B.nolimit.keeps k, let ⟨mg, x⟩ := B.g; ⟨mg, x.keeps k⟩, let ⟨mb, x, y⟩ := B.b; ⟨mb, x.keeps k, y⟩⟩

section
variable {prog : Program} {w : World} {A : Around} {E : Value → Shared → Prop} {s : Shared}


theorem nm_glob {env : Env} {x : Str} {pos : Pos} {v : Value} {Q : Value → Shared → Prop} (B : Bs w.params s.heap)
    (h : Q v s) (e : nsIn (hd.heap_39 w.params) mainGlobals x = some (some v) := by rfl)
    (hk : env.scope.kind = .function := by rfl) (hx : env.kindOf x = some .globalImplicit := by rfl) (hg : env.globals = mainGlobals := by rfl) (hd : (x == ("__debug__" : Str)) = false := by decide) :
    wpAny (model prog w) A (eval (.Name x pos) env) Q E s := by
  obtain ⟨mg, G⟩ := B.g
  exact Name_function_global hk hx (loadGlobal_global (env := env) (show s.heap.Ns env.globals mg from hg ▸ G) (mg_of B.K G e) h) hd

theorem nm_blt {env : Env} {x : Str} {pos : Pos} {v : Value} {Q : Value → Shared → Prop} (B : Bs w.params s.heap)
    (e2 : bootBuiltins x = some v) (h : Q v s) (e : nsIn (hd.heap_39 w.params) mainGlobals x = some none := by rfl)
    (hn : x ≠ "__name__" := by decide)
    (hk : env.scope.kind = .function := by rfl) (hx : env.kindOf x = some .globalImplicit := by rfl) (hg : env.globals = mainGlobals := by rfl) (hb : env.builtins = builtinsNs := by rfl) (hd : (x == ("__debug__" : Str)) = false := by decide) :
    wpAny (model prog w) A (eval (.Name x pos) env) Q E s := by
  obtain ⟨mg, G⟩ := B.g
  obtain ⟨mb, Gb, hb'⟩ := B.b
  exact Name_function_global hk hx (loadGlobal_builtin (env := env) (show s.heap.Ns env.globals mg from hg ▸ G) (mg_none_of B.K G e) (show s.heap.Ns env.builtins mb from hb ▸ Gb) ((hb' x hn).trans e2) h) hd

theorem bt_len : bootBuiltins "len" = some (.builtin "len") := by decide +kernel
theorem bt_next : bootBuiltins "next" = some (.builtin "next") := by decide +kernel
theorem bt_iter : bootBuiltins "iter" = some (.builtin "iter") := by decide +kernel
theorem bt_sum : bootBuiltins "sum" = some (.builtin "sum") := by decide +kernel
theorem bt_abs : bootBuiltins "abs" = some (.builtin "abs") := by decide +kernel
theorem bt_chr : bootBuiltins "chr" = some (.builtin "chr") := by decide +kernel
theorem bt_ord : bootBuiltins "ord" = some (.builtin "ord") := by decide +kernel
theorem bt_range : bootBuiltins "range" = some (.type "range") := by decide +kernel
theorem bt_list : bootBuiltins "list" = some (.type "list") := by decide +kernel
theorem bt_enumerate : bootBuiltins "enumerate" = some (.type "enumerate") := by decide +kernel
theorem bt_ValueError : bootBuiltins "ValueError" = some (.type "ValueError") := by decide +kernel
theorem bt_StopIteration : bootBuiltins "StopIteration" = some (.type "StopIteration") := by decide +kernel

/-- the def that stands at f -/
def fdOf (K : Frag) (f : Addr) : FuncData := match K.lookup f with
  | some ⟨_, _, .func fd, _⟩ => fd
  | _ => default

/-- entering a def that stands in K, by place or by words -/
theorem enterK {K : Frag} {R : Result → Shared → Prop} {name qual : Str} {params : Arguments} {body : List Stmt} {scope : Scope} {dV kV doc pm cdv ct oc : Value} {an od : Option Addr} {osl : Array (Option Value)} {f : Addr} {args : Args} {binds : List (Str × Value)}
    (X : K.In s.heap) (hlim : s.heap.NoLimit)
    (ho : K.lookup f = some ⟨oc, od, .func (fnOf name qual params body scope dV kV doc pm an cdv ct), osl⟩) (hcd : codeIn K cdv qual = true) (hroom : A.depth < recursionLimit)
    (hbind : BindsTo s (fnOf name qual params body scope dV kV doc pm an cdv ct) args binds) (hloc : ∀ y ∈ binds, scope.names.lookup y.1 = some .local)
    (h : ∀ h₁ tk₁, Fr s.heap s.heap.objs.size h₁ (fun y => binds.reverse.lookup y) →
      wpAny (model prog w) (A.deeper (envOf qual scope s.heap.objs.size f cdv)) (execs body (envOf qual scope s.heap.objs.size f cdv))
        (fun f s' => R (.ok (.ret (match f with | .ret v => v | _ => .none))) s')
        (fun e s' => wpAny (model prog w) (A.deeper (envOf qual scope s.heap.objs.size f cdv)) (leaving (envOf qual scope s.heap.objs.size f cdv) e) (fun _ s'' => R (.error e) s'') (fun e' s'' => R (.error e') s'') s')
        { s with heap := h₁, toks := tk₁ })
    (hco : scope.isCoroutine = false) (hgen : scope.isGenerator = false) (hk : scope.kind = .function)
    (hcell : ∀ x ∈ scope.names, x.2 ≠ .cell) : codeAny (model prog w) A (.call (.ref f) args) R s :=
  codeAny_call_def (fd := fnOf name qual params body scope dV kV doc pm an cdv ct) (body := body) (binds := binds) hroom (X _ _ ho) rfl hlim (codeRec_of X hcd) rfl hbind hcell hloc
    (fun h₁ hns hk₁ => h _ _ ⟨hns, hk₁, Nat.le_refl _⟩) hco hgen hk

theorem Fr.ext {h₀ h h' : Heap} {L : Addr} {m : Str → Option Value} (F : Fr h₀ L h m) (k : Ex h h') : Fr h₀ L h' m := ⟨F.ns.keeps k, fun b o e => k b o (F.keep b o e), F.above⟩
theorem st2 {h₀ : Heap} {L a : Addr} {cd : Value} {name : Str} {scope : Scope} {m : Str → Option Value} {x : Str} {v : Value} {Q : Unit → Shared → Prop} (F : Fr h₀ L s.heap m)
    (h : ∀ h', Fr h₀ L h' (fun y => if y = x then some v else m y) → Heap.SameBut L s.heap h' → Q () { s with heap := h', toks := s.toks + 1 })
    (hk : scope.kind = .function := by rfl) (hl : (envOf name scope L a cd).kindOf x = some .local := by rfl) :
    wpAny (model prog w) A (storeName (envOf name scope L a cd) x v) Q E s :=
  wpAny_storeName_local hl F.ns (fun h' hn hs => h h' (F.set hn hs) hs)
    (by show (scope.kind == .class || (scope.kind == .module && L != mainGlobals)) = false; rw [hk]; rfl)

theorem fr_ex {h₀ h : Heap} {L : Addr} {m : Str → Option Value} (F : Fr h₀ L h m) : Ex h₀ h := F.keep
theorem Call_Name3 {env : Env} {x : Str} {p pos : Pos} {e₁ e₂ e₃ : Expr} {Q : Value → Shared → Prop}
    (h : wpAny (model prog w) A (eval (.Name x p) env) (fun f s₁ => wpAny (model prog w) A (callWith pos f [] [(false, eval e₁ env), (false, eval e₂ env), (false, eval e₃ env)] []) Q E s₁) E s)
    (hs : starEach [e₁, e₂, e₃] env = [(false, eval e₁ env), (false, eval e₂ env), (false, eval e₃ env)] := by rfl) :
    wpAny (model prog w) A (eval (.Call (.Name x p) [e₁, e₂, e₃] [] pos) env) Q E s := Call_Name (by rw [hs]; rfl) h
theorem Call_Name4 {env : Env} {x : Str} {p pos : Pos} {e₁ e₂ e₃ e₄ : Expr} {Q : Value → Shared → Prop}
    (h : wpAny (model prog w) A (eval (.Name x p) env) (fun f s₁ => wpAny (model prog w) A (callWith pos f [] [(false, eval e₁ env), (false, eval e₂ env), (false, eval e₃ env), (false, eval e₄ env)] []) Q E s₁) E s)
    (hs : starEach [e₁, e₂, e₃, e₄] env = [(false, eval e₁ env), (false, eval e₂ env), (false, eval e₃ env), (false, eval e₄ env)] := by rfl) :
    wpAny (model prog w) A (eval (.Call (.Name x p) [e₁, e₂, e₃, e₄] [] pos) env) Q E s := Call_Name (by rw [hs]; rfl) h
end
section
variable {prog : Program} {w : World} {A : Around} {E : Value → Shared → Prop} {s : Shared}
theorem icTok {s₀ s : Shared} {L : Addr} {m : Str → Option Value} {t : Nat} (x : InCall s₀ L m s) : InCall s₀ L m { s with toks := t } := x.tok t
end
end
-- IT
section
open PySem PySem.W PyProof.Rows
open PySem PySem.Spec PySem.Calls
section
variable {prog : Program} {w : World} {A : Around} {E : Value → Shared → Prop} {s : Shared}

theorem iter_list {l : Addr} {items : Array Value} {Q : Value → Shared → Prop} (hl : s.heap.IsList l items)
    (h : ∀ h' I, s.heap.get? I = none → h'.IsListIter I l 0 → Ex s.heap h' → s.heap.objs.size ≤ h'.objs.size → Q (.ref I) { s with heap := h' }) :
    wpAny (model prog w) A (call (.builtin "iter") [.ref l]) Q E s := by
  refine call_function_entry (by decide +kernel) (by decide +kernel) kdk_entry_iter (kdk_args_iter _) ?_
  unfold Builtin.«iter»
  refine wpAny_bind (m := someArgs "iter" 1 2 _) (wpAny_of_eq (a := [Value.ref l]) (by first | rfl | kernel_rfl!) ?_)
  show wpAny _ _ (pyIter (.ref l) >>= _) _ _ _
  refine wpAny_bind (wpAny_pyIter_list hl ?_)
  refine wpAny_pure ⟨_, rfl, h _ _ ?_ ⟨_, Heap.get?_push_size _ rfl, rfl, rfl⟩ (fun b o e => Heap.get?_push_of_some _ e) (by rw [Heap.size_push]; exact Nat.le_succ _)⟩
  cases q : s.heap.get? s.heap.objs.size with
  | none => rfl
  | some o => exact absurd (Heap.lt_size q) (Nat.lt_irrefl _)

theorem next_special {it l : Addr} {i : Nat} {items : Array Value} {x : Value} {Q : Option Value → Shared → Prop} (hit : s.heap.IsListIter it l i)
    (hl : s.heap.IsList l items) (hx : items[i]? = some x)
    (hQ : ∀ h', h'.IsListIter it l (i + 1) → Heap.SameBut it s.heap h' → Q (some x) { s with heap := h' }) :
    wpAny (model prog w) A (callSpecial? (.ref it) (Str.ofString "__next__")) Q E s := by
  obtain ⟨o, ho, hc, hd⟩ := id hit
  obtain ⟨ol, hol, _, nl, hdl⟩ := hl
  refine wpAny_callSpecial?_slot (name := Str.ofString "__next__") hit.typeIs slot_listiter_next
    (wpAny_call_entry slot_listiter_next hit.typeIs entry_listiter_next ?_ (args_listiter_next _))
  show wpAny _ _ (field (.ref it) 0 >>= _) _ _ s
  refine wpAny_bind (wpAny_field ho hd (x := .ref l) rfl ?_)
  show wpAny _ _ (if (Value.ref l == Value.none) = true then _ else _) _ _ s
  rw [if_neg (show ¬ ((Value.ref l == Value.none) = true) from Bool.false_ne_true)]
  show wpAny _ _ (field (.ref it) 1 >>= _) _ _ s
  refine wpAny_bind (wpAny_field ho hd (x := .int i 0) rfl ?_)
  show wpAny _ _ (seqItems? (.ref l) >>= _) _ _ s
  refine wpAny_bind (wpAny_seqItems hol hdl ?_)
  simp only [Int.toNat_natCast, hx]
  refine wpAny_bind (wpAny_setField ho hd (by simp) (wpAny_pure ⟨x, rfl, (hQ _ ?_ (Heap.SameBut.update ..))⟩))
  exact ⟨_, Heap.get?_update_self _ ho (Obj.isFreed_of_fields (Obj.data_mapFields hd _)), (Obj.cls_mapFields ..).trans hc, by
    rw [Obj.data_mapFields hd]; simp [rawInt]⟩

theorem next_special_end {it l : Addr} {i : Nat} {items : Array Value} {Q : Option Value → Shared → Prop} (hh : A.handled = none) (hit : s.heap.IsListIter it l i)
    (hl : s.heap.IsList l items) (hx : items[i]? = none)
    (hE : ∀ h₁ h' e, Heap.SameBut it s.heap h₁ → Heap.NewExc h₁ h' e "StopIteration" → E (.ref e) { s with heap := h' }) :
    wpAny (model prog w) A (callSpecial? (.ref it) (Str.ofString "__next__")) Q E s := by
  obtain ⟨o, ho, hc, hd⟩ := id hit
  obtain ⟨ol, hol, _, nl, hdl⟩ := hl
  refine wpAny_callSpecial?_slot (name := Str.ofString "__next__") hit.typeIs slot_listiter_next
    (wpAny_call_entry slot_listiter_next hit.typeIs entry_listiter_next ?_ (args_listiter_next _))
  show wpAny _ _ (field (.ref it) 0 >>= _) _ _ s
  refine wpAny_bind (wpAny_field ho hd (x := .ref l) rfl ?_)
  show wpAny _ _ (if (Value.ref l == Value.none) = true then _ else _) _ _ s
  rw [if_neg (show ¬ ((Value.ref l == Value.none) = true) from Bool.false_ne_true)]
  show wpAny _ _ (field (.ref it) 1 >>= _) _ _ s
  refine wpAny_bind (wpAny_field ho hd (x := .int i 0) rfl ?_)
  show wpAny _ _ (seqItems? (.ref l) >>= _) _ _ s
  refine wpAny_bind (wpAny_seqItems hol hdl ?_)
  simp only [Int.toNat_natCast, hx]
  refine wpAny_bind (wpAny_rule (wpAny_bind (wpAny_setField ho hd (by simp) ?_)))
  show wpAny _ _ (newExc (.type "StopIteration") [] >>= _) _ _ _
  refine wpAny_bind ?_
  simp only [newExc, newTuple]
  refine wpAny_bind (wpAny_newObj_type ?_ (by size_fits))
  refine wpAny_bind (m := firstArgMember _ _) (wpAny_of_eq (a := Value.none) (by first | rfl | (simp only [firstArgMember]; rfl)) ?_)
  refine wpAny_newObj_type ?_ (by size_fits)
  simp only [raiseNew]
  refine wpAny_bind (wpAny_handled ?_)
  rw [show A.in1.handled = none from hh]
  refine wpAny_bind (wpAny_pure (wpAny_throw ?_))
  refine hE _ _ _ (Heap.SameBut.update ..) ⟨fun b o e => Heap.get?_push_of_some _ (Heap.get?_push_of_some _ e), ?_, ⟨_, _, Heap.get?_push_size _ rfl, rfl, rfl⟩⟩
  cases q : (s.heap.update it (Obj.mapFields fun x => x.setIfInBounds 0 Value.none)).get? ((s.heap.update it (Obj.mapFields fun x => x.setIfInBounds 0 Value.none)).push { cls := .type "tuple", dict := none, data := .seq ([] : List Value).toArray }).objs.size with
  | none => rfl
  | some o' => exact absurd (Heap.lt_size q) (Nat.not_lt.mpr (by rw [Heap.size_push]; exact Nat.le_succ _))

theorem next_item {it l : Addr} {i : Nat} {items : Array Value} {x : Value} {Q : Value → Shared → Prop} (hit : s.heap.IsListIter it l i)
    (hl : s.heap.IsList l items) (hx : items[i]? = some x)
    (hQ : ∀ h', h'.IsListIter it l (i + 1) → Heap.SameBut it s.heap h' → Q x { s with heap := h' }) :
    wpAny (model prog w) A (call (.builtin "next") [.ref it]) Q E s := by
  refine call_function_entry (by decide +kernel) (by decide +kernel) kdk_entry_next (kdk_args_next _) ?_
  unfold Builtin.«next»
  refine wpAny_bind (m := someArgs "next" 1 2 _) (wpAny_of_eq (a := [Value.ref it]) (by first | rfl | kernel_rfl!) ?_)
  dsimp only
  refine wpAny_bind (wpAny_specialOf (name := Str.ofString "__next__") hit.typeIs slot_listiter_next.lookup ?_)
  refine wpAny_ite_split (fun hab => absurd hab (by decide)) (fun _ => ?_)
  refine wpAny_bind (next_special hit hl hx fun h' hit' hs => ?_)
  exact wpAny_pure ⟨_, rfl, hQ h' hit' hs⟩

theorem next_end {it l : Addr} {i : Nat} {items : Array Value} {Q : Value → Shared → Prop} (hh : A.handled = none) (hit : s.heap.IsListIter it l i)
    (hl : s.heap.IsList l items) (hx : items[i]? = none)
    (hE : ∀ h₁ h' e, Heap.SameBut it s.heap h₁ → Heap.NewExc h₁ h' e "StopIteration" → E (.ref e) { s with heap := h' }) :
    wpAny (model prog w) A (call (.builtin "next") [.ref it]) Q E s := by
  refine call_function_entry (by decide +kernel) (by decide +kernel) kdk_entry_next (kdk_args_next _) ?_
  unfold Builtin.«next»
  refine wpAny_bind (m := someArgs "next" 1 2 _) (wpAny_of_eq (a := [Value.ref it]) (by first | rfl | kernel_rfl!) ?_)
  dsimp only
  refine wpAny_bind (wpAny_specialOf (name := Str.ofString "__next__") hit.typeIs slot_listiter_next.lookup ?_)
  refine wpAny_ite_split (fun hab => absurd hab (by decide)) (fun _ => ?_)
  exact wpAny_bind (next_special_end hh hit hl hx hE)
end
end
-- BT
section
open PySem PySem.W PyProof.Rows
theorem and63 (b : Nat) (hb : b < 256) : Builtin.bitAnd (b : Int) 63 = ((b % 64 : Nat) : Int) := by
  have : ∀ b : Fin 256, Builtin.bitAnd ((b.val : Nat) : Int) 63 = ((b.val % 64 : Nat) : Int) := by decide +kernel
  exact this ⟨b, hb⟩
theorem and64 (b : Nat) (hb : b < 256) : Builtin.bitAnd (b : Int) 64 = ((b / 64 % 2 * 64 : Nat) : Int) := by
  have : ∀ b : Fin 256, Builtin.bitAnd ((b.val : Nat) : Int) 64 = ((b.val / 64 % 2 * 64 : Nat) : Int) := by decide +kernel
  exact this ⟨b, hb⟩
theorem or_low (v d : Nat) (hd : d < 64) : Builtin.bitOr ((v * 64 : Nat) : Int) (d : Int) = ((v * 64 + d : Nat) : Int) := by
  have h : v * 64 ||| d = v * 64 + d := by
    have := Nat.two_pow_add_eq_or_of_lt (i := 6) (b := d) (by simpa using hd) v
    rw [show 2 ^ 6 * v = v * 64 by rw [Nat.mul_comm]] at this
    exact this.symm
  rw [← h]
  unfold Builtin.bitOr Builtin.bitAnd
  have e1 : decide (0 ≤ Builtin.bitNot ((v * 64 : Nat) : Int)) = false := decide_eq_false (by unfold Builtin.bitNot; omega)
  have e2 : decide (0 ≤ Builtin.bitNot ((d : Nat) : Int)) = false := decide_eq_false (by unfold Builtin.bitNot; omega)
  rw [e1, e2]
  have f : ∀ x : Int, Builtin.bitNot (Builtin.bitNot x) = x := fun x => by unfold Builtin.bitNot; omega
  dsimp only
  rw [f, f, f, Int.toNat_natCast, Int.toNat_natCast]
end
-- LI
section
open PySem PySem.W PyProof.Rows
open PySem PySem.Spec PySem.Calls

/-- D is new -/
structure Nw (h h' : Heap) (D : Addr) : Prop where
  fresh : h.get? D = none
  ex : Ex h h'
  sz : h.objs.size ≤ h'.objs.size
theorem fresh_size (h : Heap) : h.get? h.objs.size = none := by
  cases q : h.get? h.objs.size with
  | none => rfl
  | some o => exact absurd (Heap.lt_size q) (Nat.lt_irrefl _)
theorem Nw.push (h : Heap) (o : Obj) : Nw h (h.push o) h.objs.size :=
  ⟨fresh_size h, fun _ _ e => Heap.get?_push_of_some _ e, by rw [Heap.size_push]; exact Nat.le_succ _⟩
theorem pl_keep {h h' : Heap} {a : Addr} {its : Array Value} (x : h.PlainList a its) (k : Ex h h') : h'.PlainList a its := x.at fun o e => k _ _ e
theorem il_keep {h h' : Heap} {a : Addr} {its : Array Value} (x : h.IsList a its) (k : Ex h h') : h'.IsList a its := x.at fun o e => k _ _ e
theorem pl_but {h h' : Heap} {a b : Addr} {its : Array Value} (x : h.PlainList a its) (hs : Heap.SameBut b h h') (hab : a ≠ b) : h'.PlainList a its := x.at fun o e => hs.extBut a o hab e

section
variable {prog : Program} {w : World} {A : Around} {E : Value → Shared → Prop} {s : Shared}

theorem new_list {vs : List Value} {Q : Value → Shared → Prop} (hsz : vs.length ≤ 1000)
    (h : ∀ h' D, Nw s.heap h' D → h'.PlainList D vs.toArray → Q (.ref D) { s with heap := h' }) :
    wpAny (model prog w) A (newList vs) Q E s := by
  have hl : sizeLine = 16777216 := by decide
  exact wpAny_newObj_type (h _ _ (Nw.push _ _) ⟨0, Heap.get?_push_size _ rfl⟩) (by show vs.toArray.size ≤ sizeLine; rw [List.size_toArray, hl]; omega)

theorem add_lists {l b : Addr} {us vs : List Value} {Q : Value → Shared → Prop} (hl : s.heap.PlainList l us.toArray) (hb : s.heap.PlainList b vs.toArray) (hsz : us.length + vs.length ≤ 1000)
    (h : ∀ h' D, Nw s.heap h' D → h'.PlainList D (us ++ vs).toArray → Q (.ref D) { s with heap := h' }) :
    wpAny (model prog w) A (binaryOp .Add (.ref l) (.ref b)) Q E s := by
  obtain ⟨n, hl⟩ := hl
  obtain ⟨k, hb⟩ := hb
  have hL : sizeLine = 16777216 := by decide
  refine P.add_list hl hb (h _ _ (Nw.push _ _) ⟨0, ?_⟩) (by rw [List.size_toArray, List.size_toArray, hL]; omega)
  rw [← List.append_toArray]; exact Heap.get?_push_size _ rfl

theorem foldl_app {α : Type} (l : List α) : ∀ (n : Nat) (acc : Array α), List.foldl (fun x1 x2 => x1 ++ x2) acc (List.replicate n l.toArray) = acc ++ (List.replicate n l).flatten.toArray
  | 0, acc => by simp
  | n + 1, acc => by
    rw [List.replicate_succ, List.replicate_succ, List.foldl_cons, foldl_app l n, List.flatten_cons, ← List.append_toArray, Array.append_assoc]

theorem mul_listsI {l : Addr} {us : List Value} {x : Int} {u : Tok} {Q : Value → Shared → Prop} (hl : s.heap.PlainList l us.toArray) (hx : 0 ≤ x) (hx2 : x ≤ 1000) (hsz : us.length ≤ 1000)
    (h : ∀ h' D, Nw s.heap h' D → h'.PlainList D (List.replicate x.toNat us).flatten.toArray → Q (.ref D) { s with heap := h' }) :
    wpAny (model prog w) A (binaryOp .Mult (.ref l) (.int x u)) Q E s := by
  obtain ⟨k, hl⟩ := hl
  have hz : us.toArray.size * x.toNat ≤ 1000000 := by
    have := Nat.mul_le_mul hsz (show x.toNat ≤ 1000 by omega)
    rw [List.size_toArray]; omega
  have hfi : ¬(!Builtin.List.listFitsIndex x) = true := by unfold Builtin.List.listFitsIndex; rw [decide_eq_true (show -(2 ^ 63 : Int) ≤ x by omega), decide_eq_true (show x < 2 ^ 63 by omega)]; decide
  have hS : sizeLine = 16777216 := by decide
  have hf : List.foldl (fun x1 x2 => x1 ++ x2) #[] (List.replicate (if us.toArray.isEmpty = true then 0 else x.toNat) us.toArray) = (List.replicate x.toNat us).flatten.toArray := by
    rw [foldl_app, Array.empty_append]
    cases us with
    | nil => simp
    | cons a r => simp
  refine wpAny_binaryOp_repeat_ref (T := "list") (U := "int") (by decide) ⟨_, hl, rfl⟩ (fun s' => typeIs_int s' x u) noFill_list_mul F.fills_int_mul F.slot_int_rmul repeat_list F.slot_int_index.lookup
    (call_meets F.slot_int_rmul (typeIs_int s x u) F.entry_int_rmul (F.args_int_rmul_2 _ _) (int___rmul___int_list x u l us.toArray k)
      ⟨hl, rfl, ⟨_, hl, rfl⟩, call_meets F.slot_list_mul ⟨_, hl, rfl⟩ F.entry_list_mul (F.args_list_mul_2 _ _)
        (AutoListH.list___mul___list_int_3 l us.toArray k x u hfi (by omega) (by unfold Builtin.List.listTooLong; rw [decide_eq_true_eq, hS]; omega))
        ⟨hl, h _ _ (Nw.push _ _) ⟨0, ?_⟩⟩⟩)
  rw [hf]; exact Heap.get?_push_size _ rfl

theorem insert0 {l : Addr} {us : List Value} {u : Tok} {y : Value} {Q : Value → Shared → Prop} (hl : s.heap.PlainList l us.toArray) (hsz : us.length ≤ 1000)
    (h : ∀ h', h'.PlainList l (y :: us).toArray → Heap.SameBut l s.heap h' → Q .none { s with heap := h' }) :
    wpAny (model prog w) A (call (.builtin "list.insert") [.ref l, .int 0 u, y]) Q E s := by
  obtain ⟨n, hl⟩ := hl
  have hL : sizeLine = 16777216 := by decide
  obtain ⟨n', e⟩ : ∃ n', Obj.mapSeq (fun xs : Array Value => have k := if (0 : Int) < 0 then ((0 : Int) + ((xs.size : Nat) : Int)).toNat else min (0 : Int).toNat xs.size; (xs.extract 0 k).push y ++ xs.extract k) { cls := .type "list", dict := none, data := .seq us.toArray n, slots := #[] } = { cls := .type "list", data := .seq (y :: us).toArray n' } := by
    have e2 : (fun xs : Array Value => have k := if (0 : Int) < 0 then ((0 : Int) + ((xs.size : Nat) : Int)).toNat else min (0 : Int).toNat xs.size; (xs.extract 0 k).push y ++ xs.extract k) us.toArray = (y :: us).toArray := by simp
    refine ⟨if (y :: us).toArray.size == us.toArray.size then n else n + 1, ?_⟩
    rw [← e2]
    rfl
  refine call_meets F.slot_list_insert ⟨_, hl, rfl⟩ F.entry_list_insert (F.args_list_insert_3 _ _ _)
    (AutoListH.list_insert_list_int_val_1 l us.toArray n 0 u y (by decide) (by rw [List.size_toArray, hL]; omega)) ⟨hl, h _ ⟨n', ?_⟩ (Heap.SameBut.update ..)⟩
  rw [Heap.get?_update_self _ hl (by rw [e]; rfl), e]

theorem cw_m1 {env : Env} {id : String} {ov : Value} {pos : Pos} {e₁ : Expr} {Q : Value → Shared → Prop}
    (h : wpAny (model prog w) A (spliced [(false, eval e₁ env)]) (fun vs s₁ => wpAny (model prog w) A (call (.builtin id) (ov :: vs)) Q E s₁) E s)
    (hs : starEach [e₁] env = [(false, eval e₁ env)] := by rfl) :
    wpAny (model prog w) A (callWith pos (.builtin id) [ov] (backTo pos (starEach [e₁] env)) []) Q E s := by
  rw [hs]; exact Calls.callWith_builtin rfl (Calls.evalArgs_plain h)
theorem cw_m2 {env : Env} {id : String} {ov : Value} {pos : Pos} {e₁ e₂ : Expr} {Q : Value → Shared → Prop}
    (h : wpAny (model prog w) A (spliced [(false, eval e₁ env), (false, eval e₂ env)]) (fun vs s₁ => wpAny (model prog w) A (call (.builtin id) (ov :: vs)) Q E s₁) E s)
    (hs : starEach [e₁, e₂] env = [(false, eval e₁ env), (false, eval e₂ env)] := by rfl) :
    wpAny (model prog w) A (callWith pos (.builtin id) [ov] (backTo pos (starEach [e₁, e₂] env)) []) Q E s := by
  rw [hs]; exact Calls.callWith_builtin rfl (Calls.evalArgs_plain h)
theorem pl_dict {h : Heap} {a : Addr} {its : Array Value} (x : h.PlainList a its) : ∀ b, Value.ref a = .ref b → ∃ ob, h.get? b = some ob ∧ ob.dict = none := by
  intro b e; cases e; obtain ⟨n, e⟩ := x; exact ⟨_, e, rfl⟩
theorem cw_fnB {pos : Pos} {f : Addr} {args : List (Bool × Sem Value)} {x : Sem Value} {Q : Value → Shared → Prop} {g : Heap} (B : Bs w.params g)
    (h : wpAny (model prog w) A (spliced ((false, x) :: args)) (fun vs s₁ => Ex g s₁.heap ∧ wpAny (model prog w) A (call (.ref f) vs) Q E s₁) E s)
    (hK : ∃ o fd, (hd.heap_39 w.params).lookup f = some o ∧ o.data = .func fd := by exact ⟨_, _, rfl, rfl⟩) :
    wpAny (model prog w) A (callWith pos (.ref f) [] ((false, x) :: args) []) Q E s := by
  obtain ⟨o, fd, ho, hd⟩ := hK
  exact Calls.callWith_function (o := o) (fd := fd) (Calls.evalArgs_plain (wpAny_mono h (fun _ _ h₁ => ⟨⟨h₁.1 _ _ (B.K _ _ ho), hd⟩, h₁.2⟩) fun _ _ e => e))

end
end
-- CT
section
open PySem PySem.W PyProof.Rows PyProof.V
open PySem PySem.Spec PySem.Calls
theorem exc_stop : isSubtype (.type "StopIteration") (.type "BaseException") = pure true := by rw [isSubtype_type]; kernel_rfl
theorem nt_stop : isSubtype (.type ((Manifest.find? "StopIteration").elim "type" fun x => x.metatype)) (.type "tuple") = pure false := by
  rw [show ((Manifest.find? "StopIteration").elim "type" fun x => x.metatype) = "type" from by kernel_rfl, isSubtype_type]; kernel_rfl
theorem exc_value : isSubtype (.type "ValueError") (.type "BaseException") = pure true := by rw [isSubtype_type]; kernel_rfl
theorem nt_value : isSubtype (.type ((Manifest.find? "ValueError").elim "type" fun x => x.metatype)) (.type "tuple") = pure false := by
  rw [show ((Manifest.find? "ValueError").elim "type" fun x => x.metatype) = "type" from by kernel_rfl, isSubtype_type]; kernel_rfl
theorem sub_value : isSubtype (.type "ValueError") (.type "ValueError") = pure true := by rw [isSubtype_type]; kernel_rfl

section
variable {prog : Program} {w : World} {A : Around} {E : Value → Shared → Prop} {s' : Shared} {base h : Heap} {outer : List Env} {L a e : Addr} {name : Str} {scope : Scope} {cd : Value}
  {b₀ : Stmt} {suite : List Stmt} {pos np : Pos} {rest : List ExceptHandler} {Q : Flow → Shared → Prop} {news : List (Addr × Obj)} {x : Str} {X T' : String}
theorem caughtL (hfr : A.frames = some (envOf name scope L a cd :: outer)) (hsm : h.UpToSlots s'.heap) (R : RaisedN base (envOf name scope L a cd :: outer) e (.type X) news s'.heap)
    (B : Bs w.params base) (hv : bootBuiltins x = some (.type T'))
    (hexc : isSubtype (.type T') (.type "BaseException") = pure true) (hnt : isSubtype (.type ((Manifest.find? T').elim "type" fun y => y.metatype)) (.type "tuple") = pure false) (hsub : isSubtype (.type X) (.type T') = pure true)
    (k : ∀ h', base.StaysIn h' → h.UpToSlots h' →
      wpAny (model prog w) (A.mark (some (.ref e))) (execs (b₀ :: suite) (envOf name scope L a cd)) Q (fun _ _ => False) { s' with heap := h' })
    (hnl : nsIn (hd.heap_39 w.params) mainGlobals x = some none := by rfl) (hn : x ≠ "__name__" := by decide +kernel)
    (hk : scope.kind = .function := by rfl) (hx : (envOf name scope L a cd).kindOf x = some .globalImplicit := by rfl) (hd : (x == ("__debug__" : Str)) = false := by decide) :
    wpAny (model prog w) A (noteFrame (.ref e) (envOf name scope L a cd))
      (fun _ s₂ => wpAny (model prog w) A (setFlight (.ref e) none) (fun _ s₃ =>
        wpAny (model prog w) A (handleBy (.ref e) (envOf name scope L a cd) (.ExceptHandler (some (.Name x np)) none (b₀ :: suite) pos :: rest)) Q (fun _ _ => False) s₃) (fun _ _ => False) s₂) (fun _ _ => False) s' := by
  obtain ⟨B', a0, hB, hl, hfl⟩ := R
  refine wpAny_looks_onW hfr rfl hfl fun h₄ hheld₄ hsm₄ => ?_
  refine wpAny_landsW hheld₄ fun h₅ hheld hsm₅' => ?_
  have hsm₅ := hsm₄.trans hsm₅'
  have hheld' := flyingW_base hB hheld
  obtain ⟨ob, hob, hobc⟩ := hheld'.there
  refine wpAny_handleBy_builtin (X := X) (T := T') (b := true) hexc hnt hsub (nm_blt (B.keeps hheld'.1) hv ⟨rfl, ⟨ob, hob, hobc⟩, ?_⟩ hnl hn hk hx rfl rfl hd)
  refine lands_againW hheld fun h₆ hfl₆ hsm₆ => ?_
  exact wpAny_passesOwnAt PassesOwnAt.never (k h₆ (flyingW_base hB hfl₆).1 ((hsm.trans hsm₅).trans hsm₆))
end
abbrev frs (l : List Env) : List Addr := l.filterMap (·.frame)
abbrev noHeap : Heap := { objs := #[] }
theorem noHeap_get (a : Addr) : noHeap.get? a = none := by
  cases q : noHeap.get? a with
  | none => rfl
  | some o => exact absurd (Heap.lt_size q) (Nat.not_lt_zero _)
theorem below_of {A : Around} {outer : List Env} {h₀ h : Heap} {I L a : Addr} {name : Str} {scope : Scope} {cd : Value} {m : Str → Option Value} (hfr : A.frames = some outer) (hff : h₀.FunFrames noHeap outer) (F : Fr h₀ L h m)
    (hI : ∃ o vs, h.get? I = some o ∧ o.data = .fields vs) (hk : scope.kind = .function := by rfl) :
    Below (A.deeper (envOf name scope L a cd)) (hideAll (hideAll h [I]) (frs (envOf name scope L a cd :: outer))) (envOf name scope L a cd :: outer) (hideAll h [I]) := by
  have h1 : h.FunFrames noHeap (envOf name scope L a cd :: outer) :=
    Heap.FunFrames.cons (by show scope.kind ≠ .module; rw [hk]; decide) rfl F.ns (noHeap_get _) (hff.of_keeps fun b o e _ => ⟨o, F.keep _ _ e, rfl⟩)
  have h2 : (hideAll h [I]).FunFrames noHeap (envOf name scope L a cd :: outer) := h1.of_keeps fun b o e hn => ⟨o, hideAll_get _ e (by
    intro hm
    obtain ⟨oI, vs, q1, q2⟩ := hI
    rw [List.mem_singleton.mp hm, q1] at e
    cases e; exact hn _ q2), rfl⟩
  exact ⟨Around.frames_deeper hfr, fun b o e => of_hideAll _ e, funFrames_hide h2 fun env he b hb => List.mem_filterMap.mpr ⟨env, he, hb⟩⟩
theorem upTo_hide {h : Heap} {I : Addr} (hI : ∃ o vs, h.get? I = some o ∧ o.data = .fields vs) : h.UpToSlots (hideAll h [I]) := fun b o e hn =>
  ⟨o.slots, hideAll_get _ e (by
    intro hm
    obtain ⟨oI, vs, q1, q2⟩ := hI
    rw [List.mem_singleton.mp hm, q1] at e
    cases e; exact hn _ q2)⟩
theorem below_of2 {A : Around} {outer : List Env} {h₀ h : Heap} {L a : Addr} {name : Str} {scope : Scope} {cd : Value} {m : Str → Option Value} (hfr : A.frames = some outer) (hff : h₀.FunFrames noHeap outer) (F : Fr h₀ L h m)
    (hk : scope.kind = .function := by rfl) :
    Below (A.deeper (envOf name scope L a cd)) (hideAll h (frs (envOf name scope L a cd :: outer))) (envOf name scope L a cd :: outer) h := by
  have h1 : h.FunFrames noHeap (envOf name scope L a cd :: outer) :=
    Heap.FunFrames.cons (by show scope.kind ≠ .module; rw [hk]; decide) rfl F.ns (noHeap_get _) (hff.of_keeps fun b o e _ => ⟨o, F.keep _ _ e, rfl⟩)
  exact ⟨Around.frames_deeper hfr, fun b o e => of_hideAll _ e, funFrames_hide h1 fun env he b hb => List.mem_filterMap.mpr ⟨env, he, hb⟩⟩
theorem raisedN_of {base h : Heap} {l : List Env} {e t : Addr} {cls : Value} {vs : List Value} {news : List (Addr × Obj)} (x : RaisedK base l e cls t vs news h) : RaisedN base l e cls news h := by
  obtain ⟨⟨B, x1, x2, x3, _⟩, _⟩ := x
  exact ⟨B, _, x1, x2, x3⟩
theorem raise_one {prog : Program} {w : World} {A : Around} {E : Value → Shared → Prop} {s : Shared} {env : Env} {cls newId initId : String} (F : ExcCallFacts cls newId initId) (G : ExcRaiseFacts cls) {x : Str} {np cpos pos : Pos} {e₁ : Expr} {Q : Flow → Shared → Prop}
    (hh : A.handled = none)
    (h : wpAny (model prog w) A (eval (.Name x np) env) (fun f s₁ => f = .type cls ∧ wpAny (model prog w) A (eval e₁ env) (fun v s₂ => ∀ h' e, Heap.MadeExc s₂.heap h' e cls [v] → E (.ref e) { s₂ with heap := h' }) E s₁) E s)
    (hs : starEach [e₁] env = [(false, eval e₁ env)] := by rfl) :
    wpAny (model prog w) A (exec (.Raise (some (.Call (.Name x np) [e₁] [] cpos)) none pos) env) Q E s := by
  have hb : backTo cpos (starEach [e₁] env) = [(false, eval e₁ env)] := by rw [hs]; rfl
  refine wpAny_Raise_call F G hh (by rw [hb]; rfl) (wpAny_mono h (fun f s₁ h₁ => ⟨h₁.1, ?_⟩) fun _ _ e => e)
  rw [hb]
  refine Calls.evalArgs_plain (Calls.spliced_cons (wpAny_mono h₁.2 (fun v s₂ h₂ => Calls.spliced_nil ⟨rfl, ?_, h₂⟩) fun _ _ e => e))
  rw [show sizeLine = 16777216 by decide]; simp
end
-- RX
section
open PySem PySem.W PyProof.Rows
open PySem PySem.Spec PySem.Calls
open PySem.Sre

theorem plainAttrs_re : PlainAttrs "re.Pattern" :=
  ⟨⟨"object.__getattribute__", by rw [typeLookup_type, builtinLookup_eq_fast]; kernel_rfl, by decide +kernel⟩, by rw [typeLookup_type, builtinLookup_eq_fast]; kernel_rfl⟩
theorem slot_re_sub : Slot "re.Pattern" "sub" "re.Pattern.sub" :=
  .of (owner := "re.Pattern") (n := "sub") (by rw [typeLookup_type, builtinLookup_eq_fast]; kernel_rfl) (by decide +kernel) (by decide +kernel) (by decide +kernel)
    (by first | exact .inl (by decide +kernel) | exact .inr (by decide +kernel)) (by rw [isSubtype_type]; kernel_rfl)
theorem type_re_sub : typeOf (.builtin "re.Pattern.sub") = pure (.type "method_descriptor") := by show builtinType _ = _; rw [builtinType_eq_fast]; kernel_rfl
theorem entry_re_sub : entryFor table "re.Pattern.sub" = some Builtin.«re.Pattern.sub» := entryFor_of_tree (by kernel_rfl)
theorem entry_re_loop : entryFor table "re.Pattern.sub.loop" = some Builtin.«re.Pattern.sub.loop» := entryFor_of_tree (by kernel_rfl)
theorem args_re_sub (a b c : Value) : argsOk "re.Pattern.sub" ⟨[a, b, c], []⟩ := by
  unfold argsOk; kernel_rfl
end
-- RM
section
open PySem
open PySem.Sre

def C1 : Array Nat := #[14, 4, 0, 1, 1, 6, 1, 16, 46, 1]
def C2 : Array Nat := #[14, 9, 4, 1, 2, 16, 10, 16, 13, 0, 7, 7, 16, 13, 16, 10, 15, 18, 5, 16, 10, 15, 13, 11, 16, 13, 5, 5, 0, 16, 10, 1, 15, 2, 0, 1]

theorem runFor_done {m : M} (h : m.outcome.isSome = true) : ∀ k, M.runFor k m = m
  | 0 => by rw [M.runFor]
  | k + 1 => by rw [M.runFor, if_pos h]
theorem runFor_succ {m : M} (h : m.outcome.isSome = false) (k : Nat) : M.runFor (k + 1) m = M.runFor k m.step := by
  rw [M.runFor, if_neg (by rw [h]; exact Bool.false_ne_true)]
theorem runFor_add : ∀ (a b : Nat) (m : M), M.runFor (a + b) m = M.runFor b (M.runFor a m)
  | 0, b, m => by rw [Nat.zero_add, M.runFor]
  | a + 1, b, m => by
    cases h : m.outcome.isSome with
    | true => rw [runFor_done h, runFor_done h, runFor_done h]
    | false =>
      rw [show a + 1 + b = (a + b) + 1 by omega, runFor_succ h, runFor_succ h]
      exact runFor_add a b m.step

/-- the machine comes from m to m' -/
def Go (k : Nat) (m m' : M) : Prop := M.runFor k m = m'
theorem Go.trans {a b : Nat} {m m' m'' : M} (x : Go a m m') (y : Go b m' m'') : Go (a + b) m m'' := by
  unfold Go at *; rw [runFor_add, x, y]
theorem Go.cons {k : Nat} {m m' m'' : M} (h : m.outcome.isSome = false) (e : m.step = m') (y : Go k m' m'') : Go (k + 1) m m'' := by
  unfold Go at *; rw [runFor_succ h, e, y]
theorem Go.nil (m : M) : Go 0 m m := by unfold Go; rw [M.runFor]

/-- a state of the machine: no group, no loop -/
abbrev S (code text : Array Nat) (lim start ls pc pos hd : Nat) (om : Bool) (fs : List Sre.Frame) (wt : Nat) (ans : Option Bool) (seen : Seen) : M :=
  { code, text, lim, start, lastStart := ls, pc, pos, handed := hd, outermost := om, marks := #[], frames := fs, weight := wt, answer := ans, seen }

section
variable {code text : Array Nat} {lim st ls pc pos hd wt c : Nat} {om : Bool} {fs : List Sre.Frame} {seen : Seen}

theorem lit_step (h0 : code.getD pc 0 = 16) (h1 : code.getD (pc + 1) 0 = c) (hpc : pc < code.size) :
    (S code text lim st ls pc pos hd om fs wt none seen).step = if pos < lim ∧ text.getD pos 0 = c then S code text lim st ls (pc + 2) (pos + 1) hd om fs wt none (seen.add 16) else S code text lim st ls pc pos hd om fs wt (some false) (seen.add 16) := by
  have e : ops[16]? = some .LITERAL := rfl
  unfold M.step
  simp only [Option.isSome_none, Bool.false_eq_true, if_false, hpc, if_true]
  unfold M.exec
  simp only [M.word, Nat.add_zero, h0, e]
  by_cases hp : pos ≥ lim
  · rw [if_pos hp, if_neg (fun q => Nat.not_lt.mpr hp q.1)]; rfl
  · rw [if_neg hp]
    unfold accepts itemWidth
    simp only [h0, e, h1]
    by_cases hc : text.getD pos 0 = c
    · rw [if_pos ⟨Nat.lt_of_not_le hp, hc⟩, hc]; simp
    · rw [if_neg (fun q => hc q.2), show (text.getD pos 0 == c) = false from beq_eq_false_iff_ne.mpr hc]; rfl

theorem at_step (h0 : code.getD pc 0 = 6) (h1 : code.getD (pc + 1) 0 = 1) (hpc : pc < code.size) :
    (S code text lim st ls pc pos hd om fs wt none seen).step = if pos = 0 ∨ text.getD (pos - 1) 0 = 10 then S code text lim st ls (pc + 2) pos hd om fs wt none ((seen.add 6).add 44) else S code text lim st ls pc pos hd om fs wt (some false) ((seen.add 6).add 44) := by
  have e : ops[6]? = some .AT := rfl
  unfold M.step
  simp only [Option.isSome_none, Bool.false_eq_true, if_false, hpc, if_true]
  unfold M.exec
  simp only [M.word, Nat.add_zero, h0, e, h1]
  unfold M.isAt
  by_cases hp : pos = 0 ∨ text.getD (pos - 1) 0 = 10
  · rw [if_pos hp]
    have : (pos == 0 || text.getD (pos - 1) 0 == 10) = true := by rcases hp with h | h <;> simp [h]
    simp only [this]; rfl
  · rw [if_neg hp]
    have : (pos == 0 || text.getD (pos - 1) 0 == 10) = false := by
      rw [Bool.or_eq_false_iff]; exact ⟨beq_eq_false_iff_ne.mpr fun q => hp (.inl q), beq_eq_false_iff_ne.mpr fun q => hp (.inr q)⟩
    simp only [this]; rfl

theorem succ_step (h0 : code.getD pc 0 = 1) (hpc : pc < code.size) :
    (S code text lim st ls pc pos hd om fs wt none seen).step = S code text lim st ls pc pos pos om fs wt (some true) (seen.add 1) := by
  have e : ops[1]? = some .SUCCESS := rfl
  unfold M.step
  simp only [Option.isSome_none, Bool.false_eq_true, if_false, hpc, if_true]
  unfold M.exec
  simp only [M.word, Nat.add_zero, h0, e]
  simp [M.say]

theorem jump_step {d : Nat} (h0 : code.getD pc 0 = 15) (h1 : code.getD (pc + 1) 0 = d) (hpc : pc < code.size) :
    (S code text lim st ls pc pos hd om fs wt none seen).step = S code text lim st ls (pc + 1 + d) pos hd om fs wt none (seen.add 15) := by
  have e : ops[15]? = some .JUMP := rfl
  unfold M.step
  simp only [Option.isSome_none, Bool.false_eq_true, if_false, hpc, if_true]
  unfold M.exec
  simp only [M.word, Nat.add_zero, h0, e, h1]

theorem end_step {b : Bool} : (S code text lim st ls pc pos hd om [] wt (some b) seen).step = { S code text lim st ls pc pos hd om [] wt (some b) seen with outcome := some (if b then .matched else .failed) } := by
  unfold M.step
  simp only [Option.isSome_none, Bool.false_eq_true, if_false]

/-- the frame of a try at s -/
abbrev F0 (pc s : Nat) (om : Bool) : Sre.Frame := { wait := .nextStart, pc := pc, pos := s, outermost := om }

theorem start_yes {s pc' : Nat} {om' : Bool} : (S code text lim st ls pc pos hd om [F0 pc' s om'] (wt + 1) (some true) seen).step = S code text lim st ls pc' s hd om' [] wt (some true) seen := by
  unfold M.step
  simp only [Option.isSome_none, Bool.false_eq_true, if_false]
  unfold M.resume
  simp only [if_true]
  rfl
theorem start_no_end {s pc' : Nat} {om' : Bool} (h : ¬ s < ls) : (S code text lim st ls pc pos hd om [F0 pc' s om'] (wt + 1) (some false) seen).step = S code text lim st ls pc' s hd om' [] wt (some false) seen := by
  unfold M.step
  simp only [Option.isSome_none, Bool.false_eq_true, if_false]
  unfold M.resume
  simp only [Bool.false_eq_true, if_false, if_neg h]
  rfl
theorem start_no {s pc' : Nat} {om' : Bool} (h : s < ls) : (S code text lim st ls pc pos hd om [F0 pc' s om'] (wt + 1) (some false) seen).step = M.attemptFrom (S code text lim st ls pc' s hd om' [] wt none seen) (s + 1) false := by
  unfold M.step
  simp only [Option.isSome_none, Bool.false_eq_true, if_false]
  unfold M.resume
  simp only [Bool.false_eq_true, if_false, if_pos h]
  rfl
theorem attemptAt_is {s : Nat} {f : Bool} : M.attemptAt (S code text lim st ls pc pos hd om [] 0 none seen) s f = S code text lim s ls pc s s f [F0 pc s f] 1 none seen := by
  unfold M.attemptAt M.attempt
  rfl
end

section
variable {text : Array Nat} {lim : Nat}
def hit1 (text : Array Nat) (t : Nat) : Prop := (t = 0 ∨ text.getD (t - 1) 0 = 10) ∧ text.getD t 0 = 46

theorem from1 {s st pos hd : Nat} {om f : Bool} {seen : Seen} : M.attemptFrom (S C1 text lim st lim 5 pos hd om [] 0 none seen) s f = S C1 text lim s lim 5 s s f [F0 5 s f] 1 none seen := by
  unfold M.attemptFrom
  rw [if_pos (by rfl)]
  exact attemptAt_is

/-- what a search ends with -/
def Ends (hit : Nat → Prop) (wid : Nat → Nat) (lim s : Nat) (m : M) : Prop :=
  (∃ t, s ≤ t ∧ t < lim ∧ hit t ∧ (∀ u, s ≤ u → u < t → ¬ hit u) ∧ m.outcome = some .matched ∧ m.start = t ∧ m.handed = t + wid t) ∨ ((∀ u, s ≤ u → u < lim → ¬ hit u) ∧ m.outcome = some .failed)

def Reach (P : M → Prop) (n : Nat) (m : M) : Prop := ∃ k m', k ≤ n ∧ Go k m m' ∧ P m'
theorem Reach.done {P : M → Prop} {m : M} (n : Nat) (h : P m) : Reach P n m := ⟨0, m, Nat.zero_le _, Go.nil m, h⟩
theorem Reach.step {P : M → Prop} {n : Nat} {m m' : M} (h : m.outcome.isSome = false) (e : m.step = m') (hn : 1 ≤ n) (r : Reach P (n - 1) m') : Reach P n m := by
  obtain ⟨k, m'', hk, hg, hp⟩ := r
  exact ⟨k + 1, m'', by omega, Go.cons h e hg, hp⟩
theorem Reach.mono {P Q : M → Prop} {n n' : Nat} {m : M} (r : Reach P n m) (hn : n ≤ n') (h : ∀ m, P m → Q m) : Reach Q n' m := by
  obtain ⟨k, m', hk, hg, hp⟩ := r
  exact ⟨k, m', by omega, hg, h _ hp⟩
theorem Ends.later {hit : Nat → Prop} {wid : Nat → Nat} {lim s : Nat} {m : M} (h : ¬ hit s) (x : Ends hit wid lim (s + 1) m) : Ends hit wid lim s m := by
  rcases x with ⟨t, h1, h2, h3, h4, h5⟩ | ⟨h1, h2⟩
  · refine .inl ⟨t, by omega, h2, h3, fun u q1 q2 => ?_, h5⟩
    rcases Nat.lt_or_ge s u with q | q
    · exact h4 u q q2
    · have : u = s := by omega
      subst this; exact h
  · refine .inr ⟨fun u q1 q2 => ?_, h2⟩
    rcases Nat.lt_or_ge s u with q | q
    · exact h1 u q q2
    · have : u = s := by omega
      subst this; exact h

theorem run1 : ∀ (d s : Nat) (om : Bool) (seen : Seen), lim - s = d → s ≤ lim → Reach (Ends (hit1 text) (fun _ => 1) lim s) (5 * (d + 1)) (S C1 text lim s lim 5 s s om [F0 5 s om] 1 none seen) := by
  intro d
  induction d with
  | zero =>
    intro s om seen hd hs
    have hsl : ¬ s < lim := by omega
    refine Reach.step rfl (at_step (by rfl) (by rfl) (by decide)) (by omega) ?_
    by_cases h0 : s = 0 ∨ text.getD (s - 1) 0 = 10
    · rw [if_pos h0]
      refine Reach.step rfl (lit_step (c := 46) (by rfl) (by rfl) (by decide)) (by omega) ?_
      rw [if_neg (fun q => hsl q.1)]
      exact Reach.step rfl (start_no_end hsl) (by omega) (Reach.step rfl end_step (by omega) (Reach.done _ (.inr ⟨fun u h1 h2 => by omega, rfl⟩)))
    · rw [if_neg h0]
      exact Reach.step rfl (start_no_end hsl) (by omega) (Reach.step rfl end_step (by omega) (Reach.done _ (.inr ⟨fun u h1 h2 => by omega, rfl⟩)))
  | succ d ih =>
    intro s om seen hd hs
    have hsl : s < lim := by omega
    refine Reach.step rfl (at_step (by rfl) (by rfl) (by decide)) (by omega) ?_
    by_cases h0 : s = 0 ∨ text.getD (s - 1) 0 = 10
    · rw [if_pos h0]
      refine Reach.step rfl (lit_step (c := 46) (by rfl) (by rfl) (by decide)) (by omega) ?_
      by_cases h1 : text.getD s 0 = 46
      · rw [if_pos ⟨hsl, h1⟩]
        exact Reach.step rfl (succ_step (by rfl) (by decide)) (by omega) (Reach.step rfl start_yes (by omega) (Reach.step rfl end_step (by omega) (Reach.done _ (.inl ⟨s, Nat.le_refl _, hsl, ⟨h0, h1⟩, fun u q1 q2 => by omega, rfl, rfl, rfl⟩))))
      · rw [if_neg (fun q => h1 q.2)]
        exact Reach.step rfl ((start_no hsl).trans from1) (by omega) ((ih (s + 1) false _ (by omega) (by omega)).mono (by omega) fun m x => x.later fun q => h1 q.2)
    · rw [if_neg h0]
      exact Reach.step rfl ((start_no hsl).trans from1) (by omega) ((ih (s + 1) false _ (by omega) (by omega)).mono (by omega) fun m x => x.later fun q => h0 q.1)

theorem search1 {start : Nat} (hs : start ≤ text.size) : Reach (Ends (hit1 text) (fun _ => 1) text.size start) (5 * (text.size + 1)) (forSearch C1 text 0 start text.size false) := by
  unfold forSearch
  have hh : header C1 = (1, 5) := by rfl
  simp only [hh]
  by_cases h : start > text.size ∨ text.size - start < 1
  · have e : (decide (start > text.size) || decide (text.size - start < 1)) = true := by simpa using h
    rw [if_pos e]
    show Reach _ _ (S C1 text text.size start 0 5 start start true [] 0 (some false) _)
    exact Reach.step rfl end_step (by omega) (Reach.done _ (.inr ⟨fun u h1 h2 => by omega, rfl⟩))
  · have e : (decide (start > text.size) || decide (text.size - start < 1)) = false := by simpa using h
    rw [if_neg (by rw [e]; exact Bool.false_ne_true)]
    show Reach _ _ (M.attemptFrom (S C1 text text.size start text.size 5 start start true [] 0 none _) start true)
    rw [from1]
    exact (run1 (text.size - start) start true _ rfl hs).mono (by omega) fun m x => x
end

section
variable {text : Array Nat} {lim : Nat}
def hit2 (text : Array Nat) (t : Nat) : Prop := text.getD t 0 = 10 ∨ text.getD t 0 = 13
def wid2 (text : Array Nat) (t : Nat) : Nat := if text.getD t 0 = 13 ∧ t + 1 < text.size ∧ text.getD (t + 1) 0 = 10 then 2 else 1

theorem set2 (c : Nat) (seen : Seen) : ∃ seen', inSet C2 c C2.size 5 true seen = .ok (c == 10 || c == 13, seen') := by
  have e1 : ops[C2.getD 5 0]? = some .LITERAL := by rfl
  have e2 : ops[C2.getD 7 0]? = some .LITERAL := by rfl
  have e3 : ops[C2.getD 9 0]? = some .FAILURE := by rfl
  have e4 : C2.getD 6 0 = 10 := by rfl
  have e5 : C2.getD 8 0 = 13 := by rfl
  rw [show C2.size = 33 + 3 by rfl]
  unfold inSet
  simp only [Nat.add_zero, e1, e4]
  by_cases h10 : c = 10
  · subst h10; exact ⟨_, rfl⟩
  · rw [if_neg (by simpa using h10)]
    unfold inSet
    simp only [Nat.add_zero, e2, e5]
    by_cases h13 : c = 13
    · subst h13; exact ⟨_, rfl⟩
    · rw [if_neg (by simpa using h13)]
      unfold inSet
      simp only [Nat.add_zero, e3]
      rw [show (c == 10) = false from beq_eq_false_iff_ne.mpr h10, show (c == 13) = false from beq_eq_false_iff_ne.mpr h13]
      exact ⟨_, rfl⟩

theorem adm2 {m : M} (hc : m.code = C2) (ht : m.text = text) (hl : m.lim = lim) : ∀ (fuel s : Nat) (seen : Seen), lim + 1 - s ≤ fuel → ∃ seen',
    (∃ t, s ≤ t ∧ t < lim ∧ hit2 text t ∧ (∀ u, s ≤ u → u < t → ¬ hit2 text u) ∧ M.admitted m fuel s seen = .ok (some t, seen')) ∨ ((∀ u, s ≤ u → u < lim → ¬ hit2 text u) ∧ M.admitted m fuel s seen = .ok (none, seen')) := by
  intro fuel
  induction fuel with
  | zero =>
    intro s seen h
    exact ⟨seen, .inr ⟨fun u h1 h2 => by omega, by unfold M.admitted; rfl⟩⟩
  | succ fuel ih =>
    intro s seen h
    unfold M.admitted
    rw [hl]
    by_cases hs : s ≥ lim
    · rw [if_pos hs]; exact ⟨seen, .inr ⟨fun u h1 h2 => by omega, rfl⟩⟩
    · rw [if_neg hs]
      obtain ⟨seen', e⟩ := set2 (text.getD s 0) seen
      rw [hc, ht, e]
      by_cases hh : hit2 text s
      · have : (text.getD s 0 == 10 || text.getD s 0 == 13) = true := by rcases hh with q | q <;> rw [q] <;> rfl
        rw [this]
        exact ⟨seen', .inl ⟨s, Nat.le_refl _, by omega, hh, fun u q1 q2 => by omega, rfl⟩⟩
      · have : (text.getD s 0 == 10 || text.getD s 0 == 13) = false := by
          rw [Bool.or_eq_false_iff]; exact ⟨beq_eq_false_iff_ne.mpr fun q => hh (.inl q), beq_eq_false_iff_ne.mpr fun q => hh (.inr q)⟩
        rw [this]
        obtain ⟨seen'', hx⟩ := ih (s + 1) seen' (by omega)
        have later : ∀ u, s ≤ u → (s + 1 ≤ u → ¬ hit2 text u) → ¬ hit2 text u := fun u q1 q2 => by
          rcases Nat.lt_or_ge s u with q | q
          · exact q2 q
          · have : u = s := by omega
            subst this; exact hh
        rcases hx with ⟨t, x1, x2, x3, x4, x5⟩ | ⟨x1, x2⟩
        · exact ⟨seen'', .inl ⟨t, by omega, x2, x3, fun u q1 q2 => later u q1 fun q => x4 u q q2, x5⟩⟩
        · exact ⟨seen'', .inr ⟨fun u q1 q2 => later u q1 fun q => x1 u q q2, x2⟩⟩

abbrev FB (a s : Nat) (om : Bool) : Sre.Frame := { wait := .nextBranch, pc := a, pos := s, outermost := om }
abbrev FN (a s : Nat) (om : Bool) : Sre.Frame := { wait := .lookNot, pc := a, pos := s, outermost := om }
section
variable {code : Array Nat} {st ls pc pos hd wt : Nat} {om : Bool} {fs : List Sre.Frame} {seen : Seen}
theorem branch_step (h0 : code.getD pc 0 = 7) (h1 : code.getD (pc + 1) 0 ≠ 0) (hpc : pc < code.size) (hw : wt < 1000) :
    (S code text lim st ls pc pos hd om fs wt none seen).step = S code text lim st ls (pc + 1 + 1) pos pos om (FB (pc + 1) pos om :: fs) (wt + 1) none (seen.add 7) := by
  have e : ops[7]? = some .BRANCH := rfl
  unfold M.step
  simp only [Option.isSome_none, Bool.false_eq_true, if_false, hpc, if_true]
  unfold M.exec
  simp only [M.word, Nat.add_zero, h0, e]
  unfold M.alternative
  rw [if_neg (by simpa using h1)]
  unfold M.attempt
  rw [if_neg (by simp [M.frame, M.keep]; omega)]
  rfl
theorem alt_no {a s : Nat} {om' : Bool} {d : Nat} (h0 : code.getD a 0 = d) (h1 : code.getD (a + d) 0 ≠ 0) (hw : wt < 1000) :
    (S code text lim st ls pc pos hd om (FB a s om' :: fs) (wt + 1) (some false) seen).step = S code text lim st ls (a + d + 1) s s om' (FB (a + d) s om' :: fs) (wt + 1) none seen := by
  unfold M.step
  simp only [Option.isSome_none, Bool.false_eq_true, if_false]
  unfold M.resume
  simp only [Bool.false_eq_true, if_false, M.putBack, h0]
  unfold M.alternative
  simp only
  rw [if_neg (by simpa using h1)]
  unfold M.attempt
  rw [if_neg (by simp [M.frame]; omega)]
  rfl
theorem alt_yes {a s : Nat} {om' : Bool} :
    (S code text lim st ls pc pos hd om (FB a s om' :: fs) (wt + 1) (some true) seen).step = S code text lim st ls a s hd om' fs wt (some true) seen := by
  unfold M.step
  simp only [Option.isSome_none, Bool.false_eq_true, if_false]
  unfold M.resume
  simp only [if_true]
  rfl
theorem not_step (h0 : code.getD pc 0 = 5) (h2 : code.getD (pc + 2) 0 = 0) (hpc : pc < code.size) (hw : wt < 1000) :
    (S code text lim st ls pc pos hd om fs wt none seen).step = S code text lim st ls (pc + 3) pos pos false (FN pc pos om :: fs) (wt + 1) none (seen.add 5) := by
  have e : ops[5]? = some .ASSERT_NOT := rfl
  unfold M.step
  simp only [Option.isSome_none, Bool.false_eq_true, if_false, hpc, if_true]
  unfold M.exec
  simp only [M.word, Nat.add_zero, h0, e, h2, Nat.not_lt_zero, if_false, if_true]
  unfold M.attempt
  rw [if_neg (by simp [M.frame, M.keep]; omega)]
  rfl
theorem not_no {a s : Nat} {om' : Bool} {d : Nat} (h0 : code.getD (a + 1) 0 = d) :
    (S code text lim st ls pc pos hd om (FN a s om' :: fs) (wt + 1) (some false) seen).step = S code text lim st ls (a + 1 + d) s hd om' fs wt none seen := by
  unfold M.step
  simp only [Option.isSome_none, Bool.false_eq_true, if_false]
  unfold M.resume
  simp only [Bool.false_eq_true, if_false, M.putBack, M.word, h0]
  rfl
end

theorem run2 {s : Nat} {om : Bool} {seen : Seen} {ls : Nat} (hs : s < text.size) (hh : hit2 text s) :
    Reach (fun m => m.outcome = some .matched ∧ m.start = s ∧ m.handed = s + wid2 text s) 30 (S C2 text text.size s ls 10 s s om [F0 10 s om] 1 none seen) := by
  refine Reach.step rfl (branch_step (by rfl) (by decide) (by decide) (by decide)) (by decide) ?_
  refine Reach.step rfl (lit_step (c := 13) (by rfl) (by rfl) (by decide)) (by decide) ?_
  by_cases h13 : text.getD s 0 = 13
  · rw [if_pos ⟨hs, h13⟩]
    refine Reach.step rfl (lit_step (c := 10) (by rfl) (by rfl) (by decide)) (by decide) ?_
    by_cases h10 : s + 1 < text.size ∧ text.getD (s + 1) 0 = 10
    · rw [if_pos h10]
      have hw : wid2 text s = 2 := if_pos ⟨h13, h10⟩
      exact Reach.step rfl (jump_step (d := 18) (by rfl) (by rfl) (by decide)) (by decide) <| Reach.step rfl (succ_step (by rfl) (by decide)) (by decide) <| Reach.step rfl alt_yes (by decide) <|
        Reach.step rfl start_yes (by decide) <| Reach.step rfl end_step (by decide) <| Reach.done _ ⟨rfl, rfl, by rw [hw]⟩
    · rw [if_neg h10]
      have hw : wid2 text s = 1 := if_neg fun q => h10 q.2
      refine Reach.step rfl (alt_no (d := 7) (by rfl) (by decide) (by decide)) (by decide) ?_
      refine Reach.step rfl (lit_step (c := 10) (by rfl) (by rfl) (by decide)) (by decide) ?_
      rw [if_neg (fun q => by rw [h13] at q; exact absurd q.2 (by decide))]
      refine Reach.step rfl (alt_no (d := 5) (by rfl) (by decide) (by decide)) (by decide) ?_
      refine Reach.step rfl (lit_step (c := 13) (by rfl) (by rfl) (by decide)) (by decide) ?_
      rw [if_pos ⟨hs, h13⟩]
      refine Reach.step rfl (not_step (by rfl) (by rfl) (by decide) (by decide)) (by decide) ?_
      refine Reach.step rfl (lit_step (c := 10) (by rfl) (by rfl) (by decide)) (by decide) ?_
      rw [if_neg h10]
      exact Reach.step rfl (not_no (d := 5) (by rfl)) (by decide) <| Reach.step rfl (jump_step (d := 2) (by rfl) (by rfl) (by decide)) (by decide) <| Reach.step rfl (succ_step (by rfl) (by decide)) (by decide) <| Reach.step rfl alt_yes (by decide) <|
        Reach.step rfl start_yes (by decide) <| Reach.step rfl end_step (by decide) <| Reach.done _ ⟨rfl, rfl, by rw [hw]⟩
  · rw [if_neg (fun q => h13 q.2)]
    have h10 : text.getD s 0 = 10 := hh.resolve_right h13
    have hw : wid2 text s = 1 := if_neg fun q => h13 q.1
    refine Reach.step rfl (alt_no (d := 7) (by rfl) (by decide) (by decide)) (by decide) ?_
    refine Reach.step rfl (lit_step (c := 10) (by rfl) (by rfl) (by decide)) (by decide) ?_
    rw [if_pos ⟨hs, h10⟩]
    exact Reach.step rfl (jump_step (d := 13) (by rfl) (by rfl) (by decide)) (by decide) <| Reach.step rfl (succ_step (by rfl) (by decide)) (by decide) <| Reach.step rfl alt_yes (by decide) <|
      Reach.step rfl start_yes (by decide) <| Reach.step rfl end_step (by decide) <| Reach.done _ ⟨rfl, rfl, by rw [hw]⟩

theorem search2 {start : Nat} (hs : start ≤ text.size) : Reach (Ends (hit2 text) (wid2 text) text.size start) 40 (forSearch C2 text 0 start text.size false) := by
  unfold forSearch
  have hh : header C2 = (1, 10) := by rfl
  simp only [hh]
  by_cases h : start > text.size ∨ text.size - start < 1
  · have e : (decide (start > text.size) || decide (text.size - start < 1)) = true := by simpa using h
    rw [if_pos e]
    show Reach _ _ (S C2 text text.size start 0 10 start start true [] 0 (some false) _)
    exact Reach.step rfl end_step (by omega) (Reach.done _ (.inr ⟨fun u h1 h2 => by omega, rfl⟩))
  · have e : (decide (start > text.size) || decide (text.size - start < 1)) = false := by simpa using h
    rw [if_neg (by rw [e]; exact Bool.false_ne_true)]
    show Reach _ _ (M.attemptFrom (S C2 text text.size start text.size 10 start start true [] 0 none (({} : Seen).add 14)) start true)
    generalize ({} : Seen).add 14 = sn
    unfold M.attemptFrom
    rw [if_neg (by rw [show M.hasFirstSet (S C2 text text.size start text.size 10 start start true [] 0 none sn) = true from rfl]; decide)]
    obtain ⟨seen', ha⟩ := adm2 (text := text) (lim := text.size) (m := S C2 text text.size start text.size 10 start start true [] 0 none sn) rfl rfl rfl (text.size + 1 - start) start sn (Nat.le_refl _)
    rcases ha with ⟨t, h1, h2, h3, h4, h5⟩ | ⟨h1, h2⟩
    · rw [h5]
      show Reach _ _ (M.attemptAt (S C2 text text.size start text.size 10 start start true [] 0 none seen') t true)
      rw [attemptAt_is]
      exact (run2 h2 h3).mono (by decide) fun m ⟨x1, x2, x3⟩ => .inl ⟨t, h1, h2, h3, h4, x1, x2, x3⟩
    · rw [h2]
      show Reach _ _ (S C2 text text.size start text.size 10 start start true [] 0 (some false) seen')
      exact Reach.step rfl end_step (by decide) (Reach.done _ (.inr ⟨h1, rfl⟩))
end
end
-- RS
section
open PySem PySem.W PyProof.Rows
open PySem PySem.Spec PySem.Calls
open PySem.Sre PySem.Builtin.Re

section
variable {prog : Program} {w : World} {A : Around} {E : Value → Shared → Prop} {s : Shared}

theorem drive {P : M → Prop} {Q : M → Shared → Prop} (hP : ∀ m, P m → m.outcome.isSome = true) (hQ : ∀ m, P m → Q m s) : ∀ (turns n : Nat) (m : M), n < 4 * turns → Reach P n m →
    wpAny (model prog w) A (reDrive turns m) Q E s
  | 0, n, m, h, _ => absurd h (by omega)
  | turns + 1, n, m, h, r => by
    rw [reDrive]
    obtain ⟨k, m', hk, hg, hp⟩ := r
    unfold Go at hg
    have hm' := hP m' hp
    by_cases hd : (m.runFor reTurnSteps).outcome.isSome = true
    · have e : m.runFor reTurnSteps = m' := by
        rcases Nat.lt_or_ge reTurnSteps k with q | q
        · rw [show k = reTurnSteps + (k - reTurnSteps) by omega, runFor_add, runFor_done hd] at hg
          exact hg
        · rw [show reTurnSteps = k + (reTurnSteps - k) by omega, runFor_add, hg, runFor_done hm']
      show wpAny _ _ (if (m.runFor reTurnSteps).outcome.isSome = true then pure (m.runFor reTurnSteps) else do rule "sre.turn"; reDrive turns (m.runFor reTurnSteps)) _ _ _
      rw [if_pos hd, e]
      exact wpAny_pure (hQ m' hp)
    · show wpAny _ _ (if (m.runFor reTurnSteps).outcome.isSome = true then pure (m.runFor reTurnSteps) else do rule "sre.turn"; reDrive turns (m.runFor reTurnSteps)) _ _ _
      rw [if_neg hd]
      have h4 : reTurnSteps = 4 := rfl
      have hk4 : reTurnSteps ≤ k := by
        rcases Nat.lt_or_ge k reTurnSteps with q | q
        · rw [show reTurnSteps = k + (reTurnSteps - k) by omega, runFor_add, hg, runFor_done hm'] at hd
          exact absurd hm' hd
        · exact q
      refine wpAny_bind (wpAny_rule ?_)
      refine drive hP hQ turns (n - reTurnSteps) _ (by rcases Nat.eq_or_lt_of_le hk4 with q | q <;> omega) ⟨k - reTurnSteps, m', by omega, ?_, hp⟩
      unfold Go
      rw [show k = reTurnSteps + (k - reTurnSteps) by omega, runFor_add] at hg
      exact hg

theorem run_end {hit : Nat → Prop} {wid : Nat → Nat} {lim start n : Nat} {m : M} {Q : Option M → Shared → Prop} (hn : n < 4 * 2 ^ 64) (r : Reach (Ends hit wid lim start) n m)
    (hy : ∀ t m', start ≤ t → t < lim → hit t → (∀ u, start ≤ u → u < t → ¬ hit u) → m'.start = t → m'.handed = t + wid t → Q (some m') s)
    (hno : (∀ u, start ≤ u → u < lim → ¬ hit u) → Q none s) : wpAny (model prog w) A (reRunToEnd m) Q E s := by
  unfold reRunToEnd
  refine wpAny_bind (drive (P := Ends hit wid lim start) (fun m x => ?_) (fun m x => ?_) _ n m hn r)
  · rcases x with ⟨_, _, _, _, _, e, _⟩ | ⟨_, e⟩ <;> rw [e] <;> rfl
  · refine wpAny_bind (wpAny_forIn_list _ (fun _ _ s' => s' = s) (fun _ s' => s' = s) (fun i rest b s' h => ?_) (fun b s' h => h) _ _ rfl |> fun z => wpAny_mono z (fun _ s' e => ?_) fun _ _ e => e)
    · subst e
      rcases x with ⟨t, h1, h2, h3, h4, e, e2, e3⟩ | ⟨h1, e⟩
      · rw [e]; exact wpAny_pure (hy t m h1 h2 h3 h4 e2 e3)
      · rw [e]; exact wpAny_pure (hno h1)
    · subst h
      split
      · exact wpAny_bind (wpAny_rule (wpAny_pure rfl))
      · exact wpAny_pure rfl

/-- a written pattern -/
structure Pat (h : Heap) (p : Addr) (code : Array Nat) : Prop where
  obj : ∃ o fs c oc its n, h.get? p = some o ∧ o.cls = .type "re.Pattern" ∧ o.dict = none ∧ o.data = .fields fs ∧ fs[5]? = some (.ref c) ∧ fs.getD 5 .none = .ref c ∧ fs.getD 6 .none = .int 0 0 ∧ fs.getD 2 .none = .int 0 0 ∧
    h.get? c = some oc ∧ oc.data = .seq its n ∧ (its.map reRawOf).map (·.toNat) = code
theorem Pat.keeps {h h' : Heap} {p : Addr} {code : Array Nat} (x : Pat h p code) (k : Ex h h') : Pat h' p code := by
  obtain ⟨o, fs, c, oc, its, n, h1, h2, h3, h4, h5, h6, h7, h8, h9, h10⟩ := x
  exact ⟨o, fs, c, oc, its, n, k _ _ h1, h2, h3, h4, h5, h6, h7, h8, k _ _ h9, h10⟩

theorem whole_target {p : Addr} {code : Array Nat} {x : Str} {tx : Tok} {Q : ReTarget → Shared → Prop} (hp : Pat s.heap p code)
    (h : Q { pattern := .ref p, string := .str x tx, code := code, text := x.cps, kind := 0, groups := 0, pos := 0, lim := x.cps.size } s) :
    wpAny (model prog w) A (reWholeTarget (.ref p) (.str x tx)) Q E s := by
  obtain ⟨o, fs, c, oc, its, n, h1, h2, h3, h4, h5, h6, h7, h8, h9, h10, h11⟩ := hp
  unfold reWholeTarget
  refine wpAny_bind (wpAny_fieldsOf h1 h4 ?_)
  have e : reTextOf (Value.str x tx) = pure (x.cps, 0) := by rfl
  rw [e, h6, h7, h8]
  refine wpAny_bind (wpAny_pure ?_)
  refine wpAny_bind (m := reNoCollectionInside _ 0) (wpAny_pure ?_)
  unfold reRawItems
  refine wpAny_bind (wpAny_bind (wpAny_seqItems h9 h10 (wpAny_pure (wpAny_pure ?_))))
  subst h11
  exact h

theorem re_slice {text : Array Nat} {b e : Nat} {Q : Value → Shared → Prop} (hsz : text.size ≤ 10000) (h : Q (.str ⟨text.extract b e⟩ s.toks) { s with toks := s.toks + 1 }) :
    wpAny (model prog w) A (reSlice text 0 b e) Q E s := by
  unfold reSlice
  rw [if_pos (show ((0 : Nat) == 0) = true from rfl)]
  refine wpAny_mkStr h ?_
  rw [show sizeLine = 16777216 by decide]
  show (text.extract b e).size ≤ _
  rw [Array.size_extract]; omega

/-- what a pattern's substitution gives from a place on: the rest of the text turned -/
structure Turn (code : Array Nat) (rep : List Nat) (text : Array Nat) (out : Nat → List Nat) (hit : Nat → Prop) (wid : Nat → Nat) : Prop where
  search : ∀ start, start ≤ text.size → ∃ n, n < 4 * 2 ^ 64 ∧ Reach (Ends hit wid text.size start) n (forSearch code text 0 start text.size false)
  pos : ∀ t, 0 < wid t
  within : ∀ t, t < text.size → hit t → t + wid t ≤ text.size
  at_hit : ∀ start t, start ≤ t → t < text.size → hit t → (∀ u, start ≤ u → u < t → ¬ hit u) → out start = (text.extract start t).toList ++ rep ++ out (t + wid t)
  at_end : ∀ start, start ≤ text.size → (∀ u, start ≤ u → u < text.size → ¬ hit u) → out start = (text.extract start text.size).toList

abbrev codesOf (l : List (Str × Tok)) : List Nat := (l.map fun p => p.1.cps.toList).flatten
theorem join_codes : ∀ l : List (Str × Tok), (Txt.join ⟨#[]⟩ (l.map fun p : Str × Tok => p.1)).cps.toList = codesOf l := by
  intro l
  unfold Txt.join
  rw [StrLaws.glued_eq_join]
  induction l with
  | nil => rfl
  | cons a r ih =>
    cases r with
    | nil => simp [codesOf, Str.join]
    | cons b r =>
      have e : Str.join ⟨#[]⟩ (List.map (fun p : Str × Tok => p.1) (a :: b :: r)) = a.1 ++ ⟨#[]⟩ ++ Str.join ⟨#[]⟩ (List.map (fun p : Str × Tok => p.1) (b :: r)) := rfl
      rw [e]
      show (a.1.cps ++ #[] ++ (Str.join ⟨#[]⟩ (List.map (fun p : Str × Tok => p.1) (b :: r))).cps).toList = _
      rw [Array.append_empty, Array.toList_append, ih]
      rfl
theorem push_piece {l : List (Str × Tok)} {x : Str} {t : Tok} : (strValues l).toArray.push (.str x t) = (strValues (l ++ [(x, t)])).toArray := by
  simp [strValues]

theorem upd_push {D : Addr} {l : List (Str × Tok)} {x : Str} {t : Tok} {Q : Unit → Shared → Prop} (pl : s.heap.PlainList D (strValues l).toArray) (hsz : l.length ≤ 2000)
    (h : ∀ h', h'.PlainList D (strValues (l ++ [(x, t)])).toArray → Heap.SameBut D s.heap h' → Q () { s with heap := h' }) :
    wpAny (model prog w) A (updateSeq D (·.push (.str x t))) Q E s := by
  obtain ⟨n, ho⟩ := pl
  have hL : (strValues l).toArray.size ≤ 2000 := by rw [List.size_toArray]; simpa [strValues] using hsz
  have hS : sizeLine = 16777216 := by decide
  refine wpAny_updateSeq ho rfl (h _ ⟨n + 1, ?_⟩ (Heap.SameBut.update ..)) (by rw [hS]; omega) (by rw [Array.size_push, hS]; omega)
  rw [Heap.get?_update_self _ ho (by rw [Obj.mapSeq_push_plain]; rfl), Obj.mapSeq_push_plain, push_piece]

theorem codeAny_blt {id : String} {args : Args} {b : Builtin} {R : Result → Shared → Prop} (hb : entryFor table id = some b) (hp : plainId id = true)
    (h : wpAny (model prog w) A.in1 (b args) (fun fin s' => match fin with | .done f => R (.ok f) s' | .again c' => c'.quiet = true ∧ codeAny (model prog w) A c' R s') (fun e s' => R (.error e) s') s) :
    codeAny (model prog w) A (.builtin id args) R s := by
  refine codeAny_of_tree ?_
  rw [Around.under_plainId hp]
  show wpAny _ _ (match entryFor table id with | some b => b args | none => unsupported ((withoutEnding? id "#data").getD id)) _ _ s
  rw [hb]; exact h

theorem sub_loop {p : Addr} {code : Array Nat} {x : Str} {tx : Tok} {rep : Str} {tr : Tok} {out : Nat → List Nat} {hit : Nat → Prop} {wid : Nat → Nat} (T : Turn code rep.cps.toList x.cps out hit wid) (hsz : x.cps.size ≤ 200) (hrep : rep.cps.size ≤ 200)
    {h₀ : Heap} {D : Addr} {R : Result → Shared → Prop} {gens : Array GenState} {drawn : Drawn} {os : OsState} (hp : Pat h₀ p code) (hD : h₀.get? D = none)
    (hR : ∀ h' t tk, Ex h₀ h' → h₀.objs.size ≤ h'.objs.size → R (.ok (.ret (.str ⟨(out 0).toArray⟩ t))) ⟨h', gens, drawn, tk, os⟩) :
    ∀ (d start : Nat) (n : Int) (l : List (Str × Tok)) (h : Heap) (tk : Nat), x.cps.size - start = d → start ≤ x.cps.size → codesOf l ++ out start = out 0 → (∀ q ∈ l, q.1.cps.size ≤ 200) → l.length + 2 * d ≤ 1000 → Ex h₀ h → h₀.objs.size ≤ h.objs.size → h.PlainList D (strValues l).toArray →
      codeAny (model prog w) A (.builtin "re.Pattern.sub.loop" ⟨[.ref p, .str x tx, .str rep tr, rawInt 0, rawInt 0, rawInt n, rawInt start, rawInt start, .bool false, .ref D, .bool false], []⟩) R ⟨h, gens, drawn, tk, os⟩ := by
  intro d
  induction d using Nat.strongRecOn with
  | ind d ih =>
    intro start n l h tk hd hs hl hv hlen hex hsz2 pl
    refine codeAny_blt entry_re_loop (by decide +kernel) ?_
    unfold Builtin.«re.Pattern.sub.loop»
    refine wpAny_bind (whole_target (hp.keeps hex) ?_)
    dsimp only
    rw [if_pos (show ((0 : Int) == 0) = true from rfl)]
    refine wpAny_bind (m := reLiteralCannotBeTurned _) (wpAny_pure ?_)
    refine wpAny_bind ?_
    rw [if_neg (show ¬ (((0 : Int) != 0 && decide (n ≥ 0)) = true) from Bool.false_ne_true)]
    unfold reNextFound
    rw [Int.toNat_natCast]
    obtain ⟨nn, hn1, hn2⟩ := T.search start hs
    refine run_end hn1 hn2 (fun t m' h1 h2 h3 h4 h5 h6 => ?_) (fun hno => ?_)
    · have hw := T.within t h2 h3
      have hpos := T.pos t
      have hne : (m'.handed == m'.start) = false := by rw [h5, h6]; exact beq_eq_false_iff_ne.mpr (by omega)
      have hout := T.at_hit start t h1 h2 h3 h4
      have fin : ∀ (l' : List (Str × Tok)) (h' : Heap) (tk' : Nat), codesOf l' = codesOf l ++ (x.cps.extract start t).toList → (∀ q ∈ l', q.1.cps.size ≤ 200) → l'.length ≤ l.length + 1 → Ex h₀ h' → h₀.objs.size ≤ h'.objs.size → h'.PlainList D (strValues l').toArray →
          wpAny (model prog w) A.in1 (updateSeq D fun y => y.push (.str rep tr)) (fun _ s' => codeAny (model prog w) A (.builtin "re.Pattern.sub.loop" ⟨[.ref p, .str x tx, .str rep tr, rawInt 0, rawInt 0, rawInt (n + 1), rawInt m'.handed, rawInt m'.handed, .bool (m'.handed == m'.start), .ref D, .bool false], []⟩) R s')
            (fun e s' => R (.error e) s') ⟨h', gens, drawn, tk', os⟩ := by
        intro l' h' tk' e1 e2 e3 e4 e5 pl'
        refine upd_push pl' (by omega) fun h'' pl'' hs'' => ?_
        rw [hne, h6]
        refine ih (x.cps.size - (t + wid t)) (by omega) (t + wid t) (n + 1) _ h'' tk' rfl hw ?_ ?_ ?_ ?_ ?_ pl''
        · rw [← hl, hout]
          simp only [codesOf, List.map_append, List.flatten_append, List.map_cons, List.map_nil, List.flatten_cons, List.flatten_nil, List.append_nil]
          simp only [codesOf] at e1
          rw [e1]
          simp only [List.append_assoc]
        · intro q hq
          rcases List.mem_append.mp hq with hq | hq
          · exact e2 q hq
          · rw [List.mem_singleton.mp hq]; exact hrep
        · rw [List.length_append, List.length_singleton]; omega
        · intro b o eb
          exact hs''.extBut b o (by rintro rfl; rw [hD] at eb; cases eb) (e4 _ _ eb)
        · exact Nat.le_trans e5 (Nat.le_of_eq hs''.1.symm)
      dsimp only
      rw [h5]
      by_cases hlt : start < t
      · rw [if_pos hlt]
        refine wpAny_bind (re_slice (by omega) ?_)
        refine wpAny_bind (upd_push (by exact pl) (by omega) fun h' pl' hs' => ?_)
        rw [if_pos (show ((0 : Int) == 0) = true from rfl)]
        refine wpAny_bind (wpAny_pure ?_)
        rw [if_pos (by rfl)]
        rw [h5] at fin
        refine wpAny_bind (wpAny_mono (fin _ h' _ ?_ ?_ ?_ ?_ ?_ pl') (fun _ s' z => wpAny_pure ⟨plainId_quiet (by decide +kernel) _, z⟩) fun _ _ z => z)
        · simp [codesOf]
        · intro q hq
          rcases List.mem_append.mp hq with hq | hq
          · exact hv q hq
          · rw [List.mem_singleton.mp hq]
            show (x.cps.extract start t).size ≤ 200
            rw [Array.size_extract]; omega
        · rw [List.length_append, List.length_singleton]; omega
        · intro b o eb
          exact hs'.extBut b o (by rintro rfl; rw [hD] at eb; cases eb) (hex _ _ eb)
        · exact Nat.le_trans hsz2 (Nat.le_of_eq hs'.1.symm)
      · rw [if_neg hlt]
        rw [if_pos (show ((0 : Int) == 0) = true from rfl)]
        refine wpAny_bind (wpAny_pure ?_)
        rw [if_pos (by rfl)]
        rw [h5] at fin
        refine wpAny_bind (wpAny_mono (fin l h _ ?_ hv (by omega) hex hsz2 pl) (fun _ s' z => wpAny_pure ⟨plainId_quiet (by decide +kernel) _, z⟩) fun _ _ z => z)
        have : t = start := by omega
        subst this
        simp
    · have hout := T.at_end start hs hno
      have fin : ∀ (l' : List (Str × Tok)) (h' : Heap) (tk' : Nat), codesOf l' = out 0 → (∀ q ∈ l', q.1.cps.size ≤ 200) → l'.length ≤ 1001 → Ex h₀ h' → h₀.objs.size ≤ h'.objs.size → h'.PlainList D (strValues l').toArray →
          wpAny (model prog w) A.in1 (do
              let joiner ← reSlice x.cps 0 0 0
              let y ← seqItems? (Value.ref D)
              if (y.getD #[]).isEmpty = true then do
                  let text ← pure joiner
                  if false = true then (do let z ← holding [text] (do let k ← mkInt n; newTuple [text, k]); ret z) else ret text
              else do
                  let text ← call (Value.builtin (if ((0 : Nat) == 0) = true then "str.join" else "bytes.join")) [joiner, Value.ref D]
                  if false = true then (do let z ← holding [text] (do let k ← mkInt n; newTuple [text, k]); ret z) else ret text)
            (fun fin s' => match fin with | .done f => R (.ok f) s' | .again c' => c'.quiet = true ∧ codeAny (model prog w) A c' R s') (fun e s' => R (.error e) s') ⟨h', gens, drawn, tk', os⟩ := by
        intro l' h' tk' e1 e2 e3 e4 e5 pl'
        have hx0 : (⟨x.cps.extract 0 0⟩ : Str) = ⟨#[]⟩ := by simp
        refine wpAny_bind (re_slice (by omega) ?_)
        rw [hx0]
        obtain ⟨k, ho⟩ := id pl'
        refine wpAny_bind (wpAny_seqItems ho rfl ?_)
        cases l' with
        | nil =>
          rw [if_pos (by rfl)]
          refine wpAny_bind (wpAny_pure ?_)
          rw [if_neg Bool.false_ne_true]
          refine wpAny_pure ?_
          have := hR h' tk' (tk' + 1) e4 e5
          rw [← e1] at this
          exact this
        | cons a r =>
          rw [if_neg (by simp [strValues])]
          rw [if_pos (show ((0 : Nat) == 0) = true from rfl)]
          refine wpAny_bind (SC.join (l := a :: r) (by exact pl'.isList) rfl ?_ fun t' k' => ?_)
          · unfold JoinOk
            rw [StrLaws.joinFits (B := 200) ?hb ?hc]
            · rfl
            case hc =>
              rw [List.length_map]
              have : (⟨#[]⟩ : Str).length = 0 := rfl
              rw [this]; omega
            case hb =>
              intro y hy
              obtain ⟨q, hq, rfl⟩ := List.mem_map.mp hy
              exact e2 q hq
          · rw [if_neg Bool.false_ne_true]
            refine wpAny_pure ?_
            have hj := join_codes (a :: r)
            rw [e1] at hj
            have := hR h' t' k' e4 e5
            rw [← hj] at this
            exact this
      dsimp only
      by_cases hlt : start < x.cps.size
      · rw [if_pos hlt]
        refine wpAny_bind (re_slice (by omega) ?_)
        refine wpAny_bind (upd_push (by exact pl) (by omega) fun h' pl' hs' => ?_)
        refine fin _ h' _ ?_ ?_ ?_ ?_ ?_ pl'
        · rw [← hl, hout]; simp [codesOf]
        · intro q hq
          rcases List.mem_append.mp hq with hq | hq
          · exact hv q hq
          · rw [List.mem_singleton.mp hq]
            show (x.cps.extract start x.cps.size).size ≤ 200
            rw [Array.size_extract]; omega
        · rw [List.length_append, List.length_singleton]; omega
        · intro b o eb
          exact hs'.extBut b o (by rintro rfl; rw [hD] at eb; cases eb) (hex _ _ eb)
        · exact Nat.le_trans hsz2 (Nat.le_of_eq hs'.1.symm)
      · rw [if_neg hlt]
        refine fin l h _ ?_ hv (by omega) hex hsz2 pl
        have : start = x.cps.size := by omega
        rw [← hl, hout, this]; simp
end
end
-- RT
section
open PySem PySem.W PyProof.Rows
open PySem PySem.Spec PySem.Calls
open PySem.Sre PySem.Builtin.Re

theorem no_call_str : typeLookup (.type "str") "__call__" = pure none := by rw [typeLookup_type, builtinLookup_eq_fast]; kernel_rfl
section
variable {prog : Program} {w : World} {A : Around} {E : Value → Shared → Prop} {s : Shared}
theorem re_sub {p : Addr} {code : Array Nat} {x : Str} {tx : Tok} {rep : Str} {tr : Tok} {out : Nat → List Nat} {hit : Nat → Prop} {wid : Nat → Nat} {Q : Value → Shared → Prop} (T : Turn code rep.cps.toList x.cps out hit wid) (hsz : x.cps.size ≤ 200) (hrep : rep.cps.size ≤ 200)
    (h92 : rep.cps.contains 92 = false) (hp : Pat s.heap p code)
    (h : ∀ h' t tk, Ex s.heap h' → s.heap.objs.size ≤ h'.objs.size → Q (.str ⟨(out 0).toArray⟩ t) { s with heap := h', toks := tk }) :
    wpAny (model prog w) A (call (.builtin "re.Pattern.sub") [.ref p, .str rep tr, .str x tx]) Q E s := by
  have hT : s.TypeIs (.ref p) "re.Pattern" := by
    obtain ⟨o, _, _, _, _, _, h1, h2, _⟩ := hp
    exact ⟨o, h1, h2⟩
  refine wpAny_call (codeAny_call_builtin slot_re_sub.plain entry_re_sub (slot_re_sub.check _ _ _ _ _ _ _ _ hT (args_re_sub _ _ _) ?_))
  unfold Builtin.«re.Pattern.sub» reSubstitute
  try dsimp only
  refine wpAny_bind (wpAny_of_eq (a := [some (.str rep tr), some (.str x tx), none]) (by first | rfl | kernel_rfl!) ?_)
  try dsimp only
  refine wpAny_bind (wpAny_pure ?_)
  refine wpAny_bind (wpAny_specialOf (name := Str.ofString "__call__") (typeIs_str _ _ _) no_call_str ?_)
  try dsimp only
  rw [if_neg (by simp)]
  refine wpAny_bind (m := asStr? _) (wpAny_of_eq (a := some rep) (by rfl) ?_)
  try dsimp only
  refine wpAny_bind (wpAny_pure ?_)
  rw [h92]
  rw [if_neg (by decide), if_pos (by decide)]
  refine wpAny_bind (wpAny_pure ?_)
  try dsimp only
  refine wpAny_bind (wpAny_holding (whole_target hp ?_))
  rw [if_neg (by decide)]
  refine wpAny_bind (new_list (by simp) fun h' D nw pl => ?_)
  refine wpAny_pure ⟨plainId_quiet (by decide +kernel) _, ?_⟩
  exact sub_loop T hsz hrep hp nw.fresh (fun h'' t tk e z => h h'' t tk e z) x.cps.size 0 0 [] h' s.toks (by omega) (Nat.zero_le _) (by simp [codesOf]) (by simp) (by simp; omega) nw.ex nw.sz pl
end

/-- line ends made alike -/
def crlf : List Nat → List Nat
  | [] => []
  | [c] => if c = 10 ∨ c = 13 then [13, 10] else [c]
  | c :: d :: r => if c = 13 ∧ d = 10 then 13 :: 10 :: crlf r else if c = 10 ∨ c = 13 then 13 :: 10 :: crlf (d :: r) else c :: crlf (d :: r)
theorem crlf_one (c : Nat) : crlf [c] = if c = 10 ∨ c = 13 then [13, 10] else [c] := rfl
theorem crlf_two (c d : Nat) (r : List Nat) : crlf (c :: d :: r) = if c = 13 ∧ d = 10 then 13 :: 10 :: crlf r else if c = 10 ∨ c = 13 then 13 :: 10 :: crlf (d :: r) else c :: crlf (d :: r) := by rw [crlf]
/-- a dot that begins a line doubled -/
def dts : Bool → List Nat → List Nat
  | _, [] => []
  | b, c :: r => if b = true ∧ c = 46 then 46 :: 46 :: dts false r else c :: dts (c == 10) r

def out1 (text : Array Nat) (i : Nat) : List Nat := dts (decide (i = 0 ∨ text.getD (i - 1) 0 = 10)) (text.toList.drop i)
def out2 (text : Array Nat) (i : Nat) : List Nat := crlf (text.toList.drop i)

theorem drop_cons {text : Array Nat} {i : Nat} (h : i < text.size) : text.toList.drop i = text.getD i 0 :: text.toList.drop (i + 1) := by
  rw [List.drop_eq_getElem_cons (by simpa using h)]
  simp [Array.getD, h]
theorem ext_cons {text : Array Nat} {i t : Nat} (h : i < t) (ht : t ≤ text.size) : (text.extract i t).toList = text.getD i 0 :: (text.extract (i + 1) t).toList := by
  rw [Array.toList_extract, Array.toList_extract, List.extract_eq_drop_take, List.extract_eq_drop_take, drop_cons (by omega), show t - i = (t - (i + 1)) + 1 by omega, List.take_succ_cons]

theorem wid2_pos (text : Array Nat) (t : Nat) : 0 < wid2 text t := by
  by_cases h : text.getD t 0 = 13 ∧ t + 1 < text.size ∧ text.getD (t + 1) 0 = 10
  · rw [show wid2 text t = 2 from if_pos h]; decide
  · rw [show wid2 text t = 1 from if_neg h]; decide
theorem wid2_le {text : Array Nat} {t : Nat} (ht : t < text.size) : t + wid2 text t ≤ text.size := by
  by_cases h : text.getD t 0 = 13 ∧ t + 1 < text.size ∧ text.getD (t + 1) 0 = 10
  · rw [show wid2 text t = 2 from if_pos h]; omega
  · rw [show wid2 text t = 1 from if_neg h]; omega
theorem out1_hit {text : Array Nat} {i : Nat} (h : i < text.size) (hh : hit1 text i) : out1 text i = [46, 46] ++ out1 text (i + 1) := by
  unfold out1
  rw [drop_cons h, decide_eq_true hh.1, dts, if_pos ⟨rfl, hh.2⟩]
  have : decide (i + 1 = 0 ∨ text.getD (i + 1 - 1) 0 = 10) = false := decide_eq_false (by
    rw [Nat.add_sub_cancel, hh.2]; rintro (q | q) <;> omega)
  rw [this]; rfl
theorem out1_no {text : Array Nat} {i : Nat} (h : i < text.size) (hh : ¬ hit1 text i) : out1 text i = text.getD i 0 :: out1 text (i + 1) := by
  unfold out1
  rw [drop_cons h, dts, if_neg (fun q => hh ⟨of_decide_eq_true q.1, q.2⟩)]
  have : decide (i + 1 = 0 ∨ text.getD (i + 1 - 1) 0 = 10) = (text.getD i 0 == 10) := by
    rw [Nat.add_sub_cancel]
    by_cases q : text.getD i 0 = 10
    · rw [q]; simp
    · have z : ¬ (i + 1 = 0 ∨ text.getD i 0 = 10) := fun z => z.elim (by omega) q
      rw [decide_eq_false z]; exact (beq_eq_false_iff_ne.mpr q).symm
  rw [← this]
theorem out2_no {text : Array Nat} {i : Nat} (h : i < text.size) (hh : ¬ hit2 text i) : out2 text i = text.getD i 0 :: out2 text (i + 1) := by
  unfold out2
  rw [drop_cons h]
  have h1 : ¬ (text.getD i 0 = 10 ∨ text.getD i 0 = 13) := hh
  rcases Nat.lt_or_ge (i + 1) text.size with q | q
  · rw [drop_cons q, crlf_two, if_neg (fun z => h1 (.inr z.1)), if_neg h1]
  · rw [List.drop_eq_nil_of_le (by simpa using q), crlf_one, if_neg h1]; rfl
theorem out2_hit {text : Array Nat} {i : Nat} (h : i < text.size) (hh : hit2 text i) : out2 text i = [13, 10] ++ out2 text (i + wid2 text i) := by
  unfold out2
  rw [drop_cons h]
  have h1 : text.getD i 0 = 10 ∨ text.getD i 0 = 13 := hh
  rcases Nat.lt_or_ge (i + 1) text.size with q | q
  · rw [drop_cons q, crlf_two]
    by_cases z : text.getD i 0 = 13 ∧ text.getD (i + 1) 0 = 10
    · rw [if_pos z, show wid2 text i = 2 from if_pos ⟨z.1, q, z.2⟩]; rfl
    · rw [if_neg z, if_pos h1, show wid2 text i = 1 from if_neg fun y => z ⟨y.1, y.2.2⟩, drop_cons q]; rfl
  · have hw := wid2_pos text i
    have e1 : text.toList.drop (i + 1) = [] := List.drop_eq_nil_of_le (by simpa using q)
    have e2 : text.toList.drop (i + wid2 text i) = [] := List.drop_eq_nil_of_le (by rw [Array.length_toList]; omega)
    rw [e1, e2, crlf_one, if_pos h1]; rfl

theorem turn_of {code : Array Nat} {rep : List Nat} {text : Array Nat} {out : Nat → List Nat} {hit : Nat → Prop} {wid : Nat → Nat}
    (search : ∀ start, start ≤ text.size → ∃ n, n < 4 * 2 ^ 64 ∧ Reach (Ends hit wid text.size start) n (forSearch code text 0 start text.size false))
    (pos : ∀ t, 0 < wid t) (within : ∀ t, t < text.size → hit t → t + wid t ≤ text.size)
    (h1 : ∀ i, i < text.size → hit i → out i = rep ++ out (i + wid i)) (h2 : ∀ i, i < text.size → ¬ hit i → out i = text.getD i 0 :: out (i + 1)) (h3 : out text.size = []) : Turn code rep text out hit wid := by
  refine ⟨search, pos, within, ?_, ?_⟩
  · intro start t hst
    obtain ⟨d, rfl⟩ := Nat.exists_eq_add_of_le hst
    clear hst
    induction d generalizing start with
    | zero => intro ht hh _; rw [Nat.add_zero] at *; rw [h1 _ ht hh]; simp
    | succ d ih =>
      intro ht hh hno
      rw [show start + (d + 1) = (start + 1) + d by omega] at ht hh hno ⊢
      rw [h2 start (by omega) (hno start (Nat.le_refl _) (by omega)), ext_cons (by omega) (by omega), ih (start + 1) ht hh fun u q1 q2 => hno u (by omega) q2]
      rfl
  · intro start hs
    obtain ⟨d, e⟩ := Nat.exists_eq_add_of_le hs
    clear hs
    induction d generalizing start with
    | zero =>
      intro _
      have : start = text.size := by omega
      subst this; rw [h3]; simp
    | succ d ih =>
      intro hno
      rw [h2 start (by omega) (hno start (Nat.le_refl _) (by omega)), ext_cons (by omega) (Nat.le_refl _), ih (start + 1) (by omega) fun u q1 q2 => hno u (by omega) q2]

theorem turn1 {text : Array Nat} (hsz : text.size ≤ 100000) : Turn C1 [46, 46] text (out1 text) (hit1 text) (fun _ => 1) :=
  turn_of (fun start hs => ⟨_, by omega, search1 hs⟩) (fun _ => by decide) (fun t h _ => h) (fun i h hh => out1_hit h hh) (fun i h hh => out1_no h hh) (by unfold out1; rw [List.drop_eq_nil_of_le (by simp)]; rfl)
theorem turn2 {text : Array Nat} : Turn C2 [13, 10] text (out2 text) (hit2 text) (wid2 text) :=
  turn_of (fun start hs => ⟨_, by decide, search2 hs⟩) (fun t => wid2_pos text t) (fun t h _ => wid2_le h) (fun i h hh => out2_hit h hh) (fun i h hh => out2_no h hh) (by unfold out2; rw [List.drop_eq_nil_of_le (by simp)]; rfl)
end
-- LW
section
open PySem PySem.W PyProof.Rows
open PySem PySem.Spec PySem.Calls

noncomputable abbrev lawFd (P : Params) : FuncData := fdOf (hd.heap_39 P) 99
noncomputable def lawEnv (P : Params) (L : Addr) : Env := callEnvC (lawFd P) L 99
noncomputable def lawBody (P : Params) : List Stmt := match (lawFd P).body with | .stmts b => b | _ => []
noncomputable def lawSt (P : Params) (i : Nat) : Stmt := (lawBody P).getD i (.Pass ⟨0, 0, 0, 0⟩)

/-- D is new, everything else stands -/
structure Nx (h h' : Heap) (D : Addr) : Prop where
  fresh : h.get? D = none
  ex : Ex h h'
theorem Nw.x {h h' : Heap} {D : Addr} (n : Nw h h' D) : Nx h h' D := ⟨n.fresh, n.ex⟩
theorem Nx.after {h h₁ h' : Heap} {D : Addr} (k : Ex h h₁) (n : Nx h₁ h' D) : Nx h h' D := by
  refine ⟨?_, fun b o e => n.ex _ _ (k _ _ e)⟩
  cases q : h.get? D with
  | none => rfl
  | some o => have := n.fresh; rw [k _ _ q] at this; cases this
theorem Nx.before {h h₁ h' : Heap} {D : Addr} (n : Nx h h₁ D) (k : Ex h₁ h') : Nx h h' D := ⟨n.fresh, fun b o e => k _ _ (n.ex _ _ e)⟩

/-- the law's frame: what turns stands in S, what stays in G -/
structure LFr (S : List Addr) (G : Heap) (P : Params) (L : Addr) (m cm : Str → Option Value) (h : Heap) : Prop where
  ns : h.Ns L m
  cell : ∀ n c, (lawEnv P L).cells.lookup n = some c → h.IsCell c (cm n)
  gr : Ex G h
  off : ∀ a ∈ S, G.get? a = none
  live : ∀ a ∈ S, ∃ o, h.get? a = some o
  inL : L ∈ S
  inC : ∀ n c, (lawEnv P L).cells.lookup n = some c → c ∈ S
  apart : (lawEnv P L).cells.Pairwise fun x y => x.2 ≠ y.2
  above : ∀ n c, (n, c) ∈ (lawEnv P L).cells → L < c

theorem SameBut.live {a : Addr} {h h' : Heap} {S : List Addr} (hs : Heap.SameBut a h h') (ha : ∃ o, h'.get? a = some o) (hl : ∀ b ∈ S, ∃ o, h.get? b = some o) : ∀ b ∈ S, ∃ o, h'.get? b = some o := fun b hb => by
  by_cases e : b = a
  · subst e; exact ha
  · obtain ⟨o, ho⟩ := hl b hb
    exact ⟨o, (hs.2 b e).trans ho⟩

namespace LFr
variable {S : List Addr} {G : Heap} {P : Params} {L : Addr} {m cm : Str → Option Value} {h : Heap}

theorem ex {h' : Heap} (x : LFr S G P L m cm h) (k : Ex h h') : LFr S G P L m cm h' :=
  ⟨x.ns.keeps k, fun n c e => (x.cell n c e).keeps k, fun b o e => k _ _ (x.gr _ _ e), x.off, fun a ha => let ⟨o, ho⟩ := x.live a ha; ⟨o, k _ _ ho⟩, x.inL, x.inC, x.apart, x.above⟩

/-- what the call has made anew stays from now on -/
theorem grow {h' : Heap} (x : LFr S G P L m cm h) (k : Ex h h') : LFr S (hideAll h' S) P L m cm h' :=
  ⟨x.ns.keeps k, fun n c e => (x.cell n c e).keeps k, fun b o e => of_hideAll _ e, fun a ha => hideAll_none _ ha, fun a ha => let ⟨o, ho⟩ := x.live a ha; ⟨o, k _ _ ho⟩, x.inL, x.inC, x.apart, x.above⟩
theorem grown {h' : Heap} (x : LFr S G P L m cm h) (k : Ex h h') : Ex G (hideAll h' S) := fun b o e =>
  hideAll_get _ (k _ _ (x.gr _ _ e)) fun hb => by rw [x.off b hb] at e; cases e
theorem made {h' : Heap} {D : Addr} {o : Obj} (x : LFr S G P L m cm h) (hD : h.get? D = none) (e : h'.get? D = some o) : (hideAll h' S).get? D = some o :=
  hideAll_get _ e fun hb => by obtain ⟨o', ho⟩ := x.live D hb; rw [hD] at ho; cases ho
theorem madeL {h' : Heap} {D : Addr} {its : Array Value} (x : LFr S G P L m cm h) (n : Nx h h' D) (e : h'.PlainList D its) : (hideAll h' S).PlainList D its := let ⟨k, e⟩ := e; ⟨k, x.made n.fresh e⟩
/-- a list that turns no more -/
theorem widen {h' : Heap} {S' : List Addr} (x : LFr S G P L m cm h) (hS : ∀ a ∈ S', a ∈ S) (hL : L ∈ S') (hC : ∀ n c, (lawEnv P L).cells.lookup n = some c → c ∈ S') (k : Ex h h') : LFr S' (hideAll h' S') P L m cm h' :=
  ⟨x.ns.keeps k, fun n c e => (x.cell n c e).keeps k, fun b o e => of_hideAll _ e, fun a ha => hideAll_none _ ha, fun a ha => let ⟨o, ho⟩ := x.live a (hS a ha); ⟨o, k _ _ ho⟩, hL, hC, x.apart, x.above⟩
/-- something that turns from now on -/
theorem more {D : Addr} (x : LFr S G P L m cm h) (hD : G.get? D = none) (hl : ∃ o, h.get? D = some o) : LFr (D :: S) G P L m cm h :=
  ⟨x.ns, x.cell, x.gr, fun a ha => (List.mem_cons.mp ha).elim (fun e => e ▸ hD) (x.off a), fun a ha => (List.mem_cons.mp ha).elim (fun e => e ▸ hl) (x.live a), .tail _ x.inL, fun n c e => .tail _ (x.inC n c e), x.apart, x.above⟩
/-- a thing of S, no name's, turned -/
theorem change {h' : Heap} {D : Addr} (x : LFr S G P L m cm h) (hD : D ∈ S) (hDL : D ≠ L) (hDc : ∀ n c, (lawEnv P L).cells.lookup n = some c → D ≠ c) (hs : Heap.SameBut D h h') (hl : ∃ o, h'.get? D = some o) : LFr S G P L m cm h' :=
  ⟨x.ns.sameBut hs hDL.symm, fun n c e => (x.cell n c e).sameBut hs (hDc n c e).symm, fun b o e => hs.extBut b o (fun q => by rw [q, x.off D hD] at e; cases e) (x.gr _ _ e), x.off, SameBut.live hs hl x.live, x.inL, x.inC, x.apart, x.above⟩
end LFr

section
variable {prog : Program} {w : World} {A : Around} {E : Value → Shared → Prop} {s : Shared} {S : List Addr} {G : Heap} {P : Params} {L : Addr} {m cm : Str → Option Value}

theorem rdL {x : Str} {pos : Pos} {v : Value} {Q : Value → Shared → Prop} (F : LFr S G P L m cm s.heap) (hv : m x = some v) (h : Q v s) (hl : (lawEnv P L).kindOf x = some .local := by rfl) (hd : (x == ("__debug__" : Str)) = false := by decide) :
    wpAny (model prog w) A (eval (.Name x pos) (lawEnv P L)) Q E s := wpAny_Name (wpAny_loadName_local rfl hl F.ns hv h) hd
theorem rdC {x : Str} {pos : Pos} {v : Value} {c : Addr} {Q : Value → Shared → Prop} (F : LFr S G P L m cm s.heap) (hv : cm x = some v) (h : Q v s) (hl : (lawEnv P L).kindOf x = some .cell := by rfl) (hc : (lawEnv P L).cells.lookup x = some c := by rfl) (hd : (x == ("__debug__" : Str)) = false := by decide) :
    wpAny (model prog w) A (eval (.Name x pos) (lawEnv P L)) Q E s := wpAny_Name (wpAny_loadName_cell rfl hl hc (hv ▸ F.cell x c hc) h) hd
theorem wrL {x : Str} {v : Value} {Q : Unit → Shared → Prop} (F : LFr S G P L m cm s.heap)
    (h : ∀ h', LFr S G P L (fun y => if y = x then some v else m y) cm h' → Heap.SameBut L s.heap h' → Q () { s with heap := h', toks := s.toks + 1 }) (hl : (lawEnv P L).kindOf x = some .local := by rfl) :
    wpAny (model prog w) A (storeName (lawEnv P L) x v) Q E s := by
  refine wpAny_storeName_local hl F.ns (fun h' hn hs => h h' ⟨hn, fun n c e => (F.cell n c e).sameBut hs (Nat.ne_of_gt (F.above n c (mem_of_lookup e))), ?_, F.off, SameBut.live hs ?_ F.live, F.inL, F.inC, F.apart, F.above⟩ hs) (by rfl)
  · intro b o e
    exact hs.extBut b o (fun q => by have := F.off L F.inL; rw [← show b = L from q, e] at this; cases this) (F.gr _ _ e)
  · obtain ⟨o, _, _, ho, _⟩ := hn; exact ⟨o, ho⟩
theorem wrC {x : Str} {v : Value} {c : Addr} {Q : Unit → Shared → Prop} (F : LFr S G P L m cm s.heap)
    (h : ∀ h', LFr S G P L m (fun y => if y = x then some v else cm y) h' → Heap.SameBut c s.heap h' → Q () { s with heap := h' }) (hl : (lawEnv P L).kindOf x = some .cell := by rfl) (hc : (lawEnv P L).cells.lookup x = some c := by rfl) :
    wpAny (model prog w) A (storeName (lawEnv P L) x v) Q E s := by
  have hLc := F.above x c (mem_of_lookup hc)
  refine wpAny_storeName_cell rfl hl hc (F.cell x c hc) fun h' hc' hs => h h' ⟨F.ns.sameBut hs (Nat.ne_of_lt hLc), fun n c' e => ?_, ?_, F.off, SameBut.live hs ?_ F.live, F.inL, F.inC, F.apart, F.above⟩ hs
  · by_cases hn : n = x
    · subst hn
      rw [hc] at e; cases e
      simpa using hc'
    · rw [if_neg hn]
      exact (F.cell n c' e).sameBut hs fun q => hn (name_of_addr F.apart (mem_of_lookup e) (q ▸ mem_of_lookup hc))
  · intro b o e
    exact hs.extBut b o (fun q => by have := F.off c (F.inC x c hc); rw [← show b = c from q, e] at this; cases this) (F.gr _ _ e)
  · obtain ⟨o, ho, _⟩ := hc'; exact ⟨o, ho⟩

/-- a comprehension over what a walk gives, each turn adding to the heap alone -/
theorem comp_gen {env : Env} {elt iter : Expr} {x : Str} {px : Pos} {ifs : List Expr} {scope : Scope} {cl : List (Str × Addr)} {pos : Pos} {Q : Value → Shared → Prop} (n : Nat) (PP : Nat → Value → Prop) (p : Value → Bool) (F : Value → Value → Prop)
    (hclos : closureFor scope env = pure cl) (hcell : ∀ y ∈ scope.names, y.2 ≠ .cell) (hkind : scope.kind = .function)
    (hnames : ∀ y ∈ scope.names, y.2 = .local → scope.names.lookup y.1 = some .local) (hx : scope.names.lookup x = some .local) (hn : n ≤ 1000)
    (hiter : ∀ Q' : Value → Shared → Prop, (∀ I fp P St h tk, Walks prog w A I fp [I] n P St → (∀ i v, P i v → i < n ∧ PP i v) → St 0 h → (∀ b ∈ fp, b < h.objs.size) → Nx s.heap h I → Q' (.ref I) { s with heap := h, toks := tk }) →
      wpAny (model prog w) A (eval iter env) (fun xv s₁ => wpAny (model prog w) A (pyIter xv) Q' E s₁) E s)
    (htest : ∀ C v (s₃ : Shared) m₃ E', (∃ i, i < n ∧ PP i v) → Ex s.heap s₃.heap → s₃.heap.Ns C m₃ → m₃ x = some v →
      wpAny (model prog w) A (forIn ifs true fun c r => if r = true then do let ok ← isTrue c (compEnvC scope cl C env) (eval c (compEnvC scope cl C env)); pure (ForInStep.yield ok) else pure (ForInStep.yield r))
        (fun ok s₄ => ok = p v ∧ Keeps s₃ s₄) E' s₃)
    (helt : ∀ C v (s₃ : Shared) m₃ E', (∃ i, i < n ∧ PP i v) → p v = true → Ex s.heap s₃.heap → s₃.heap.Ns C m₃ → m₃ x = some v →
      wpAny (model prog w) A (eval elt (compEnvC scope cl C env)) (fun y s₄ => F v y ∧ Keeps s₃ s₄) E' s₃)
    (h : ∀ D h' tk ys (vs : List Value), Nx s.heap h' D → h'.PlainList D (List.toArray ys) → vs.length = n → (∀ i v, vs[i]? = some v → PP i v) → Paired F (vs.filter p) ys → Q (.ref D) { s with heap := h', toks := tk })
    (hs : ∀ x, foldedSetIterable iter env x = pure x := by intro _; rfl) :
    wpAny (model prog w) A (eval (.ListComp elt [⟨.Name x px, iter, ifs, 0⟩] scope pos) env) Q E s := by
  refine wpAny_ListComp_free p F hclos hcell hkind hnames hx (hiter _ fun I fp P₀ St h₂ tk₂ W hPP hst hfp hI => ?_) hs
  have hsz : sizeLine = 16777216 := by decide
  have up : ∀ h₃ : Heap, (∀ b o, b ∉ [I] → h₂.get? b = some o → h₃.get? b = some o) → Ex s.heap h₃ := fun h₃ k b o e => k b o (by
    intro hb
    rw [List.mem_singleton.mp hb, hI.fresh] at e; cases e) (hI.ex _ _ e)
  refine ⟨I, fp, [I], n, P₀, St, rfl, W, by rw [hsz]; omega, hst, hfp, ⟨?_, ?_⟩, ?_⟩
  · intro C i v s₃ m₃ E' hC hP hn3 hm3 hk3 htk
    exact htest C v s₃ m₃ E' ⟨i, hPP i v hP⟩ (up _ hk3) hn3 hm3
  · intro C i v s₃ m₃ E' hC hP hp hn3 hm3 hk3 htk
    exact helt C v s₃ m₃ E' ⟨i, hPP i v hP⟩ hp (up _ hk3) hn3 hm3
  · intro D h' tk ys vs hD hl hpl hlen hP hF hk
    refine h D h' tk ys.toList vs ⟨?_, up _ hk⟩ (by simpa using hpl) hlen (fun i v e => (hPP i v (hP i v e)).2) hF
    cases q : s.heap.get? D with
    | none => rfl
    | some o => have := hI.ex _ _ q; rw [show h₂.get? D = none from hD] at this; cases this

/-- the ints of a range -/
theorem range_iter {env : Env} {e : Expr} {p1 p2 : Pos} {n : Nat} {Q' : Value → Shared → Prop} (hh : A.handled = none) (B : Bs w.params s.heap) (hn : n ≤ 1000)
    (he : ∀ Q'' : Value → Shared → Prop, (∀ h' t tk, Ex s.heap h' → Q'' (.int n t) { s with heap := h', toks := tk }) → wpAny (model prog w) A (eval e env) Q'' E s)
    (h : ∀ I fp P St h tk, Walks prog w A I fp [I] n P St → (∀ i v, P i v → i < n ∧ ∃ t, v = .int i t) → St 0 h → (∀ b ∈ fp, b < h.objs.size) → Nx s.heap h I → Q' (.ref I) { s with heap := h, toks := tk })
    (hk : env.scope.kind = .function := by rfl) (hx : env.kindOf "range" = some .globalImplicit := by rfl) (hg : env.globals = mainGlobals := by rfl) (hb : env.builtins = builtinsNs := by rfl) (hs : starEach [e] env = [(false, eval e env)] := by rfl) :
    wpAny (model prog w) A (eval (.Call (.Name "range" p1) [e] [] p2) env) (fun xv s₁ => wpAny (model prog w) A (pyIter xv) Q' E s₁) E s := by
  refine Call_Name1 ?_ hs
  refine nm_blt B bt_range ?_ (by rfl) (by decide) hk hx hg hb
  refine PyProof.Rows.callWith_type rfl (Calls.evalArgs_plain (Calls.spliced_cons (he _ fun h₁ t tk k₁ => Calls.spliced_nil ?_)))
  refine call_range_1 ?_
  have k₂ : Ex h₁ (h₁.push { cls := .type "range", data := .fields #[.int 0 tk, .int n t, .int 1 (tk + 1)] }) := fun b o e => Heap.get?_push_of_some _ e
  refine wpAny_pyIter_range (IsRange.new ..) (small_one (by decide) (by decide) (by omega) (by omega)) ?_
  have hsz : Builtin.Range.rangeSize 0 n 1 = (n : Int) := by rw [rangeSize_one]; split <;> omega
  rw [hsz]
  refine h _ _ _ _ _ _ ((Walks.range hh _ 0 1 n).bound) (fun i v hp => ⟨hp.1, ?_⟩) ?_ ?_ ?_
  · obtain ⟨t, rfl⟩ := hp.2
    exact ⟨t, by rw [Int.zero_add, Int.mul_one]⟩
  · show IsRangeIter _ _ _ _ _
    simp only [Int.ofNat_zero, Int.zero_mul, Int.add_zero, Int.sub_zero, Int.natCast_zero]
    exact Heap.get?_push_size _ rfl
  · intro b hb
    rw [List.mem_singleton.mp hb]; simp only [Heap.size_push]; exact Nat.lt_succ_self _
  · exact Nx.after k₁ (Nx.after k₂ (Nw.push _ _).x)
end
end
-- EN
section
open PySem PySem.W PyProof.Rows
open PySem PySem.Spec PySem.Calls
/-- what the two lambdas need -/
structure Lg (H : Heap) : Prop where
  gl : ∃ mg, H.Ns mainGlobals mg ∧ H.BuiltinsAt mg 96 ∧ mainGlobals ≠ 96
  tab : H.get? 96 = some (tabObj #[])
  C : CodeHd H 98 96
/-- the law, run at a list of ints, answers true and leaves all as it was but the table of its codes -/
def LawRun : Prop := ∀ (prog : Program) (w : World) (s : Shared) (l : Addr) (vs : List Value) (ns : List Int), Bs w.params s.heap → Lg s.heap → s.heap.IsList l vs.toArray → IntsAre vs ns → ns.length ≤ 63 →
  codeAny (model prog w) callerA (.call (.ref 99) ⟨[.ref l], []⟩) (fun r s' => ∃ h' tk, r = .ok (.ret (.bool true)) ∧ s' = { s with heap := h', toks := tk } ∧ Ex (ghostOf s.heap [(98, 96)]) h' ∧ GrownAt 96 h') s
theorem lg_of {p : Program} {loose : List Str} {mean : ExcName → Option Value} {mg mb : Str → Option Value} {h : Heap} (T : Top p loose mean mg mb h) (hT : TabsAt [(98, 96)] h) : Lg h := by
  have hP := (hT _ (.head _)).2
  obtain ⟨bm, ob, b1, b2, b3, b4, b5, b6⟩ := T.bmain
  have hgP : mainGlobals ≠ 96 := fun q => by
    obtain ⟨o, es, ep, e, hd, _⟩ := T.g
    rw [q, hP] at e; cases e; cases hd
  have hbP : bm ≠ 96 := fun q => by
    rw [q, hP] at b3; cases b3; cases b4
  have hbG : bm ≠ mainGlobals := fun q => by
    obtain ⟨o, es, ep, e, hd, _⟩ := T.g
    rw [q, e] at b3; cases b3; rw [hd] at b6; cases b6
  exact ⟨⟨mg, T.g, ⟨bm, ob, b1, b2, hbG, hbP, b3, b4, b5, b6⟩, hgP⟩, hP, (hT _ (.head _)).1⟩
set_option maxRecDepth 100000 in
set_option maxHeartbeats 8000000 in
theorem law_holds (LR : LawRun) : PySem.Challenge.rw_sn0011_01.Holds := hd (by
  k_fill
  intro w s₀ s₁ mg mb G Y fa o pm cd doc dV kV ho hd hcd hD hmg hg args vals as hpre hlay hrd hwl hlo
  have KX := km_in_of Y
  km_tabs Y
  have X := (Ground.X G).1
  have V := (Ground.X G).2
  refine Ground.open G ?_
  intro T B D TE TW
  have e99 : fa = 99 := Value.ref.inj (Option.some.inj (hmg.symm.trans (mg_of (n := "law") KX T.g rfl)))
  subst e99
  try (refine guard_noD D (by decide +kernel) ?_; clear D)
  km_lay T hmg ho hd cd
  clear hmg
  wrow_args hpre hlay hrd hwl hlo
  all_goals (
    first | refine callC_kw (enter_call ?_) | refine enter_call ?_
    w_top on
    kn_posts
    refine codeAny_mono (LR _ _ _ _ _ _ ⟨KX, Top.nolimit T, ⟨_, T.g⟩, ⟨_, T.b, T.builtins⟩⟩ (lg_of T (by assumption)) (by assumption) (by assumption) ?_) ?_)
  · omega
  · rintro r s' ⟨h', tk, rfl, rfl, k, g⟩
    refine ⟨⟨.inl ⟨_, .bool true, [], rfl, ?_, .bool true, ?_, unshared_nil⟩, k, rfl, hg⟩, g, trivial⟩
    · intro cls; rfl
    · wrow_post)
end
-- LX
section
open PySem PySem.W PyProof.Rows
open PySem PySem.Spec PySem.Calls
section
variable {prog : Program} {w : World} {A : Around} {E : Value → Shared → Prop} {s : Shared} {S : List Addr} {G : Heap} {P : Params} {L : Addr} {m cm : Str → Option Value}

/-- a name that a comprehension takes from the law -/
theorem rdF {env : Env} {x : Str} {pos : Pos} {v : Value} {c : Addr} {Q : Value → Shared → Prop} (F : LFr S G P L m cm s.heap) (hv : cm x = some v) (h : Q v s)
    (hc : (lawEnv P L).cells.lookup x = some c := by rfl) (hc' : env.cells.lookup x = some c := by rfl) (hk : env.scope.kind = .function := by rfl)
    (hl : env.kindOf x = some .free ∨ env.kindOf x = some .cell := by first | exact .inr rfl | exact .inl rfl) (hd : (x == ("__debug__" : Str)) = false := by decide) (hn : (x == ("__classdict__" : Str)) = false := by decide) :
    wpAny (model prog w) A (eval (.Name x pos) env) Q E s := by
  rcases hl with hl | hl
  · exact wpAny_Name (wpAny_loadName_free hk hl hc' (hv ▸ F.cell x c hc) h hn) hd
  · exact wpAny_Name (wpAny_loadName_cell hk hl hc' (hv ▸ F.cell x c hc) h) hd
/-- a name of the comprehension itself -/
theorem rdN {env : Env} {x : Str} {pos : Pos} {v : Value} {m₃ : Str → Option Value} {Q : Value → Shared → Prop} (N : s.heap.Ns env.locals m₃) (hv : m₃ x = some v) (h : Q v s)
    (hk : env.scope.kind = .function := by rfl) (hl : env.kindOf x = some .local := by rfl) (hd : (x == ("__debug__" : Str)) = false := by decide) :
    wpAny (model prog w) A (eval (.Name x pos) env) Q E s := wpAny_Name (wpAny_loadName_local hk hl N hv h) hd

theorem cw_t1 {pos : Pos} {T : String} {x : Sem Value} {Q : Value → Shared → Prop} (h : wpAny (model prog w) A (spliced [(false, x)]) (fun vs s₁ => wpAny (model prog w) A (call (.type T) vs) Q E s₁) E s) :
    wpAny (model prog w) A (callWith pos (.type T) [] [(false, x)] []) Q E s := PyProof.Rows.callWith_type rfl (Calls.evalArgs_plain h)
theorem cw_t2 {pos : Pos} {T : String} {x y : Sem Value} {Q : Value → Shared → Prop} (h : wpAny (model prog w) A (spliced [(false, x), (false, y)]) (fun vs s₁ => wpAny (model prog w) A (call (.type T) vs) Q E s₁) E s) :
    wpAny (model prog w) A (callWith pos (.type T) [] [(false, x), (false, y)] []) Q E s := PyProof.Rows.callWith_type rfl (Calls.evalArgs_plain h)
theorem cw_b1 {pos : Pos} {T : String} {x : Sem Value} {Q : Value → Shared → Prop} (h : wpAny (model prog w) A (spliced [(false, x)]) (fun vs s₁ => wpAny (model prog w) A (call (.builtin T) vs) Q E s₁) E s) :
    wpAny (model prog w) A (callWith pos (.builtin T) [] [(false, x)] []) Q E s := Calls.callWith_builtin rfl (Calls.evalArgs_plain h)

theorem slice_x {value slice : Expr} {l : Addr} {items : Array Value} {vl vu vs : Value} {lo hi st : Option Int} {ops : List Value} {Q : Value → Shared → Prop} {hp : Heap} {tk : Nat}
    (hl : hp.IsList l items) (pl : IsPart vl lo) (pu : IsPart vu hi) (ps : IsPart vs st) (h0 : st ≠ some 0) (hsz : items.size ≤ 1000)
    (h : ∀ h' D, Nx hp h' D → h'.PlainList D (slicePick items lo hi st) → Q (.ref D) { s with heap := h', toks := tk })
    (hs : subscripted slice false (.ref l) (.ref hp.objs.size) = operate ops (getItem (.ref l) (.ref hp.objs.size)) := by with_unfolding_all rfl)
    (ht : ∀ r, letTemporaryGo value (.ref l) r = pure () := by intro _; with_unfolding_all rfl) :
    wpAny (model prog w) A (subscriptTail value slice (.ref l) (.ref hp.objs.size)) Q E { s with heap := hp.push { cls := .type "slice", data := .fields #[vl, vu, vs] }, toks := tk } := by
  refine subscriptTail_ops (Heap.IsList.typeIs (s := { s with heap := hp.push { cls := .type "slice", data := .fields #[vl, vu, vs] } }) (hl.push _)) list_getitem_lookup
    (wpAny_getItem_list_slice (s := { s with heap := hp.push { cls := .type "slice", data := .fields #[vl, vu, vs] }, toks := tk }) (hl.push _) (Heap.IsSliceOf.new ..) pl pu ps h0 ?_ (by rw [show sizeLine = 16777216 by decide]; omega)) hs ht
  exact h _ _ (Nx.after (Nw.push _ _).ex (Nw.push _ _).x) ⟨0, Heap.get?_push_size _ rfl⟩

theorem sum_x {l : Addr} {vs : List Value} {ns : List Int} {Q : Value → Shared → Prop} (hh : A.handled = none) (hl : s.heap.IsList l vs.toArray) (hi : IntsAre vs ns)
    (h : ∀ h' tk t', Ex s.heap h' → Q (.int ns.sum t') { s with heap := h', toks := tk }) :
    wpAny (model prog w) A (call (.builtin "sum") [.ref l]) Q E s := by
  obtain ⟨ts, e⟩ : ∃ xs : Array (Int × Tok), vs.toArray = intItems xs ∧ xs.toList.map (·.1) = ns := by
    clear hl h
    induction hi with
    | nil => exact ⟨#[], by simp [intItems], rfl⟩
    | cons n t _ ih =>
      obtain ⟨xs, e1, e2⟩ := ih
      refine ⟨((n, t) :: xs.toList).toArray, ?_, by simp [e2]⟩
      have e1' := congrArg Array.toList e1
      simp only [intItems, Array.toList_map] at e1'
      simp [intItems, e1']
  rw [e.1] at hl
  refine sum_intListG hh hl fun h' tk t' hk => ?_
  rw [preSum_eq, List.take_of_length_le (by simp)]
  have := h h' tk t' hk
  rw [← e.2] at this
  exact this

/-- a comprehension over enumerate of a list -/
theorem comp_enum_block {env : Env} {elt iter : Expr} {a b : Str} {pa pb tp : Pos} {kk : Nat} {scope : Scope} {cl : List (Str × Addr)} {pos : Pos} {l it I0 : Addr} {hp : Heap} {tk : Nat} {RR : Value → Addr → Result → Shared → Prop} (vs : List Value) (F : Nat → Value → Prop)
    (hh : A.handled = none) (hcell : ∀ y ∈ scope.names, y.2 ≠ .cell) (hkind : scope.kind = .function)
    (hxa : scope.names.lookup a = some .local) (hxb : scope.names.lookup b = some .local) (hab : ¬ a = b) (hn : vs.length ≤ 1000)
    (kp : Ex s.heap hp) (hE : IsEnum hp it I0 0 .none) (hI : hp.IsListIter I0 l 0) (hL : hp.IsList l vs.toArray) (fit : s.heap.get? it = none) (fI : s.heap.get? I0 = none) (hne : it ≠ I0) (hl1 : l ≠ it) (hl2 : l ≠ I0)
    (helt : ∀ C (i : Nat) v t (s₃ : Shared) m₃ E', vs[i]? = some v → Ex s.heap s₃.heap → s₃.heap.Ns C m₃ → m₃ a = some (.int i t) → m₃ b = some v →
      wpAny (model prog w) A (eval elt (compEnvC scope cl C env)) (fun y s₄ => F i y ∧ Keeps s₃ s₄) E' s₃)
    (hRR : ∀ D C h' tk (ys : List Value) m', s.heap.get? D = none → s.heap.get? C = none → D ≠ C → h'.Ns C m' → Ex s.heap h' → h'.PlainList D (List.toArray ys) → ys.length = vs.length → (∀ (i : Nat) y, ys[i]? = some y → F i y) → RR (.ref D) C (.ok .next) { s with heap := h', toks := tk }) :
    wpAny (model prog w) A (newList []) (fun acc s₃ => wpAny (model prog w) A (newFunctionEnv scope env.globals cl [] env.qual none .none (some env)) (fun cenv s₄ =>
      codeAny (model prog w) A (.compStart (.ListComp elt [⟨.Tuple [.Name a pa, .Name b pb] kk tp, iter, [], 0⟩] scope pos) 0 (.ref it) acc { cenv with scope := relabel scope env }) (RR acc cenv.locals) s₄) E s₃) E { s with heap := hp, toks := tk } := by
  refine wpAny_newObj_type (wpAny_newFunctionEnv hcell (by intro y hy; simp at hy) (fun h₁ hns₁ hsb₁ => ?_) hkind)
  dsimp only at hns₁ hsb₁ ⊢
  generalize hH2 : hp.push { cls := .type "list", dict := none, data := .seq ([] : List Value).toArray } = H2 at hns₁ hsb₁ ⊢
  have hC : H2.objs.size = hp.objs.size + 1 := by rw [← hH2, Heap.size_push]
  have hDC : hp.objs.size ≠ H2.objs.size := by rw [hC]; exact Nat.ne_of_lt (Nat.lt_succ_self _)
  have below : ∀ b, b < hp.objs.size → b ≠ H2.objs.size ∧ b ≠ hp.objs.size := fun b hb => ⟨by rw [hC]; exact Nat.ne_of_lt (Nat.lt_succ_of_lt hb), Nat.ne_of_lt hb⟩
  have old : ∀ b o, hp.get? b = some o → h₁.get? b = some o := fun b o e => hsb₁.extBut b o (below b (Heap.lt_size e)).1 (Heap.get?_push_of_some _ (hH2 ▸ Heap.get?_push_of_some _ e))
  have hacc : h₁.PlainList hp.objs.size #[] := ⟨0, hsb₁.extBut _ _ hDC (Heap.get?_push_of_some _ (hH2 ▸ Heap.get?_push_size _ rfl))⟩
  have hitlt : it < hp.objs.size := Heap.lt_size hE
  have hIlt : I0 < hp.objs.size := let ⟨_, e, _⟩ := hI; Heap.lt_size e
  have hllt : l < hp.objs.size := let ⟨_, e, _⟩ := hL; Heap.lt_size e
  have fresh : ∀ a, hp.objs.size ≤ a → s.heap.get? a = none := fun a ha => by
    cases e : s.heap.get? a with
    | none => rfl
    | some o' => exact absurd (Heap.lt_size (kp _ _ e)) (Nat.not_lt.mpr ha)
  have W := WalksT.enumerate (prog := prog) (w := w) hh it I0 l hne hl1 hl2 vs.toArray
  have hst₁ : (∃ o, IsEnum h₁ it I0 (0 : Nat) o) ∧ h₁.IsListIter I0 l 0 ∧ h₁.IsList l vs.toArray := ⟨⟨_, old _ _ hE⟩, hI.at fun o e => old _ _ e, hL.at fun o e => old _ _ e⟩
  have loop : ∀ s₃ : Shared, s₃ = { s with heap := h₁, toks := tk + ([] : List (Str × Value)).length } →
      codeAny (model prog w) A (.compLoop (.ListComp elt [⟨.Tuple [.Name a pa, .Name b pb] kk tp, iter, [], 0⟩] scope pos) 0 (.ref it) (.ref hp.objs.size) (compEnvC scope cl H2.objs.size env))
        (RR (.ref hp.objs.size) H2.objs.size) s₃ := by
    rintro s₃ rfl
    have hnot : ∀ c : Addr, c ≠ it → c ≠ I0 → c ∉ [it, I0] := fun c h1 h2 hm => by
      rcases List.mem_cons.mp hm with e | hm
      · exact h1 e
      · exact h2 (List.mem_singleton.mp hm)
    have hCit := below _ hitlt
    have hCI := below _ hIlt
    have hCl := below _ hllt
    have fC : s.heap.get? H2.objs.size = none := fresh _ (by rw [hC]; exact Nat.le_succ _)
    have fD : s.heap.get? hp.objs.size = none := fresh _ (Nat.le_refl _)
    refine kcp_loop
      (fun k s' => ∃ h' tk i ys m', s' = { s with heap := h', toks := tk } ∧ i ≤ vs.length ∧ k = vs.length + 1 - i ∧ ys.length = i ∧ ((∃ o, IsEnum h' it I0 i o) ∧ h'.IsListIter I0 l i ∧ h'.IsList l vs.toArray) ∧
        h'.Ns H2.objs.size m' ∧ h'.PlainList hp.objs.size (List.toArray ys) ∧ Ex s.heap h' ∧ (∀ (j : Nat) y, ys[j]? = some y → F j y)) ?_ (vs.length + 1)
      ⟨h₁, _, 0, [], _, rfl, Nat.zero_le _, rfl, rfl, hst₁, hns₁, hacc, fun b o e => old _ _ (kp _ _ e), fun j y e => by simp at e⟩
    rintro k s' ⟨h', tk', i, ys, m', rfl, hi, rfl, hyl, hst, hn', hD, kx, hF⟩
    by_cases hlt : i < vs.length
    · refine W.item i _ _ _ (by simpa using hlt) hst fun T vals h₂ tk₂ hP hTge hT hMd hk₂ => ?_
      refine W.go _ _ _ i T _ _ _ hMd fun h₃ hst₃ hk₃ => ?_
      obtain ⟨t, v, hv, rfl⟩ := hP
      have hTn := W.apart _ _ _ hMd
      have up₃ : ∀ c o, c ≠ it → c ≠ I0 → h'.get? c = some o → h₃.get? c = some o := fun c o h1 h2 e => hk₃ c o (hnot c h1 h2) (hk₂ c o (hnot c h1 h2) e)
      refine kcp_assign (env := compEnvC scope cl H2.objs.size env) hh (hT.at fun o e => hk₃ _ _ hTn e) (lookup_relabel_local hxa) (lookup_relabel_local hxb) (by simp [compEnvC, relabel, hkind])
        (hn'.at' fun o e => up₃ _ o (Ne.symm hCit.1) (Ne.symm hCI.1) e) fun h₄ tk₄ hn₄ hs₄ => ?_
      have kx₄ : Ex s.heap h₄ := fun c o e => hs₄ c o (fun q => by
        subst q
        exact absurd (show s.heap.get? H2.objs.size = some o from e) (by rw [fC]; exact fun q => nomatch q)) (up₃ c o (fun q => by rw [q, fit] at e; cases e) (fun q => by rw [q, fI] at e; cases e) (kx c o e))
      have hv' : vs[i]? = some v := by simpa using hv
      refine wpAny_mono (helt _ i v t { s with heap := h₄, toks := tk₄ } _ _ hv' kx₄ hn₄ (by simp [hab]) (by simp)) (fun y s₅ h₅ => ?_) fun _ _ e => e
      obtain ⟨hFy, h₅, tk₅, rfl, k₅⟩ := h₅
      have hD₄ : h₄.PlainList hp.objs.size (List.toArray ys) := hD.at fun o e => hs₄ _ _ hDC (up₃ _ _ (Ne.symm hCit.2) (Ne.symm hCI.2) e)
      refine wpAny_list_append_plain (pl_keep hD₄ k₅) (fun h₆ hD₆ hs₆ => ?_) (by rw [show sizeLine = 16777216 by decide]; simp; omega)
      obtain ⟨⟨x3, e3⟩, i3, l3⟩ := hst₃
      refine ⟨vs.length + 1 - (i + 1), by omega, h₆, tk₅, i + 1, ys ++ [y], _, rfl, hlt, rfl, by simp [hyl], ⟨⟨x3, hs₆.extBut _ _ hCit.2 (k₅ _ _ (hs₄ _ _ hCit.1 e3))⟩, i3.at fun o e => hs₆.extBut _ _ hCI.2 (k₅ _ _ (hs₄ _ _ hCI.1 e)),
        l3.at fun o e => hs₆.extBut _ _ hCl.2 (k₅ _ _ (hs₄ _ _ hCl.1 e))⟩, (hn₄.keeps k₅).sameBut hs₆ (Ne.symm hDC), by simpa using hD₆, fun b o e => hs₆.extBut _ _ (fun q => by rw [q, fD] at e; cases e) (k₅ _ _ (kx₄ _ _ e)), fun j z e => ?_⟩
      rcases Nat.lt_trichotomy j ys.length with q | q | q
      · rw [List.getElem?_append_left q] at e; exact hF j z e
      · subst q; simp at e; subst e; rw [hyl]; exact hFy
      · rw [List.getElem?_append_right (by omega)] at e
        obtain ⟨r, hr⟩ : ∃ r, j - ys.length = r + 1 := ⟨j - ys.length - 1, by omega⟩
        rw [hr] at e; simp at e
    · have hin : i = vs.length := by omega
      subst hin
      refine W.done _ _ _ (by simpa using hst) fun h₂ tk₂ hk₂ => ?_
      exact hRR _ _ _ _ ys m' fD fC hDC (hn'.at' fun o e => hk₂ _ o (hnot _ (Ne.symm hCit.1) (Ne.symm hCI.1)) e)
        (fun b o e => hk₂ _ _ (hnot _ (fun q => by rw [q, fit] at e; cases e) (fun q => by rw [q, fI] at e; cases e)) (kx _ _ e)) (hD.at fun o e => hk₂ _ _ (hnot _ (Ne.symm hCit.2) (Ne.symm hCI.2)) e) hyl hF
  exact codeAny_compStart_list (loop _ rfl) (wpAny_pyIter_enum (hst₁.1.choose_spec) (loop _ rfl))

theorem LFr.off1 {h h' : Heap} {C : Addr} (x : LFr S G P L m cm h) (hs : Heap.SameBut C h h') (hC : C ∉ S) (hG : G.get? C = none) : LFr S G P L m cm h' :=
  ⟨x.ns.sameBut hs (fun e => hC (e ▸ x.inL)), fun n c e => (x.cell n c e).sameBut hs (fun q => hC (q ▸ x.inC n c e)), fun b o e => hs.extBut b o (fun q => by rw [q, hG] at e; cases e) (x.gr _ _ e), x.off,
    fun a ha => let ⟨o, ho⟩ := x.live a ha; ⟨o, hs.extBut a o (fun q => hC (q ▸ ha)) ho⟩, x.inL, x.inC, x.apart, x.above⟩
theorem LFr.new {h : Heap} {D : Addr} (x : LFr S G P L m cm h) (hD : h.get? D = none) : D ∉ S ∧ G.get? D = none := by
  refine ⟨fun hm => ?_, ?_⟩
  · obtain ⟨o, ho⟩ := x.live D hm; rw [hD] at ho; cases ho
  · cases q : G.get? D with
    | none => rfl
    | some o => have := x.gr _ _ q; rw [hD] at this; cases this

/-- y = [.. for a, b in enumerate(..)], y a local of the law -/
theorem set_enum {elt iter : Expr} {a b y : Str} {pa pb py tp spos : Pos} {kk : Nat} {scope : Scope} {cl : List (Str × Addr)} {pos : Pos} {Q : Flow → Shared → Prop} (vs : List Value) (FF : Nat → Value → Prop) (F : LFr S G P L m cm s.heap)
    (hh : A.handled = none)
    (hiter : wpAny (model prog w) A (eval iter (lawEnv P L)) (fun xv s₁ => ∃ it h tk, xv = .ref it ∧ s₁ = { s with heap := h, toks := tk } ∧ Ex s.heap h ∧ ∃ I0 l, IsEnum h it I0 0 .none ∧ h.IsListIter I0 l 0 ∧ h.IsList l vs.toArray ∧ s.heap.get? it = none ∧ s.heap.get? I0 = none ∧ it ≠ I0 ∧ l ≠ it ∧ l ≠ I0) E s)
    (helt : ∀ C (i : Nat) v t (s₃ : Shared) m₃ E', vs[i]? = some v → Ex s.heap s₃.heap → s₃.heap.Ns C m₃ → m₃ a = some (.int i t) → m₃ b = some v →
      wpAny (model prog w) A (eval elt (compEnvC scope cl C (lawEnv P L))) (fun y s₄ => FF i y ∧ Keeps s₃ s₄) E' s₃)
    (h : ∀ D h' tk (ys : List Value), LFr S G P L (fun z => if z = y then some (.ref D) else m z) cm h' → s.heap.get? D = none → h'.PlainList D (List.toArray ys) → ys.length = vs.length → (∀ (i : Nat) z, ys[i]? = some z → FF i z) → Q .next { s with heap := h', toks := tk })
    (hsw : swapsWith (.ListComp elt [⟨.Tuple [.Name a pa, .Name b pb] kk tp, iter, [], 0⟩] scope pos) (some (.Name y py)) spos.line (lawEnv P L) = pure true := by rfl)
    (hy : (lawEnv P L).kindOf y = some .local := by rfl)
    (hclos : closureFor scope (lawEnv P L) = pure cl := by rfl) (hcell : ∀ y ∈ scope.names, y.2 ≠ .cell := by decide) (hkind : scope.kind = .function := by rfl)
    (hnames : ∀ y ∈ scope.names, y.2 = .local → scope.names.lookup y.1 = some .local := by decide) (hxa : scope.names.lookup a = some .local := by rfl) (hxb : scope.names.lookup b = some .local := by rfl) (hab : ¬ a = b := by decide) (hn : vs.length ≤ 1000 := by simp)
    (hs : ∀ x, foldedSetIterable iter (lawEnv P L) x = pure x := by intro _; rfl) :
    wpAny (model prog w) A (exec (.Assign [.Name y py] (.ListComp elt [⟨.Tuple [.Name a pa, .Name b pb] kk tp, iter, [], 0⟩] scope pos) spos) (lawEnv P L)) Q E s := by
  rw [exec_Assign_Name_used _ _ _ _ hsw]
  refine wpAny_bind (wpAny_standAt (wpAny_bind ?_))
  show wpAny _ A (do let _ ← comprehension (.ListComp elt [⟨.Tuple [.Name a pa, .Name b pb] kk tp, iter, [], 0⟩] scope pos) scope (lawEnv P L) _ (newList []) false (eval iter (lawEnv P L)) (some (assign (.Name y py) (lawEnv P L)))) _ _ s
  refine wpAny_bind (wpAny_mono (wpAny_comprehension_free (use := some (assign (.Name y py) (lawEnv P L))) (Q := fun _ s' => Q .next s') rfl hs hclos hkind hnames
    (wpAny_mono hiter (fun xv s₁ h₁ => ?_) fun _ _ e => e)) (fun _ s' hq => wpAny_pure (wpAny_pure hq)) fun _ _ e => e)
  obtain ⟨it, hp, tk, rfl, rfl, kp, I0, l, hE, hI, hL, fit, fI, hne, hl1, hl2⟩ := h₁
  refine wpAny_pyIter_enum hE ?_
  refine comp_enum_block (RR := fun acc C => compPost (model prog w) A E (some (assign (.Name y py) (lawEnv P L))) (fun _ s' => Q .next s') acc C) vs FF hh hcell hkind hxa hxb hab hn kp hE hI hL fit fI hne hl1 hl2 helt ?_
  intro D C h' tk' ys m' fD fC hDC hnC kx hD hyl hF
  show wpAny _ A (assign (.Name y py) (lawEnv P L) (.ref D)) _ _ _
  have F' := F.ex kx
  have hLC : L ≠ C := fun e => (F.new fC).1 (e ▸ F.inL)
  have hLD : L ≠ D := fun e => (F.new fD).1 (e ▸ F.inL)
  refine wpAny_assign_Name (wrL (x := y) (v := .ref D) F' (fun h₂ F₂ hs₂ => ?_) hy)
  refine ⟨m', hnC.sameBut hs₂ (Ne.symm hLC), fun h₃ hs₃ => ?_⟩
  exact h D h₃ _ ys (F₂.off1 hs₃ (F.new fC).1 (F.new fC).2) fD (pl_but (pl_but hD hs₂ (Ne.symm hLD)) hs₃ hDC) hyl hF

theorem LFr.here {h : Heap} (x : LFr S G P L m cm h) : LFr S (hideAll h S) P L m cm h := x.grow fun _ _ e => e
theorem LFr.hidL {h : Heap} {D : Addr} {its : Array Value} (e : h.PlainList D its) (hD : D ∉ S) : (hideAll h S).PlainList D its := let ⟨k, e⟩ := e; ⟨k, hideAll_get _ e hD⟩
theorem LFr.up {h : Heap} (x : LFr S G P L m cm h) : Ex G (hideAll h S) := x.grown fun _ _ e => e
end
theorem ints_of {p : Int → Prop} : ∀ {vs : List Value}, (∀ v ∈ vs, ∃ n t, v = .int n t ∧ p n) → ∃ ns, IntsAre vs ns ∧ ∀ n ∈ ns, p n
  | [], _ => ⟨[], .nil, fun _ h => nomatch h⟩
  | v :: r, h => by
    obtain ⟨ns, h1, h2⟩ := ints_of fun v hv => h v (.tail _ hv)
    obtain ⟨n, t, rfl, hp⟩ := h v (.head _)
    exact ⟨n :: ns, .cons n t h1, fun k hk => (List.mem_cons.mp hk).elim (fun e => e ▸ hp) (h2 k)⟩
theorem ints_all {vs : List Value} {ns : List Int} (h : IntsAre vs ns) : ∀ v ∈ vs, ∃ n t, v = .int n t := by
  induction h with
  | nil => intro v hv; cases hv
  | cons n t _ ih => exact fun v hv => (List.mem_cons.mp hv).elim (fun e => ⟨n, t, e⟩) (ih v)
theorem ints_slice {vs : List Value} {ns : List Int} (h : IntsAre vs ns) (lo hi st : Option Int) : ∃ ms, IntsAre (slicePick vs.toArray lo hi st).toList ms := by
  obtain ⟨ms, h1, _⟩ := ints_of (p := fun _ => True) (vs := (slicePick vs.toArray lo hi st).toList) fun v hv => by
    unfold slicePick at hv
    obtain ⟨i, _, e⟩ := List.mem_filterMap.mp (by simpa using hv)
    obtain ⟨n, t, e⟩ := ints_all h v (List.mem_of_getElem? e)
    exact ⟨n, t, e, trivial⟩
  exact ⟨ms, h1⟩
end
section
open PySem PySem.W PyProof.Rows
open PySem PySem.Spec PySem.Calls
local macro_rules | `(tactic| walk_at "c") => `(tactic| first
  | ((with_reducible show wpAny _ _ (execs (_ :: _) _) _ _ _); refine wpAny_execs_cons ?_)
  | ((with_reducible show wpAny _ _ (execs [] _) _ _ _); refine wpAny_execs_nil ?_)
  | ((with_reducible show wpAny _ _ (exec (Stmt.If _ _ _ _) _) _ _ _); refine wpAny_If ?_)
  | ((with_reducible show wpAny _ _ (exec (Stmt.While _ _ _ _) _) _ _ _); refine wpAny_While ?_)
  | ((with_reducible show wpAny _ _ (exec (Stmt.Return (some _) _) _) _ _ _); refine wpAny_Return_some ?_)
  | ((with_reducible show wpAny _ _ (exec (Stmt.Assign [Expr.Name _ _] _ _) _) _ _ _); refine wpAny_Assign_Name ?_)
  | ((with_reducible show wpAny _ _ (exec (Stmt.AugAssign (Expr.Name _ _) _ _ _) _) _ _ _); refine wpAny_AugAssign_Name ?_)
  | ((with_reducible show wpAny _ _ (isTrue (Expr.BinOp _ _ _ _) _ _) _ _ _); refine wpAny_isTrue_value ?_)
  | ((with_reducible show wpAny _ _ (isTrue (Expr.Constant _ _ _) _ _) _ _ _); refine wpAny_isTrue_value ?_)
  | ((with_reducible show wpAny _ _ (eval (Expr.Constant (Const.bool _) _ _) _) _ _ _); refine wpAny_Constant_bool ?_)
  | ((with_reducible show wpAny _ _ (truthy (.int _ _)) _ _ _); refine PyProof.Rows.truthy_int ?_)
  | ((with_reducible show wpAny _ _ (isTrue (Expr.Compare _ [_] [_] _) _ _) _ _ _); refine wpAny_isTrue_Compare1 ?_)
  | ((with_reducible show wpAny _ _ (truthy (.bool _)) _ _ _); refine wpAny_truthy_bool ?_)
  | ((with_reducible show wpAny _ _ (eval (Expr.BinOp _ _ _ _) _) _ _ _); refine wpAny_BinOp ?_)
  | ((with_reducible show wpAny _ _ (eval (Expr.Compare _ [_] [_] _) _) _ _ _); refine wpAny_Compare1 ?_)
  | ((with_reducible show wpAny _ _ (eval (Expr.Constant (Const.int _) _ _) _) _ _ _); refine wpAny_Constant_int ?_; try dsimp only)
  | ((with_reducible show wpAny _ _ (eval (Expr.Constant (Const.str _) _ _) _) _ _ _); refine wpAny_Constant_str ?_; try dsimp only)
  | ((with_reducible show wpAny _ _ (eval (Expr.UnaryOp _ _ _) _) _ _ _); refine wpAny_UnaryOp ?_)
  | ((with_reducible show wpAny _ _ (unaryOp UnaryOp.USub (.int _ _)) _ _ _); refine neg_int ?_; try dsimp only)
  | ((with_reducible show wpAny _ _ (eval (Expr.Constant Const.none _ _) _) _ _ _); refine wpAny_Constant_none ?_)
  | ((with_reducible show wpAny _ _ (eval (Expr.Subscript _ _ _) _) _ _ _); refine PyProof.Rows.Subscript_ ?_)
  | ((with_reducible show wpAny _ _ (eval (Expr.Call (Expr.Name _ _) [_] [] _) _) _ _ _); refine PyProof.Rows.Call_Name1 ?_)
  | ((with_reducible show wpAny _ _ (eval (Expr.Call (Expr.Name _ _) [_, _] [] _) _) _ _ _); refine PyProof.Rows.Call_Name2 ?_)
  | ((with_reducible show wpAny _ _ (eval (Expr.Call (Expr.Name _ _) [_, _, _] [] _) _) _ _ _); refine Call_Name3 ?_)
  | ((with_reducible show wpAny _ _ (eval (Expr.Call (Expr.Name _ _) [_, _, _, _] [] _) _) _ _ _); refine Call_Name4 ?_)
  | ((with_reducible show wpAny _ _ (spliced (_ :: _)) _ _ _); refine Calls.spliced_cons ?_)
  | ((with_reducible show wpAny _ _ (spliced []) _ _ _); refine Calls.spliced_nil ?_)
  | ((with_reducible show wpAny _ _ (compareOp CmpOp.Lt (.int _ _) (.int _ _)) _ _ _); refine PyProof.Rows.lt_int ?_; try dsimp only)
  | ((with_reducible show wpAny _ _ (compareOp CmpOp.Gt (.int _ _) (.int _ _)) _ _ _); refine PyProof.Rows.gt_int ?_; try dsimp only)
  | ((with_reducible show wpAny _ _ (compareOp CmpOp.Eq (.int _ _) (.int _ _)) _ _ _); refine PyProof.Rows.eq_int ?_; try dsimp only)
  | ((with_reducible show wpAny _ _ (binaryOp Operator.BitAnd (.int _ _) (.int _ _)) _ _ _); refine PyProof.Rows.and_int ?_; try dsimp only)
  | ((with_reducible show wpAny _ _ (inplaceOp Operator.BitOr (.int _ _) (.int _ _)) _ _ _); refine PyProof.Rows.ior_int ?_; try dsimp only)
  | ((with_reducible show wpAny _ _ (binaryOp Operator.Mod (.int _ _) (.int _ _)) _ _ _); refine PyProof.Rows.mod_int (by decide) ?_; try dsimp only)
  | ((with_reducible show wpAny _ _ (eval (Expr.List _ _) _) _ _ _); refine PyProof.Rows.List_ ?_)
  | ((with_reducible show wpAny _ _ (spliced (backTo _ (starEach [] _))) _ _ _); refine wpAny_items_nil ?_)
  | ((with_reducible show wpAny _ _ (spliced (backTo _ (starEach (_ :: _) _))) _ _ _); refine wpAny_items_cons ?_)
  | ((with_reducible show wpAny _ _ (exec (Stmt.Expr _ _) _) _ _ _); refine wpAny_Expr ?_)
  | ((with_reducible show wpAny _ _ (binaryOp Operator.Add (.int _ _) (.int _ _)) _ _ _); refine PyProof.Rows.add_int ?_; try dsimp only)
  | ((with_reducible show wpAny _ _ (binaryOp Operator.Sub (.int _ _) (.int _ _)) _ _ _); refine PyProof.Rows.sub_int ?_; try dsimp only)
  | ((with_reducible show wpAny _ _ (compareOp CmpOp.Is (.int _ _) .none) _ _ _); refine PyProof.Rows.is_int_none ?_)
  | ((with_reducible show wpAny _ _ (compareOp CmpOp.Is .none .none) _ _ _); refine PyProof.Rows.is_none_none ?_)
  | ((with_reducible show wpAny _ _ (compareOp CmpOp.Is (.ref _) .none) _ _ _); refine PyProof.Rows.is_ref_none ?_)
  | ((with_reducible show ite (false = true) _ _); rw [if_neg Bool.false_ne_true])
  | ((with_reducible show ite (true = true) _ _); rw [if_pos rfl])
  | (dsimp only))
section
local macro_rules | `(tactic| walk_at "n") => `(tactic| first
  | refine PyProof.Rows.ld (by assumption) (by first | assumption | exact rfl) ?_
  | refine nm_glob (by first | assumption | exact Bs.keeps (by assumption) (Fr.keep (by assumption))) ?_
  | refine nm_blt (by first | assumption | exact Bs.keeps (by assumption) (Fr.keep (by assumption))) (by first | exact bt_len | exact bt_next | exact bt_iter | exact bt_sum | exact bt_abs | exact bt_chr | exact bt_ord | exact bt_range | exact bt_list | exact bt_enumerate | exact bt_ValueError | exact bt_StopIteration) ?_)
local macro_rules | `(tactic| walk_at "e") => `(tactic| first
  | ((with_reducible show wpAny _ _ (storeName _ _ _) _ _ _); refine PyProof.Rows.st (by assumption) ?_; intro h' F')
  | ((with_reducible show wpAny _ _ (loadName _ _) _ _ _); refine PyProof.Rows.ldn (by assumption) (by first | assumption | exact rfl) ?_)
  | ((with_reducible show wpAny _ _ (callWith _ (Value.builtin _) [] _ []) _ _ _); refine Calls.callWith_builtin rfl (Calls.evalArgs_plain ?_))
  | ((with_reducible show wpAny _ _ (eval (Expr.Name _ _) _) _ _ _); walk_at "n")
  | walk_at "c")
local macro_rules | `(tactic| walk_at "es") => `(tactic| repeat' walk_at "e")
-- BI
section
open PySem PySem.W PyProof.Rows
open PySem PySem.Spec PySem.Calls

section
variable {prog : Program} {w : World} {A : Around} {s : Shared}
/-- what a search has found: the last place on this side of the line -/
structure Found (P : Nat → Prop) (lo hi r : Nat) : Prop where
  ge : lo ≤ r
  le : r ≤ hi
  below : lo < r → P (r - 1)
  above : r < hi → ¬ P r
/-- a function that gives the int g i of the i-th item, and only adds to the heap -/
def KeyOf (prog : Program) (w : World) (A : Around) (s : Shared) (kf : Addr) (vs : List Value) (g : Nat → Int) : Prop :=
  (∃ o fd, s.heap.get? kf = some o ∧ o.data = .func fd) ∧
  ∀ (i : Nat) (v : Value) (h : Heap) (tk : Nat) (R : Result → Shared → Prop), vs[i]? = some v → Ex s.heap h →
    (∀ h' t tk', Ex h h' → R (.ok (.ret (.int (g i) t))) { s with heap := h', toks := tk' }) →
    codeAny (model prog w) A (.call (.ref kf) ⟨[v], []⟩) R { s with heap := h, toks := tk }
theorem bl_plain {a : Addr} {vs : List Value} {ns : List Int} {x : Int} {tx tl : Tok} {lo : Nat} {hv : Value} {hi : Nat} {args : Args}
    {R : Result → Shared → Prop} (B : Bs w.params s.heap) (hA : A.depth < recursionLimit) (hl : s.heap.IsList a vs.toArray) (hi' : IntsAre vs ns) (hlen : ns.length < 1000) (hle : hi ≤ ns.length)
    (hhv : (hv = .none ∧ vs.length = hi) ∨ (∃ t, hv = .int hi t)) (hlo : lo ≤ hi)
    (hb : BindsTo s (fdOf (hd.heap_39 w.params) 49) args [("a", .ref a), ("x", .int x tx), ("lo", .int lo tl), ("hi", hv), ("key", .none)])
    (h : ∀ (r : Nat) t h' tk, Found (fun i => ns.getD i 0 < x) lo hi r → Ex s.heap h' → R (.ok (.ret (.int r t))) { s with heap := h', toks := tk }) :
    codeAny (model prog w) A (.call (.ref 49) args) R s := by
  have hvl := hi'.length
  refine enterK B.K B.nolimit rfl rfl hA hb (locs rfl) ?_ rfl rfl rfl (by decide)
  intro h₁ tk₁ F
  iterate 7 walk_at "e"
  rw [decide_eq_false (by omega)]
  rcases hhv with ⟨rfl, heq⟩ | ⟨th, rfl⟩
  case' inl =>
    walk_at "es"
    have hl₁ : h₁.IsList a vs.toArray := hl.at fun o e => F.keep _ _ e
    refine Calls.call_len_list (by exact hl₁) (by rw [List.size_toArray]; omega) ?_
    rw [show ((vs.toArray.size : Nat) : Int) = ((hi : Nat) : Int) by rw [List.size_toArray, heq]]
    walk_at "es"
  case' inr => walk_at "es"
  all_goals
    (rename Fr _ _ _ _ => F0)
    refine codeAny_whileLoop (fun n s' => ∃ (h' : Heap) (tk : Nat) (m : Str → Option Value) (l u : Nat) (t1 t2 : Tok), s' = { s with heap := h', toks := tk } ∧ Fr s.heap s.heap.objs.size h' m ∧
      m "a" = some (.ref a) ∧ m "x" = some (.int x tx) ∧ m "key" = some (.none) ∧ m "lo" = some (.int l t1) ∧ m "hi" = some (.int u t2) ∧ lo ≤ l ∧ l ≤ u ∧ u ≤ hi ∧ (lo < l → ns.getD (l - 1) 0 < x) ∧ (u < hi → ¬ (ns.getD u 0 < x)) ∧ n = u - l) ?_ (hi - lo)
      ⟨_, _, _, lo, hi, _, _, rfl, F0, rfl, rfl, rfl, rfl, rfl, Nat.le_refl _, hlo, Nat.le_refl _, fun h => absurd h (Nat.lt_irrefl _), fun h => absurd h (Nat.lt_irrefl _), rfl⟩
    clear F0
    rintro n s' ⟨h', tk, m, l, u, t1, t2, rfl, F, ha, hx, hky, hlo', hhi', b1, b2, b3, b4, b5, rfl⟩
    walk_at "es"
    by_cases hlu : (l : Int) < u
    · rw [decide_eq_true hlu]
      walk_at "es"
      refine PyProof.Rows.floordiv_int (by decide) ?_ (Or.inl (PyProof.noPylong_small (by omega)))
      rw [show ((l : Int) + u).fdiv 2 = (((l + u) / 2 : Nat) : Int) by rw [Int.fdiv_eq_ediv_of_nonneg _ (by decide)]; omega]
      walk_at "es"
      rename_i h₃ F₃
      have hm1 : (l + u) / 2 < vs.length := by omega
      obtain ⟨t3, hit⟩ := hi'.get ((l + u) / 2) (ns.getD ((l + u) / 2) 0) (by rw [List.getD_eq_getElem?_getD, List.getElem?_eq_getElem (by omega)]; rfl)
      refine PyProof.Rows.item_listL (hl.at fun o e => F₃.keep _ _ e) (by omega) (by omega) (by rw [Int.toNat_natCast]; exact hit) ?_
      walk_at "es"
      by_cases hlt : ns.getD ((l + u) / 2) 0 < x
      · rw [decide_eq_true hlt]
        walk_at "es"
        (rename Fr _ _ _ _ => F5)
        exact ⟨u - ((l + u) / 2 + 1), by omega, _, _, _, (l + u) / 2 + 1, u, _, _, rfl, F5, ha, hx, hky, rfl, hhi', by omega, by omega, by omega, fun _ => by simpa using hlt, b5, rfl⟩
      · rw [decide_eq_false hlt]
        walk_at "es"
        (rename Fr _ _ _ _ => F5)
        exact ⟨(l + u) / 2 - l, by omega, _, _, _, l, (l + u) / 2, _, _, rfl, F5, ha, hx, hky, hlo', rfl, by omega, by omega, by omega, b4, fun _ => by simpa using hlt, rfl⟩
    · rw [decide_eq_false hlu]
      walk_at "es"
      have hq : u = l := by omega
      subst hq
      exact h u _ _ _ ⟨by omega, by omega, b4, b5⟩ F.keep
theorem br_plain {a : Addr} {vs : List Value} {ns : List Int} {x : Int} {tx tl : Tok} {lo : Nat} {hv : Value} {hi : Nat} {args : Args}
    {R : Result → Shared → Prop} (B : Bs w.params s.heap) (hA : A.depth < recursionLimit) (hl : s.heap.IsList a vs.toArray) (hi' : IntsAre vs ns) (hlen : ns.length < 1000) (hle : hi ≤ ns.length)
    (hhv : (hv = .none ∧ vs.length = hi) ∨ (∃ t, hv = .int hi t)) (hlo : lo ≤ hi)
    (hb : BindsTo s (fdOf (hd.heap_39 w.params) 40) args [("a", .ref a), ("x", .int x tx), ("lo", .int lo tl), ("hi", hv), ("key", .none)])
    (h : ∀ (r : Nat) t h' tk, Found (fun i => ¬ x < ns.getD i 0) lo hi r → Ex s.heap h' → R (.ok (.ret (.int r t))) { s with heap := h', toks := tk }) :
    codeAny (model prog w) A (.call (.ref 40) args) R s := by
  have hvl := hi'.length
  refine enterK B.K B.nolimit rfl rfl hA hb (locs rfl) ?_ rfl rfl rfl (by decide)
  intro h₁ tk₁ F
  iterate 7 walk_at "e"
  rw [decide_eq_false (by omega)]
  rcases hhv with ⟨rfl, heq⟩ | ⟨th, rfl⟩
  case' inl =>
    walk_at "es"
    have hl₁ : h₁.IsList a vs.toArray := hl.at fun o e => F.keep _ _ e
    refine Calls.call_len_list (by exact hl₁) (by rw [List.size_toArray]; omega) ?_
    rw [show ((vs.toArray.size : Nat) : Int) = ((hi : Nat) : Int) by rw [List.size_toArray, heq]]
    walk_at "es"
  case' inr => walk_at "es"
  all_goals
    (rename Fr _ _ _ _ => F0)
    refine codeAny_whileLoop (fun n s' => ∃ (h' : Heap) (tk : Nat) (m : Str → Option Value) (l u : Nat) (t1 t2 : Tok), s' = { s with heap := h', toks := tk } ∧ Fr s.heap s.heap.objs.size h' m ∧
      m "a" = some (.ref a) ∧ m "x" = some (.int x tx) ∧ m "key" = some (.none) ∧ m "lo" = some (.int l t1) ∧ m "hi" = some (.int u t2) ∧ lo ≤ l ∧ l ≤ u ∧ u ≤ hi ∧ (lo < l → ¬ x < ns.getD (l - 1) 0) ∧ (u < hi → ¬ (¬ x < ns.getD u 0)) ∧ n = u - l) ?_ (hi - lo)
      ⟨_, _, _, lo, hi, _, _, rfl, F0, rfl, rfl, rfl, rfl, rfl, Nat.le_refl _, hlo, Nat.le_refl _, fun h => absurd h (Nat.lt_irrefl _), fun h => absurd h (Nat.lt_irrefl _), rfl⟩
    clear F0
    rintro n s' ⟨h', tk, m, l, u, t1, t2, rfl, F, ha, hx, hky, hlo', hhi', b1, b2, b3, b4, b5, rfl⟩
    walk_at "es"
    by_cases hlu : (l : Int) < u
    · rw [decide_eq_true hlu]
      walk_at "es"
      refine PyProof.Rows.floordiv_int (by decide) ?_ (Or.inl (PyProof.noPylong_small (by omega)))
      rw [show ((l : Int) + u).fdiv 2 = (((l + u) / 2 : Nat) : Int) by rw [Int.fdiv_eq_ediv_of_nonneg _ (by decide)]; omega]
      walk_at "es"
      rename_i h₃ F₃
      have hm1 : (l + u) / 2 < vs.length := by omega
      obtain ⟨t3, hit⟩ := hi'.get ((l + u) / 2) (ns.getD ((l + u) / 2) 0) (by rw [List.getD_eq_getElem?_getD, List.getElem?_eq_getElem (by omega)]; rfl)
      refine PyProof.Rows.item_listL (hl.at fun o e => F₃.keep _ _ e) (by omega) (by omega) (by rw [Int.toNat_natCast]; exact hit) ?_
      walk_at "es"
      by_cases hlt : x < ns.getD ((l + u) / 2) 0
      · rw [decide_eq_true hlt]
        walk_at "es"
        (rename Fr _ _ _ _ => F5)
        exact ⟨(l + u) / 2 - l, by omega, _, _, _, l, (l + u) / 2, _, _, rfl, F5, ha, hx, hky, hlo', rfl, by omega, by omega, by omega, b4, fun _ => by simpa using hlt, rfl⟩
      · rw [decide_eq_false hlt]
        walk_at "es"
        (rename Fr _ _ _ _ => F5)
        exact ⟨u - ((l + u) / 2 + 1), by omega, _, _, _, (l + u) / 2 + 1, u, _, _, rfl, F5, ha, hx, hky, rfl, hhi', by omega, by omega, by omega, fun _ => by simpa using hlt, b5, rfl⟩
    · rw [decide_eq_false hlu]
      walk_at "es"
      have hq : u = l := by omega
      subst hq
      exact h u _ _ _ ⟨by omega, by omega, b4, b5⟩ F.keep
theorem bl_key {a : Addr} {vs : List Value} {kf : Addr} {g : Nat → Int} {x : Int} {tx tl : Tok} {lo : Nat} {hv : Value} {hi : Nat} {args : Args}
    {R : Result → Shared → Prop} (B : Bs w.params s.heap) (hA : A.depth < recursionLimit) (hl : s.heap.IsList a vs.toArray) (hkey : ∀ L cd scope, KeyOf prog w (A.deeper (envOf "bisect_left" scope L 49 cd)) s kf vs g) (hlen : vs.length < 1000) (hle : hi ≤ vs.length)
    (hhv : (hv = .none ∧ vs.length = hi) ∨ (∃ t, hv = .int hi t)) (hlo : lo ≤ hi)
    (hb : BindsTo s (fdOf (hd.heap_39 w.params) 49) args [("a", .ref a), ("x", .int x tx), ("lo", .int lo tl), ("hi", hv), ("key", .ref kf)])
    (h : ∀ (r : Nat) t h' tk, Found (fun i => g i < x) lo hi r → Ex s.heap h' → R (.ok (.ret (.int r t))) { s with heap := h', toks := tk }) :
    codeAny (model prog w) A (.call (.ref 49) args) R s := by
  obtain ⟨⟨kO, kfd, hkO, hkfd⟩, -⟩ := hkey 0 default default
  refine enterK B.K B.nolimit rfl rfl hA hb (locs rfl) ?_ rfl rfl rfl (by decide)
  intro h₁ tk₁ F
  iterate 7 walk_at "e"
  rw [decide_eq_false (by omega)]
  rcases hhv with ⟨rfl, heq⟩ | ⟨th, rfl⟩
  case' inl =>
    walk_at "es"
    have hl₁ : h₁.IsList a vs.toArray := hl.at fun o e => F.keep _ _ e
    refine Calls.call_len_list (by exact hl₁) (by rw [List.size_toArray]; omega) ?_
    rw [show ((vs.toArray.size : Nat) : Int) = ((hi : Nat) : Int) by rw [List.size_toArray, heq]]
    walk_at "es"
  case' inr => walk_at "es"
  all_goals
    (rename Fr _ _ _ _ => F0)
    refine codeAny_whileLoop (fun n s' => ∃ (h' : Heap) (tk : Nat) (m : Str → Option Value) (l u : Nat) (t1 t2 : Tok), s' = { s with heap := h', toks := tk } ∧ Fr s.heap s.heap.objs.size h' m ∧
      m "a" = some (.ref a) ∧ m "x" = some (.int x tx) ∧ m "key" = some (.ref kf) ∧ m "lo" = some (.int l t1) ∧ m "hi" = some (.int u t2) ∧ lo ≤ l ∧ l ≤ u ∧ u ≤ hi ∧ (lo < l → g (l - 1) < x) ∧ (u < hi → ¬ (g u < x)) ∧ n = u - l) ?_ (hi - lo)
      ⟨_, _, _, lo, hi, _, _, rfl, F0, rfl, rfl, rfl, rfl, rfl, Nat.le_refl _, hlo, Nat.le_refl _, fun h => absurd h (Nat.lt_irrefl _), fun h => absurd h (Nat.lt_irrefl _), rfl⟩
    clear F0
    rintro n s' ⟨h', tk, m, l, u, t1, t2, rfl, F, ha, hx, hky, hlo', hhi', b1, b2, b3, b4, b5, rfl⟩
    walk_at "es"
    by_cases hlu : (l : Int) < u
    · rw [decide_eq_true hlu]
      walk_at "es"
      refine PyProof.Rows.floordiv_int (by decide) ?_ (Or.inl (PyProof.noPylong_small (by omega)))
      rw [show ((l : Int) + u).fdiv 2 = (((l + u) / 2 : Nat) : Int) by rw [Int.fdiv_eq_ediv_of_nonneg _ (by decide)]; omega]
      walk_at "es"
      rename_i h₃ F₃
      have hm1 : (l + u) / 2 < vs.length := by omega
      refine Calls.callWith_function (o := kO) (fd := kfd) (Calls.evalArgs_plain ?_)
      walk_at "es"
      refine PyProof.Rows.item_listL (hl.at fun o e => F₃.keep _ _ e) (by omega) (by omega) (by rw [Int.toNat_natCast]; exact List.getElem?_eq_getElem hm1) ?_
      walk_at "es"
      refine ⟨⟨F₃.keep _ _ hkO, hkfd⟩, wpAny_call ((hkey _ _ _).2 ((l + u) / 2) _ _ _ _ (List.getElem?_eq_getElem hm1) F₃.keep ?_)⟩
      intro h₄ t4 tk4 k4
      have F₄ := Fr.ext F₃ k4
      clear F₃
      dsimp only
      walk_at "es"
      by_cases hlt : g ((l + u) / 2) < x
      · rw [decide_eq_true hlt]
        walk_at "es"
        (rename Fr _ _ _ _ => F5)
        exact ⟨u - ((l + u) / 2 + 1), by omega, _, _, _, (l + u) / 2 + 1, u, _, _, rfl, F5, ha, hx, hky, rfl, hhi', by omega, by omega, by omega, fun _ => by simpa using hlt, b5, rfl⟩
      · rw [decide_eq_false hlt]
        walk_at "es"
        (rename Fr _ _ _ _ => F5)
        exact ⟨(l + u) / 2 - l, by omega, _, _, _, l, (l + u) / 2, _, _, rfl, F5, ha, hx, hky, hlo', rfl, by omega, by omega, by omega, b4, fun _ => by simpa using hlt, rfl⟩
    · rw [decide_eq_false hlu]
      walk_at "es"
      have hq : u = l := by omega
      subst hq
      exact h u _ _ _ ⟨by omega, by omega, b4, b5⟩ F.keep
theorem br_key {a : Addr} {vs : List Value} {kf : Addr} {g : Nat → Int} {x : Int} {tx tl : Tok} {lo : Nat} {hv : Value} {hi : Nat} {args : Args}
    {R : Result → Shared → Prop} (B : Bs w.params s.heap) (hA : A.depth < recursionLimit) (hl : s.heap.IsList a vs.toArray) (hkey : ∀ L cd scope, KeyOf prog w (A.deeper (envOf "bisect_right" scope L 40 cd)) s kf vs g) (hlen : vs.length < 1000) (hle : hi ≤ vs.length)
    (hhv : (hv = .none ∧ vs.length = hi) ∨ (∃ t, hv = .int hi t)) (hlo : lo ≤ hi)
    (hb : BindsTo s (fdOf (hd.heap_39 w.params) 40) args [("a", .ref a), ("x", .int x tx), ("lo", .int lo tl), ("hi", hv), ("key", .ref kf)])
    (h : ∀ (r : Nat) t h' tk, Found (fun i => ¬ x < g i) lo hi r → Ex s.heap h' → R (.ok (.ret (.int r t))) { s with heap := h', toks := tk }) :
    codeAny (model prog w) A (.call (.ref 40) args) R s := by
  obtain ⟨⟨kO, kfd, hkO, hkfd⟩, -⟩ := hkey 0 default default
  refine enterK B.K B.nolimit rfl rfl hA hb (locs rfl) ?_ rfl rfl rfl (by decide)
  intro h₁ tk₁ F
  iterate 7 walk_at "e"
  rw [decide_eq_false (by omega)]
  rcases hhv with ⟨rfl, heq⟩ | ⟨th, rfl⟩
  case' inl =>
    walk_at "es"
    have hl₁ : h₁.IsList a vs.toArray := hl.at fun o e => F.keep _ _ e
    refine Calls.call_len_list (by exact hl₁) (by rw [List.size_toArray]; omega) ?_
    rw [show ((vs.toArray.size : Nat) : Int) = ((hi : Nat) : Int) by rw [List.size_toArray, heq]]
    walk_at "es"
  case' inr => walk_at "es"
  all_goals
    (rename Fr _ _ _ _ => F0)
    refine codeAny_whileLoop (fun n s' => ∃ (h' : Heap) (tk : Nat) (m : Str → Option Value) (l u : Nat) (t1 t2 : Tok), s' = { s with heap := h', toks := tk } ∧ Fr s.heap s.heap.objs.size h' m ∧
      m "a" = some (.ref a) ∧ m "x" = some (.int x tx) ∧ m "key" = some (.ref kf) ∧ m "lo" = some (.int l t1) ∧ m "hi" = some (.int u t2) ∧ lo ≤ l ∧ l ≤ u ∧ u ≤ hi ∧ (lo < l → ¬ x < g (l - 1)) ∧ (u < hi → ¬ (¬ x < g u)) ∧ n = u - l) ?_ (hi - lo)
      ⟨_, _, _, lo, hi, _, _, rfl, F0, rfl, rfl, rfl, rfl, rfl, Nat.le_refl _, hlo, Nat.le_refl _, fun h => absurd h (Nat.lt_irrefl _), fun h => absurd h (Nat.lt_irrefl _), rfl⟩
    clear F0
    rintro n s' ⟨h', tk, m, l, u, t1, t2, rfl, F, ha, hx, hky, hlo', hhi', b1, b2, b3, b4, b5, rfl⟩
    walk_at "es"
    by_cases hlu : (l : Int) < u
    · rw [decide_eq_true hlu]
      walk_at "es"
      refine PyProof.Rows.floordiv_int (by decide) ?_ (Or.inl (PyProof.noPylong_small (by omega)))
      rw [show ((l : Int) + u).fdiv 2 = (((l + u) / 2 : Nat) : Int) by rw [Int.fdiv_eq_ediv_of_nonneg _ (by decide)]; omega]
      walk_at "es"
      rename_i h₃ F₃
      have hm1 : (l + u) / 2 < vs.length := by omega
      refine Calls.callWith_function (o := kO) (fd := kfd) (Calls.evalArgs_plain ?_)
      walk_at "es"
      refine PyProof.Rows.item_listL (hl.at fun o e => F₃.keep _ _ e) (by omega) (by omega) (by rw [Int.toNat_natCast]; exact List.getElem?_eq_getElem hm1) ?_
      walk_at "es"
      refine ⟨⟨F₃.keep _ _ hkO, hkfd⟩, wpAny_call ((hkey _ _ _).2 ((l + u) / 2) _ _ _ _ (List.getElem?_eq_getElem hm1) F₃.keep ?_)⟩
      intro h₄ t4 tk4 k4
      have F₄ := Fr.ext F₃ k4
      clear F₃
      dsimp only
      walk_at "es"
      by_cases hlt : x < g ((l + u) / 2)
      · rw [decide_eq_true hlt]
        walk_at "es"
        (rename Fr _ _ _ _ => F5)
        exact ⟨(l + u) / 2 - l, by omega, _, _, _, l, (l + u) / 2, _, _, rfl, F5, ha, hx, hky, hlo', rfl, by omega, by omega, by omega, b4, fun _ => by simpa using hlt, rfl⟩
      · rw [decide_eq_false hlt]
        walk_at "es"
        (rename Fr _ _ _ _ => F5)
        exact ⟨u - ((l + u) / 2 + 1), by omega, _, _, _, (l + u) / 2 + 1, u, _, _, rfl, F5, ha, hx, hky, rfl, hhi', by omega, by omega, by omega, fun _ => by simpa using hlt, b5, rfl⟩
    · rw [decide_eq_false hlu]
      walk_at "es"
      have hq : u = l := by omega
      subst hq
      exact h u _ _ _ ⟨by omega, by omega, b4, b5⟩ F.keep
end
end
end
section
local macro_rules | `(tactic| walk_at "n") => `(tactic| first
  | refine PyProof.Rows.ld (by assumption) (by first | assumption | exact rfl) ?_
  | refine nm_glob (by first | assumption | exact Bs.keeps (by assumption) (Fr.keep (by assumption))) ?_
  | refine nm_blt (by first | assumption | exact Bs.keeps (by assumption) (Fr.keep (by assumption))) (by first | exact bt_len | exact bt_next | exact bt_iter | exact bt_sum | exact bt_abs | exact bt_chr | exact bt_ord | exact bt_range | exact bt_list | exact bt_enumerate | exact bt_ValueError | exact bt_StopIteration) ?_)
local macro_rules | `(tactic| walk_at "e") => `(tactic| first
  | ((with_reducible show wpAny _ _ (loadName _ _) _ _ _); refine PyProof.Rows.ldn (by assumption) (by first | assumption | exact rfl) ?_)
  | ((with_reducible show wpAny _ _ (callWith _ (Value.builtin _) [] _ []) _ _ _); refine Calls.callWith_builtin rfl (Calls.evalArgs_plain ?_))
  | ((with_reducible show wpAny _ _ (storeName _ _ _) _ _ _); refine st2 (by assumption) ?_; (try dsimp only); intro h' F' hs')
  | ((with_reducible show wpAny _ _ (eval (Expr.Name _ _) _) _ _ _); walk_at "n")
  | walk_at "c")
local macro_rules | `(tactic| walk_at "es") => `(tactic| repeat' walk_at "e")
-- PV
section
open PySem PySem.W PyProof.Rows
open PySem PySem.Spec PySem.Calls

section
variable {prog : Program} {w : World} {A : Around} {E : Value → Shared → Prop} {s : Shared}
/-- the codes' value, most significant first -/
def val6 (l : List Nat) : Nat := l.foldl (fun v b => v * 64 + b % 64) 0
theorem val6_snoc (l : List Nat) (b : Nat) : val6 (l ++ [b]) = val6 l * 64 + b % 64 := by simp [val6]
theorem val6_lt (l : List Nat) : val6 l < 64 ^ l.length := by
  suffices h : ∀ v n, v < 64 ^ n → l.foldl (fun v b => v * 64 + b % 64) v < 64 ^ (n + l.length) by
    have := h 0 0 (by decide); simpa [val6] using this
  induction l with
  | nil => intro v n h; simpa using h
  | cons b r ih =>
    intro v n h
    have := ih (v * 64 + b % 64) (n + 1) (by rw [Nat.pow_succ]; omega)
    rw [List.foldl_cons, List.length_cons, Nat.add_comm r.length 1, ← Nat.add_assoc]
    exact this

def cont (b : Nat) : Prop := b < 256 ∧ b / 64 % 2 = 1
def last (b : Nat) : Prop := b < 256 ∧ b / 64 % 2 = 0

theorem pv_call {g : Heap} {it l : Addr} {i : Nat} {vs : List Value} {ns ks tail : List Nat} {outer : List Env} {base : Heap}
    {R : Result → Shared → Prop} (B : Bs w.params g) (hgs : Ex g s.heap) (hsz : g.objs.size ≤ s.heap.objs.size) (hgi : g.get? it = none) (hit : s.heap.IsListIter it l i)
    (hA : A.depth < recursionLimit) (hh : A.handled = none) (hl : g.IsList l vs.toArray) (hi : IntsAre vs (ns.map fun n => ((n : Nat) : Int)))
    (hns : ns.drop i = ks ++ tail) (hks : ∀ k ∈ ks, cont k) (hk8 : ks.length ≤ 8) (htail : (∃ f rest, tail = f :: rest ∧ last f) ∨ (tail = [] ∧ ks ≠ [] ∧ Below A base outer g))
    (hok : ∀ f rest h' t tk, tail = f :: rest → h'.IsListIter it l (i + ks.length + 1) → Ex g h' → R (.ok (.ret (.int (val6 (ks ++ [f])) t))) { s with heap := h', toks := tk })
    (herr : ∀ h' e tk, tail = [] → RaisedN base outer e (.type "StopIteration") [] h' → g.UpToSlots h' → R (.error (.ref e)) { s with heap := h', toks := tk }) :
    codeAny (model prog w) A (.call (.ref 56) ⟨[.ref it], []⟩) R s := by
  refine enterK (B.K.keeps hgs) (B.nolimit.keeps hgs) rfl rfl hA (binds := [("iterator", .ref it)]) (BindsTo.of_eq rfl) (locs rfl) ?_ rfl rfl rfl (by decide)
  intro h₁ tk₁ F₀
  have hLit : it ≠ s.heap.objs.size := by obtain ⟨o, ho, _⟩ := hit; exact Nat.ne_of_lt (Heap.lt_size ho)
  have F : Fr g s.heap.objs.size h₁ _ := ⟨F₀.ns, fun b o e => F₀.keep _ _ (hgs _ _ e), hsz⟩
  have hit₁ : h₁.IsListIter it l i := hit.at fun o e => F₀.keep _ _ e
  clear F₀
  have hne : (ks ++ tail) ≠ [] := by
    rcases htail with ⟨f, rest, rfl, _⟩ | ⟨_, h, _⟩ <;> simp_all
  have hlen : 0 < (ks ++ tail).length := List.length_pos_iff.mpr hne
  have hget : ∀ j, j < (ks ++ tail).length → ∃ t, vs.toArray[i + j]? = some (.int (((ks ++ tail).getD j 0 : Nat) : Int) t) := fun j hj => by
    have e1 : ns[i + j]? = some ((ks ++ tail).getD j 0) := by
      rw [← List.getElem?_drop, hns, List.getD_eq_getElem?_getD, List.getElem?_eq_getElem hj]; rfl
    obtain ⟨t, e2⟩ := hi.get (i + j) (((ks ++ tail).getD j 0 : Nat) : Int) (by rw [List.getElem?_map, e1]; rfl)
    exact ⟨t, by simpa using e2⟩
  have hend : ∀ j, (ks ++ tail).length ≤ j → vs.toArray[i + j]? = none := fun j hj => by
    have e1 : ns[i + j]? = none := by rw [← List.getElem?_drop, hns]; exact List.getElem?_eq_none hj
    have e2 : vs.length = ns.length := by rw [hi.length, List.length_map]
    have e3 := List.getElem?_eq_none_iff.mp e1
    simp; omega
  have hcont : ∀ j, j < ks.length → cont ((ks ++ tail).getD j 0) := fun j hj => by
    rw [List.getD_eq_getElem?_getD, List.getElem?_append_left hj, List.getElem?_eq_getElem hj]
    exact hks _ (List.getElem_mem hj)
  walk_at "es"
  obtain ⟨t0, hg0⟩ := hget 0 hlen
  refine next_item hit₁ (hl.at fun o e => F.keep _ _ e) hg0 fun h₂ hit₂ hs₂ => ?_
  have F₂ : Fr g s.heap.objs.size h₂ _ := F.change hs₂ hLit hgi
  clear F
  walk_at "es"
  rename_i h₃ F₃ hs₃ h₄ F₄ hs₄
  have hit₄ : h₄.IsListIter it l (i + 1) := (hit₂.extBut hs₃.extBut hLit).extBut hs₄.extBut hLit
  have hb0 : (ks ++ tail).getD 0 0 < 256 := by
    by_cases h0 : 0 < ks.length
    · exact (hcont 0 h0).1
    · rcases htail with ⟨f, rest, rfl, hf⟩ | ⟨rfl, h, _⟩
      · have : ks = [] := List.eq_nil_of_length_eq_zero (by omega)
        subst this; exact hf.1
      · exact absurd (List.eq_nil_of_length_eq_zero (by omega)) h
  have hv0 : val6 ((ks ++ tail).take 1) = (ks ++ tail).getD 0 0 % 64 := by
    obtain ⟨x, r, e⟩ := List.exists_cons_of_ne_nil hne
    rw [e]; simp [val6]
  refine codeAny_whileLoop (fun n s' => ∃ (h' : Heap) (tk : Nat) (m : Str → Option Value) (j : Nat) (t1 t2 : Tok), s' = { s with heap := h', toks := tk } ∧ Fr g s.heap.objs.size h' m ∧ h'.IsListIter it l (i + j + 1) ∧
      m "iterator" = some (.ref it) ∧ m "b" = some (.int (((ks ++ tail).getD j 0 : Nat) : Int) t1) ∧ m "val" = some (.int ((val6 ((ks ++ tail).take (j + 1)) : Nat) : Int) t2) ∧ j < (ks ++ tail).length ∧ j ≤ ks.length ∧ n = (ks ++ tail).length - j) ?_ (ks ++ tail).length
      ⟨_, _, _, 0, _, _, rfl, F₄, hit₄, rfl, rfl, (show _ = some (Value.int (Builtin.bitAnd _ 63) _) from rfl).trans (by rw [hv0, and63 _ hb0]), hlen, Nat.zero_le _, rfl⟩
  clear F₂ F₃ F₄ hs₃ hs₄ hit₄ hit₂ hs₂
  rintro n s' ⟨h', tk, m, j, t1, t2, rfl, F, hitj, hni, hnb, hnv, hj, hjk, rfl⟩
  walk_at "es"
  rcases Nat.lt_or_ge j ks.length with hjlt | hjge
  · have hc := hcont j hjlt
    rw [and64 _ hc.1, hc.2, show ((((1 * 64 : Nat) : Int)) != 0) = true by decide]
    walk_at "es"
    have hvl := val6_lt ((ks ++ tail).take (j + 1))
    have hvl2 : val6 ((ks ++ tail).take (j + 1)) < 64 ^ 9 := Nat.lt_of_lt_of_le hvl (Nat.pow_le_pow_right (by decide) (by rw [List.length_take]; omega))
    refine PyProof.Rows.ilshift_int_small (by decide) (by decide) (by rw [Int.natAbs_natCast]; exact Nat.lt_of_lt_of_le hvl2 (by decide)) ?_
    rw [show ((val6 ((ks ++ tail).take (j + 1)) : Nat) : Int) * 2 ^ (6 : Int).toNat = ((val6 ((ks ++ tail).take (j + 1)) * 64 : Nat) : Int) by rw [Int.natCast_mul]; rfl]
    walk_at "es"
    rename_i h₅ F₅ hs₅
    have hit₅ : h₅.IsListIter it l (i + (j + 1)) := hitj.extBut hs₅.extBut hLit
    rcases Nat.lt_or_ge (j + 1) (ks ++ tail).length with hmore | hout
    · obtain ⟨t5, hg5⟩ := hget (j + 1) hmore
      refine next_item hit₅ (hl.at fun o e => F₅.keep _ _ e) hg5 fun h₆ hit₆ hs₆ => ?_
      have F₆ : Fr g s.heap.objs.size h₆ _ := F₅.change hs₆ hLit hgi
      clear F F₅
      walk_at "es"
      have hlt6 : (ks ++ tail).getD (j + 1) 0 < 256 := by
        rcases Nat.lt_or_ge (j + 1) ks.length with h1 | h1
        · exact (hcont _ h1).1
        · rcases htail with ⟨f, rest, rfl, hf⟩ | ⟨rfl, _, _⟩
          · have e1 : j + 1 = ks.length := by omega
            rw [e1, List.getD_eq_getElem?_getD, List.getElem?_append_right (Nat.le_refl _), Nat.sub_self]
            exact hf.1
          · rw [List.append_nil] at hmore; omega
      (rename Fr _ _ _ _ => F₇)
      rename_i h₇ _ hs₇ h₈ hs₈
      have hz : Builtin.bitOr ((val6 ((ks ++ tail).take (j + 1)) * 64 : Nat) : Int) (Builtin.bitAnd (((ks ++ tail).getD (j + 1) 0 : Nat) : Int) 63) = ((val6 ((ks ++ tail).take (j + 1 + 1)) : Nat) : Int) := by
        have h9 : (ks ++ tail).take (j + 1 + 1) = (ks ++ tail).take (j + 1) ++ [(ks ++ tail).getD (j + 1) 0] := by
          rw [List.take_add_one, List.getD_eq_getElem?_getD, List.getElem?_eq_getElem hmore]; rfl
        rw [and63 _ hlt6, or_low _ _ (Nat.mod_lt _ (by decide)), ← val6_snoc, h9]
      exact ⟨(ks ++ tail).length - (j + 1), by omega, _, _, _, j + 1, _, _, rfl, F₇, (hit₆.extBut hs₇.extBut hLit).extBut hs₈.extBut hLit, hni, rfl, congrArg (fun z : Int => some (Value.int z _)) hz, hmore, by omega, rfl⟩
    · have htn : tail = [] := by
        rcases htail with ⟨f, rest, rfl, _⟩ | ⟨h, _⟩
        · rw [List.length_append, List.length_cons] at hout; omega
        · exact h
      rcases htail with ⟨f, rest, rfl, _⟩ | ⟨_, _, hB⟩
      · cases htn
      refine next_end (by exact hh) hit₅ (hl.at fun o e => F₅.keep _ _ e) (hend (j + 1) hout) fun h₆ h₇ e hs₆ hx => ?_
      have F₆ : Fr g s.heap.objs.size h₆ _ := F₅.change hs₆ hLit hgi
      refine PassesOwn.leaving _ _ ?_
      exact leave_newK hB hx F₆ News.nil fun h' hr hu => herr h' e _ htn hr hu
  · rcases htail with ⟨f, rest, rfl, hf⟩ | ⟨rfl, _, _⟩
    · have e1 : j = ks.length := by omega
      subst e1
      have e2 : (ks ++ f :: rest).getD ks.length 0 = f := by
        rw [List.getD_eq_getElem?_getD, List.getElem?_append_right (Nat.le_refl _), Nat.sub_self]; rfl
      rw [e2, and64 _ hf.1, hf.2, show ((((0 * 64 : Nat) : Int)) != 0) = false by decide]
      walk_at "es"
      rw [show (ks ++ f :: rest).take (ks.length + 1) = ks ++ [f] by rw [List.take_append, List.take_of_length_le (Nat.le_succ _), Nat.add_sub_cancel_left]; rfl]
      exact hok f rest _ _ _ rfl hitj F.keep
    · rw [List.append_nil] at hj; omega
end
end
-- KY
section
open PySem PySem.W PyProof.Rows
open PySem PySem.Spec PySem.Calls

section
variable {prog : Program} {w : World} {A : Around} {E : Value → Shared → Prop} {s : Shared}
/-- entering a lambda that the call has made -/
theorem enterLam {R : Result → Shared → Prop} {name qual : Str} {params : Arguments} {body : Expr} {scope : Scope} {pm cdv ct : Value} {f : Addr} {o : Obj} {args : Args} {binds : List (Str × Value)}
    (hlim : s.heap.NoLimit) (ho : s.heap.get? f = some o) (hd : o.data = .func (kla_fn name qual params body scope [] pm cdv ct)) (hcd : s.heap.CodeRec cdv qual) (hroom : A.depth < recursionLimit)
    (hbind : bindArgs (kla_fn name qual params body scope [] pm cdv ct) args = pure binds) (hloc : ∀ y ∈ binds, scope.names.lookup y.1 = some .local)
    (h : ∀ h₁ tk₁, Fr s.heap s.heap.objs.size h₁ (fun y => binds.reverse.lookup y) →
      wpAny (model prog w) (A.deeper (envOf qual scope s.heap.objs.size f cdv)) (eval body (envOf qual scope s.heap.objs.size f cdv))
        (fun v s' => R (.ok (.ret v)) s')
        (fun e s' => wpAny (model prog w) (A.deeper (envOf qual scope s.heap.objs.size f cdv)) (leaving (envOf qual scope s.heap.objs.size f cdv) e) (fun _ s'' => R (.error e) s'') (fun e' s'' => R (.error e') s'') s')
        { s with heap := h₁, toks := tk₁ })
    (hco : scope.isCoroutine = false) (hgen : scope.isGenerator = false) (hk : scope.kind = .function)
    (hcell : ∀ x ∈ scope.names, x.2 ≠ .cell) : codeAny (model prog w) A (.call (.ref f) args) R s := by
  refine kla_callFunE hroom ho hd hco hgen rfl hcd ?_
  rw [hbind]
  refine wpAny_pure (wpAny_newFunctionEnv hcell hloc (fun h₁ hns hsb => ⟨hlim.fresh _ hsb, ?_⟩) hk)
  show codeAny _ _ (.expr body (envOf qual scope s.heap.objs.size f cdv)) _ _
  have hk₁ : ∀ b o, s.heap.get? b = some o → h₁.get? b = some o := fun b o e => hsb.extBut b o (Nat.ne_of_lt (Heap.lt_size e)) (Heap.get?_push_of_some _ e)
  exact kla_codeExpr (h _ _ ⟨hns, hk₁, Nat.le_refl _⟩)

theorem read_core {g : Heap} {L : Addr} {kf : Addr} {cd : Value} {qual : Str} {oi : Addr} {vs : List Value} {ks : List Nat} {f : Nat} {p1 p2 p3 p4 p5 : Pos} {m : Str → Option Value} {scope : Scope} {Q : Value → Shared → Prop}
    (hs1 : scope = { kind := .function, names := [("signs", .local), ("_parse_varint", .globalImplicit), ("iter", .globalImplicit)], isGenerator := false, isCoroutine := false })
    (B : Bs w.params g) (F : Fr g L s.heap m) (hm : m "signs" = some (.ref oi)) (hl : g.IsList oi vs.toArray) (hi : IntsAre vs ((ks ++ [f]).map fun n => ((n : Nat) : Int)))
    (hks : ∀ k ∈ ks, cont k) (hk8 : ks.length ≤ 8) (hf : last f) (hA : A.depth < recursionLimit) (hh : A.handled = none)
    (h : ∀ h' t tk, Ex g h' → Fr g L h' m → Q (.int (val6 (ks ++ [f])) t) { s with heap := h', toks := tk }) :
    wpAny (model prog w) A (eval (.Call (.Name "_parse_varint" p1) [.Call (.Name "iter" p2) [.Name "signs" p3] [] p4] [] p5) (envOf qual scope L kf cd)) Q E s := by
  subst hs1
  walk_at "es"
  refine cw_fnB B ?_
  walk_at "es"
  refine iter_list (hl.at fun o e => F.keep _ _ e) fun h₁ I hI hit k₁ z₁ => ?_
  have F₁ := Fr.ext F k₁
  have hgI : g.get? I = none := by
    cases q : g.get? I with
    | none => rfl
    | some o => rw [F.keep _ _ q] at hI; cases hI
  walk_at "es"
  refine ⟨F₁.keep, wpAny_call ?_⟩
  refine pv_call (outer := []) (base := s.heap) (g := s.heap) (B.keeps F.keep) (by exact k₁) (by exact z₁) (by exact hI) (by exact hit) hA hh (hl.at fun o e => F.keep _ _ e) hi (by simpa using rfl) hks hk8 (Or.inl ⟨f, [], rfl, hf⟩) ?_ ?_
  · intro f' rest h' t tk he hit' k'
    obtain ⟨rfl, -⟩ := List.cons.inj he
    exact h h' t tk (fun b o e => k' _ _ (F.keep _ _ e)) (Fr.ext F k')
  · intro h' e tk he
    cases he

abbrev lamScope : Scope := { kind := .function, names := [("signs", .local), ("_parse_varint", .globalImplicit), ("iter", .globalImplicit)], isGenerator := false, isCoroutine := false }
abbrev lamParams (p : Pos) : Arguments := { posonlyargs := [], args := [{ arg := "signs", annotation := none, pos := p }], vararg := none, kwonlyargs := [], kw_defaults := [], kwarg := none, defaults := [] }

theorem read_call {kf : Addr} {o : Obj} {oi : Addr} {vs : List Value} {ks : List Nat} {f : Nat} {p0 p1 p2 p3 p4 p5 : Pos} {name qual : Str} {pm cdv ct : Value} {R : Result → Shared → Prop}
    (B : Bs w.params s.heap) (ho : s.heap.get? kf = some o) (hd : o.data = .func (kla_fn name qual (lamParams p0) (.Call (.Name "_parse_varint" p1) [.Call (.Name "iter" p2) [.Name "signs" p3] [] p4] [] p5) lamScope [] pm cdv ct))
    (hcd : s.heap.CodeRec cdv qual) (hl : s.heap.IsList oi vs.toArray) (hi : IntsAre vs ((ks ++ [f]).map fun n => ((n : Nat) : Int)))
    (hks : ∀ k ∈ ks, cont k) (hk8 : ks.length ≤ 8) (hf : last f) (hA : A.depth + 1 < recursionLimit) (hh : A.handled = none)
    (h : ∀ h' t tk, Ex s.heap h' → R (.ok (.ret (.int (val6 (ks ++ [f])) t))) { s with heap := h', toks := tk }) :
    codeAny (model prog w) A (.call (.ref kf) ⟨[.ref oi], []⟩) R s := by
  refine enterLam B.nolimit ho hd hcd (by omega) (binds := [("signs", .ref oi)]) rfl (locs rfl) ?_ rfl rfl rfl (by decide)
  intro h₁ tk₁ F
  exact read_core rfl B F rfl hl hi hks hk8 hf (by show A.depth + 1 < _; omega) hh fun h' t tk k _ => h h' t tk k

theorem turned_call {kf : Addr} {o : Obj} {oi : Addr} {vs : List Value} {ks : List Nat} {f : Nat} {p0 p1 p2 p3 p4 p5 p6 : Pos} {name qual : Str} {pm cdv ct : Value} {R : Result → Shared → Prop}
    (B : Bs w.params s.heap) (ho : s.heap.get? kf = some o) (hd : o.data = .func (kla_fn name qual (lamParams p0) (.UnaryOp .USub (.Call (.Name "_parse_varint" p1) [.Call (.Name "iter" p2) [.Name "signs" p3] [] p4] [] p5) p6) lamScope [] pm cdv ct))
    (hcd : s.heap.CodeRec cdv qual) (hl : s.heap.IsList oi vs.toArray) (hi : IntsAre vs ((ks ++ [f]).map fun n => ((n : Nat) : Int)))
    (hks : ∀ k ∈ ks, cont k) (hk8 : ks.length ≤ 8) (hf : last f) (hA : A.depth + 1 < recursionLimit) (hh : A.handled = none)
    (h : ∀ h' t tk, Ex s.heap h' → R (.ok (.ret (.int (-(val6 (ks ++ [f]) : Int)) t))) { s with heap := h', toks := tk }) :
    codeAny (model prog w) A (.call (.ref kf) ⟨[.ref oi], []⟩) R s := by
  refine enterLam B.nolimit ho hd hcd (by omega) (binds := [("signs", .ref oi)]) rfl (locs rfl) ?_ rfl rfl rfl (by decide)
  intro h₁ tk₁ F
  refine wpAny_UnaryOp ?_
  exact read_core rfl B F rfl hl hi hks hk8 hf (by show A.depth + 1 < _; omega) hh fun h' t tk k _ => neg_int (h h' _ _ k)
end
end
-- OC
section
open PySem PySem.W PyProof.Rows
open PySem PySem.Spec PySem.Calls

/-- the codes that tell n -/
structure Oct (n : Nat) (os : List Nat) : Prop where
  shape : ∃ ks f, os = ks ++ [f] ∧ (∀ k ∈ ks, cont k ∧ 128 ≤ k) ∧ last f ∧ 128 ≤ f ∧ ks.length ≤ 3
  val : val6 os = n
theorem val6_cons (o : Nat) (l : List Nat) : val6 (o :: l) = (o % 64) * 64 ^ l.length + val6 l := by
  suffices h : ∀ (l : List Nat) (v : Nat), l.foldl (fun v b => v * 64 + b % 64) v = v * 64 ^ l.length + l.foldl (fun v b => v * 64 + b % 64) 0 by
    have := h l (o % 64); simpa [val6] using this
  intro l
  induction l with
  | nil => intro v; simp
  | cons a r ih =>
    intro v
    rw [List.foldl_cons, List.foldl_cons, ih (v * 64 + a % 64), ih (0 * 64 + a % 64), List.length_cons, Nat.pow_succ, Nat.add_mul, Nat.zero_mul, Nat.zero_add]
    have : v * 64 * 64 ^ r.length = v * (64 ^ r.length * 64) := by rw [Nat.mul_assoc, Nat.mul_comm 64]
    omega
theorem oct_step {n k : Nat} {os : List Nat} (hv : val6 os = n % 64 ^ os.length) (hk : k = n / 64 ^ os.length) : val6 ((k % 64 + 192) :: os) = n % 64 ^ (os.length + 1) := by
  rw [val6_cons, hv, Nat.mod_pow_succ, ← hk, show (k % 64 + 192) % 64 = k % 64 by omega, Nat.mul_comm]
  omega
section
variable {prog : Program} {w : World} {A : Around} {s : Shared}
theorem oct_call {n b : Nat} {tn tb : Tok} {R : Result → Shared → Prop} (B : Bs w.params s.heap) (hA : A.depth < recursionLimit) (hn : n < 262144) (hb : b ≤ 1)
    (h : ∀ h' D vs os tk, Nw s.heap h' D → h'.PlainList D (List.toArray vs) → IntsAre vs (os.map fun n => ((n : Nat) : Int)) → Oct n os → R (.ok (.ret (.ref D))) { s with heap := h', toks := tk }) :
    codeAny (model prog w) A (.call (.ref 80) ⟨[.int n tn, .int b tb], []⟩) R s := by
  refine enterK B.K B.nolimit rfl rfl hA (binds := [("number", .int n tn), ("noughts", .int b tb)]) (BindsTo.of_eq rfl) (locs rfl) ?_ rfl rfl rfl (by decide)
  intro h₁ tk₁ F
  walk_at "es"
  refine new_list (by simp) fun h₂ D nw pl => ?_
  dsimp only
  have F₂ := Fr.ext F nw.ex
  have hgD : s.heap.get? D = none := by
    cases q : s.heap.get? D with
    | none => rfl
    | some o => have := nw.fresh; rw [F.keep _ _ q] at this; cases this
  have hDL : D ≠ s.heap.objs.size := by
    intro e; subst e
    obtain ⟨o, _, _, ho, _⟩ := F.ns
    have := nw.fresh; rw [ho] at this; cases this
  have hsz2 : s.heap.objs.size ≤ h₂.objs.size := Nat.le_trans (Nat.le_trans F.above (Nat.le_of_lt F.ns.lt)) nw.sz
  clear F
  walk_at "es"
  (rename Fr _ _ _ _ => F₃)
  rename_i h₃ hs₃
  refine codeAny_whileLoop (fun c s' => ∃ (h' : Heap) (tk : Nat) (m : Str → Option Value) (vs : List Value) (ks : List Nat) (f k : Nat) (t1 : Tok), s' = { s with heap := h', toks := tk } ∧ Fr s.heap s.heap.objs.size h' m ∧
      h'.PlainList D vs.toArray ∧ m "number" = some (.int k t1) ∧ m "octets" = some (.ref D) ∧ m "noughts" = some (.int b tb) ∧ IntsAre vs ((ks ++ [f]).map fun n => ((n : Nat) : Int)) ∧ (∀ k ∈ ks, cont k ∧ 128 ≤ k) ∧ last f ∧ 128 ≤ f ∧
      val6 (ks ++ [f]) = n % 64 ^ (ks.length + 1) ∧ k = n / 64 ^ ks.length ∧ ks.length ≤ 2 ∧ c = k) ?_ n
      ⟨_, _, _, _, [], n % 64 + 128, n, _, rfl, F₃, pl_but pl hs₃ hDL, rfl, rfl, rfl, ?_, by simp, ?_, by omega, ?_, by simp, by simp, rfl⟩
  · clear F₂ F₃ hs₃ pl nw hsz2
    rintro c s' ⟨h', tk, m, vs, ks, f, k, t1, rfl, F, pl, hm1, hm2, hm3, hi, hks, hf, hf2, hv, hk, hkl, hck⟩
    walk_at "es"
    by_cases hlt : (63 : Int) < k
    · rw [decide_eq_true hlt]
      walk_at "es"
      refine PyProof.Rows.floordiv_int (by decide) ?_ (Or.inl (PyProof.noPylong_small (by omega)))
      rw [show ((k : Int)).fdiv 64 = ((k / 64 : Nat) : Int) by rw [Int.fdiv_eq_ediv_of_nonneg _ (by decide)]; omega]
      walk_at "es"
      rename_i h₄ F₄ hs₄
      refine wpAny_Call_method (by rfl) (by rfl) (by rfl) PySem.F.plainAttrs_list PySem.F.slot_list_insert PySem.F.type_list_insert ?_
      have pl₄ := pl_but pl hs₄ hDL
      walk_at "es"
      refine ⟨pl₄.isList.typeIs, pl_dict pl₄, ?_⟩
      refine cw_m2 ?_
      walk_at "es"
      refine insert0 pl₄ (by rw [hi.length, List.length_map, List.length_append, List.length_singleton]; omega) fun h₅ pl₅ hs₅ => ?_
      dsimp only
      have F₅ := F₄.change hs₅ hDL hgD
      clear F F₄
      walk_at "es"
      have e1 : ((k / 64 : Nat) : Int).fmod 64 + 192 = ((k / 64 % 64 + 192 : Nat) : Int) := by
        rw [Int.fmod_eq_emod_of_nonneg _ (by decide)]; omega
      have e2 : k / 64 = n / 64 ^ (ks ++ [f]).length := by
        rw [List.length_append, List.length_singleton, Nat.pow_succ, ← Nat.div_div_eq_div_mul, ← hk]
      refine ⟨k / 64, by omega, _, _, _, _, (k / 64 % 64 + 192) :: ks, f, k / 64, _, rfl, F₅, pl₅, rfl, hm2, hm3, ?_, ?_, hf, hf2, ?_, ?_, ?_, rfl⟩
      · rw [e1]; exact .cons _ _ hi
      · intro k' hk'
        rcases List.mem_cons.mp hk' with rfl | hk'
        · unfold cont; omega
        · exact hks _ hk'
      · have := oct_step (n := n) (k := k / 64) (os := ks ++ [f]) (by rw [hv, List.length_append, List.length_singleton]) e2
        rw [List.length_append, List.length_singleton] at this
        exact this
      · rw [e2, List.length_append, List.length_singleton, List.length_cons]
      · rw [List.length_cons]
        rcases Nat.lt_or_ge ks.length 2 with h2 | h2
        · omega
        · have h3 : ks.length = 2 := by omega
          rw [h3] at hk
          have : n / 64 ^ 2 < 64 := Nat.div_lt_of_lt_mul (by omega)
          omega
    · rw [decide_eq_false hlt]
      walk_at "es"
      have hdone : val6 (ks ++ [f]) = n := by
        rw [hv]
        refine Nat.mod_eq_of_lt ?_
        rw [Nat.pow_succ]
        have : n / 64 ^ ks.length < 64 := by omega
        rw [Nat.mul_comm]
        exact (Nat.div_lt_iff_lt_mul (Nat.pow_pos (by decide))).mp this
      refine new_list (by simp) fun h₄ D₁ nw₁ pl₁ => ?_
      have F₄ := Fr.ext F nw₁.ex
      walk_at "es"
      refine mul_listsI (by exact pl₁) (by omega) (by omega) (by simp) fun h₅ D₂ nw₂ pl₂ => ?_
      rw [Int.toNat_natCast] at pl₂
      have F₅ := Fr.ext F₄ nw₂.ex
      walk_at "es"
      have hlen : vs.length = ks.length + 1 := by rw [hi.length, List.length_map, List.length_append, List.length_singleton]
      have hrep : (List.replicate b [Value.int 192 (tk + 1)]).flatten.length ≤ 1 := by
        rw [List.length_flatten, List.map_replicate, List.sum_replicate_nat]; simpa using hb
      refine add_lists (by exact pl₂) (by exact pl_keep (pl_keep pl nw₁.ex) nw₂.ex) (by omega) fun h₆ D₃ nw₃ pl₃ => ?_
      have F₆ := Fr.ext F₅ nw₃.ex
      dsimp only
      walk_at "es"
      refine h h₆ D₃ _ (List.replicate b 192 ++ (ks ++ [f])) _ ⟨?_, F₆.keep, Nat.le_trans F₆.above (Nat.le_of_lt F₆.ns.lt)⟩ pl₃ ?_ ⟨⟨List.replicate b 192 ++ ks, f, by rw [List.append_assoc], ?_, hf, hf2, ?_⟩, ?_⟩
      · cases q : s.heap.get? D₃ with
        | none => rfl
        | some o => have := nw₃.fresh; rw [F₅.keep _ _ q] at this; cases this
      · rw [List.map_append]
        refine IntsAre.append ?_ hi
        have hb2 : b = 0 ∨ b = 1 := by omega
        rcases hb2 with rfl | rfl
        · exact .nil
        · exact .cons _ _ .nil
      · intro k' hk'
        rcases List.mem_append.mp hk' with hk' | hk'
        · obtain ⟨_, rfl⟩ := List.mem_replicate.mp hk'
          unfold cont; omega
        · exact hks _ hk'
      · rw [List.length_append, List.length_replicate]; omega
      · have hb2 : b = 0 ∨ b = 1 := by omega
        rcases hb2 with rfl | rfl
        · exact hdone
        · show val6 (192 :: (ks ++ [f])) = n
          rw [val6_cons, hdone]; omega
  · rw [Int.fmod_eq_emod_of_nonneg _ (by decide), show ((n : Int) % 64 + 128) = ((n % 64 + 128 : Nat) : Int) by omega]
    exact .cons _ _ .nil
  · unfold last; omega
  · simp [val6]; omega
end
end
-- AL
section
open PySem PySem.W PyProof.Rows PyProof.V
open PySem PySem.Spec PySem.Calls


/-- a number's codes, each but the last going on -/
structure Blk (os : List Nat) : Prop where
  shape : ∃ ks f, os = ks ++ [f] ∧ (∀ k ∈ ks, cont k) ∧ last f ∧ ks.length ≤ 8

section
variable {prog : Program} {w : World} {A : Around} {s : Shared}
theorem all_call {l : Addr} {vs : List Value} {blks : List (List Nat)} {ts : List Nat} {outer : List Env} {R : Result → Shared → Prop}
    (hfr : A.frames = some outer) (hff : s.heap.FunFrames noHeap outer) (B : Bs w.params (hideAll s.heap (frs outer))) (hA : A.depth + 1 < recursionLimit) (hh : A.handled = none)
    (hl : (hideAll s.heap (frs outer)).IsList l vs.toArray) (hi : IntsAre vs ((blks.flatten ++ ts).map fun n => ((n : Nat) : Int)))
    (hblk : ∀ b ∈ blks, Blk b) (hts : ∀ k ∈ ts, cont k) (hts0 : ts ≠ []) (hts8 : ts.length ≤ 8) (hsz : blks.length ≤ 900)
    (h : ∀ h' D us tk, s.heap.get? D = none → (hideAll s.heap (frs outer)).StaysIn h' → s.heap.UpToSlots h' → h'.PlainList D (List.toArray us) → IntsAre us (blks.map fun b => ((val6 b : Nat) : Int)) → R (.ok (.ret (.ref D))) { s with heap := h', toks := tk }) :
    codeAny (model prog w) A (.call (.ref 87) ⟨[.ref l], []⟩) R s := by
  have hbs : Ex (hideAll s.heap (frs outer)) s.heap := fun b o e => of_hideAll _ e
  have hls := il_keep hl hbs
  refine enterK (B.K.keeps hbs) (B.nolimit.keeps hbs) rfl rfl (by omega) (binds := [("codes", .ref l)]) (BindsTo.of_eq rfl) (locs rfl) ?_ rfl rfl rfl (by decide)
  intro h₁ tk₁ F
  have Bs' := B.keeps hbs
  walk_at "es"
  refine iter_list (hls.at fun o e => F.keep _ _ e) fun h₂ I hI hit k₂ z₂ => ?_
  have F₂ := Fr.ext F k₂
  have hsI : s.heap.get? I = none := by
    cases q : s.heap.get? I with
    | none => rfl
    | some o => rw [F.keep _ _ q] at hI; cases hI
  have hIL : I ≠ s.heap.objs.size := by
    intro e; subst e
    obtain ⟨o, _, _, ho, _⟩ := F.ns
    rw [ho] at hI; cases hI
  clear F
  walk_at "es"
  rename_i h₃ F₃ hs₃
  have hit₃ := hit.extBut hs₃.extBut hIL
  refine new_list (by simp) fun h₄ D nw pl => ?_
  have F₄ := Fr.ext F₃ nw.ex
  have hit₄ : h₄.IsListIter I l 0 := hit₃.at fun o e => nw.ex _ _ e
  have hsD : s.heap.get? D = none := by
    cases q : s.heap.get? D with
    | none => rfl
    | some o => have := nw.fresh; rw [F₃.keep _ _ q] at this; cases this
  have hDL : D ≠ s.heap.objs.size := by
    intro e; subst e
    obtain ⟨o, _, _, ho, _⟩ := F₃.ns
    have := nw.fresh; rw [ho] at this; cases this
  have hDI : D ≠ I := by
    intro e; subst e
    obtain ⟨o, ho, _⟩ := hit₃
    have := nw.fresh; rw [ho] at this; cases this
  walk_at "es"
  (rename Fr _ _ _ _ => F₅)
  rename_i h₅ hs₅
  refine codeAny_whileLoop (fun c s' => ∃ (h' : Heap) (tk : Nat) (m : Str → Option Value) (us : List Value) (done rest : List (List Nat)), s' = { s with heap := h', toks := tk } ∧ Fr s.heap s.heap.objs.size h' m ∧
      m "tape" = some (.ref I) ∧ m "told" = some (.ref D) ∧ h'.IsListIter I l done.flatten.length ∧ h'.PlainList D us.toArray ∧ IntsAre us (done.map fun b => ((val6 b : Nat) : Int)) ∧ blks = done ++ rest ∧ c = rest.length) ?_ blks.length
      ⟨_, _, _, [], [], blks, rfl, F₅, rfl, rfl, hit₄.extBut hs₅.extBut hIL, pl_but pl hs₅ hDL, .nil, rfl, rfl⟩
  clear F₂ F₃ F₄ F₅ hs₃ hs₅ hit hit₃ hit₄ pl nw k₂ z₂ hI
  rintro c s' ⟨h', tk, m, us, done, rest, rfl, F, hm1, hm2, hit, pl, hu, hbl, rfl⟩
  walk_at "es"
  refine wpAny_noRaise (wpAny_Try_except ?_)
  walk_at "es"
  refine wpAny_Call_method (by rfl) (by rfl) (by rfl) PySem.F.plainAttrs_list PySem.F.slot_list_append PySem.F.type_list_append ?_
  walk_at "es"
  refine ⟨pl.isList.typeIs, pl_dict pl, ?_⟩
  refine cw_m1 ?_
  walk_at "es"
  refine cw_fnB Bs' ?_
  walk_at "es"
  refine ⟨F.keep, wpAny_call ?_⟩
  have hdone : (done.flatten).length ≤ (blks.flatten).length := by rw [hbl, List.flatten_append, List.length_append]; omega
  have hdrop : (blks.flatten ++ ts).drop done.flatten.length = rest.flatten ++ ts := by
    rw [hbl, List.flatten_append, List.append_assoc, List.drop_left]
  have hlI : l ≠ I := by
    intro e; subst e
    obtain ⟨o, ho, _⟩ := hls
    rw [ho] at hsI; cases hsI
  have hgl : (hideAll h' [I]).IsList l vs.toArray := by
    refine hls.at fun o e => hideAll_get _ (F.keep _ _ e) ?_
    simpa using hlI
  have hgB : Bs w.params (hideAll h' [I]) := by
    refine B.keeps fun b o e => hideAll_get _ (F.keep _ _ (hbs _ _ e)) ?_
    intro hm
    rw [List.mem_singleton.mp hm] at e
    rw [hbs _ _ e] at hsI; cases hsI
  have hux : us.length ≤ 900 := by
    rw [hu.length, List.length_map]
    have : done.length ≤ blks.length := by rw [hbl, List.length_append]; omega
    omega
  cases rest with
  | cons b rest =>
    obtain ⟨ks, f, rfl, hks, hf, hk8⟩ := (hblk b (by rw [hbl]; simp)).shape
    refine pv_call (outer := []) (base := h') (g := hideAll h' [I]) (ks := ks) (tail := f :: (rest.flatten ++ ts)) hgB (fun b o e => of_hideAll _ e) (Nat.le_of_eq (hideAll_size _ _)) (hideAll_none _ (by simp)) hit
      (by show A.depth + 1 < _; omega) hh hgl hi (by rw [hdrop, List.flatten_cons]; simp) hks hk8 (Or.inl ⟨f, _, rfl, hf⟩) ?_ ?_
    · intro f' rest' h₆ t tk₆ he hit₆ k₆
      obtain ⟨rfl, rfl⟩ := List.cons.inj he
      have kD : ∀ o, h'.get? D = some o → h₆.get? D = some o := fun o e => k₆ _ _ (hideAll_get _ e (by simpa using hDI))
      have F₆ : Fr s.heap s.heap.objs.size h₆ m := by
        obtain ⟨oL, x1, x2, hoL, x3⟩ := F.ns
        exact ⟨⟨oL, x1, x2, k₆ _ _ (hideAll_get _ hoL (by simpa using hIL.symm)), x3⟩, fun b o e => k₆ _ _ (hideAll_get _ (F.keep _ _ e) (by rintro hm; rw [List.mem_singleton.mp hm] at e; rw [e] at hsI; cases hsI)), F.above⟩
      have pl₆ : h₆.PlainList D us.toArray := pl.at kD
      clear F
      dsimp only
      walk_at "es"
      refine wpAny_list_append_plain (by exact pl₆) (fun h₇ pl₇ hs₇ => ?_) (by rw [List.size_toArray, show sizeLine = 16777216 by decide]; omega)
      have F₇ := F₆.change hs₇ hDL hsD
      walk_at "es"
      refine ⟨rest.length, by simp, h₇, _, m, us ++ [.int ((val6 (ks ++ [f]) : Nat) : Int) t], done ++ [ks ++ [f]], rest, rfl, F₇, hm1, hm2, ?_, ?_, ?_, ?_, rfl⟩
      · have e1 : (done ++ [ks ++ [f]]).flatten.length = done.flatten.length + ks.length + 1 := by
          rw [List.flatten_append, List.length_append]; simp; omega
        rw [e1]; exact hit₆.extBut hs₇.extBut hDI.symm
      · have e1 : us.toArray.push (Value.int ((val6 (ks ++ [f]) : Nat) : Int) t) = (us ++ [Value.int ((val6 (ks ++ [f]) : Nat) : Int) t]).toArray := by simp
        rw [← e1]; exact pl₇
      · rw [List.map_append]
        exact IntsAre.append hu (.cons _ _ .nil)
      · rw [hbl, List.append_assoc]; rfl
    · intro h₆ e tk₆ he
      cases he
  | nil =>
    have hIf : ∃ o vs, h'.get? I = some o ∧ o.data = .fields vs := by
      obtain ⟨o, ho, _, hd⟩ := hit
      exact ⟨o, _, ho, hd⟩
    refine pv_call (g := hideAll h' [I]) (ks := ts) (tail := []) hgB (fun b o e => of_hideAll _ e) (Nat.le_of_eq (hideAll_size _ _)) (hideAll_none _ (by simp)) hit
      (by show A.depth + 1 < _; omega) hh hgl hi (by rw [hdrop]; simp) hts hts8 (Or.inr ⟨rfl, hts0, below_of hfr hff F hIf⟩) ?_ ?_
    · intro f' rest' h₆ t tk₆ he
      cases he
    · have hints := hu
      intro h₆ e tk₆ _ hr hu
      have hLf : ∀ b o, s.heap.get? b = some o → b ≠ s.heap.objs.size := fun b o e => Nat.ne_of_lt (Heap.lt_size e)
      have hsh : ∀ b o, (hideAll s.heap (frs outer)).get? b = some o → b ∉ frs outer := fun b o e hm => by rw [hideAll_none _ hm] at e; cases e
      have hst : ∀ b o, (hideAll s.heap (frs outer)).get? b = some o → (hideAll (hideAll h' [I]) (s.heap.objs.size :: frs outer)).get? b = some o := fun b o e => by
        refine hideAll_get _ (hideAll_get _ (F.keep _ _ (hbs _ _ e)) ?_) ?_
        · intro hm
          rw [List.mem_singleton.mp hm] at e
          rw [hbs _ _ e] at hsI; cases hsI
        · intro hm
          rcases List.mem_cons.mp hm with q | q
          · exact hLf _ _ (hbs _ _ e) q
          · exact hsh _ _ e q
      dsimp only
      refine caughtL (Around.frames_deeper hfr) hu hr (B.keeps hst) bt_StopIteration exc_stop nt_stop isSubtype_stop fun h₇ hb₇ hu₇ => ?_
      have hex : Ex s.heap h' := F.keep
      have F₇ : Fr (hideAll s.heap (frs outer)) s.heap.objs.size h₇ m := by
        refine ⟨hu₇.ns ?_, fun b o e => hb₇ _ _ (hst _ _ e), Nat.le_of_eq (hideAll_size _ _)⟩
        obtain ⟨oL, x1, x2, hoL, x3⟩ := F.ns
        exact ⟨oL, x1, x2, hideAll_get _ hoL (by simpa using hIL.symm), x3⟩
      clear F
      walk_at "es"
      refine h h₇ D us _ hsD F₇.keep (((Heap.UpToSlots.of_keeps hex).trans (upTo_hide hIf)).trans hu₇) ?_ (by rw [hbl]; simpa using hints)
      obtain ⟨n, hD⟩ := pl
      refine ⟨n, hb₇ _ _ (hideAll_get _ (hideAll_get _ hD (by simpa using hDI)) ?_)⟩
      intro hm
      rcases List.mem_cons.mp hm with q | q
      · exact hDL q
      · obtain ⟨_, o, ho, _⟩ := hff.mem q
        rw [ho] at hsD; cases hsD
end
end
-- RF
section
open PySem PySem.W PyProof.Rows PyProof.V
open PySem PySem.Spec PySem.Calls


section
variable {prog : Program} {w : World} {A : Around} {s : Shared}
theorem bl_neg {l : Addr} {tx tl : Tok} {x : Int} {outer : List Env} {base : Heap} {R : Result → Shared → Prop} (B : Bs w.params s.heap) (hA : A.depth < recursionLimit) (hh : A.handled = none) (K : Below A base outer s.heap)
    (h : ∀ h' e tk, RaisedN base outer e (.type "ValueError") [] h' → s.heap.UpToSlots h' → R (.error (.ref e)) { s with heap := h', toks := tk }) :
    codeAny (model prog w) A (.call (.ref 49) ⟨[.ref l, .int x tx, .int (-1) tl], []⟩) R s := by
  have hb : BindsTo s (fdOf (hd.heap_39 w.params) 49) ⟨[.ref l, .int x tx, .int (-1) tl], []⟩ [("a", .ref l), ("x", .int x tx), ("lo", .int (-1) tl), ("hi", .none), ("key", .none)] :=
    kp_binds B.K fun _ => by rfl
  refine enterK B.K B.nolimit rfl rfl hA hb (locs rfl) ?_ rfl rfl rfl (by decide)
  intro h₁ tk₁ F
  iterate 7 walk_at "e"
  rw [decide_eq_true (by omega)]
  walk_at "e"
  walk_at "e"
  refine raise_one PySem.F.excCall_ValueError PySem.F.excRaise_ValueError (by exact hh) ?_
  refine nm_blt (B.keeps F.keep) bt_ValueError ⟨rfl, ?_⟩
  walk_at "es"
  intro h' e hm
  exact leave_raiseK K hm.of F News.nil fun h'' t hr hu => h h'' e _ (raisedN_of hr) hu

theorem br_neg {l : Addr} {tx tl : Tok} {x : Int} {outer : List Env} {base : Heap} {R : Result → Shared → Prop} (B : Bs w.params s.heap) (hA : A.depth < recursionLimit) (hh : A.handled = none) (K : Below A base outer s.heap)
    (h : ∀ h' e tk, RaisedN base outer e (.type "ValueError") [] h' → s.heap.UpToSlots h' → R (.error (.ref e)) { s with heap := h', toks := tk }) :
    codeAny (model prog w) A (.call (.ref 40) ⟨[.ref l, .int x tx, .int (-1) tl], []⟩) R s := by
  have hb : BindsTo s (fdOf (hd.heap_39 w.params) 40) ⟨[.ref l, .int x tx, .int (-1) tl], []⟩ [("a", .ref l), ("x", .int x tx), ("lo", .int (-1) tl), ("hi", .none), ("key", .none)] :=
    kp_binds B.K fun _ => by rfl
  refine enterK B.K B.nolimit rfl rfl hA hb (locs rfl) ?_ rfl rfl rfl (by decide)
  intro h₁ tk₁ F
  iterate 7 walk_at "e"
  rw [decide_eq_true (by omega)]
  walk_at "e"
  walk_at "e"
  refine raise_one PySem.F.excCall_ValueError PySem.F.excRaise_ValueError (by exact hh) ?_
  refine nm_blt (B.keeps F.keep) bt_ValueError ⟨rfl, ?_⟩
  walk_at "es"
  intro h' e hm
  exact leave_raiseK K hm.of F News.nil fun h'' t hr hu => h h'' e _ (raisedN_of hr) hu

theorem ref_left {l : Addr} {outer : List Env} {R : Result → Shared → Prop} (hfr : A.frames = some outer) (hff : s.heap.FunFrames noHeap outer) (B : Bs w.params (hideAll s.heap (frs outer))) (hA : A.depth + 1 < recursionLimit) (hh : A.handled = none)
    (h : ∀ h' tk, (hideAll s.heap (frs outer)).StaysIn h' → s.heap.UpToSlots h' → R (.ok (.ret (.bool true))) { s with heap := h', toks := tk }) :
    codeAny (model prog w) A (.call (.ref 94) ⟨[.ref 49, .ref l], []⟩) R s := by
  have hbs : Ex (hideAll s.heap (frs outer)) s.heap := fun b o e => of_hideAll _ e
  have Bs' := B.keeps hbs
  refine enterK Bs'.K Bs'.nolimit rfl rfl (by omega) (binds := [("search", .ref 49), ("row", .ref l)]) (BindsTo.of_eq rfl) (locs rfl) ?_ rfl rfl rfl (by decide)
  intro h₁ tk₁ F
  walk_at "e"
  refine wpAny_noRaise (wpAny_Try_except ?_)
  walk_at "es"
  refine cw_fnB Bs' ?_
  walk_at "es"
  refine ⟨F.keep, wpAny_call ?_⟩
  refine bl_neg (base := hideAll h₁ (s.heap.objs.size :: frs outer)) (Bs'.keeps F.keep) (by show A.depth + 1 < _; omega) hh (below_of2 hfr hff F) fun h₂ e tk₂ hr hu => ?_
  have hsh : ∀ b o, (hideAll s.heap (frs outer)).get? b = some o → b ∉ frs outer := fun b o e hm => by rw [hideAll_none _ hm] at e; cases e
  have hst : ∀ b o, (hideAll s.heap (frs outer)).get? b = some o → (hideAll h₁ (s.heap.objs.size :: frs outer)).get? b = some o := fun b o e => by
    refine hideAll_get _ (F.keep _ _ (hbs _ _ e)) ?_
    intro hm
    rcases List.mem_cons.mp hm with q | q
    · exact Nat.ne_of_lt (Heap.lt_size (hbs _ _ e)) q
    · exact hsh _ _ e q
  dsimp only
  refine caughtL (Around.frames_deeper hfr) hu hr (B.keeps hst) bt_ValueError exc_value nt_value sub_value fun h₇ hb₇ hu₇ => ?_
  walk_at "es"
  exact h h₇ _ (fun b o e => hb₇ _ _ (hst _ _ e)) ((Heap.UpToSlots.of_keeps F.keep).trans hu₇)

theorem ref_right {l : Addr} {outer : List Env} {R : Result → Shared → Prop} (hfr : A.frames = some outer) (hff : s.heap.FunFrames noHeap outer) (B : Bs w.params (hideAll s.heap (frs outer))) (hA : A.depth + 1 < recursionLimit) (hh : A.handled = none)
    (h : ∀ h' tk, (hideAll s.heap (frs outer)).StaysIn h' → s.heap.UpToSlots h' → R (.ok (.ret (.bool true))) { s with heap := h', toks := tk }) :
    codeAny (model prog w) A (.call (.ref 94) ⟨[.ref 40, .ref l], []⟩) R s := by
  have hbs : Ex (hideAll s.heap (frs outer)) s.heap := fun b o e => of_hideAll _ e
  have Bs' := B.keeps hbs
  refine enterK Bs'.K Bs'.nolimit rfl rfl (by omega) (binds := [("search", .ref 40), ("row", .ref l)]) (BindsTo.of_eq rfl) (locs rfl) ?_ rfl rfl rfl (by decide)
  intro h₁ tk₁ F
  walk_at "e"
  refine wpAny_noRaise (wpAny_Try_except ?_)
  walk_at "es"
  refine cw_fnB Bs' ?_
  walk_at "es"
  refine ⟨F.keep, wpAny_call ?_⟩
  refine br_neg (base := hideAll h₁ (s.heap.objs.size :: frs outer)) (Bs'.keeps F.keep) (by show A.depth + 1 < _; omega) hh (below_of2 hfr hff F) fun h₂ e tk₂ hr hu => ?_
  have hsh : ∀ b o, (hideAll s.heap (frs outer)).get? b = some o → b ∉ frs outer := fun b o e hm => by rw [hideAll_none _ hm] at e; cases e
  have hst : ∀ b o, (hideAll s.heap (frs outer)).get? b = some o → (hideAll h₁ (s.heap.objs.size :: frs outer)).get? b = some o := fun b o e => by
    refine hideAll_get _ (F.keep _ _ (hbs _ _ e)) ?_
    intro hm
    rcases List.mem_cons.mp hm with q | q
    · exact Nat.ne_of_lt (Heap.lt_size (hbs _ _ e)) q
    · exact hsh _ _ e q
  dsimp only
  refine caughtL (Around.frames_deeper hfr) hu hr (B.keeps hst) bt_ValueError exc_value nt_value sub_value fun h₇ hb₇ hu₇ => ?_
  walk_at "es"
  exact h h₇ _ (fun b o e => hb₇ _ _ (hst _ _ e)) ((Heap.UpToSlots.of_keeps F.keep).trans hu₇)

end
end
-- QD
section
open PySem PySem.W PyProof.Rows
open PySem PySem.Spec PySem.Calls


theorem pat1 {P : Params} {h : Heap} (B : Bs P h) : Pat h 61 C1 :=
  ⟨_, _, 60, _, _, _, B.K _ _ rfl, rfl, rfl, rfl, rfl, rfl, rfl, rfl, B.K _ _ rfl, rfl, by simp [Builtin.Re.reRawOf, C1]⟩
theorem pat2 {P : Params} {h : Heap} (B : Bs P h) : Pat h 66 C2 :=
  ⟨_, _, 65, _, _, _, B.K _ _ rfl, rfl, rfl, rfl, rfl, rfl, rfl, rfl, B.K _ _ rfl, rfl, by simp [Builtin.Re.reRawOf, C2]⟩
theorem pat_ty {h : Heap} {p : Addr} {code : Array Nat} (x : Pat h p code) : (∃ o, h.get? p = some o ∧ o.cls = .type "re.Pattern") ∧ ∀ b, Value.ref p = .ref b → ∃ ob, h.get? b = some ob ∧ ob.dict = none := by
  obtain ⟨o, _, _, _, _, _, h1, h2, h3, _⟩ := x
  exact ⟨⟨o, h1, h2⟩, fun b e => by cases e; exact ⟨o, h1, h3⟩⟩
theorem crlf_len (l : List Nat) : (crlf l).length ≤ 2 * l.length := by
  suffices h : ∀ n (l : List Nat), l.length = n → (crlf l).length ≤ 2 * l.length from h _ l rfl
  intro n
  induction n using Nat.strongRecOn with
  | ind n ih =>
    intro l hl
    match l, hl with
    | [], _ => simp [crlf]
    | [c], _ => rw [crlf_one]; split <;> simp
    | c :: d :: r, hl =>
      rw [crlf_two]
      have e1 := ih r.length (by simp at hl; omega) r rfl
      have e2 := ih (d :: r).length (by simp at hl ⊢; omega) (d :: r) rfl
      split
      · simp only [List.length_cons]; omega
      · split <;> simp only [List.length_cons] at * <;> omega
section
variable {prog : Program} {w : World} {A : Around} {E : Value → Shared → Prop} {s : Shared}
theorem quote_call {x : Str} {tx : Tok} {R : Result → Shared → Prop} (B : Bs w.params s.heap) (hA : A.depth < recursionLimit) (hx : x.cps.size ≤ 100)
    (h : ∀ h' t tk, Ex s.heap h' → R (.ok (.ret (.str ⟨(dts true (crlf x.cps.toList)).toArray⟩ t))) { s with heap := h', toks := tk }) :
    codeAny (model prog w) A (.call (.ref 73) ⟨[.str x tx], []⟩) R s := by
  refine enterK B.K B.nolimit rfl rfl hA (binds := [("data", .str x tx)]) (BindsTo.of_eq rfl) (locs rfl) ?_ rfl rfl rfl (by decide)
  intro h₁ tk₁ F
  walk_at "es"
  refine wpAny_Call_method (by rfl) (by rfl) (by rfl) plainAttrs_re slot_re_sub type_re_sub ?_
  walk_at "es"
  have B₁ := B.keeps F.keep
  refine ⟨(pat_ty (pat1 B₁)).1, (pat_ty (pat1 B₁)).2, ?_⟩
  refine cw_m2 ?_
  walk_at "es"
  refine wpAny_Call_method (by rfl) (by rfl) (by rfl) plainAttrs_re slot_re_sub type_re_sub ?_
  walk_at "es"
  refine ⟨(pat_ty (pat2 B₁)).1, (pat_ty (pat2 B₁)).2, ?_⟩
  refine cw_m2 ?_
  walk_at "es"
  refine re_sub (rep := Str.ofString "\r\n") turn2 (by omega) (by decide +kernel) (by decide +kernel) (by exact pat2 B₁) fun h₂ t₂ tk₂ k₂ z₂ => ?_
  dsimp only
  walk_at "es"
  have hl := crlf_len x.cps.toList
  have e2 : out2 x.cps 0 = crlf x.cps.toList := rfl
  rw [e2]
  rw [show x.cps.toList.length = x.cps.size from Array.length_toList] at hl
  have hz : (crlf x.cps.toList).toArray.size ≤ 200 := by rw [List.size_toArray]; omega
  refine re_sub (x := ⟨(crlf x.cps.toList).toArray⟩) (rep := Str.ofString "..") (turn1 (Nat.le_trans hz (by decide))) hz (by decide +kernel) (by decide +kernel) (by exact pat1 (B₁.keeps k₂)) fun h₃ t₃ tk₃ k₃ z₃ => ?_
  dsimp only
  have e1 : out1 (crlf x.cps.toList).toArray 0 = dts true (crlf x.cps.toList) := by simp [out1]
  rw [e1]
  exact h h₃ _ _ fun b o e => k₃ _ _ (k₂ _ _ (F.keep _ _ e))
end
end
end
section
local macro_rules | `(tactic| walk_at "ln") => `(tactic| first
  | refine rdN (by assumption) (by assumption) ?_
  | refine rdL (by assumption) (by first | assumption | exact rfl) ?_
  | refine rdC (by assumption) (by first | assumption | exact rfl) ?_
  | refine rdF (by assumption) (by first | assumption | exact rfl) ?_
  | refine nm_glob (by first | assumption | exact Bs.keeps (by assumption) (LFr.gr (by assumption))) ?_
  | refine nm_blt (by first | assumption | exact Bs.keeps (by assumption) (LFr.gr (by assumption))) (by first | exact bt_len | exact bt_next | exact bt_iter | exact bt_sum | exact bt_abs | exact bt_chr | exact bt_ord | exact bt_range | exact bt_list | exact bt_enumerate | exact bt_ValueError | exact bt_StopIteration) ?_)
local macro_rules | `(tactic| walk_at "l") => `(tactic| first
  | ((with_reducible show wpAny _ _ (eval (Expr.Slice _ _ _ _) _) _ _ _); refine wpAny_Slice ?_)
  | ((with_reducible show wpAny _ _ (eval (Expr.IfExp _ _ _ _) _) _ _ _); refine PyProof.Rows.IfExp_ ?_)
  | ((with_reducible show wpAny _ _ (isTrue (Expr.BoolOp BoolOp.And (_ :: _) _) _ _) _ _ _); refine PyProof.Rows.isTrue_and ?_)
  | ((with_reducible show wpAny _ _ (isTrue (Expr.BoolOp BoolOp.And [] _) _ _) _ _ _); refine PyProof.Rows.isTrue_and_nil ?_)
  | ((with_reducible show wpAny _ _ (evalPart (some _) _) _ _ _); refine evalPart_some_step ?_)
  | ((with_reducible show wpAny _ _ (evalPart none _) _ _ _); refine evalPart_none_step ?_)
  | ((with_reducible show wpAny _ _ (callWith _ (Value.type _) [] _ []) _ _ _); first | refine cw_t1 ?_ | refine cw_t2 ?_)
  | ((with_reducible show wpAny _ _ (callWith _ (Value.builtin _) [] _ []) _ _ _); first | refine cw_b1 ?_ | refine Calls.callWith_builtin rfl (Calls.evalArgs_plain ?_))
  | ((with_reducible show wpAny _ _ (compareOp CmpOp.GtE (.int _ _) (.int _ _)) _ _ _); refine PyProof.Rows.ge_int ?_; try dsimp only)
  | ((with_reducible show wpAny _ _ (storeName _ _ _) _ _ _); (first | refine wrL (by assumption) ?_ | refine wrC (by assumption) ?_); (try dsimp only); intro h' F' hs')
  | ((with_reducible show wpAny _ _ (eval (Expr.Name _ _) _) _ _ _); walk_at "ln")
  | walk_at "c")
local macro_rules | `(tactic| walk_at "ls") => `(tactic| repeat' walk_at "l")
-- S0
section
open PySem PySem.W PyProof.Rows
open PySem PySem.Spec PySem.Calls
section
variable {prog : Program} {w : World} {A : Around} {E : Value → Shared → Prop} {s : Shared} {S : List Addr} {G : Heap} {L : Addr} {m cm : Str → Option Value} {Q : Flow → Shared → Prop}
set_option maxHeartbeats 2000000 in
theorem s0 {l : Addr} {vs : List Value} {ns : List Int} (F : LFr S G w.params L m cm s.heap) (BG : Bs w.params G) (hh : A.handled = none) (hs : cm "script" = some (.ref l)) (hl : G.IsList l vs.toArray) (hi : IntsAre vs ns) (hn : ns.length ≤ 63)
    (h : ∀ h' tk G' D us ks, LFr S G' w.params L (fun y => if y = "numbers" then some (.ref D) else m y) cm h' → Ex G G' → G'.PlainList D (List.toArray us) → IntsAre us ks → ks.length = 8 → (∀ k ∈ ks, 0 ≤ k ∧ k < 262144) → Q .next { s with heap := h', toks := tk }) :
    wpAny (model prog w) A (exec (lawSt w.params 0) (lawEnv w.params L)) Q E s := by
  show wpAny _ _ (exec (Stmt.Assign [Expr.Name _ _] _ _) _) _ _ _
  refine set_enum (vs := [.int 5 s.toks, .int 70 (s.toks + 1), .int 70 (s.toks + 1 + 1), .int 4100 (s.toks + 1 + 1 + 1), .int 66 (s.toks + 1 + 1 + 1 + 1), .int 5 (s.toks + 1 + 1 + 1 + 1 + 1), .int 64 (s.toks + 1 + 1 + 1 + 1 + 1 + 1), .int 66 (s.toks + 1 + 1 + 1 + 1 + 1 + 1 + 1)]) (fun i v => ∃ n t, v = .int n t ∧ 0 ≤ n ∧ n < 262144) F hh ?_ ?_ ?_
  · walk_at "ls"
    refine new_list (by simp) fun h₂ D nw pl => ?_
    walk_at "ls"
    refine call_enumerate_list (pl.isList) fun h' hE hI hsz k => ?_
    have hlt : D < h₂.objs.size := let ⟨_, e⟩ := pl; Heap.lt_size e
    have hz : s.heap.objs.size ≤ h₂.objs.size := nw.sz
    have no : ∀ b, h₂.objs.size ≤ b → s.heap.get? b = none := fun b hb => by
      cases q : s.heap.get? b with
      | none => rfl
      | some o => exact absurd (Nat.lt_of_lt_of_le (Heap.lt_size q) (Nat.le_trans hz hb)) (Nat.lt_irrefl _)
    exact ⟨_, _, _, rfl, rfl, fun b o e => k _ _ (nw.ex _ _ e), _, D, hE, hI, (il_keep pl.isList k), no _ (Nat.le_succ _), no _ (Nat.le_refl _), Nat.succ_ne_self _, Nat.ne_of_lt (Nat.lt_succ_of_lt hlt), Nat.ne_of_lt hlt⟩
  · intro C i v t s₃ m₃ E' hv kx N ha hb
    have F := F.ex kx
    walk_at "ls"
    refine slice_x (il_keep hl F.gr) (.int _ _) .none (.int _ _) (by simp) (by have := hi.length; simp; omega) fun h₄ D nx pl => ?_
    have F := F.ex nx.ex
    walk_at "ls"
    obtain ⟨ms, hms⟩ := ints_slice hi (some (i : Int)) none (some 8)
    refine sum_x hh (pl.isList) hms fun h₅ tk₅ t₅ k₅ => ?_
    dsimp only
    obtain ⟨n, t', rfl⟩ : ∃ n t, v = .int n t := by
      have := List.mem_of_getElem? hv
      simp only [List.mem_cons, List.not_mem_nil, or_false] at this
      rcases this with e | e | e | e | e | e | e | e <;> exact ⟨_, _, e⟩
    walk_at "ls"
    refine ⟨⟨_, _, rfl, ?_, ?_⟩, _, _, rfl, fun b o e => k₅ _ _ (nx.ex _ _ e)⟩
    · exact Int.fmod_nonneg_of_pos _ (by decide)
    · exact Int.fmod_lt_of_pos _ (by decide)
  · intro D h' tk ys F' fD pl hlen hF
    obtain ⟨ks, hk1, hk2⟩ := ints_of (p := fun k => 0 ≤ k ∧ k < 262144) (vs := ys) fun v hv => by
      obtain ⟨i, hi'⟩ := List.mem_iff_getElem?.mp hv
      exact hF i v hi'
    exact h _ _ _ D ys ks F'.here F'.up (LFr.hidL pl (F.new fD).1) hk1 (hk1.length.symm.trans hlen) hk2
end
end
-- S1
section
open PySem PySem.W PyProof.Rows
open PySem PySem.Spec PySem.Calls
theorem nats_of {vs : List Value} {ks : List Int} (h : IntsAre vs ks) (hk : ∀ k ∈ ks, 0 ≤ k) : ks = (ks.map Int.toNat).map fun n => ((n : Nat) : Int) := by
  rw [List.map_map]
  conv => lhs; rw [← List.map_id ks]
  exact List.map_congr_left fun k hm => by have := hk k hm; show k = ((k.toNat : Nat) : Int); omega
theorem nat_item {vs : List Value} {ns : List Nat} (h : IntsAre vs (ns.map fun n => ((n : Nat) : Int))) {i : Nat} (hi : i < ns.length) : ∃ t, vs[i]? = some (.int (ns.getD i 0 : Nat) t) := by
  obtain ⟨t, e⟩ := h.get i ((ns.getD i 0 : Nat) : Int) (by rw [List.getElem?_map, List.getD_eq_getElem?_getD, List.getElem?_eq_getElem hi]; rfl)
  exact ⟨t, e⟩
section
variable {prog : Program} {w : World} {A : Around} {E : Value → Shared → Prop} {s : Shared} {S : List Addr} {G : Heap} {L : Addr} {m cm : Str → Option Value} {Q : Flow → Shared → Prop}
set_option maxHeartbeats 2000000 in
theorem s13 {D : Addr} {us : List Value} {ns : List Nat} {rest : List Stmt} (F : LFr S G w.params L m cm s.heap) (BG : Bs w.params G) (hm : m "numbers" = some (.ref D)) (hD : G.PlainList D (List.toArray us)) (hi : IntsAre us (ns.map fun n => ((n : Nat) : Int))) (hn : ns.length = 8) (hlt : ∀ k ∈ ns, k < 262144)
    (h : ∀ h' tk G' (x n : Nat) t1 t2 pg ps (P : List Nat), LFr S G' w.params L (fun y => if y = "size" then some (.int n t2) else m y) (fun y => if y = "page" then some (.ref pg) else if y = "lost" then some (.int x t1) else cm y) h' → Ex G G' →
      x < 262144 → n = 7 - x % 3 → G'.PlainList pg (List.toArray ps) → IntsAre ps (P.map fun n => ((n : Nat) : Int)) → P.length = n → (∀ p ∈ P, p < 262144) → wpAny (model prog w) A (execs rest (lawEnv w.params L)) Q E { s with heap := h', toks := tk }) :
    wpAny (model prog w) A (execs (lawSt w.params 1 :: lawSt w.params 2 :: lawSt w.params 3 :: rest) (lawEnv w.params L)) Q E s := by
  refine wpAny_execs_cons ?_
  show wpAny _ _ (exec (Stmt.Assign [Expr.Name _ _] _ _) _) _ _ _
  walk_at "ls"
  obtain ⟨t, e7⟩ := nat_item hi (i := 7) (by omega)
  refine PyProof.Rows.item_listL (il_keep hD.isList F.gr) (by decide) (by decide) (by exact e7) ?_
  have hx : ns.getD 7 0 < 262144 := hlt _ (by rw [List.getD_eq_getElem?_getD, List.getElem?_eq_getElem (by omega)]; exact List.getElem_mem _)
  generalize ns.getD 7 0 = x at hx
  walk_at "ls"
  show wpAny _ _ (exec (Stmt.Assign [Expr.Name _ _] _ _) _) _ _ _
  walk_at "ls"
  show wpAny _ _ (exec (Stmt.Assign [Expr.Name _ _] _ _) _) _ _ _
  walk_at "ls"
  rename_i h2 F2 _
  have ey : (7 : Int) - (x : Int).fmod 3 = ((7 - x % 3 : Nat) : Int) := by rw [Int.fmod_eq_emod_of_nonneg _ (by decide)]; omega
  rw [ey] at F2 ⊢
  have hb : 7 - x % 3 ≤ 7 := by omega
  refine slice_x (il_keep hD.isList F2.gr) .none (.int _ _) .none (by simp) (by have := hi.length; simp at this ⊢; omega) fun h3 pg nx pl => ?_
  have F3 := F2.ex nx.ex
  have ip := slice_ints_upto hi (y := ((7 - x % 3 : Nat) : Int)) (by omega) (by simp; omega)
  rw [Int.toNat_natCast, ← List.map_take] at ip
  have np := F2.new nx.fresh
  walk_at "ls"
  rename_i h4 F4 hs4
  exact h _ _ _ x (7 - x % 3) _ _ pg (slicePick (List.toArray us) none (some ((7 - x % 3 : Nat) : Int)) none).toList (ns.take (7 - x % 3)) F4.here F4.up hx rfl
    (LFr.hidL (by rw [Array.toArray_toList]; exact pl_but pl hs4 fun e => np.1 (e ▸ F3.inC "page" _ rfl)) np.1) ip (by simp; omega) (fun p hp => hlt p (List.mem_of_mem_take hp))
end
end
-- LC
section
open PySem PySem.W PyProof.Rows
open PySem PySem.Spec PySem.Calls
theorem Ex.refl (h : Heap) : Ex h h := fun _ _ e => e
section
variable {prog : Program} {w : World} {A : Around} {E : Value → Shared → Prop} {s : Shared} {S : List Addr} {G : Heap} {P : Params} {L : Addr} {m cm : Str → Option Value}

/-- an iterable that gives the ints a, a+1, .., n of them -/
def RIter (prog : Program) (w : World) (A : Around) (s : Shared) (E : Value → Shared → Prop) (a n : Nat) (iter : Expr) (env : Env) : Prop :=
  ∀ Q' : Value → Shared → Prop, (∀ I P St h tk, Walks prog w A I [I] [I] n P St → (∀ i v, P i v → i < n ∧ ∃ t, v = .int (((a + i : Nat) : Nat) : Int) t) → (∀ i h, St i h → ∃ o, h.get? I = some o) → St 0 h → (∀ b ∈ [I], b < h.objs.size) → Nx s.heap h I → Q' (.ref I) { s with heap := h, toks := tk }) →
    wpAny (model prog w) A (eval iter env) (fun xv s₁ => wpAny (model prog w) A (pyIter xv) Q' E s₁) E s

theorem rit_core {Q' : Value → Shared → Prop} {a b : Nat} {h₁ : Heap} {tk t u v : Tok} (hh : A.handled = none) (hab : a ≤ b) (hn : b ≤ 1000) (k₁ : Ex s.heap h₁)
    (h : ∀ I P St h tk, Walks prog w A I [I] [I] (b - a) P St → (∀ i v, P i v → i < b - a ∧ ∃ t, v = .int (((a + i : Nat) : Nat) : Int) t) → (∀ i h, St i h → ∃ o, h.get? I = some o) → St 0 h → (∀ b ∈ [I], b < h.objs.size) → Nx s.heap h I → Q' (.ref I) { s with heap := h, toks := tk }) :
    wpAny (model prog w) A (pyIter (.ref h₁.objs.size)) Q' E { s with heap := h₁.push { cls := .type "range", data := .fields #[.int (a : Int) t, .int (b : Int) u, .int 1 v] }, toks := tk } := by
  have k₂ : Ex h₁ (h₁.push { cls := .type "range", data := .fields #[.int (a : Int) t, .int (b : Int) u, .int 1 v] }) := fun b o e => Heap.get?_push_of_some _ e
  refine wpAny_pyIter_range (IsRange.new ..) (small_one (by omega) (by omega) (by omega) (by omega)) ?_
  have hsz : Builtin.Range.rangeSize (a : Int) b 1 = ((b - a : Nat) : Int) := by rw [rangeSize_one]; split <;> omega
  rw [hsz]
  refine h _ _ _ _ _ ((Walks.range hh _ (a : Int) 1 (b - a)).bound) (fun i v hp => ⟨hp.1, ?_⟩) (fun i h st => ⟨_, st⟩) ?_ ?_ ?_
  · obtain ⟨t, rfl⟩ := hp.2
    exact ⟨t, by rw [Int.mul_one]; congr 1⟩
  · show IsRangeIter _ _ _ _ _
    simp only [Int.ofNat_zero, Int.zero_mul, Int.add_zero, Int.sub_zero, Int.natCast_zero]
    exact Heap.get?_push_size _ rfl
  · intro b hb
    rw [List.mem_singleton.mp hb]; simp only [Heap.size_push]; exact Nat.lt_succ_self _
  · exact Nx.after k₁ (Nx.after k₂ (Nw.push _ _).x)

theorem rit1 {env : Env} {e : Expr} {p1 p2 : Pos} {n : Nat} (hh : A.handled = none) (B : Bs w.params s.heap) (hn : n ≤ 1000)
    (he : ∀ Q'' : Value → Shared → Prop, (∀ h' t tk, Ex s.heap h' → Q'' (.int n t) { s with heap := h', toks := tk }) → wpAny (model prog w) A (eval e env) Q'' E s)
    (hk : env.scope.kind = .function := by rfl) (hx : env.kindOf "range" = some .globalImplicit := by rfl) (hg : env.globals = mainGlobals := by rfl) (hb : env.builtins = builtinsNs := by rfl) (hs : starEach [e] env = [(false, eval e env)] := by rfl) :
    RIter prog w A s E 0 n (.Call (.Name "range" p1) [e] [] p2) env := fun Q' h => by
  refine Call_Name1 ?_ hs
  refine nm_blt B bt_range ?_ (by rfl) (by decide) hk hx hg hb
  refine cw_t1 (Calls.spliced_cons (he _ fun h₁ t tk k₁ => Calls.spliced_nil ?_))
  refine call_range_1 ?_
  exact rit_core (s := s) (a := 0) (b := n) hh (Nat.zero_le _) hn k₁ h
theorem rit2 {env : Env} {e : Expr} {kc : Nat} {pc p1 p2 : Pos} {c : Nat} {n : Nat} (hh : A.handled = none) (B : Bs w.params s.heap) (hn : n ≤ 1000) (hc : c ≤ n)
    (he : ∀ (s₁ : Shared) (Q'' : Value → Shared → Prop), s₁.heap = s.heap → (∀ h' t tk, Ex s.heap h' → Q'' (.int n t) { s₁ with heap := h', toks := tk }) → wpAny (model prog w) A (eval e env) Q'' E s₁)
    (hk : env.scope.kind = .function := by rfl) (hx : env.kindOf "range" = some .globalImplicit := by rfl) (hg : env.globals = mainGlobals := by rfl) (hb : env.builtins = builtinsNs := by rfl) (hs : starEach [.Constant (.int c) kc pc, e] env = [(false, eval (.Constant (.int c) kc pc) env), (false, eval e env)] := by rfl) :
    RIter prog w A s E c (n - c) (.Call (.Name "range" p1) [.Constant (.int c) kc pc, e] [] p2) env := fun Q' h => by
  refine Call_Name2 ?_ hs
  refine nm_blt B bt_range ?_ (by rfl) (by decide) hk hx hg hb
  refine cw_t2 (Calls.spliced_cons (wpAny_Constant_int (Calls.spliced_cons (he _ _ rfl fun h₁ t tk k₁ => Calls.spliced_nil ?_))))
  refine call_range_2 ?_
  exact rit_core (s := s) (a := c) (b := n) hh hc hn k₁ h

/-- [elt for x in range if test] -/
theorem comp_range {env : Env} {elt iter : Expr} {x : Str} {px : Pos} {ifs : List Expr} {scope : Scope} {cl : List (Str × Addr)} {pos : Pos} {Q : Value → Shared → Prop} {a n : Nat} (p : Nat → Bool) (F : Nat → Value → Prop)
    (hiter : RIter prog w A s E a n iter env) (hn : n ≤ 1000)
    (htest : ∀ C i t (s₃ : Shared) m₃ E', i < n → Ex s.heap s₃.heap → s₃.heap.Ns C m₃ → m₃ x = some (.int ((a + i : Nat) : Int) t) →
      wpAny (model prog w) A (forIn ifs true fun c r => if r = true then do let ok ← isTrue c (compEnvC scope cl C env) (eval c (compEnvC scope cl C env)); pure (ForInStep.yield ok) else pure (ForInStep.yield r))
        (fun ok s₄ => ok = p i ∧ Keeps s₃ s₄) E' s₃)
    (helt : ∀ C i t (s₃ : Shared) m₃ E', i < n → p i = true → Ex s.heap s₃.heap → s₃.heap.Ns C m₃ → m₃ x = some (.int ((a + i : Nat) : Int) t) →
      wpAny (model prog w) A (eval elt (compEnvC scope cl C env)) (fun y s₄ => F i y ∧ Keeps s₃ s₄) E' s₃)
    (h : ∀ D h' tk (ys : List Value), Nx s.heap h' D → h'.PlainList D (List.toArray ys) → Paired F ((List.range n).filter p) ys → Q (.ref D) { s with heap := h', toks := tk })
    (hclos : closureFor scope env = pure cl := by rfl) (hcell : ∀ y ∈ scope.names, y.2 ≠ .cell := by decide) (hkind : scope.kind = .function := by rfl)
    (hnames : ∀ y ∈ scope.names, y.2 = .local → scope.names.lookup y.1 = some .local := by decide) (hx : scope.names.lookup x = some .local := by rfl)
    (hs : ∀ x, foldedSetIterable iter env x = pure x := by intro _; rfl) :
    wpAny (model prog w) A (eval (.ListComp elt [⟨.Name x px, iter, ifs, 0⟩] scope pos) env) Q E s := by
  have inj : ∀ {i j : Nat} {t u : Tok}, Value.int ((a + i : Nat) : Int) t = .int ((a + j : Nat) : Int) u → i = j := fun e => by
    have := Value.int.inj e; omega
  let p' : Value → Bool := fun v => match v with | .int k _ => p (k.toNat - a) | _ => false
  have hp' : ∀ i t, p' (.int ((a + i : Nat) : Int) t) = p i := fun i t => by
    show p (((a + i : Nat) : Int).toNat - a) = p i
    rw [Int.toNat_natCast, Nat.add_sub_cancel_left]
  refine comp_gen n (fun i v => ∃ t, v = .int ((a + i : Nat) : Int) t) p' (fun v y => ∀ i t, v = .int ((a + i : Nat) : Int) t → F i y) hclos hcell hkind hnames hx hn ?_ ?_ ?_ ?_ hs
  · exact fun Q' hq => hiter Q' fun I P St h tk W hP _ hst hfp nx => hq I [I] P St h tk W hP hst hfp nx
  · rintro C v s₃ m₃ E' ⟨i, hi, t, rfl⟩ kx N hm
    rw [hp' i t]
    exact htest C i t s₃ m₃ E' hi kx N hm
  · rintro C v s₃ m₃ E' ⟨i, hi, t, rfl⟩ hp kx N hm
    rw [hp' i t] at hp
    refine wpAny_mono (helt C i t s₃ m₃ E' hi hp kx N hm) (fun y s₄ h₄ => ⟨fun j u e => ?_, h₄.2⟩) fun _ _ e => e
    rw [← inj e]; exact h₄.1
  · intro D h' tk ys vs nx pl hlen hP hF
    refine h D h' tk ys nx pl ?_
    have hv : vs = (List.range n).map fun i => vs.getD i .none := by
      apply List.ext_getElem (by simp [hlen])
      intro i h1 h2
      simp [h1]
    have key : ∀ (is : List Nat) (us : List Value) (ys : List Value), us.length = is.length → (∀ (k : Nat) u, us[k]? = some u → ∃ t, u = .int ((a + is.getD k 0 : Nat) : Int) t) →
        Paired (fun v y => ∀ i t, v = .int ((a + i : Nat) : Int) t → F i y) (us.filter p') ys → Paired F (is.filter p) ys := by
      intro is
      induction is with
      | nil =>
        intro us ys hl _ hF
        have : us = [] := List.eq_nil_of_length_eq_zero hl
        subst this
        exact (by cases hF; exact .nil)
      | cons i r ih =>
        intro us ys hl hu hF
        match us, hl with
        | u :: us, hl =>
          obtain ⟨t, rfl⟩ := hu 0 u rfl
          have ht : ∀ (k : Nat) u, us[k]? = some u → ∃ t, u = .int ((a + r.getD k 0 : Nat) : Int) t := fun k u e => hu (k + 1) u (by simpa using e)
          have e0 : p' (.int ((a + (i :: r).getD 0 0 : Nat) : Int) t) = p i := hp' i t
          rw [List.filter_cons, e0] at hF
          rw [List.filter_cons]
          cases hpi : p i with
          | false =>
            rw [hpi] at hF
            simp only [Bool.false_eq_true, if_false] at hF ⊢
            exact ih us ys (by simpa using hl) ht hF
          | true =>
            rw [hpi] at hF
            simp only [if_true] at hF ⊢
            cases hF with
            | cons h1 h2 => exact .cons (h1 i t rfl) (ih us _ (by simpa using hl) ht h2)
    refine key (List.range n) vs ys (by simp [hlen]) (fun k u e => ?_) hF
    have hk : k < n := by rw [← hlen]; exact (List.getElem?_eq_some_iff.mp e).1
    obtain ⟨t, rfl⟩ := hP k u e
    exact ⟨t, by simp [hk]⟩

theorem paired_get {α β : Type} {F : α → β → Prop} : ∀ {l₁ : List α} {l₂ : List β}, Paired F l₁ l₂ → l₁.length = l₂.length ∧ ∀ (i : Nat) a b, l₁[i]? = some a → l₂[i]? = some b → F a b
  | _, _, .nil => ⟨rfl, fun i a b h _ => by simp at h⟩
  | _, _, .cons h t => by
    obtain ⟨h1, h2⟩ := paired_get t
    refine ⟨by simp [h1], fun i a b ha hb => ?_⟩
    cases i with
    | zero => simp at ha hb; subst ha hb; exact h
    | succ k => exact h2 k a b (by simpa using ha) (by simpa using hb)

/-- [elt for x in range], each elt a new list -/
theorem comp_rangeO {env : Env} {elt iter : Expr} {x : Str} {px : Pos} {scope : Scope} {cl : List (Str × Addr)} {pos : Pos} {Q : Value → Shared → Prop} {a n : Nat} (GG : Nat → List Value → Prop)
    (hiter : RIter prog w A s E a n iter env) (hn : n ≤ 1000)
    (helt : ∀ C i t (s₃ : Shared) m₃ E', i < n → Ex s.heap s₃.heap → s₃.heap.Ns C m₃ → m₃ x = some (.int ((a + i : Nat) : Int) t) →
      wpAny (model prog w) A (eval elt (compEnvC scope cl C env)) (fun y s₄ => (∃ T its, y = .ref T ∧ s₃.heap.get? T = none ∧ s₄.heap.IsList T its ∧ GG i its.toList) ∧ Keeps s₃ s₄) E' s₃)
    (h : ∀ D h' tk (ys : List Value), Nx s.heap h' D → h'.PlainList D (List.toArray ys) → ys.length = n → (∀ i, i < n → ∃ T its, ys[i]? = some (.ref T) ∧ s.heap.get? T = none ∧ h'.IsList T (List.toArray its) ∧ GG i its) → Q (.ref D) { s with heap := h', toks := tk })
    (hclos : closureFor scope env = pure cl := by rfl) (hcell : ∀ y ∈ scope.names, y.2 ≠ .cell := by decide) (hkind : scope.kind = .function := by rfl)
    (hnames : ∀ y ∈ scope.names, y.2 = .local → scope.names.lookup y.1 = some .local := by decide) (hx : scope.names.lookup x = some .local := by rfl)
    (hs : ∀ x, foldedSetIterable iter env x = pure x := by intro _; rfl) :
    wpAny (model prog w) A (eval (.ListComp elt [⟨.Name x px, iter, [], 0⟩] scope pos) env) Q E s := by
  have inj : ∀ {i j : Nat} {t u : Tok}, Value.int ((a + i : Nat) : Int) t = .int ((a + j : Nat) : Int) u → i = j := fun e => by
    have := Value.int.inj e; omega
  refine wpAny_ListComp_freeO (fun _ => true) (fun v its => ∃ i t, v = .int ((a + i : Nat) : Int) t ∧ GG i its.toList) hclos hcell hkind hnames hx (hiter _ fun I P₀ St h₂ tk₂ W hPP hlive hst hfp hI => ?_) hs
  have hsz : sizeLine = 16777216 := by decide
  have up : ∀ h₃ : Heap, (∀ b o, b ∉ [I] → h₂.get? b = some o → h₃.get? b = some o) → Ex s.heap h₃ := fun h₃ k b o e => k b o (by
    intro hb
    rw [List.mem_singleton.mp hb, hI.fresh] at e; cases e) (hI.ex _ _ e)
  refine ⟨I, [I], [I], n, P₀, St, rfl, W, by rw [hsz]; omega, fun i h st b hb => by rw [List.mem_singleton.mp hb]; exact hlive i h st, hst, hfp, ⟨?_, ?_⟩, ?_⟩
  · intro C i v s₃ m₃ E' hC hP hn3 hm3 hk3 htk
    exact wpAny_tests_nil ⟨rfl, _, _, rfl, fun _ _ e => e⟩
  · intro C i v s₃ m₃ E' hC hP hp hn3 hm3 hk3 htk
    obtain ⟨hi, t, rfl⟩ := hPP i v hP
    refine wpAny_mono (helt C i t s₃ m₃ E' hi (up _ hk3) hn3 hm3) (fun y s₄ h₄ => ⟨?_, h₄.2⟩) fun _ _ e => e
    obtain ⟨T, its, rfl, hf, hl, hg⟩ := h₄.1
    exact ⟨T, its, rfl, hf, hl, i, t, rfl, hg⟩
  · intro D h' tk ys vs hD hl hpl hlen hP hF _ _ hk
    have hFr : ∀ T, h₂.get? T = none → s.heap.get? T = none := fun T e => by
      cases q : s.heap.get? T with
      | none => rfl
      | some o => have := hI.ex _ _ q; rw [show h₂.get? T = none from e] at this; cases this
    rw [List.filter_eq_self.mpr (fun _ _ => rfl)] at hF
    obtain ⟨hl2, hF2⟩ := paired_get hF
    refine h D h' tk ys.toList ⟨hFr D hD, up _ hk⟩ (by simpa using hpl) (by rw [← hl2, hlen]) fun i hi => ?_
    have hv : i < vs.length := by omega
    have hy : i < ys.toList.length := by omega
    obtain ⟨T, its, e1, e2, e3, j, t, e4, e5⟩ := hF2 i vs[i] ys.toList[i] (List.getElem?_eq_getElem hv) (List.getElem?_eq_getElem hy)
    obtain ⟨_, t', e6⟩ := hPP i _ (hP i vs[i] (List.getElem?_eq_getElem hv))
    rw [e6] at e4
    have := inj e4
    subst this
    exact ⟨T, its.toList, by rw [List.getElem?_eq_getElem hy, e1], hFr T e2, by simpa using e3, e5⟩

/-- y = [elt for x in range], y a local of the law -/
theorem set_range {elt iter : Expr} {x y : Str} {px py spos : Pos} {scope : Scope} {cl : List (Str × Addr)} {pos : Pos} {Q : Flow → Shared → Prop} {a n : Nat} (FF : Nat → Value → Prop) (F : LFr S G P L m cm s.heap)
    (hiter : RIter prog w A s E a n iter (lawEnv P L)) (hn : n ≤ 1000)
    (helt : ∀ C i t (s₃ : Shared) m₃ E', i < n → Ex s.heap s₃.heap → s₃.heap.Ns C m₃ → m₃ x = some (.int ((a + i : Nat) : Int) t) →
      wpAny (model prog w) A (eval elt (compEnvC scope cl C (lawEnv P L))) (fun y s₄ => FF i y ∧ Keeps s₃ s₄) E' s₃)
    (h : ∀ D h' tk (ys : List Value), LFr S G P L (fun z => if z = y then some (.ref D) else m z) cm h' → s.heap.get? D = none → h'.PlainList D (List.toArray ys) → ys.length = n → (∀ (i : Nat) z, ys[i]? = some z → FF i z) → Q .next { s with heap := h', toks := tk })
    (hsw : swapsWith (.ListComp elt [⟨.Name x px, iter, [], 0⟩] scope pos) (some (.Name y py)) spos.line (lawEnv P L) = pure true := by rfl)
    (hy : (lawEnv P L).kindOf y = some .local := by rfl) (hk : (lawEnv P L).scope.kind = .function := by rfl)
    (hclos : closureFor scope (lawEnv P L) = pure cl := by rfl) (hcell : ∀ y ∈ scope.names, y.2 ≠ .cell := by decide) (hkind : scope.kind = .function := by rfl)
    (hnames : ∀ y ∈ scope.names, y.2 = .local → scope.names.lookup y.1 = some .local := by decide) (hx : scope.names.lookup x = some .local := by rfl)
    (hs : ∀ x, foldedSetIterable iter (lawEnv P L) x = pure x := by intro _; rfl) :
    wpAny (model prog w) A (exec (.Assign [.Name y py] (.ListComp elt [⟨.Name x px, iter, [], 0⟩] scope pos) spos) (lawEnv P L)) Q E s := by
  have inj : ∀ {i j : Nat} {t u : Tok}, Value.int ((a + i : Nat) : Int) t = .int ((a + j : Nat) : Int) u → i = j := fun e => by
    have := Value.int.inj e; omega
  refine wpAny_Assign_ListComp_free (fun _ => true) (fun v z => ∃ i t, v = .int ((a + i : Nat) : Int) t ∧ FF i z) hsw hclos hcell hkind hnames hx hy (by rw [hk]; rfl) (hiter _ fun I P₀ St h₂ tk₂ W hPP hlive hst hfp hI => ?_) hs
  have hsz : sizeLine = 16777216 := by decide
  have nI := F.new hI.fresh
  have up : ∀ h₃ : Heap, (∀ b o, b ∉ [I] → h₂.get? b = some o → h₃.get? b = some o) → Ex s.heap h₃ := fun h₃ k b o e => k b o (by
    intro hb
    rw [List.mem_singleton.mp hb, hI.fresh] at e; cases e) (hI.ex _ _ e)
  have F₂ := F.ex hI.ex
  have hLI : L ∉ [I] := fun hm => nI.1 (List.mem_singleton.mp hm ▸ F.inL)
  refine ⟨I, [I], [I], n, P₀, St, m, rfl, W, by rw [hsz]; omega, hst, hfp, hLI, F₂.ns, ⟨?_, ?_⟩, ?_⟩
  · intro C i v s₃ m₃ E' hC hP hn3 hm3 hk3 htk
    exact wpAny_tests_nil ⟨rfl, _, _, rfl, fun _ _ e => e⟩
  · intro C i v s₃ m₃ E' hC hP hp hn3 hm3 hk3 htk
    obtain ⟨hi, t, rfl⟩ := hPP i v hP
    exact wpAny_mono (helt C i t s₃ m₃ E' hi (up _ hk3) hn3 hm3) (fun y s₄ h₄ => ⟨⟨i, t, rfl, h₄.1⟩, h₄.2⟩) fun _ _ e => e
  · intro D h' tk ys vs hD hl hpl hlen hP hF hns hk'
    have hFr : s.heap.get? D = none := by
      cases q : s.heap.get? D with
      | none => rfl
      | some o => have := hI.ex _ _ q; rw [show h₂.get? D = none from hD] at this; cases this
    rw [List.filter_eq_self.mpr (fun _ _ => rfl)] at hF
    obtain ⟨hl2, hF2⟩ := paired_get hF
    have keep : ∀ b o, b ≠ L → s.heap.get? b = some o → h'.get? b = some o := fun b o hb e => hk' b o hb (fun hm => by
      rw [List.mem_singleton.mp hm, hI.fresh] at e; cases e) (hI.ex _ _ e)
    refine h D h' tk ys.toList ⟨hns, fun n c e => ?_, fun b o e => keep b o (fun q => by have := F.off L F.inL; rw [← q, e] at this; cases this) (F.gr _ _ e), F.off, fun a ha => ?_, F.inL, F.inC, F.apart, F.above⟩ hFr (by simpa using hpl) (by rw [← hl2, hlen]) fun i z e => ?_
    · obtain ⟨o, e1, e2⟩ := F.cell n c e
      exact ⟨o, keep _ _ (Nat.ne_of_gt (F.above n c (mem_of_lookup e))) e1, e2⟩
    · by_cases q : a = L
      · subst q; obtain ⟨o, _, _, ho, _⟩ := hns; exact ⟨o, ho⟩
      · obtain ⟨o, ho⟩ := F.live a ha; exact ⟨o, keep _ _ q ho⟩
    · have hy2 : i < ys.toList.length := (List.getElem?_eq_some_iff.mp e).1
      have hv : i < vs.length := by omega
      obtain ⟨j, t, e4, e5⟩ := hF2 i vs[i] z (List.getElem?_eq_getElem hv) e
      obtain ⟨_, t', e6⟩ := hPP i _ (hP i vs[i] (List.getElem?_eq_getElem hv))
      rw [e6] at e4
      have := inj e4
      subst this
      exact e5
end
end
-- S4
section
open PySem PySem.W PyProof.Rows
open PySem PySem.Spec PySem.Calls
section
variable {prog : Program} {w : World} {A : Around} {E : Value → Shared → Prop} {s : Shared} {S : List Addr} {G : Heap} {L : Addr} {m cm : Str → Option Value} {Q : Flow → Shared → Prop}
set_option maxHeartbeats 2000000 in
theorem s4 {pg n : Nat} {t2 : Tok} {ps : List Value} {P : List Nat} (F : LFr S G w.params L m cm s.heap) (BG : Bs w.params G) (hh : A.handled = none) (hA : A.depth + 5 < recursionLimit)
    (hm : m "size" = some (.int n t2)) (hc : cm "page" = some (.ref pg)) (hpg : G.PlainList pg (List.toArray ps)) (hi : IntsAre ps (P.map fun n => ((n : Nat) : Int))) (hP : P.length = n) (hn : n ≤ 7) (hlt : ∀ p ∈ P, p < 262144)
    (h : ∀ h' tk G' D ys, LFr S G' w.params L m (fun y => if y = "octets" then some (.ref D) else cm y) h' → Ex G G' → G'.PlainList D (List.toArray ys) → ys.length = n →
      (∀ i, i < n → ∃ T vs os, ys[i]? = some (.ref T) ∧ G'.IsList T (List.toArray vs) ∧ IntsAre vs (os.map fun n => ((n : Nat) : Int)) ∧ Oct (P.getD i 0) os) → Q .next { s with heap := h', toks := tk }) :
    wpAny (model prog w) A (exec (lawSt w.params 4) (lawEnv w.params L)) Q E s := by
  show wpAny _ _ (exec (Stmt.Assign [Expr.Name _ _] _ _) _) _ _ _
  walk_at "l"
  refine comp_rangeO (a := 0) (n := n) (fun i its => ∃ os : List Nat, IntsAre its (os.map fun n => ((n : Nat) : Int)) ∧ Oct (P.getD i 0) os) ?_ (by omega) ?_ ?_
  · refine rit1 hh (BG.keeps F.gr) (by omega) fun Q'' hq => ?_
    walk_at "ls"
    exact hq _ _ _ (Ex.refl _)
  · intro C i t s₃ m₃ E' hi' kx N hk
    have F := F.ex kx
    rw [Nat.zero_add] at hk
    walk_at "l"
    walk_at "l"
    refine cw_fnB (BG.keeps F.gr) ?_
    walk_at "ls"
    obtain ⟨t3, e3⟩ := nat_item hi (i := i) (by omega)
    refine PyProof.Rows.item_listL (il_keep hpg.isList F.gr) (by omega) (by omega) (by rw [Int.toNat_natCast]; exact e3) ?_
    walk_at "ls"
    refine ⟨Ex.refl _, wpAny_call ?_⟩
    rw [show ((i : Int).fmod 2) = ((i % 2 : Nat) : Int) by rw [Int.fmod_eq_emod_of_nonneg _ (by decide)]; omega]
    have hPi : P.getD i 0 < 262144 := hlt _ (by rw [List.getD_eq_getElem?_getD, List.getElem?_eq_getElem (by omega)]; exact List.getElem_mem _)
    refine oct_call (BG.keeps F.gr) (by omega) hPi (by omega) fun h' D vs os tk nw pl io oc => ?_
    exact ⟨⟨D, _, rfl, nw.fresh, pl.isList, os, io, oc⟩, _, _, rfl, nw.ex⟩
  · intro D h' tk ys nx pl hlen hF
    have F1 := F.ex nx.ex
    have nD := F.new nx.fresh
    walk_at "ls"
    rename_i h4 F4 hs4
    refine h _ _ _ D ys F4.here F4.up (LFr.hidL (pl_but pl hs4 fun e => nD.1 (e ▸ F1.inC "octets" _ rfl)) nD.1) hlen fun i hi => ?_
    obtain ⟨T, its, e1, e2, e3, os, e4, e5⟩ := hF i hi
    have nT := F.new e2
    have e6 := e3.extBut hs4.extBut (fun e => nT.1 (e ▸ F1.inC "octets" _ rfl))
    exact ⟨T, its, os, e1, e6.at fun o e => hideAll_get _ e nT.1, e4, e5⟩
end
end
-- S5
section
open PySem PySem.W PyProof.Rows
open PySem PySem.Spec PySem.Calls
/-- whether the k-th number starts with a dot -/
def dotB (P : List Nat) (k : Nat) : Bool := !(decide (0 < k) && decide (P.getD k 0 < P.getD (k - 1) 0))
def dotS (b : Bool) : Str := ⟨(if b then [46] else []).toArray⟩
theorem dot_t : dotS true = Str.ofString "." := by decide
theorem dot_f : dotS false = Str.ofString "" := by decide
section
variable {prog : Program} {w : World} {A : Around} {E : Value → Shared → Prop} {s : Shared} {S : List Addr} {G : Heap} {L : Addr} {m cm : Str → Option Value} {Q : Flow → Shared → Prop}
set_option maxHeartbeats 2000000 in
theorem s5 {pg n : Nat} {t2 : Tok} {ps : List Value} {P : List Nat} (F : LFr S G w.params L m cm s.heap) (BG : Bs w.params G) (hh : A.handled = none)
    (hm : m "size" = some (.int n t2)) (hc : cm "page" = some (.ref pg)) (hpg : G.PlainList pg (List.toArray ps)) (hi : IntsAre ps (P.map fun n => ((n : Nat) : Int))) (hP : P.length = n) (hn : n ≤ 7)
    (h : ∀ h' tk G' D ys, LFr S G' w.params L m (fun y => if y = "dots" then some (.ref D) else cm y) h' → Ex G G' → G'.PlainList D (List.toArray ys) → ys.length = n →
      (∀ i, i < n → ∃ t, ys[i]? = some (.str (dotS (dotB P i)) t)) → Q .next { s with heap := h', toks := tk }) :
    wpAny (model prog w) A (exec (lawSt w.params 5) (lawEnv w.params L)) Q E s := by
  show wpAny _ _ (exec (Stmt.Assign [Expr.Name _ _] _ _) _) _ _ _
  walk_at "l"
  refine comp_range (a := 0) (n := n) (fun _ => true) (fun i y => ∃ t, y = .str (dotS (dotB P i)) t) ?_ (by omega) ?_ ?_ ?_
  · refine rit1 hh (BG.keeps F.gr) (by omega) fun Q'' hq => ?_
    walk_at "ls"
    exact hq _ _ _ (Ex.refl _)
  · intro C i t s₃ m₃ E' hi' kx N hk
    exact wpAny_tests_nil ⟨rfl, _, _, rfl, fun _ _ e => e⟩
  · intro C i t s₃ m₃ E' hi' _ kx N hk
    have F := F.ex kx
    rw [Nat.zero_add] at hk
    walk_at "ls"
    by_cases h0 : 0 < i
    · rw [decide_eq_true (show (0 : Int) < ((i : Nat) : Int) by omega)]
      walk_at "ls"
      obtain ⟨t3, e3⟩ := nat_item hi (i := i) (by omega)
      refine PyProof.Rows.item_listL (il_keep hpg.isList F.gr) (by omega) (by omega) (by rw [Int.toNat_natCast]; exact e3) ?_
      walk_at "ls"
      obtain ⟨t4, e4⟩ := nat_item hi (i := i - 1) (by omega)
      refine PyProof.Rows.item_listL (il_keep hpg.isList F.gr) (by omega) (by omega) (by rw [show ((i : Int) - 1).toNat = i - 1 by omega]; exact e4) ?_
      walk_at "ls"
      by_cases hlt : P.getD i 0 < P.getD (i - 1) 0
      · rw [decide_eq_true (show ((P.getD i 0 : Nat) : Int) < ((P.getD (i - 1) 0 : Nat) : Int) by omega)]
        walk_at "ls"
        exact ⟨⟨_, by rw [show dotB P i = false by simp only [dotB, decide_eq_true h0, decide_eq_true hlt]; rfl, dot_f]⟩, _, _, rfl, fun _ _ e => e⟩
      · rw [decide_eq_false (show ¬ ((P.getD i 0 : Nat) : Int) < ((P.getD (i - 1) 0 : Nat) : Int) by omega)]
        walk_at "ls"
        exact ⟨⟨_, by rw [show dotB P i = true by simp only [dotB, decide_eq_true h0, decide_eq_false hlt]; rfl, dot_t]⟩, _, _, rfl, fun _ _ e => e⟩
    · rw [decide_eq_false (show ¬ (0 : Int) < ((i : Nat) : Int) by omega)]
      walk_at "ls"
      exact ⟨⟨_, by rw [show dotB P i = true by simp only [dotB, decide_eq_false h0]; rfl, dot_t]⟩, _, _, rfl, fun _ _ e => e⟩
  · intro D h' tk ys nx pl hF
    have F1 := F.ex nx.ex
    have nD := F.new nx.fresh
    obtain ⟨hl, hF⟩ := paired_get hF
    rw [List.filter_eq_self.mpr (fun _ _ => rfl)] at hl hF
    rw [List.length_range] at hl
    walk_at "ls"
    rename_i h4 F4 hs4
    refine h _ _ _ D ys F4.here F4.up (LFr.hidL (pl_but pl hs4 fun e => nD.1 (e ▸ F1.inC "dots" _ rfl)) nD.1) hl.symm fun i hi => ?_
    obtain ⟨t, e⟩ := hF i i ys[i] (by simp [hi]) (List.getElem?_eq_getElem (by omega))
    exact ⟨t, by rw [List.getElem?_eq_getElem (by omega), e]⟩
end
end
-- LT
section
open PySem PySem.W PyProof.Rows
open PySem PySem.Spec PySem.Calls
abbrev strv (l : List Nat) : Str := ⟨l.toArray⟩
/-- the texts of a list -/
abbrev TxtsAre (ys : List Value) (xs : List (List Nat)) : Prop := Paired (fun y x => ∃ t, y = .str (strv x) t) ys xs
theorem join_nil : ∀ (xs : List (List Nat)), Str.join Str.empty (xs.map strv) = strv xs.flatten
  | [] => rfl
  | [x] => by simp [Str.join]
  | x :: y :: r => by
    have ih := join_nil (y :: r)
    show strv x ++ Str.empty ++ Str.join Str.empty (strv y :: r.map strv) = _
    rw [show Str.join Str.empty (strv y :: r.map strv) = strv (y :: r).flatten from ih, Str.append_empty]
    apply Str.ext'
    simp [Str.cps_append]
section
variable {prog : Program} {w : World} {A : Around} {E : Value → Shared → Prop} {s : Shared} {S : List Addr} {G : Heap} {P : Params} {L : Addr} {m cm : Str → Option Value}
theorem add_s {a b : List Nat} {t u : Tok} {Q : Value → Shared → Prop} (hsz : a.length + b.length ≤ 1000) (h : ∀ t' k, Q (.str (strv (a ++ b)) t') { s with toks := k }) :
    wpAny (model prog w) A (binaryOp .Add (.str (strv a) t) (.str (strv b) u)) Q E s := by
  have e : strv a ++ strv b = strv (a ++ b) := Str.ext' (by simp [Str.cps_append])
  refine SB.add (fun t' k => ?_) (by rw [show sizeLine = 16777216 by decide]; simp [Str.length]; omega)
  rw [e]; exact h t' k
theorem join_s {D : Addr} {ys : List Value} {xs : List (List Nat)} {t : Tok} {Q : Value → Shared → Prop} (hl : s.heap.IsList D (List.toArray ys)) (hT : TxtsAre ys xs) (hb : ∀ x ∈ xs, x.length ≤ 100) (hn : xs.length ≤ 100)
    (h : ∀ t' k, Q (.str (strv xs.flatten) t') { s with toks := k }) : wpAny (model prog w) A (call (.builtin "str.join") [.str (Str.ofString "") t, .ref D]) Q E s := by
  obtain ⟨l, e1, e2⟩ : ∃ l : List (Str × Tok), ys = strValues l ∧ l.map (·.1) = xs.map strv := by
    clear hl h hb hn
    induction hT with
    | nil => exact ⟨[], rfl, rfl⟩
    | cons h _ ih =>
      obtain ⟨l, e1, e2⟩ := ih
      obtain ⟨t, rfl⟩ := h
      exact ⟨(strv _, t) :: l, by rw [e1]; rfl, by rw [List.map_cons, e2]; rfl⟩
  rw [e1] at hl
  refine SC.join hl e2 ?_ fun t' k => ?_
  · unfold JoinOk
    rw [StrLaws.joinFits (B := 100)]
    · rfl
    · intro y hy
      obtain ⟨x, hx, rfl⟩ := List.mem_map.mp hy
      have := hb x hx
      simpa [Str.length] using this
    · have e0 : (Str.ofString "").length = 0 := by decide
      rw [e0, List.length_map]; omega
  · rw [show Txt.join (Str.ofString "") (xs.map strv) = strv xs.flatten from (StrLaws.glued_eq_join _ _).trans (join_nil xs)]
    exact h t' k

/-- [elt for x in a list] -/
theorem comp_list {env : Env} {elt iter : Expr} {x : Str} {px : Pos} {scope : Scope} {cl : List (Str × Addr)} {pos : Pos} {Q : Value → Shared → Prop} {T : Addr} {vs : List Value} (F : Value → Value → Prop) (hh : A.handled = none)
    (hiter : ∀ Q' : Value → Shared → Prop, (∀ h' tk, Ex s.heap h' → h'.IsList T (List.toArray vs) → Q' (.ref T) { s with heap := h', toks := tk }) → wpAny (model prog w) A (eval iter env) Q' E s) (hn : vs.length ≤ 1000)
    (helt : ∀ C v (s₃ : Shared) m₃ E', v ∈ vs → Ex s.heap s₃.heap → s₃.heap.Ns C m₃ → m₃ x = some v →
      wpAny (model prog w) A (eval elt (compEnvC scope cl C env)) (fun y s₄ => F v y ∧ Keeps s₃ s₄) E' s₃)
    (h : ∀ D h' tk (ys : List Value), Nx s.heap h' D → h'.PlainList D (List.toArray ys) → Paired F vs ys → Q (.ref D) { s with heap := h', toks := tk })
    (hclos : closureFor scope env = pure cl := by rfl) (hcell : ∀ y ∈ scope.names, y.2 ≠ .cell := by decide) (hkind : scope.kind = .function := by rfl)
    (hnames : ∀ y ∈ scope.names, y.2 = .local → scope.names.lookup y.1 = some .local := by decide) (hx : scope.names.lookup x = some .local := by rfl)
    (hs : ∀ x, foldedSetIterable iter env x = pure x := by intro _; rfl) :
    wpAny (model prog w) A (eval (.ListComp elt [⟨.Name x px, iter, [], 0⟩] scope pos) env) Q E s := by
  refine comp_gen vs.length (fun i v => vs[i]? = some v) (fun _ => true) F hclos hcell hkind hnames hx hn ?_ ?_ ?_ ?_ hs
  · intro Q' hq
    refine hiter _ fun h₁ tk k₁ hl => ?_
    refine wpAny_pyIter_list hl ?_
    obtain ⟨ol, hol, hr⟩ := id hl
    have hne : T ≠ h₁.objs.size := Nat.ne_of_lt (Heap.lt_size hol)
    have W := Walks.list (prog := prog) (w := w) hh h₁.objs.size T hne (List.toArray vs)
    rw [List.size_toArray] at W
    refine hq h₁.objs.size _ _ _ _ _ W.bound (fun i v hp => ⟨hp.1, by simpa using hp.2⟩) ⟨⟨_, Heap.get?_push_size _ rfl, rfl, rfl⟩, hl.at fun o e => Heap.get?_push_of_some _ e⟩ ?_ (Nx.after k₁ (Nw.push _ _).x)
    intro b hb
    simp only [Heap.size_push]
    rcases List.mem_cons.mp hb with e | hb
    · rw [e]; exact Nat.lt_succ_self _
    · rw [List.mem_singleton.mp hb]; exact Nat.lt_succ_of_lt (Heap.lt_size hol)
  · rintro C v s₃ m₃ E' _ kx N hm
    exact wpAny_tests_nil ⟨rfl, _, _, rfl, fun _ _ e => e⟩
  · rintro C v s₃ m₃ E' ⟨i, _, e⟩ _ kx N hm
    exact helt C v s₃ m₃ E' (List.mem_of_getElem? e) kx N hm
  · intro D h' tk ys us nx pl hlen hP hF
    rw [List.filter_eq_self.mpr (fun _ _ => rfl)] at hF
    have e : us = vs := by
      apply List.ext_getElem? 
      intro i
      by_cases hi : i < us.length
      · rw [List.getElem?_eq_getElem hi, hP i _ (List.getElem?_eq_getElem hi)]
      · rw [List.getElem?_eq_none (by omega), List.getElem?_eq_none (by omega)]
    rw [e] at hF
    exact h D h' tk ys nx pl hF
end
end
-- S6
section
open PySem PySem.W PyProof.Rows
open PySem PySem.Spec PySem.Calls
/-- the codes of the k-th row -/
def rowL (P : List Nat) (os : Nat → List Nat) (k : Nat) : List Nat := (if dotB P k then [46] else []) ++ os k
theorem Oct.len {n : Nat} {os : List Nat} (o : Oct n os) : os.length ≤ 4 := by
  obtain ⟨ks, f, rfl, _, _, _, h⟩ := o.shape; simp; omega
theorem Oct.lt {n : Nat} {os : List Nat} (o : Oct n os) : ∀ k ∈ os, 128 ≤ k ∧ k < 256 := by
  obtain ⟨ks, f, rfl, h1, h2, h3, _⟩ := o.shape
  intro k hk
  rcases List.mem_append.mp hk with hk | hk
  · exact ⟨(h1 k hk).2, (h1 k hk).1.1⟩
  · rw [List.mem_singleton.mp hk]; exact ⟨h3, h2.1⟩
theorem ints_mem {vs : List Value} {os : List Nat} (h : IntsAre vs (os.map fun n => ((n : Nat) : Int))) : ∀ v ∈ vs, ∃ o ∈ os, ∃ t, v = .int (o : Int) t := by
  intro v hv
  obtain ⟨i, hi⟩ := List.mem_iff_getElem?.mp hv
  have hl : i < os.length := by have := (List.getElem?_eq_some_iff.mp hi).1; rw [h.length, List.length_map] at this; exact this
  obtain ⟨t, e⟩ := nat_item h hl
  rw [e] at hi
  refine ⟨os.getD i 0, ?_, t, (Option.some.inj hi).symm⟩
  rw [List.getD_eq_getElem?_getD, List.getElem?_eq_getElem hl]; exact List.getElem_mem _
/-- the signs of a list of codes -/
theorem signs_of {vs ys : List Value} {os : List Nat} (h : IntsAre vs (os.map fun n => ((n : Nat) : Int))) (hp : Paired (fun v y => ∀ k t, v = Value.int k t → ∃ t', y = .str (strv [k.toNat]) t') vs ys) : TxtsAre ys (os.map fun o => [o]) := by
  induction os generalizing vs ys with
  | nil => cases h; cases hp; exact .nil
  | cons o r ih =>
    cases h with
    | cons _ t h' =>
      cases hp with
      | cons h1 h2 => exact .cons (by obtain ⟨t', e⟩ := h1 _ _ rfl; exact ⟨t', by rw [e, Int.toNat_natCast]⟩) (ih h' h2)
theorem flat_one : ∀ os : List Nat, (os.map fun o => [o]).flatten = os
  | [] => rfl
  | o :: r => by simp [flat_one r]
section
variable {prog : Program} {w : World} {A : Around} {E : Value → Shared → Prop} {s : Shared} {S : List Addr} {G : Heap} {L : Addr} {m cm : Str → Option Value} {Q : Flow → Shared → Prop}
set_option maxHeartbeats 2000000 in
theorem s6 {n : Nat} {t2 : Tok} {P : List Nat} {os : Nat → List Nat} {dt ot : Addr} {ds ots : List Value} (F : LFr S G w.params L m cm s.heap) (BG : Bs w.params G) (hh : A.handled = none)
    (hm : m "size" = some (.int n t2)) (hcd : cm "dots" = some (.ref dt)) (hco : cm "octets" = some (.ref ot)) (hdt : G.PlainList dt (List.toArray ds)) (hot : G.PlainList ot (List.toArray ots)) (hn : n ≤ 7)
    (hds : ∀ i, i < n → ∃ t, ds[i]? = some (.str (dotS (dotB P i)) t))
    (hos : ∀ i, i < n → ∃ T vs, ots[i]? = some (.ref T) ∧ G.IsList T (List.toArray vs) ∧ IntsAre vs ((os i).map fun n => ((n : Nat) : Int)) ∧ Oct (P.getD i 0) (os i))
    (h : ∀ h' tk G' D ys, LFr S G' w.params L m (fun y => if y = "rows" then some (.ref D) else cm y) h' → Ex G G' → G'.PlainList D (List.toArray ys) → ys.length = n →
      (∀ i, i < n → ∃ t, ys[i]? = some (.str (strv (rowL P os i)) t)) → Q .next { s with heap := h', toks := tk }) :
    wpAny (model prog w) A (exec (lawSt w.params 6) (lawEnv w.params L)) Q E s := by
  show wpAny _ _ (exec (Stmt.Assign [Expr.Name _ _] _ _) _) _ _ _
  walk_at "l"
  refine comp_range (a := 0) (n := n) (fun _ => true) (fun i y => ∃ t, y = .str (strv (rowL P os i)) t) ?_ (by omega) ?_ ?_ ?_
  · refine rit1 hh (BG.keeps F.gr) (by omega) fun Q'' hq => ?_
    walk_at "ls"
    exact hq _ _ _ (Ex.refl _)
  · intro C i t s₃ m₃ E' hi' kx N hk
    exact wpAny_tests_nil ⟨rfl, _, _, rfl, fun _ _ e => e⟩
  · intro C i t s₃ m₃ E' hi' _ kx N hk
    have F := F.ex kx
    rw [Nat.zero_add] at hk
    walk_at "ls"
    obtain ⟨t3, e3⟩ := hds i hi'
    refine PyProof.Rows.item_listL (il_keep hdt.isList F.gr) (by omega) (by omega) (by rw [Int.toNat_natCast]; exact e3) ?_
    walk_at "ls"
    refine wpAny_Call_method (by rfl) (by rfl) (by rfl) PySem.F.plainAttrs_str PySem.F.slot_str_join PySem.F.type_str_join ?_
    walk_at "ls"
    refine ⟨typeIs_str _ _ _, (fun _ e => nomatch e), cw_m1 ?_⟩
    walk_at "l"
    obtain ⟨T, vs, e4, hT, hv, oc⟩ := hos i hi'
    have hvl := hv.length
    have hol := oc.len
    refine comp_list (T := T) (vs := vs) (fun v y => ∀ k t, v = .int k t → ∃ t', y = .str (strv [k.toNat]) t') hh ?_ ?_ ?_ ?_
    · intro Q' hq
      walk_at "ls"
      refine PyProof.Rows.item_listL (il_keep hot.isList F.gr) (by omega) (by omega) (by rw [Int.toNat_natCast]; exact e4) ?_
      exact hq _ _ (Ex.refl _) (il_keep hT F.gr)
    · rw [hvl, List.length_map]; omega
    · intro C₂ v s₄ m₄ E'' hmem kx₄ N₄ hm₄
      have F := F.ex kx₄
      obtain ⟨o, ho, t5, rfl⟩ := ints_mem hv v hmem
      have := oc.lt o ho
      walk_at "ls"
      refine chr_of_range (by omega) (by omega) ?_
      exact ⟨fun k t e => by cases e; exact ⟨_, rfl⟩, _, _, rfl, fun _ _ e => e⟩
    · intro D h₅ tk₅ ys nx pl hF
      have F := F.ex nx.ex
      walk_at "ls"
      refine join_s pl.isList (signs_of hv hF) (fun x hx => ?_) (by rw [List.length_map]; omega) fun t6 k6 => ?_
      · obtain ⟨o, _, rfl⟩ := List.mem_map.mp hx; simp
      rw [flat_one]
      dsimp only
      refine add_s (a := if dotB P i then [46] else []) (by split <;> simp <;> omega) fun t7 k7 => ?_
      exact ⟨⟨_, rfl⟩, _, _, rfl, nx.ex⟩
  · intro D h' tk ys nx pl hF
    have F1 := F.ex nx.ex
    have nD := F.new nx.fresh
    obtain ⟨hl, hF⟩ := paired_get hF
    rw [List.filter_eq_self.mpr (fun _ _ => rfl)] at hl hF
    rw [List.length_range] at hl
    walk_at "ls"
    rename_i h4 F4 hs4
    refine h _ _ _ D ys F4.here F4.up (LFr.hidL (pl_but pl hs4 fun e => nD.1 (e ▸ F1.inC "rows" _ rfl)) nD.1) hl.symm fun i hi => ?_
    obtain ⟨t, e⟩ := hF i i ys[i] (by simp [hi]) (List.getElem?_eq_getElem (by omega))
    exact ⟨t, by rw [List.getElem?_eq_getElem (by omega), e]⟩
end
end
-- S8
section
open PySem PySem.W PyProof.Rows
open PySem PySem.Spec PySem.Calls
def endL : Nat → List Nat
  | 0 => [10]
  | 1 => [13, 10]
  | _ => [13]
def lineL (P : List Nat) (os : Nat → List Nat) (x j : Nat) : List Nat := rowL P os j ++ endL ((j + x) % 3)
def frontL (P : List Nat) (os : Nat → List Nat) (x k : Nat) : List Nat := ((List.range (k + 1)).map (lineL P os x)).flatten
theorem endL_len (i : Nat) : (endL i).length ≤ 2 := by unfold endL; split <;> simp
theorem row_len {P : List Nat} {os : Nat → List Nat} {k : Nat} (h : (os k).length ≤ 4) : (rowL P os k).length ≤ 5 := by unfold rowL; split <;> simp <;> omega
section
variable {prog : Program} {w : World} {A : Around} {E : Value → Shared → Prop} {s : Shared} {S : List Addr} {G : Heap} {L : Addr} {m cm : Str → Option Value} {Q : Flow → Shared → Prop}
set_option maxHeartbeats 2000000 in
theorem s7 (F : LFr S G w.params L m cm s.heap) 
    (h : ∀ h' tk G' D es, LFr S G' w.params L m (fun y => if y = "ends" then some (.ref D) else cm y) h' → Ex G G' → G'.PlainList D (List.toArray es) →
      (∀ i, i < 3 → ∃ t, es[i]? = some (.str (strv (endL i)) t)) → Q .next { s with heap := h', toks := tk }) :
    wpAny (model prog w) A (exec (lawSt w.params 7) (lawEnv w.params L)) Q E s := by
  show wpAny _ _ (exec (Stmt.Assign [Expr.Name _ _] _ _) _) _ _ _
  walk_at "ls"
  refine new_list (by simp) fun h₂ D nw pl => ?_
  have F1 := F.ex nw.ex
  have nD := F.new nw.fresh
  walk_at "ls"
  rename_i h4 F4 hs4
  refine h _ _ _ D _ F4.here F4.up (LFr.hidL (pl_but pl hs4 fun e => nD.1 (e ▸ F1.inC "ends" _ rfl)) nD.1) fun i hi => ?_
  match i, hi with
  | 0, _ => exact ⟨_, rfl⟩
  | 1, _ => exact ⟨_, rfl⟩
  | 2, _ => exact ⟨_, rfl⟩
set_option maxHeartbeats 2000000 in
theorem s8 {n x : Nat} {t1 t2 : Tok} {P : List Nat} {os : Nat → List Nat} {rt et : Addr} {rs es : List Value} (F : LFr S G w.params L m cm s.heap) (BG : Bs w.params G) (hh : A.handled = none)
    (hm : m "size" = some (.int n t2)) (hcl : cm "lost" = some (.int x t1)) (hcr : cm "rows" = some (.ref rt)) (hce : cm "ends" = some (.ref et)) (hrt : G.PlainList rt (List.toArray rs)) (het : G.PlainList et (List.toArray es)) (hn : n ≤ 7)
    (hol : ∀ i, i < n → (os i).length ≤ 4)
    (hrs : ∀ i, i < n → ∃ t, rs[i]? = some (.str (strv (rowL P os i)) t)) (hes : ∀ i, i < 3 → ∃ t, es[i]? = some (.str (strv (endL i)) t))
    (h : ∀ h' tk G' D ys, LFr S G' w.params L m (fun y => if y = "fronts" then some (.ref D) else cm y) h' → Ex G G' → G'.PlainList D (List.toArray ys) → ys.length = n →
      (∀ i, i < n → ∃ t, ys[i]? = some (.str (strv (frontL P os x i)) t)) → Q .next { s with heap := h', toks := tk }) :
    wpAny (model prog w) A (exec (lawSt w.params 8) (lawEnv w.params L)) Q E s := by
  show wpAny _ _ (exec (Stmt.Assign [Expr.Name _ _] _ _) _) _ _ _
  walk_at "l"
  refine comp_range (a := 0) (n := n) (fun _ => true) (fun i y => ∃ t, y = .str (strv (frontL P os x i)) t) ?_ (by omega) ?_ ?_ ?_
  · refine rit1 hh (BG.keeps F.gr) (by omega) fun Q'' hq => ?_
    walk_at "ls"
    exact hq _ _ _ (Ex.refl _)
  · intro C i t s₃ m₃ E' hi' kx N hk
    exact wpAny_tests_nil ⟨rfl, _, _, rfl, fun _ _ e => e⟩
  · intro C i t s₃ m₃ E' hi' _ kx N hk
    have F := F.ex kx
    rw [Nat.zero_add] at hk
    refine wpAny_Call_method (by rfl) (by rfl) (by rfl) PySem.F.plainAttrs_str PySem.F.slot_str_join PySem.F.type_str_join ?_
    walk_at "ls"
    refine ⟨typeIs_str _ _ _, (fun _ e => nomatch e), cw_m1 ?_⟩
    walk_at "l"
    refine comp_range (a := 0) (n := i + 1) (fun _ => true) (fun j y => ∃ t, y = .str (strv (lineL P os x j)) t) ?_ (by omega) ?_ ?_ ?_
    · refine rit1 hh (BG.keeps F.gr) (by omega) fun Q'' hq => ?_
      walk_at "ls"
      exact hq _ _ _ (Ex.refl _)
    · intro C₂ j t₄ s₄ m₄ E'' hj kx₄ N₄ hm₄
      exact wpAny_tests_nil ⟨rfl, _, _, rfl, fun _ _ e => e⟩
    · intro C₂ j t₄ s₄ m₄ E'' hj _ kx₄ N₄ hm₄
      have F := F.ex kx₄
      rw [Nat.zero_add] at hm₄
      walk_at "ls"
      obtain ⟨t5, e5⟩ := hrs j (by omega)
      refine PyProof.Rows.item_listL (il_keep hrt.isList F.gr) (by omega) (by omega) (by rw [Int.toNat_natCast]; exact e5) ?_
      walk_at "ls"
      rw [show (((j : Nat) : Int) + (x : Int)).fmod 3 = (((j + x) % 3 : Nat) : Int) by rw [Int.fmod_eq_emod_of_nonneg _ (by decide)]; omega]
      obtain ⟨t6, e6⟩ := hes ((j + x) % 3) (by omega)
      refine PyProof.Rows.item_listL (il_keep het.isList F.gr) (by omega) (by omega) (by rw [Int.toNat_natCast]; exact e6) ?_
      refine add_s (by have := row_len (P := P) (hol j (by omega)); have := endL_len ((j + x) % 3); omega) fun t7 k7 => ?_
      exact ⟨⟨_, rfl⟩, _, _, rfl, fun _ _ e => e⟩
    · intro D h₅ tk₅ ys nx pl hF
      have F := F.ex nx.ex
      walk_at "ls"
      have hT : TxtsAre ys ((List.range (i + 1)).map (lineL P os x)) := by
        rw [List.filter_eq_self.mpr (fun _ _ => rfl)] at hF
        have : ∀ (is : List Nat) (ys : List Value), Paired (fun j y => ∃ t, y = Value.str (strv (lineL P os x j)) t) is ys → TxtsAre ys (is.map (lineL P os x)) := by
          intro is ys hp
          induction hp with
          | nil => exact .nil
          | cons h _ ih => exact .cons h ih
        exact this _ _ hF
      refine join_s pl.isList hT (fun z hz => ?_) (by simp; omega) fun t6 k6 => ?_
      · obtain ⟨j, hj, rfl⟩ := List.mem_map.mp hz
        have := row_len (P := P) (hol j (by have := List.mem_range.mp hj; omega)); have := endL_len ((j + x) % 3)
        simp [lineL]; omega
      exact ⟨⟨_, rfl⟩, _, _, rfl, nx.ex⟩
  · intro D h' tk ys nx pl hF
    have F1 := F.ex nx.ex
    have nD := F.new nx.fresh
    obtain ⟨hl, hF⟩ := paired_get hF
    rw [List.filter_eq_self.mpr (fun _ _ => rfl)] at hl hF
    rw [List.length_range] at hl
    walk_at "ls"
    rename_i h4 F4 hs4
    refine h _ _ _ D ys F4.here F4.up (LFr.hidL (pl_but pl hs4 fun e => nD.1 (e ▸ F1.inC "fronts" _ rfl)) nD.1) hl.symm fun i hi => ?_
    obtain ⟨t, e⟩ := hF i i ys[i] (by simp [hi]) (List.getElem?_eq_getElem (by omega))
    exact ⟨t, by rw [List.getElem?_eq_getElem (by omega), e]⟩
end
end
-- LO
section
open PySem PySem.W PyProof.Rows
open PySem PySem.Spec PySem.Calls
section
variable {prog : Program} {w : World} {A : Around} {E : Value → Shared → Prop} {s : Shared} {S : List Addr} {G : Heap} {P : Params} {L : Addr} {m cm : Str → Option Value}
theorem LFr.lower {h G₀ : Heap} (x : LFr S G P L m cm h) (k : Ex G₀ G) : LFr S G₀ P L m cm h :=
  ⟨x.ns, x.cell, fun b o e => x.gr _ _ (k _ _ e), fun a ha => (by
    cases q : G₀.get? a with
    | none => rfl
    | some o => have := k _ _ q; rw [x.off a ha] at this; cases this), x.live, x.inL, x.inC, x.apart, x.above⟩
/-- all but a thing that is not ours stays -/
theorem LFr.but {h h' : Heap} {I : Addr} (x : LFr S G P L m cm h) (hk : ∀ b o, b ≠ I → h.get? b = some o → h'.get? b = some o) (hI : I ∉ S) (hG : G.get? I = none) : LFr S G P L m cm h' :=
  ⟨x.ns.at' fun o e => hk _ o (fun q => hI (q ▸ x.inL)) e, fun n c e => let ⟨o, ho, hd⟩ := x.cell n c e; ⟨o, hk _ _ (fun q => hI (q ▸ x.inC n c e)) ho, hd⟩,
    fun b o e => hk _ _ (fun q => by rw [q, hG] at e; cases e) (x.gr _ _ e), x.off, fun a ha => let ⟨o, ho⟩ := x.live a ha; ⟨o, hk _ _ (fun q => hI (q ▸ ha)) ho⟩, x.inL, x.inC, x.apart, x.above⟩

theorem for_range {x : Str} {px pos : Pos} {iter : Expr} {body : List Stmt} {env : Env} {a n : Nat} {Q : Flow → Shared → Prop} (J : Addr → Nat → Shared → Prop) (hn : n ≤ 1000)
    (hiter : RIter prog w A s E a n iter env)
    (h0 : ∀ I h tk, Nx s.heap h I → (∃ o, h.get? I = some o) → J I 0 { s with heap := h, toks := tk })
    (hkeep : ∀ I i (s₁ : Shared) h' tk, J I i s₁ → (∀ b o, b ≠ I → s₁.heap.get? b = some o → h'.get? b = some o) → J I i { s₁ with heap := h', toks := tk })
    (step : ∀ I i t (s₁ : Shared) oI E', i < n → J I i s₁ → s₁.heap.get? I = some oI →
      wpAny (model prog w) A (storeName env x (.int ((a + i : Nat) : Int) t)) (fun _ s₂ => wpAny (model prog w) A (execs body env) (fun f s₃ => match f with
        | .next => J I (i + 1) s₃ ∧ s₃.heap.get? I = some oI
        | .ret v => Q (.ret v) s₃
        | _ => False) E' s₂) E' s₁)
    (done : ∀ I (s₁ : Shared), J I n s₁ → Q .next s₁)
    (hs : ∀ x, foldedSetIterable iter env x = pure x := by intro _; rfl) :
    wpAny (model prog w) A (exec (.For (.Name x px) iter body [] pos) env) Q E s := by
  refine wpAny_For (hiter _ fun I P₀ St h₂ tk₂ W hPP hlive hst hfp hI => ?_) hs
  refine codeAny_forLoop (fun k s' => ∃ i, i ≤ n ∧ k = n + 1 - i ∧ St i s'.heap ∧ J I i s') ?_ (n + 1) ⟨0, Nat.zero_le _, rfl, hst, h0 I h₂ tk₂ hI (hlive _ _ hst)⟩
  rintro k s' ⟨i, hi, rfl, hst', hJ⟩
  by_cases hlt : i < n
  · refine W.item i _ _ _ hlt hst' fun v h₁ tk₁ hP hst₁ hk₁ => ?_
    obtain ⟨_, t, rfl⟩ := hPP i v hP
    obtain ⟨oI, hoI⟩ := hlive _ _ hst₁
    have hJ₁ := hkeep I i s' h₁ tk₁ hJ fun b o hb e => hk₁ b o (by simpa using hb) e
    refine wpAny_assign_Name (wpAny_mono (step I i t { s' with heap := h₁, toks := tk₁ } oI _ hlt hJ₁ hoI) (fun _ s₂ h₂' => wpAny_mono h₂' (fun f s₃ h₃ => ?_) fun _ _ e => e) fun _ _ e => e)
    cases f with
    | next => exact ⟨n + 1 - (i + 1), by omega, i + 1, hlt, rfl, W.frame _ _ _ hst₁ fun b hb o e => by
        rw [List.mem_singleton.mp hb] at e ⊢; rw [hoI] at e; cases e; exact h₃.2, h₃.1⟩
    | ret v => exact h₃
    | brk => exact h₃.elim
    | cont => exact h₃.elim
  · have e : i = n := by omega
    subst e
    refine W.done _ _ _ hst' fun h₁ tk₁ hk₁ => wpAny_execs_nil ?_
    exact done I _ (hkeep I i s' h₁ tk₁ hJ fun b o hb e => hk₁ b o (by simpa using hb) e)
end
end
-- S9
section
open PySem PySem.W PyProof.Rows
open PySem PySem.Spec PySem.Calls
def wireL (P : List Nat) (k : Nat) : List Nat := ((List.range k).map fun j => (if dotB P j then [46, 46] else []) ++ [P.getD j 0, 13, 10]).flatten
def tailL : List Nat := [33, 46, 13, 10, 13, 10, 46, 46, 46, 13, 10, 46, 46]
theorem wireL_succ (P : List Nat) (k : Nat) : wireL P (k + 1) = wireL P k ++ ((if dotB P k then [46, 46] else []) ++ [P.getD k 0, 13, 10]) := by simp [wireL, List.range_succ]
theorem wireL_len (P : List Nat) : ∀ k, (wireL P k).length ≤ 5 * k
  | 0 => by simp [wireL]
  | k + 1 => by have := wireL_len P k; rw [wireL_succ]; simp only [List.length_append]; split <;> simp <;> omega
theorem IntsAre.app {us vs : List Value} {ns ms : List Int} (h : IntsAre us ns) (h' : IntsAre vs ms) : IntsAre (us ++ vs) (ns ++ ms) := by
  induction h with
  | nil => exact h'
  | cons n t _ ih => exact .cons n t ih
section
variable {prog : Program} {w : World} {A : Around} {E : Value → Shared → Prop} {s : Shared} {S : List Addr} {G : Heap} {P : Params} {L : Addr} {m cm : Str → Option Value} {Q : Flow → Shared → Prop}
theorem LFr.hereI {h : Heap} (x : LFr S G P L m cm h) (I : Addr) : LFr S (hideAll h (I :: S)) P L m cm h :=
  ⟨x.ns, x.cell, fun b o e => of_hideAll _ e, fun a ha => hideAll_none _ (.tail _ ha), x.live, x.inL, x.inC, x.apart, x.above⟩
theorem LFr.upI {h : Heap} (x : LFr S G P L m cm h) {I : Addr} (hI : G.get? I = none) : Ex G (hideAll h (I :: S)) := fun b o e => hideAll_get _ (x.gr _ _ e) fun hm => by
  rcases List.mem_cons.mp hm with q | hm
  · rw [q, hI] at e; cases e
  · rw [x.off b hm] at e; cases e
theorem hidI {h : Heap} {D I : Addr} {its : Array Value} (e : h.PlainList D its) (hD : D ∉ S) (hI : D ≠ I) : (hideAll h (I :: S)).PlainList D its := let ⟨k, e⟩ := e; ⟨k, hideAll_get _ e fun hm => (List.mem_cons.mp hm).elim hI hD⟩
set_option maxHeartbeats 4000000 in
theorem s9 {n : Nat} {t2 : Tok} {PP : List Nat} {dt pg : Addr} {ds ps : List Value} {rest : List Stmt} (F : LFr S G w.params L m cm s.heap) (BG : Bs w.params G) (hh : A.handled = none)
    (hm : m "size" = some (.int n t2)) (hcd : cm "dots" = some (.ref dt)) (hcp : cm "page" = some (.ref pg)) (hdt : G.PlainList dt (List.toArray ds)) (hpg : G.PlainList pg (List.toArray ps)) (hi : IntsAre ps (PP.map fun n => ((n : Nat) : Int))) (hP : PP.length = n) (hn : n ≤ 7)
    (hds : ∀ i, i < n → ∃ t, ds[i]? = some (.str (dotS (dotB PP i)) t))
    (h : ∀ h' tk G' D us m', LFr S G' w.params L m' cm h' → Ex G G' → G'.PlainList D (List.toArray us) → IntsAre us ((wireL PP n ++ tailL).map fun n => ((n : Nat) : Int)) → m' "size" = some (.int n t2) → m' "wire" = some (.ref D) →
      wpAny (model prog w) A (execs rest (lawEnv w.params L)) Q E { s with heap := h', toks := tk }) :
    wpAny (model prog w) A (execs (lawSt w.params 9 :: lawSt w.params 10 :: lawSt w.params 11 :: rest) (lawEnv w.params L)) Q E s := by
  refine wpAny_execs_cons ?_
  show wpAny _ _ (exec (Stmt.Assign [Expr.Name _ _] _ _) _) _ _ _
  walk_at "ls"
  refine new_list (by simp) fun h₂ D nw pl => ?_
  have F1 := F.ex nw.ex
  have nD := F.new nw.fresh
  walk_at "ls"
  rename_i h4 F4 hs4
  have pl4 := pl_but pl hs4 fun e => nD.1 (e ▸ F1.inL)
  show wpAny _ _ (exec (Stmt.For (Expr.Name _ _) _ _ [] _) _) _ _ _
  refine for_range (a := 0) (n := n) (fun I k s₁ => ∃ G' D us m' h tk, s₁ = { s with heap := h, toks := tk } ∧ LFr S G' w.params L m' cm h ∧ Ex G G' ∧ I ∉ S ∧ G'.get? I = none ∧ G'.PlainList D (List.toArray us) ∧ IntsAre us ((wireL PP k).map fun n => ((n : Nat) : Int)) ∧
      m' "size" = some (.int n t2) ∧ m' "wire" = some (.ref D)) (by omega) ?_ ?_ ?_ ?_ ?_
  · refine rit1 hh (BG.keeps F4.gr) (by omega) fun Q'' hq => ?_
    walk_at "ls"
    exact hq _ _ _ (Ex.refl _)
  · intro I h5 tk5 nx hI
    have nI := F4.new nx.fresh
    have F5 := F4.ex nx.ex
    have hDI : D ≠ I := fun e => by obtain ⟨_, e2⟩ := pl4; rw [e, nx.fresh] at e2; cases e2
    exact ⟨hideAll h5 (I :: S), D, _, _, h5, _, rfl, F5.hereI I, F5.upI nI.2, nI.1, hideAll_none _ (.head _), hidI (pl_keep pl4 nx.ex) nD.1 hDI, .nil, hm, rfl⟩
  · rintro I k s₁ h' tk ⟨G', D, us, m', h5, tk5, rfl, F5, kG, hI, hGI, pl5, iu, m1, m2⟩ hk
    exact ⟨G', D, us, m', h', tk, rfl, F5.but hk hI hGI, kG, hI, hGI, pl5, iu, m1, m2⟩
  · rintro I k t s₁ oI E' hk ⟨G', D, us, m', h5, tk5, rfl, F5, kG, hI, hGI, pl5, iu, m1, m2⟩ hoI
    rw [Nat.zero_add]
    clear F1 F4
    walk_at "l"
    rename_i h6 F6 hs6
    generalize hm6 : (fun y => if y = Str.ofString "k" then some (Value.int ((k : Nat) : Int) t) else m' y) = m6 at F6
    have w1 : m6 "wire" = some (.ref D) := by rw [← hm6]; exact m2
    have w2 : m6 "k" = some (.int (k : Int) t) := by rw [← hm6]; rfl
    have w3 : m6 "size" = some (.int n t2) := by rw [← hm6]; exact m1
    have BG' := BG.keeps kG
    show wpAny _ _ (execs [_] _) _ _ _
    walk_at "ls"
    refine new_list (by simp) fun h7 D7 nw7 pl7 => ?_
    have F7 := F6.ex nw7.ex
    walk_at "ls"
    obtain ⟨t8, e8⟩ := hds k hk
    refine PyProof.Rows.item_listL (il_keep (il_keep hdt.isList kG) F7.gr) (by omega) (by omega) (by rw [Int.toNat_natCast]; exact e8) ?_
    walk_at "ls"
    have hds2 : (dotS (dotB PP k)).length = if dotB PP k then 1 else 0 := by unfold dotS Str.length; split <;> rfl
    refine P.len_str (by rw [hds2]; split <;> decide) ?_
    walk_at "ls"
    refine mul_listsI pl7 (by omega) (by rw [hds2]; split <;> decide) (by simp) fun h8 D8 nw8 pl8 => ?_
    have F8 := F7.ex nw8.ex
    rw [Int.toNat_natCast, hds2] at pl8
    have us5 := iu.length
    have usl := wireL_len PP k
    rw [List.length_map] at us5
    walk_at "ls"
    refine add_lists (pl_keep pl5 F8.gr) pl8 (by split <;> simp <;> omega) fun h9 D9 nw9 pl9 => ?_
    have F9 := F8.ex nw9.ex
    walk_at "ls"
    obtain ⟨t10, e10⟩ := nat_item hi (i := k) (by omega)
    refine PyProof.Rows.item_listL (il_keep (il_keep hpg.isList kG) F9.gr) (by omega) (by omega) (by rw [Int.toNat_natCast]; exact e10) ?_
    walk_at "ls"
    refine new_list (by simp) fun h11 D11 nw11 pl11 => ?_
    have F11 := F9.ex nw11.ex
    walk_at "ls"
    refine add_lists (pl_keep pl9 nw11.ex) pl11 (by split <;> simp <;> omega) fun h12 D12 nw12 pl12 => ?_
    have F12 := F11.ex nw12.ex
    have nD12 := F11.new nw12.fresh
    walk_at "ls"
    rename_i h13 F13 hs13
    have kp12 : Ex h6 h12 := fun b o e => nw12.ex _ _ (nw11.ex _ _ (nw9.ex _ _ (nw8.ex _ _ (nw7.ex _ _ e))))
    have hI12 : h12.get? I = some oI := kp12 _ _ (hs6.extBut _ _ (fun q => hI (q ▸ F5.inL)) hoI)
    have hDI : D12 ≠ I := fun e => by
      have e2 := nw12.fresh; rw [e] at e2
      have e3 : h11.get? I = some oI := nw11.ex _ _ (nw9.ex _ _ (nw8.ex _ _ (nw7.ex _ _ (hs6.extBut _ _ (fun q => hI (q ▸ F5.inL)) hoI))))
      rw [e3] at e2; cases e2
    refine ⟨⟨hideAll h13 (I :: S), D12, _, _, h13, _, rfl, F13.hereI I, fun b o e => F13.upI hGI _ _ (kG _ _ e), hI, hideAll_none _ (.head _), hidI (pl_but pl12 hs13 fun e => nD12.1 (e ▸ F12.inL)) nD12.1 hDI, ?_, by show m6 _ = _; exact w3, rfl⟩, hs13.extBut _ _ (fun q => hI (q ▸ F5.inL)) hI12⟩
    rw [wireL_succ, List.map_append, List.append_assoc]
    refine IntsAre.app iu ?_
    rw [List.map_append]
    refine IntsAre.app ?_ (.cons _ _ (.cons _ _ (.cons _ _ .nil)))
    split
    · exact .cons _ _ (.cons _ _ .nil)
    · exact .nil
  · rintro I s₁ ⟨G', D, us, m', h5, tk5, rfl, F5, kG, hI, hGI, pl5, iu, m1, m2⟩
    clear F1 F4
    show wpAny _ _ (execs (_ :: _) _) _ _ _
    refine wpAny_execs_cons ?_
    show wpAny _ _ (exec (Stmt.Assign [Expr.Name _ _] _ _) _) _ _ _
    walk_at "ls"
    refine new_list (by simp) fun h11 D11 nw11 pl11 => ?_
    have F11 := F5.ex nw11.ex
    have us5 := iu.length
    have usl := wireL_len PP n
    rw [List.length_map] at us5
    walk_at "ls"
    refine add_lists (pl_keep pl5 F11.gr) pl11 (by simp; omega) fun h12 D12 nw12 pl12 => ?_
    have F12 := F11.ex nw12.ex
    have nD12 := F11.new nw12.fresh
    walk_at "ls"
    rename_i h13 F13 hs13
    refine h _ _ _ D12 _ _ F13.here (fun b o e => F13.up _ _ (kG _ _ e)) (LFr.hidL (pl_but pl12 hs13 fun e => nD12.1 (e ▸ F12.inL)) nD12.1) ?_ (by show m' _ = _; exact m1) rfl
    rw [List.map_append]
    exact IntsAre.app iu (.cons _ _ (.cons _ _ (.cons _ _ (.cons _ _ (.cons _ _ (.cons _ _ (.cons _ _ (.cons _ _ (.cons _ _ (.cons _ _ (.cons _ _ (.cons _ _ (.cons _ _ .nil)))))))))))))
end
end
-- LS
section
open PySem PySem.W PyProof.Rows
open PySem PySem.Spec PySem.Calls
section
variable {prog : Program} {w : World} {A : Around} {E : Value → Shared → Prop} {s : Shared} {S : List Addr} {G : Heap} {P : Params} {L : Addr} {m cm : Str → Option Value}
/-- the codes that elt makes of the signs of a text -/
theorem comp_str {env : Env} {elt iter : Expr} {x : Str} {px : Pos} {scope : Scope} {cl : List (Str × Addr)} {pos : Pos} {Q : Value → Shared → Prop} {l : List Nat} (hh : A.handled = none)
    (hiter : ∀ Q' : Value → Shared → Prop, (∀ h' tk t, Ex s.heap h' → Q' (.str (strv l) t) { s with heap := h', toks := tk }) → wpAny (model prog w) A (eval iter env) Q' E s) (hn : l.length ≤ 1000)
    (helt : ∀ C c t (s₃ : Shared) m₃ E', Ex s.heap s₃.heap → s₃.heap.Ns C m₃ → m₃ x = some (.str (strv [c]) t) →
      wpAny (model prog w) A (eval elt (compEnvC scope cl C env)) (fun y s₄ => (∃ t', y = .int (c : Int) t') ∧ Keeps s₃ s₄) E' s₃)
    (h : ∀ D h' tk (ys : List Value), Nx s.heap h' D → h'.PlainList D (List.toArray ys) → IntsAre ys (l.map fun n => ((n : Nat) : Int)) → Q (.ref D) { s with heap := h', toks := tk })
    (hclos : closureFor scope env = pure cl := by rfl) (hcell : ∀ y ∈ scope.names, y.2 ≠ .cell := by decide) (hkind : scope.kind = .function := by rfl)
    (hnames : ∀ y ∈ scope.names, y.2 = .local → scope.names.lookup y.1 = some .local := by decide) (hx : scope.names.lookup x = some .local := by rfl)
    (hs : ∀ x, foldedSetIterable iter env x = pure x := by intro _; rfl) :
    wpAny (model prog w) A (eval (.ListComp elt [⟨.Name x px, iter, [], 0⟩] scope pos) env) Q E s := by
  refine comp_gen l.length (fun i v => ∃ c u, l[i]? = some c ∧ v = .str (strv [c]) u) (fun _ => true) (fun v y => ∀ c t, v = .str (strv [c]) t → ∃ t', y = .int (c : Int) t') hclos hcell hkind hnames hx hn ?_ ?_ ?_ ?_ hs
  · intro Q' hq
    refine hiter _ fun h₁ tk t k₁ => ?_
    refine wpAny_pyIter_str fun o St W hst => ?_
    have W := W A hh
    have e : (strv l).cps.size = l.length := by simp
    rw [e] at W
    refine hq _ _ _ _ _ _ W.bound (fun i v hp => ⟨hp.1, ?_⟩) hst ?_ (Nx.after k₁ (Nw.push _ _).x)
    · obtain ⟨c, u, e1, e2⟩ := hp.2
      exact ⟨c, u, by simpa using e1, e2⟩
    · intro b hb
      rw [List.mem_singleton.mp hb]; simp only [Heap.size_push]; exact Nat.lt_succ_self _
  · rintro C v s₃ m₃ E' _ kx N hm
    exact wpAny_tests_nil ⟨rfl, _, _, rfl, fun _ _ e => e⟩
  · rintro C v s₃ m₃ E' ⟨i, _, c, u, _, rfl⟩ _ kx N hm
    refine wpAny_mono (helt C c u s₃ m₃ E' kx N hm) (fun y s₄ h₄ => ⟨fun c' t' e => ?_, h₄.2⟩) fun _ _ e => e
    have e1 : c = c' := by
      injection e with e1 e2
      have e3 := congrArg (fun x : Str => x.cps.toList) e1
      simpa using e3
    rw [← e1]; exact h₄.1
  · intro D h' tk ys us nx pl hlen hP hF
    rw [List.filter_eq_self.mpr (fun _ _ => rfl)] at hF
    refine h D h' tk ys nx pl ?_
    have key : ∀ (l : List Nat) (us ys : List Value), us.length = l.length → (∀ (i : Nat) v, us[i]? = some v → ∃ c u, l[i]? = some c ∧ v = .str (strv [c]) u) →
        Paired (fun v y => ∀ c t, v = Value.str (strv [c]) t → ∃ t', y = .int (c : Int) t') us ys → IntsAre ys (l.map fun n => ((n : Nat) : Int)) := by
      intro l
      induction l with
      | nil => intro us ys hl _ hF; have : us = [] := List.eq_nil_of_length_eq_zero hl; subst this; cases hF; exact .nil
      | cons c r ih =>
        intro us ys hl hu hF
        match us, hl with
        | u :: us, hl =>
          obtain ⟨c', t, e1, rfl⟩ := hu 0 u rfl
          have e1 : c = c' := by simpa using e1
          subst e1
          cases hF with
          | cons h1 h2 =>
            obtain ⟨t', rfl⟩ := h1 c t rfl
            exact .cons _ _ (ih us _ (by simpa using hl) (fun i v e => by have := hu (i + 1) v (by simpa using e); simpa using this) h2)
    exact key l us ys hlen hP hF

theorem LFr.frs (_x : LFr S G P L m cm s.heap) : Mine.frs [lawEnv P L] = [L] := rfl
theorem LFr.toHide {h : Heap} (x : LFr S G P L m cm h) : Ex G (hideAll h (Mine.frs [lawEnv P L])) := fun b o e => hideAll_get _ (x.gr _ _ e) fun hm => by
  rw [show b = L from List.mem_singleton.mp hm, x.off L x.inL] at e; cases e
theorem LFr.ff {h : Heap} (x : LFr S G P L m cm h) (hk : (lawEnv P L).scope.kind = .function := by rfl) : h.FunFrames noHeap [lawEnv P L] :=
  Heap.FunFrames.cons (by rw [hk]; decide) rfl x.ns (noHeap_get _) trivial
theorem LFr.slots {h h' : Heap} (x : LFr S G P L m cm h) (st : (hideAll h (Mine.frs [lawEnv P L])).StaysIn h') (up : h.UpToSlots h') : LFr S G P L m cm h' := by
  have keep : ∀ b o, b ≠ L → h.get? b = some o → h'.get? b = some o := fun b o hb e => st b o (hideAll_get _ e fun hm => hb (List.mem_singleton.mp hm))
  have hns := up.ns x.ns
  refine ⟨hns, fun n c e => ?_, fun b o e => keep b o (fun q => by rw [q, x.off L x.inL] at e; cases e) (x.gr _ _ e), x.off, fun a ha => ?_, x.inL, x.inC, x.apart, x.above⟩
  · obtain ⟨o, ho, hd⟩ := x.cell n c e
    exact ⟨o, keep _ _ (Nat.ne_of_gt (x.above n c (mem_of_lookup e))) ho, hd⟩
  · by_cases q : a = L
    · subst q; obtain ⟨o, _, _, ho, _⟩ := hns; exact ⟨o, ho⟩
    · obtain ⟨o, ho⟩ := x.live a ha; exact ⟨o, keep _ _ q ho⟩
end
end
-- MA
section
open PySem PySem.W PyProof.Rows
theorem crlf_cons {c : Nat} (h : c ≠ 10 ∧ c ≠ 13) : ∀ l, crlf (c :: l) = c :: crlf l
  | [] => by rw [crlf_one, if_neg (by omega)]; rfl
  | d :: r => by rw [crlf_two, if_neg (by omega), if_neg (by omega)]
theorem crlf_app {X : List Nat} (h : ∀ c ∈ X, c ≠ 10 ∧ c ≠ 13) (Y : List Nat) : crlf (X ++ Y) = X ++ crlf Y := by
  induction X with
  | nil => rfl
  | cons c r ih => rw [List.cons_append, crlf_cons (h c (.head _)), ih fun d hd => h d (.tail _ hd)]; rfl
theorem crlf_lf : ∀ Y, crlf (10 :: Y) = 13 :: 10 :: crlf Y
  | [] => rfl
  | d :: r => by rw [crlf_two, if_neg (by omega), if_pos (.inl rfl)]
theorem crlf_cr : ∀ Y : List Nat, Y.head? ≠ some 10 → crlf (13 :: Y) = 13 :: 10 :: crlf Y
  | [], _ => rfl
  | d :: r, h => by rw [crlf_two, if_neg (fun q => h (by rw [q.2]; rfl)), if_pos (.inr rfl)]
theorem crlf_end (e : Nat) (Y : List Nat) (h : Y.head? ≠ some 10) : crlf (endL e ++ Y) = 13 :: 10 :: crlf Y := by
  unfold endL
  split
  · exact crlf_lf Y
  · show crlf (13 :: 10 :: Y) = _
    rw [crlf_two, if_pos ⟨rfl, rfl⟩]
  · exact crlf_cr Y h
/-- octets: none is a dot, a line's end, and there is one -/
structure Oks (o : List Nat) : Prop where
  ge : ∀ k ∈ o, 128 ≤ k
  ne : o ≠ []
theorem Oct.oks {n : Nat} {o : List Nat} (x : Oct n o) : Oks o := ⟨fun k hk => (x.lt k hk).1, by obtain ⟨ks, f, rfl, _⟩ := x.shape; simp⟩
section
variable {P : List Nat} {os : Nat → List Nat} {x : Nat}
theorem row_codes {j : Nat} (h : Oks (os j)) : ∀ c ∈ rowL P os j, c ≠ 10 ∧ c ≠ 13 := by
  intro c hc
  unfold rowL at hc
  rcases List.mem_append.mp hc with hc | hc
  · split at hc
    · rw [List.mem_singleton.mp hc]; decide
    · cases hc
  · have := h.ge c hc; omega
theorem row_head {j : Nat} (h : Oks (os j)) (Y : List Nat) : (rowL P os j ++ Y).head? ≠ some 10 := by
  have hc := row_codes (P := P) h
  cases q : rowL P os j with
  | nil => unfold rowL at q; exact absurd (List.append_eq_nil_iff.mp q).2 h.ne
  | cons c r =>
    rw [q] at hc
    have := (hc c (.head _)).1
    simpa using this
theorem crlf_line {j : Nat} (h : Oks (os j)) (Y : List Nat) (hY : Y.head? ≠ some 10) : crlf (lineL P os x j ++ Y) = rowL P os j ++ 13 :: 10 :: crlf Y := by
  unfold lineL
  rw [List.append_assoc, crlf_app (row_codes h), crlf_end _ _ hY]
theorem crlf_lines : ∀ (js : List Nat), (∀ j ∈ js, Oks (os j)) → ∀ T : List Nat, T.head? ≠ some 10 →
    crlf ((js.map (lineL P os x)).flatten ++ T) = (js.map fun j => rowL P os j ++ [13, 10]).flatten ++ crlf T ∧ ((js.map (lineL P os x)).flatten ++ T).head? ≠ some 10
  | [], _, T, hT => ⟨rfl, hT⟩
  | j :: r, h, T, hT => by
    obtain ⟨h1, h2⟩ := crlf_lines r (fun i hi => h i (.tail _ hi)) T hT
    have hj := h j (.head _)
    rw [List.map_cons, List.flatten_cons, List.append_assoc]
    refine ⟨?_, ?_⟩
    · rw [crlf_line hj _ h2, h1]; simp
    · unfold lineL; rw [List.append_assoc]; exact row_head hj _
theorem dts_oct {o : List Nat} (h : Oks o) (b : Bool) (Y : List Nat) : dts b (o ++ Y) = o ++ dts false Y := by
  obtain ⟨h1, h2⟩ := h
  induction o generalizing b with
  | nil => exact absurd rfl h2
  | cons c r ih =>
    have hc := h1 c (.head _)
    show dts b (c :: (r ++ Y)) = _
    have e : (c == 10) = false := by simp; omega
    rw [dts, if_neg (by omega), e]
    cases r with
    | nil => rfl
    | cons d r' => rw [ih false (fun k hk => h1 k (.tail _ hk)) (by simp)]; rfl
theorem dts_row {j : Nat} (h : Oks (os j)) (Y : List Nat) : dts true (rowL P os j ++ 13 :: 10 :: Y) = (if dotB P j then [46, 46] else []) ++ os j ++ 13 :: 10 :: dts true Y := by
  have e : ∀ Y, dts false (13 :: 10 :: Y) = 13 :: 10 :: dts true Y := fun Y => by
    rw [dts, if_neg (by omega), show (13 == 10) = false from rfl, dts, if_neg (by omega)]; rfl
  unfold rowL
  split
  · show dts true (46 :: (os j ++ _)) = _
    rw [dts, if_pos ⟨rfl, rfl⟩, dts_oct h, e]; simp
  · show dts true (os j ++ _) = _
    rw [dts_oct h, e]; simp
def quoL (P : List Nat) (os : Nat → List Nat) (j : Nat) : List Nat := (if dotB P j then [46, 46] else []) ++ os j ++ [13, 10]
theorem dts_rows : ∀ (js : List Nat), (∀ j ∈ js, Oks (os j)) → ∀ T : List Nat, dts true ((js.map fun j => rowL P os j ++ [13, 10]).flatten ++ T) = (js.map (quoL P os)).flatten ++ dts true T
  | [], _, T => rfl
  | j :: r, h, T => by
    rw [List.map_cons, List.flatten_cons, List.append_assoc, List.append_assoc]
    show dts true (rowL P os j ++ 13 :: 10 :: ((r.map fun j => rowL P os j ++ [13, 10]).flatten ++ T)) = _
    rw [dts_row (h j (.head _)), dts_rows r (fun i hi => h i (.tail _ hi)) T]
    simp [quoL]
theorem quoted {k : Nat} (h : ∀ j, j ≤ k → Oks (os j)) (T : List Nat) (hT : T.head? ≠ some 10) : dts true (crlf (frontL P os x k ++ T)) = ((List.range (k + 1)).map (quoL P os)).flatten ++ dts true (crlf T) := by
  have h' : ∀ j ∈ List.range (k + 1), Oks (os j) := fun j hj => h j (by have := List.mem_range.mp hj; omega)
  unfold frontL
  rw [(crlf_lines _ h' T hT).1, dts_rows _ h']
abbrev lastL : List Nat := [33, 46, 10, 13, 46, 46, 10, 46]
theorem last_codes : dts true (crlf lastL) = tailL := by decide
/-- the blocks -/
def blkL (P : List Nat) (os : Nat → List Nat) (j : Nat) : List (List Nat) := (if dotB P j then [[46], [46]] else []) ++ [os j] ++ [[13], [10]]
def blksL (P : List Nat) (os : Nat → List Nat) (n : Nat) : List (List Nat) := ((List.range n).map (blkL P os)).flatten ++ tailL.map fun c => [c]
theorem blk_flat (j : Nat) : (blkL P os j).flatten = quoL P os j := by
  unfold blkL quoL; split <;> simp
theorem blks_flat (n : Nat) : (blksL P os n).flatten = ((List.range n).map (quoL P os)).flatten ++ tailL := by
  unfold blksL
  rw [List.flatten_append, flat_one]
  congr 1
  generalize List.range n = js
  induction js with
  | nil => rfl
  | cons j r ih => rw [List.map_cons, List.flatten_cons, List.flatten_append, ih, blk_flat]; simp
theorem blks_val (n : Nat) (h : ∀ j, j < n → val6 (os j) = P.getD j 0) : (blksL P os n).map val6 = wireL P n ++ tailL := by
  unfold blksL wireL
  rw [List.map_append]
  congr 1
  have h' : ∀ j ∈ List.range n, val6 (os j) = P.getD j 0 := fun j hj => h j (List.mem_range.mp hj)
  revert h'
  generalize List.range n = js
  intro h'
  induction js with
  | nil => rfl
  | cons j r ih =>
    rw [List.map_cons, List.flatten_cons, List.map_append, ih fun i hi => h' i (.tail _ hi), List.map_cons, List.flatten_cons]
    congr 1
    unfold blkL
    have := h' j (.head _)
    rw [List.map_append, List.map_append, List.map_cons, List.map_nil, this]
    split <;> rfl
theorem blks_blk (n : Nat) (h : ∀ j, j < n → Blk (os j)) : ∀ b ∈ blksL P os n, Blk b := by
  have one : ∀ c, last c → Blk [c] := fun c hc => ⟨⟨[], c, rfl, (fun k hk => by cases hk), hc, by simp⟩⟩
  intro b hb
  unfold blksL at hb
  rcases List.mem_append.mp hb with hb | hb
  · obtain ⟨l, hl, hb⟩ := List.mem_flatten.mp hb
    obtain ⟨j, hj, rfl⟩ := List.mem_map.mp hl
    unfold blkL at hb
    have hj' := List.mem_range.mp hj
    split at hb
    · simp only [List.mem_append, List.mem_cons, List.not_mem_nil, or_false] at hb
      rcases hb with ((rfl | rfl) | rfl) | rfl | rfl
      · exact one _ ⟨by decide, by decide⟩
      · exact one _ ⟨by decide, by decide⟩
      · exact h j hj'
      · exact one _ ⟨by decide, by decide⟩
      · exact one _ ⟨by decide, by decide⟩
    · simp only [List.mem_append, List.mem_cons, List.not_mem_nil, or_false] at hb
      rcases hb with (q | rfl) | rfl | rfl
      · exact q.elim
      · exact h j hj'
      · exact one _ ⟨by decide, by decide⟩
      · exact one _ ⟨by decide, by decide⟩
  · obtain ⟨c, hc, rfl⟩ := List.mem_map.mp hb
    refine one c ?_
    simp only [tailL, List.mem_cons, List.not_mem_nil, or_false] at hc
    rcases hc with rfl | rfl | rfl | rfl | rfl | rfl | rfl | rfl | rfl | rfl | rfl | rfl | rfl <;> exact ⟨by decide, by decide⟩
theorem blks_len (n : Nat) : (blksL P os n).length ≤ 5 * n + 13 := by
  unfold blksL
  rw [List.length_append, List.length_map]
  have : ∀ n, (((List.range n).map (blkL P os)).flatten).length ≤ 5 * n := by
    intro n
    induction n with
    | zero => simp
    | succ k ih =>
      rw [List.range_succ, List.map_append, List.flatten_append, List.length_append]
      have : (blkL P os k).length ≤ 5 := by unfold blkL; split <;> simp
      simp only [List.map_cons, List.map_nil, List.flatten_cons, List.flatten_nil, List.append_nil]; omega
  have := this n
  have : tailL.length = 13 := rfl
  omega
theorem Oct.blk {n : Nat} {o : List Nat} (x : Oct n o) : Blk o := by
  obtain ⟨ks, f, h1, h2, h3, _, h4⟩ := x.shape
  exact ⟨⟨ks, f, h1, fun k hk => (h2 k hk).1, h3, by omega⟩⟩
theorem front_len {k : Nat} (h : ∀ j, j ≤ k → (os j).length ≤ 4) : (frontL P os x k).length ≤ 7 * (k + 1) := by
  unfold frontL
  have : ∀ n, n ≤ k + 1 → (((List.range n).map (lineL P os x)).flatten).length ≤ 7 * n := by
    intro n
    induction n with
    | zero => intro _; simp
    | succ i ih =>
      intro hi
      rw [List.range_succ, List.map_append, List.flatten_append, List.length_append]
      have h1 : (lineL P os x i).length ≤ 7 := by
        unfold lineL
        have := row_len (P := P) (h i (by omega)); have := endL_len ((i + x) % 3)
        simp; omega
      have := ih (by omega)
      simp only [List.map_cons, List.map_nil, List.flatten_cons, List.flatten_nil, List.append_nil]; omega
  exact this _ (Nat.le_refl _)
/-- how many dots up to k -/
def grownN (P : List Nat) (k : Nat) : Nat := ((List.range (k + 1)).map fun j => if dotB P j then 1 else 0).sum
theorem quo_len (n : Nat) : (((List.range n).map (quoL P os)).flatten).length = ((List.range n).map fun j => (rowL P os j).length + 2).sum + ((List.range n).map fun j => if dotB P j then 1 else 0).sum := by
  induction n with
  | zero => rfl
  | succ k ih =>
    simp only [List.range_succ, List.map_append, List.flatten_append, List.length_append, List.sum_append, ih, List.map_cons, List.map_nil, List.flatten_cons, List.flatten_nil, List.append_nil, List.sum_cons, List.sum_nil]
    unfold quoL rowL
    split <;> simp <;> omega
end
end
-- SC
section
open PySem PySem.W PyProof.Rows
open PySem PySem.Spec PySem.Calls
theorem dts_len : ∀ (b : Bool) (l : List Nat), (dts b l).length ≤ 2 * l.length
  | _, [] => by simp [dts]
  | b, c :: r => by
    rw [dts]
    split
    · have := dts_len false r; simp; omega
    · have := dts_len (c == 10) r; simp; omega
section
variable {prog : Program} {w : World} {A : Around} {E : Value → Shared → Prop} {s : Shared} {S : List Addr} {G : Heap} {P : Params} {L : Addr} {m cm : Str → Option Value} {Q : Flow → Shared → Prop}
set_option maxHeartbeats 4000000 in
theorem s12 {n x : Nat} {t2 : Tok} {PP : List Nat} {os : Nat → List Nat} {ft wt : Addr} {fs us : List Value} (F : LFr S G w.params L m cm s.heap) (BG : Bs w.params G) (hh : A.handled = none) (hA : A.depth + 5 < recursionLimit) (hfr : A.frames = some [lawEnv w.params L]) (hu : A.units + 64 < cLine)
    (hm : m "size" = some (.int n t2)) (hmw : m "wire" = some (.ref wt)) (hcf : cm "fronts" = some (.ref ft)) (hft : G.PlainList ft (List.toArray fs)) (hwt : G.PlainList wt (List.toArray us)) (hi : IntsAre us ((wireL PP n ++ tailL).map fun n => ((n : Nat) : Int))) (h5 : 5 ≤ n) (hn : n ≤ 7)
    (hoc : ∀ j, j < n → Oct (PP.getD j 0) (os j))
    (hfs : ∀ i, i < n → ∃ t, fs[i]? = some (.str (strv (frontL PP os x i)) t))
    (h : ∀ h' tk G', LFr S G' w.params L m cm h' → Ex G G' → Q .next { s with heap := h', toks := tk }) :
    wpAny (model prog w) A (exec (lawSt w.params 12) (lawEnv w.params L)) Q E s := by
  have hfl : (frontL PP os x (n - 1)).length ≤ 49 := by
    have := front_len (P := PP) (os := os) (x := x) (k := n - 1) fun j hj => (hoc j (by omega)).len
    omega
  have hq0 : dts true (crlf (frontL PP os x (n - 1) ++ lastL)) = (blksL PP os n).flatten := by
    rw [quoted (fun j hj => (hoc j (by omega)).oks) lastL (by decide), last_codes, blks_flat, show n - 1 + 1 = n by omega]
  have hq1 : (blksL PP os n).flatten.length ≤ 900 := by
    rw [← hq0]
    have h1 := crlf_len (frontL PP os x (n - 1) ++ lastL)
    have h2 := dts_len true (crlf (frontL PP os x (n - 1) ++ lastL))
    simp at h1 h2; omega
  show wpAny _ _ (exec (Stmt.If _ _ _ _) _) _ _ _
  walk_at "l"
  walk_at "l"
  walk_at "l"
  walk_at "l"
  refine cw_fnB (BG.keeps F.gr) ?_
  walk_at "ls"
  refine comp_str (l := dts true (crlf (frontL PP os x (n - 1) ++ lastL))) hh ?_ ?_ ?_ ?_
  · intro Q' hq
    walk_at "l"
    walk_at "l"
    refine cw_fnB (BG.keeps F.gr) ?_
    walk_at "ls"
    obtain ⟨t3, e3⟩ := hfs (n - 1) (by omega)
    refine PyProof.Rows.item_listL (il_keep hft.isList F.gr) (by omega) (by omega) (by rw [show ((n : Int) - 1).toNat = n - 1 by omega]; exact e3) ?_
    walk_at "ls"
    refine add_s (b := lastL) (by have : lastL.length = 8 := rfl; omega) fun t7 k7 => ?_
    walk_at "ls"
    refine ⟨Ex.refl _, wpAny_call ?_⟩
    refine quote_call (BG.keeps F.gr) (by omega) (by rw [List.size_toArray, List.length_append]; have : lastL.length = 8 := rfl; omega) fun h' t tk k => ?_
    exact hq _ _ _ k
  · rw [hq0]; omega
  · intro C c t s₃ m₃ E' kx N hm3
    have F := F.ex kx
    walk_at "ls"
    exact P.ord_of_char ⟨⟨_, rfl⟩, _, _, rfl, fun _ _ e => e⟩
  · intro D h' tk ys nx pl iy
    have F1 := F.ex nx.ex
    walk_at "ls"
    refine new_list (by simp) fun h4 D4 nw4 pl4 => ?_
    have F4 := F1.ex nw4.ex
    rw [hq0] at iy
    have hys := iy.length
    rw [List.length_map] at hys
    walk_at "ls"
    refine add_lists (pl_keep pl nw4.ex) pl4 (by rw [hys]; simp only [List.length_cons, List.length_nil]; omega) fun h6 D6 nw6 pl6 => ?_
    have F6 := F4.ex nw6.ex
    have nD6 := F4.new nw6.fresh
    walk_at "ls"
    refine ⟨fun b o e => nw6.ex _ _ (nw4.ex _ _ (nx.ex _ _ e)), wpAny_call ?_⟩
    refine all_call (vs := ys ++ [.int 193 tk]) (blks := blksL PP os n) (ts := [193]) hfr F6.ff (BG.keeps F6.toHide) (by omega) hh ?_ ?_ (blks_blk n fun j hj => (hoc j hj).blk) ?_ (by simp) (by simp) (by have := blks_len (P := PP) (os := os) n; omega) ?_
    · exact pl6.isList.at fun o e => hideAll_get _ e fun hm => nD6.1 (List.mem_singleton.mp hm ▸ F6.inL)
    · rw [List.map_append]; exact IntsAre.app iy (.cons _ _ .nil)
    · intro k hk; rw [List.mem_singleton.mp hk]; exact ⟨by decide, by decide⟩
    · intro h7 D7 us7 tk7 f7 st7 up7 pl7 iu7
      have F7 := F6.slots st7 up7
      have kG : Ex G (hideAll h7 S) := F7.up
      walk_at "ls"
      refine ne_intsK pl7.isList iu7 (il_keep hwt.isList F7.gr) hi hu ?_
      rw [decide_eq_true (by rw [← blks_val n fun j hj => (hoc j hj).val, List.map_map]; rfl)]
      walk_at "ls"
      rw [if_neg (by decide)]
      exact wpAny_execs_nil (h _ _ _ F7.here F7.up)
end
end
-- SD
section
open PySem PySem.W PyProof.Rows
open PySem PySem.Spec PySem.Calls
theorem ints_pair {ys : List Value} {g : Nat → Int} {is : List Nat} (h : Paired (fun i y => ∃ t, y = Value.int (g i) t) is ys) : IntsAre ys (is.map g) := by
  induction h with
  | nil => exact .nil
  | cons h _ ih => obtain ⟨t, rfl⟩ := h; exact .cons _ _ ih
section
variable {prog : Program} {w : World} {A : Around} {E : Value → Shared → Prop} {s : Shared} {S : List Addr} {G : Heap} {P : Params} {L : Addr} {m cm : Str → Option Value} {Q : Flow → Shared → Prop}
set_option maxHeartbeats 4000000 in
theorem s13g {n x : Nat} {t2 : Tok} {PP : List Nat} {os : Nat → List Nat} {ft rt : Addr} {fs rs : List Value} (F : LFr S G w.params L m cm s.heap) (BG : Bs w.params G) (hh : A.handled = none) (hA : A.depth + 5 < recursionLimit)
    (hm : m "size" = some (.int n t2)) (hcf : cm "fronts" = some (.ref ft)) (hcr : cm "rows" = some (.ref rt)) (hft : G.PlainList ft (List.toArray fs)) (hrt : G.PlainList rt (List.toArray rs)) (hn : n ≤ 7)
    (hoc : ∀ j, j < n → Oct (PP.getD j 0) (os j))
    (hfs : ∀ i, i < n → ∃ t, fs[i]? = some (.str (strv (frontL PP os x i)) t)) (hrs : ∀ i, i < n → ∃ t, rs[i]? = some (.str (strv (rowL PP os i)) t))
    (h : ∀ h' tk G' D gs, LFr S G' w.params L m (fun y => if y = "grown" then some (.ref D) else cm y) h' → Ex G G' → G'.PlainList D (List.toArray gs) → IntsAre gs ((List.range n).map fun i => ((grownN PP i : Nat) : Int)) → Q .next { s with heap := h', toks := tk }) :
    wpAny (model prog w) A (exec (lawSt w.params 13) (lawEnv w.params L)) Q E s := by
  show wpAny _ _ (exec (Stmt.Assign [Expr.Name _ _] _ _) _) _ _ _
  walk_at "l"
  refine comp_range (a := 0) (n := n) (fun _ => true) (fun i y => ∃ t, y = .int ((grownN PP i : Nat) : Int) t) ?_ (by omega) ?_ ?_ ?_
  · refine rit1 hh (BG.keeps F.gr) (by omega) fun Q'' hq => ?_
    walk_at "ls"
    exact hq _ _ _ (Ex.refl _)
  · intro C i t s₃ m₃ E' hi' kx N hk
    exact wpAny_tests_nil ⟨rfl, _, _, rfl, fun _ _ e => e⟩
  · intro C i t s₃ m₃ E' hi' _ kx N hk
    have F := F.ex kx
    rw [Nat.zero_add] at hk
    have hfl : (frontL PP os x i).length ≤ 49 := by
      have := front_len (P := PP) (os := os) (x := x) (k := i) fun j hj => (hoc j (by omega)).len
      omega
    have hq0 : dts true (crlf (frontL PP os x i)) = ((List.range (i + 1)).map (quoL PP os)).flatten := by
      have := quoted (P := PP) (os := os) (x := x) (k := i) (fun j hj => (hoc j (by omega)).oks) [] (by decide)
      rw [List.append_nil] at this
      rw [this]; simp [crlf, dts]
    have hq1 := quo_len (P := PP) (os := os) (i + 1)
    walk_at "l"
    walk_at "l"
    walk_at "l"
    walk_at "l"
    walk_at "l"
    walk_at "l"
    walk_at "l"
    refine cw_fnB (BG.keeps F.gr) ?_
    walk_at "ls"
    obtain ⟨t3, e3⟩ := hfs i hi'
    refine PyProof.Rows.item_listL (il_keep hft.isList F.gr) (by omega) (by omega) (by rw [Int.toNat_natCast]; exact e3) ?_
    walk_at "ls"
    refine ⟨Ex.refl _, wpAny_call ?_⟩
    refine quote_call (BG.keeps F.gr) (by omega) (by rw [List.size_toArray]; omega) fun h₄ t₄ tk₄ k₄ => ?_
    have F₄ := F.ex k₄
    have N₄ := N.keeps k₄
    clear F N
    walk_at "ls"
    rw [hq0]
    have hrow : ∀ j, j < i + 1 → (rowL PP os j).length ≤ 5 := fun j hj => row_len (hoc j (by omega)).len
    have hql : (((List.range (i + 1)).map (quoL PP os)).flatten).length ≤ 1000 := by
      rw [← hq0]
      have h1 := crlf_len (frontL PP os x i)
      have h2 := dts_len true (crlf (frontL PP os x i))
      omega
    refine P.len_str (by show ¬ ((((List.range (i + 1)).map (quoL PP os)).flatten.toArray.size : Nat) : Int) ≥ 2 ^ 63; rw [List.size_toArray]; omega) ?_
    walk_at "ls"
    refine comp_range (a := 0) (n := i + 1) (fun _ => true) (fun j y => ∃ t, y = .int (((rowL PP os j).length + 2 : Nat) : Int) t) ?_ (by omega) ?_ ?_ ?_
    · refine rit1 hh (BG.keeps F₄.gr) (by omega) fun Q'' hq => ?_
      walk_at "ls"
      exact hq _ _ _ (Ex.refl _)
    · intro C₂ j t₅ s₅ m₅ E'' hj kx₅ N₅ hm₅
      exact wpAny_tests_nil ⟨rfl, _, _, rfl, fun _ _ e => e⟩
    · intro C₂ j t₅ s₅ m₅ E'' hj _ kx₅ N₅ hm₅
      have F := F₄.ex kx₅
      rw [Nat.zero_add] at hm₅
      walk_at "ls"
      obtain ⟨t6, e6⟩ := hrs j (by omega)
      refine PyProof.Rows.item_listL (il_keep hrt.isList F.gr) (by omega) (by omega) (by rw [Int.toNat_natCast]; exact e6) ?_
      walk_at "ls"
      have hl5 := hrow j hj
      refine P.len_str (by show ¬ (((rowL PP os j).toArray.size : Nat) : Int) ≥ 2 ^ 63; rw [List.size_toArray]; omega) ?_
      walk_at "ls"
      exact ⟨⟨_, rfl⟩, _, _, rfl, fun _ _ e => e⟩
    · intro D₆ h₆ tk₆ ys nx pl hF
      have F₆ := F₄.ex nx.ex
      rw [List.filter_eq_self.mpr (fun _ _ => rfl)] at hF
      have hi6 := ints_pair hF
      walk_at "ls"
      refine sum_x hh pl.isList hi6 fun h₇ tk₇ t₇ k₇ => ?_
      dsimp only
      walk_at "ls"
      have hs : ((List.range (i + 1)).map fun j => (((rowL PP os j).length + 2 : Nat) : Int)).sum = ((((List.range (i + 1)).map fun j => (rowL PP os j).length + 2).sum : Nat) : Int) := by
        generalize List.range (i + 1) = js
        induction js with
        | nil => rfl
        | cons j r ih => simp only [List.map_cons, List.sum_cons, ih]; push_cast; rfl
      have he : (((((List.range (i + 1)).map (quoL PP os)).flatten.toArray.size : Nat) : Int)) - ((List.range (i + 1)).map fun j => (((rowL PP os j).length + 2 : Nat) : Int)).sum = ((grownN PP i : Nat) : Int) := by
        rw [hs, List.size_toArray, hq1]
        unfold grownN
        omega
      exact ⟨⟨_, congrArg (fun z => Value.int z _) he⟩, _, _, rfl, fun b o e => k₇ _ _ (nx.ex _ _ (k₄ _ _ e))⟩
  · intro D h' tk ys nx pl hF
    have F1 := F.ex nx.ex
    have nD := F.new nx.fresh
    rw [List.filter_eq_self.mpr (fun _ _ => rfl)] at hF
    walk_at "ls"
    rename_i h4 F4 hs4
    exact h _ _ _ D ys F4.here F4.up (LFr.hidL (pl_but pl hs4 fun e => nD.1 (e ▸ F1.inC "grown" _ rfl)) nD.1) (ints_pair hF)
end
end
-- SE
section
open PySem PySem.W PyProof.Rows
open PySem PySem.Spec PySem.Calls
def flatZ (P : List Nat) (i : Nat) : Int := (i : Int) + 1 - grownN P i
def knownZ (P : List Nat) (n : Nat) : Int := ((List.range (n - 1)).map fun i => ((1 + i : Nat) : Int) * (((grownN P (1 + i) : Nat) : Int) - ((grownN P i : Nat) : Int))).sum
theorem range_item {vs : List Value} {n : Nat} {g : Nat → Int} (h : IntsAre vs ((List.range n).map g)) {i : Nat} (hi : i < n) : ∃ t, vs[i]? = some (.int (g i) t) := by
  obtain ⟨t, e⟩ := h.get i (g i) (by rw [List.getElem?_map, List.getElem?_range hi]; rfl)
  exact ⟨t, e⟩
section
variable {prog : Program} {w : World} {A : Around} {E : Value → Shared → Prop} {s : Shared} {S : List Addr} {G : Heap} {P : Params} {L : Addr} {m cm : Str → Option Value} {Q : Flow → Shared → Prop}
set_option maxHeartbeats 4000000 in
theorem s14 {n : Nat} {t2 : Tok} {PP : List Nat} {gt : Addr} {gs : List Value} (F : LFr S G w.params L m cm s.heap) (BG : Bs w.params G) (hh : A.handled = none)
    (hm : m "size" = some (.int n t2)) (hcg : cm "grown" = some (.ref gt)) (hgt : G.PlainList gt (List.toArray gs)) (hi : IntsAre gs ((List.range n).map fun i => ((grownN PP i : Nat) : Int))) (hn : n ≤ 7)
    (h : ∀ h' tk G' D fs, LFr S G' w.params L (fun y => if y = "flat" then some (.ref D) else m y) cm h' → Ex G G' → G'.PlainList D (List.toArray fs) → IntsAre fs ((List.range n).map (flatZ PP)) → Q .next { s with heap := h', toks := tk }) :
    wpAny (model prog w) A (exec (lawSt w.params 14) (lawEnv w.params L)) Q E s := by
  show wpAny _ _ (exec (Stmt.Assign [Expr.Name _ _] _ _) _) _ _ _
  refine set_range (a := 0) (n := n) (fun i y => ∃ t, y = .int (flatZ PP i) t) F ?_ (by omega) ?_ ?_
  · refine rit1 hh (BG.keeps F.gr) (by omega) fun Q'' hq => ?_
    walk_at "ls"
    exact hq _ _ _ (Ex.refl _)
  · intro C i t s₃ m₃ E' hi' kx N hk
    have F := F.ex kx
    rw [Nat.zero_add] at hk
    walk_at "ls"
    obtain ⟨t3, e3⟩ := range_item hi hi'
    refine PyProof.Rows.item_listL (il_keep hgt.isList F.gr) (by omega) (by omega) (by rw [Int.toNat_natCast]; exact e3) ?_
    walk_at "ls"
    exact ⟨⟨_, rfl⟩, _, _, rfl, fun _ _ e => e⟩
  · intro D h' tk ys F' fD pl hlen hF
    refine h _ _ _ D ys F'.here F'.up (LFr.hidL pl (F.new fD).1) ?_
    have : ∀ (ys : List Value) (k : Nat), (∀ (i : Nat) z, ys[i]? = some z → ∃ t, z = .int (flatZ PP (k + i)) t) → IntsAre ys ((List.range' k ys.length).map (flatZ PP)) := by
      intro ys
      induction ys with
      | nil => intro k _; exact .nil
      | cons y r ih =>
        intro k hy
        obtain ⟨t, rfl⟩ := hy 0 y rfl
        rw [List.length_cons, List.range'_succ, List.map_cons]
        exact .cons _ _ (ih (k + 1) fun i z e => by have := hy (i + 1) z (by simpa using e); rwa [show k + (i + 1) = k + 1 + i by omega] at this)
    have h2 := this ys 0 (fun i z e => by rw [Nat.zero_add]; exact hF i z e)
    rw [hlen, ← List.range_eq_range'] at h2
    exact h2
set_option maxHeartbeats 4000000 in
theorem s15 {n : Nat} {t2 : Tok} {PP : List Nat} {gt : Addr} {gs : List Value} (F : LFr S G w.params L m cm s.heap) (BG : Bs w.params G) (hh : A.handled = none)
    (hm : m "size" = some (.int n t2)) (hcg : cm "grown" = some (.ref gt)) (hgt : G.PlainList gt (List.toArray gs)) (hi : IntsAre gs ((List.range n).map fun i => ((grownN PP i : Nat) : Int))) (h5 : 5 ≤ n) (hn : n ≤ 7)
    (h : ∀ h' tk G' t, LFr S G' w.params L (fun y => if y = "known" then some (.int (knownZ PP n) t) else m y) cm h' → Ex G G' → Q .next { s with heap := h', toks := tk }) :
    wpAny (model prog w) A (exec (lawSt w.params 15) (lawEnv w.params L)) Q E s := by
  show wpAny _ _ (exec (Stmt.Assign [Expr.Name _ _] _ _) _) _ _ _
  walk_at "ls"
  refine comp_range (a := 1) (n := n - 1) (fun _ => true) (fun i y => ∃ t, y = .int (((1 + i : Nat) : Int) * (((grownN PP (1 + i) : Nat) : Int) - ((grownN PP i : Nat) : Int))) t) ?_ (by omega) ?_ ?_ ?_
  · refine rit2 (c := 1) (n := n) hh (BG.keeps F.gr) (by omega) (by omega) fun s₁ Q'' hs hq => ?_
    have F : LFr S G w.params L m cm s₁.heap := hs ▸ F
    walk_at "ls"
    exact hq _ _ _ (hs ▸ Ex.refl _)
  · intro C i t s₃ m₃ E' hi' kx N hk
    exact wpAny_tests_nil ⟨rfl, _, _, rfl, fun _ _ e => e⟩
  · intro C i t s₃ m₃ E' hi' _ kx N hk
    have F := F.ex kx
    walk_at "ls"
    obtain ⟨t3, e3⟩ := range_item hi (i := 1 + i) (by omega)
    refine PyProof.Rows.item_listL (il_keep hgt.isList F.gr) (by omega) (by omega) (by rw [Int.toNat_natCast]; exact e3) ?_
    walk_at "ls"
    obtain ⟨t4, e4⟩ := range_item hi (i := i) (by omega)
    refine PyProof.Rows.item_listL (il_keep hgt.isList F.gr) (by omega) (by omega) (by rw [show (((1 + i : Nat) : Int) - 1).toNat = i by omega]; exact e4) ?_
    walk_at "ls"
    refine PyProof.Rows.mul_int ?_
    exact ⟨⟨_, rfl⟩, _, _, rfl, fun _ _ e => e⟩
  · intro D h' tk ys nx pl hF
    have F1 := F.ex nx.ex
    rw [List.filter_eq_self.mpr (fun _ _ => rfl)] at hF
    walk_at "ls"
    refine sum_x hh pl.isList (ints_pair hF) fun h₇ tk₇ t₇ k₇ => ?_
    have F7 := F1.ex k₇
    walk_at "ls"
    rename_i h8 F8 hs8
    exact h _ _ _ _ F8.here F8.up
end
end
-- SF
section
open PySem PySem.W PyProof.Rows
open PySem PySem.Spec PySem.Calls
def wholeL (P : List Nat) (x p : Nat) : List Nat := P.take p ++ [x] ++ P.drop p
def changeN (P : List Nat) (x n p : Nat) : Nat := (((List.range n).filter fun i => decide ((wholeL P x p).getD i 0 ≤ (wholeL P x p).getD (1 + i) 0)).map fun i => 1 + i).sum
theorem whole_len (P : List Nat) (x p : Nat) (h : p ≤ P.length) : (wholeL P x p).length = P.length + 1 := by simp [wholeL]; omega
section
variable {prog : Program} {w : World} {A : Around} {E : Value → Shared → Prop} {s : Shared} {S : List Addr} {G : Heap} {P : Params} {L : Addr} {m cm : Str → Option Value} {Q : Flow → Shared → Prop}
set_option maxHeartbeats 4000000 in
/-- the sum of the places where the numbers do not fall -/
theorem s17_sum {n p : Nat} {t2 tp : Tok} {PP : List Nat} {x : Nat} {wt : Addr} {ws : List Value} {Q : Value → Shared → Prop} (F : LFr S G w.params L m cm s.heap) (BG : Bs w.params G) (hh : A.handled = none)
    (hm : m "size" = some (.int n t2)) (hcw : cm "whole" = some (.ref wt)) (hw : s.heap.PlainList wt (List.toArray ws)) (hi : IntsAre ws ((wholeL PP x p).map fun n => ((n : Nat) : Int))) (hP : PP.length = n) (hp : p ≤ n) (hn : n ≤ 7)
    (h : ∀ h' tk t, Ex s.heap h' → Q (.int ((changeN PP x n p % (n + 1) : Nat) : Int) t) { s with heap := h', toks := tk })
    {e : Expr} (he : e = (match lawSt w.params 17 with | .For _ _ [_, .Expr (.Call _ [e] _ _) _] _ _ => e | _ => .Constant .none 0 ⟨0, 0, 0, 0⟩)) :
    wpAny (model prog w) A (eval e (lawEnv w.params L)) Q E s := by
  subst he
  show wpAny _ _ (eval (Expr.BinOp _ _ _ _) _) _ _ _
  have hwl := whole_len PP x p (by omega)
  walk_at "ls"
  refine comp_range (a := 1) (n := n) (fun i => decide ((wholeL PP x p).getD i 0 ≤ (wholeL PP x p).getD (1 + i) 0)) (fun i y => ∃ t, y = .int ((1 + i : Nat) : Int) t) ?_ (by omega) ?_ ?_ ?_
  · refine rit2 (c := 1) (n := n + 1) hh (BG.keeps F.gr) (by omega) (by omega) fun s₁ Q'' hs hq => ?_
    have F : LFr S G w.params L m cm s₁.heap := hs ▸ F
    walk_at "ls"
    exact hq _ _ _ (hs ▸ Ex.refl _)
  · intro C i t s₃ m₃ E' hi' kx N hk
    have F := F.ex kx
    refine wpAny_tests_one ?_
    walk_at "ls"
    obtain ⟨t3, e3⟩ := nat_item hi (i := 1 + i) (by omega)
    refine PyProof.Rows.item_listL (il_keep hw.isList kx) (by omega) (by omega) (by rw [Int.toNat_natCast]; exact e3) ?_
    walk_at "ls"
    obtain ⟨t4, e4⟩ := nat_item hi (i := i) (by omega)
    refine PyProof.Rows.item_listL (il_keep hw.isList kx) (by omega) (by omega) (by rw [show (((1 + i : Nat) : Int) - 1).toNat = i by omega]; exact e4) ?_
    walk_at "ls"
    refine ⟨?_, _, _, rfl, fun _ _ e => e⟩
    simp only [Int.ofNat_le]
  · intro C i t s₃ m₃ E' hi' _ kx N hk
    walk_at "ls"
    exact ⟨⟨_, rfl⟩, _, _, rfl, fun _ _ e => e⟩
  · intro D h' tk ys nx pl hF
    have F1 := F.ex nx.ex
    walk_at "ls"
    refine sum_x hh pl.isList (ints_pair hF) fun h₇ tk₇ t₇ k₇ => ?_
    have F7 := F1.ex k₇
    dsimp only
    walk_at "ls"
    refine PyProof.Rows.mod_int (by omega) ?_
    have e1 : ∀ is : List Nat, (is.map fun i => ((1 + i : Nat) : Int)).sum = (((is.map fun i => 1 + i).sum : Nat) : Int) := by
      intro is
      induction is with
      | nil => rfl
      | cons j r ih => simp only [List.map_cons, List.sum_cons, ih]; push_cast; rfl
    rw [e1]
    show Q (.int (((changeN PP x n p : Nat) : Int).fmod ((n : Int) + 1)) _) _
    rw [show ((changeN PP x n p : Nat) : Int).fmod ((n : Int) + 1) = ((changeN PP x n p % (n + 1) : Nat) : Int) by rw [Int.fmod_eq_emod_of_nonneg _ (by omega)]; push_cast; rfl]
    exact h _ _ _ fun b o e => k₇ _ _ (nx.ex _ _ e)
end
end
-- SG
section
open PySem PySem.W PyProof.Rows
open PySem PySem.Spec PySem.Calls
section
variable {prog : Program} {w : World} {A : Around} {E : Value → Shared → Prop} {s : Shared} {S : List Addr} {G : Heap} {P : Params} {L : Addr} {m cm : Str → Option Value} {Q : Flow → Shared → Prop}
set_option maxHeartbeats 4000000 in
theorem s16 {n x : Nat} {t1 t2 : Tok} {PP : List Nat} {pg : Addr} {ps : List Value} {rest : List Stmt} (F : LFr S G w.params L m cm s.heap) (BG : Bs w.params G) (hh : A.handled = none)
    (hm : m "size" = some (.int n t2)) (hcp : cm "page" = some (.ref pg)) (hcl : cm "lost" = some (.int x t1)) (hpg : G.PlainList pg (List.toArray ps)) (hi : IntsAre ps (PP.map fun n => ((n : Nat) : Int))) (hP : PP.length = n) (hn : n ≤ 7)
    (h : ∀ h' tk G' D us m' cm', LFr S G' w.params L m' cm' h' → Ex G G' → G'.PlainList D (List.toArray us) → IntsAre us ((List.range (n + 1)).map fun p => ((changeN PP x n p % (n + 1) : Nat) : Int)) → (∀ y : Str, y ≠ "place" → m' y = m y) → (∀ y : Str, y ≠ "whole" → y ≠ "marks" → cm' y = cm y) → cm' "marks" = some (.ref D) →
      wpAny (model prog w) A (execs rest (lawEnv w.params L)) Q E { s with heap := h', toks := tk }) :
    wpAny (model prog w) A (execs (lawSt w.params 16 :: lawSt w.params 17 :: rest) (lawEnv w.params L)) Q E s := by
  refine wpAny_execs_cons ?_
  show wpAny _ _ (exec (Stmt.Assign [Expr.Name _ _] _ _) _) _ _ _
  walk_at "ls"
  refine new_list (by simp) fun h₂ D nw pl => ?_
  have F1 := F.ex nw.ex
  have nD := F.new nw.fresh
  walk_at "ls"
  rename_i h4 F4 hs4
  have pl4 := pl_but pl hs4 fun e => nD.1 (e ▸ F1.inC "marks" _ rfl)
  show wpAny _ _ (exec (Stmt.For (Expr.Name _ _) _ _ [] _) _) _ _ _
  refine for_range (a := 0) (n := n + 1) (fun I k s₁ => ∃ G' us m' cm' h tk, s₁ = { s with heap := h, toks := tk } ∧ LFr S G' w.params L m' cm' h ∧ Ex G G' ∧ I ∉ S ∧ G'.get? I = none ∧ G'.get? D = none ∧ D ≠ I ∧ h.PlainList D (List.toArray us) ∧
      IntsAre us ((List.range k).map fun p => ((changeN PP x n p % (n + 1) : Nat) : Int)) ∧ (∀ y : Str, y ≠ "place" → m' y = m y) ∧ (∀ y : Str, y ≠ "whole" → y ≠ "marks" → cm' y = cm y) ∧ cm' "marks" = some (.ref D)) (by omega) ?_ ?_ ?_ ?_ ?_
  · refine rit1 (n := n + 1) hh (BG.keeps F4.gr) (by omega) fun Q'' hq => ?_
    walk_at "ls"
    exact hq _ _ _ (Ex.refl _)
  · intro I h5 tk5 nx hI
    have nI := F4.new nx.fresh
    have F5 := F4.ex nx.ex
    have hDI : D ≠ I := fun e => by obtain ⟨_, e2⟩ := pl4; rw [e, nx.fresh] at e2; cases e2
    exact ⟨G, _, m, _, h5, _, rfl, F5, Ex.refl _, nI.1, nI.2, nD.2, hDI, pl_keep pl4 nx.ex, .nil, fun y _ => rfl, fun y _ hy => if_neg hy, rfl⟩
  · rintro I k s₁ h' tk ⟨G', us, m', cm', h5, tk5, rfl, F5, kG, hI, hGI, hGD, hDI, pl5, iu, m1, m2, m3⟩ hk
    exact ⟨G', us, m', cm', h', tk, rfl, F5.but hk hI hGI, kG, hI, hGI, hGD, hDI, pl5.at fun o e => hk _ _ hDI e, iu, m1, m2, m3⟩
  · rintro I k t s₁ oI E' hk ⟨G', us, m', cm', h5, tk5, rfl, F5, kG, hI, hGI, hGD, hDI, pl5, iu, m1, m2, m3⟩ hoI
    rw [Nat.zero_add]
    clear F1 F4
    have BG' := BG.keeps kG
    walk_at "l"
    rename_i h6 F6 hs6
    generalize hm6 : (fun y => if y = Str.ofString "place" then some (Value.int ((k : Nat) : Int) t) else m' y) = m6 at F6
    have w2 : m6 "place" = some (.int (k : Int) t) := by rw [← hm6]; rfl
    have w3 : m6 "size" = some (.int n t2) := by rw [← hm6]; exact (m1 _ (by decide)).trans hm
    have w4 : cm' "page" = some (.ref pg) := (m2 _ (by decide) (by decide)).trans hcp
    have w5 : cm' "lost" = some (.int x t1) := (m2 _ (by decide) (by decide)).trans hcl
    have pl6 := pl_but pl5 hs6 fun e => nD.1 (e ▸ F5.inL)
    have hoI6 : h6.get? I = some oI := hs6.extBut _ _ (fun q => hI (q ▸ F5.inL)) hoI
    show wpAny _ _ (execs [_, _] _) _ _ _
    walk_at "l"
    show wpAny _ _ (exec (Stmt.Assign [Expr.Name _ _] _ _) _) _ _ _
    walk_at "ls"
    have hpl := hi.length
    rw [List.length_map] at hpl
    refine slice_x (il_keep (il_keep hpg.isList kG) F6.gr) .none (.int _ _) .none (by simp) (by rw [List.size_toArray]; omega) fun h7 D7 nx7 pl7 => ?_
    have F7 := F6.ex nx7.ex
    have ip7 := slice_ints_upto hi (y := (k : Int)) (by omega) (by rw [List.length_map]; omega)
    rw [Int.toNat_natCast, ← List.map_take] at ip7
    obtain ⟨q7, hq7⟩ : ∃ q7, q7 = (slicePick (List.toArray ps) none (some (k : Int)) none).toList := ⟨_, rfl⟩
    rw [← hq7] at ip7
    have pl7' : h7.PlainList D7 (List.toArray q7) := by rw [hq7, Array.toArray_toList]; exact pl7
    have hl7 := ip7.length
    rw [List.length_map] at hl7
    walk_at "ls"
    refine new_list (by simp) fun h8 D8 nw8 pl8 => ?_
    have F8 := F7.ex nw8.ex
    walk_at "ls"
    refine add_lists (pl_keep pl7' nw8.ex) pl8 (by rw [hl7]; simp; omega) fun h9 D9 nw9 pl9 => ?_
    have F9 := F8.ex nw9.ex
    walk_at "ls"
    refine slice_x (il_keep (il_keep hpg.isList kG) F9.gr) (.int _ _) .none .none (by simp) (by rw [List.size_toArray]; omega) fun h10 D10 nx10 pl10 => ?_
    have F10 := F9.ex nx10.ex
    have ip10 := slice_ints_from hi (x := (k : Int)) (by omega) (by rw [List.length_map]; omega)
    rw [Int.toNat_natCast, ← List.map_drop] at ip10
    obtain ⟨q10, hq10⟩ : ∃ q10, q10 = (slicePick (List.toArray ps) (some (k : Int)) none none).toList := ⟨_, rfl⟩
    rw [← hq10] at ip10
    have pl10' : h10.PlainList D10 (List.toArray q10) := by rw [hq10, Array.toArray_toList]; exact pl10
    have hl10 := ip10.length
    rw [List.length_map] at hl10
    walk_at "ls"
    refine add_lists (pl_keep pl9 nx10.ex) pl10' (by rw [List.length_append, hl7, hl10]; simp; omega) fun h11 D11 nw11 pl11 => ?_
    have F11 := F10.ex nw11.ex
    have nD11 := F10.new nw11.fresh
    walk_at "l"
    rename_i h12 F12 hs12
    have iw : IntsAre (q7 ++ [Value.int ((x : Nat) : Int) t1] ++ q10) ((wholeL PP x k).map fun n => ((n : Nat) : Int)) := by
      unfold wholeL
      rw [List.map_append, List.map_append]
      exact IntsAre.app (IntsAre.app ip7 (.cons _ _ .nil)) ip10
    have pl12 := pl_but pl11 hs12 fun e => nD11.1 (e ▸ F11.inC "whole" _ rfl)
    have kp11 : Ex h6 h11 := fun b o e => nw11.ex _ _ (nx10.ex _ _ (nw9.ex _ _ (nw8.ex _ _ (nx7.ex _ _ e))))
    have kD : h12.PlainList D (List.toArray us) := pl_but (pl_keep pl6 kp11) hs12 fun e => nD.1 (e ▸ F11.inC "whole" _ rfl)
    have kI : h12.get? I = some oI := hs12.extBut _ _ (fun e => hI (e ▸ F11.inC "whole" _ rfl)) (kp11 _ _ hoI6)
    generalize hc12 : (fun y => if y = Str.ofString "whole" then some (Value.ref D11) else cm' y) = c12 at F12
    have w6 : c12 "whole" = some (.ref D11) := by rw [← hc12]; rfl
    have w7 : c12 "marks" = some (.ref D) := by rw [← hc12]; exact m3
    clear F5 F6 F7 F8 F9 F10 F11
    walk_at "l"
    show wpAny _ _ (exec (Stmt.Expr _ _) _) _ _ _
    walk_at "l"
    refine wpAny_Call_method (by rfl) (by rfl) (by rfl) PySem.F.plainAttrs_list PySem.F.slot_list_append PySem.F.type_list_append ?_
    walk_at "ls"
    refine ⟨kD.isList.typeIs, pl_dict kD, cw_m1 ?_⟩
    walk_at "l"
    refine s17_sum (tp := 0) (p := k) F12 BG' hh w3 w6 pl12 iw hP (by omega) hn (fun h13 tk13 t13 k13 => ?_) rfl
    have F13 := F12.ex k13
    walk_at "ls"
    refine wpAny_list_append_plain (pl_keep kD k13) (fun h14 pl14 hs14 => ?_) (by have := iu.length; simp at this; rw [show sizeLine = 16777216 by decide, List.size_toArray]; omega)
    have F14 := F13.but (fun b o hb e => hs14.extBut b o hb e) nD.1 hGD
    walk_at "ls"
    refine ⟨⟨G', us ++ [.int ((changeN PP x n k % (n + 1) : Nat) : Int) t13], m6, c12, h14, _, rfl, F14, kG, hI, hGI, hGD, hDI, by simpa using pl14, ?_, ?_, ?_, w7⟩, hs14.extBut _ _ (Ne.symm hDI) (k13 _ _ kI)⟩
    · rw [List.range_succ, List.map_append]
      exact IntsAre.app iu (.cons _ _ .nil)
    · intro y hy; rw [← hm6]; exact (if_neg hy).trans (m1 y hy)
    · intro y hy hy2; rw [← hc12]; exact (if_neg hy).trans (m2 y hy hy2)
  · rintro I s₁ ⟨G', us, m', cm', h5, tk5, rfl, F5, kG, hI, hGI, hGD, hDI, pl5, iu, m1, m2, m3⟩
    exact h _ _ _ D us m' cm' F5.here (fun b o e => F5.up _ _ (kG _ _ e)) (LFr.hidL pl5 nD.1) iu m1 m2 m3
end
end
-- SH
section
open PySem PySem.W PyProof.Rows
open PySem PySem.Spec PySem.Calls
/-- the two lambdas, where they stand -/
def IsRead (h : Heap) (kf : Addr) : Prop := ∃ o name qual p0 p1 p2 p3 p4 p5 pm cdv ct, h.get? kf = some o ∧ o.data = .func (kla_fn name qual (lamParams p0) (.Call (.Name "_parse_varint" p1) [.Call (.Name "iter" p2) [.Name "signs" p3] [] p4] [] p5) lamScope [] pm cdv ct) ∧ h.CodeRec cdv qual
def IsTurned (h : Heap) (kf : Addr) : Prop := ∃ o name qual p0 p1 p2 p3 p4 p5 p6 pm cdv ct, h.get? kf = some o ∧ o.data = .func (kla_fn name qual (lamParams p0) (.UnaryOp .USub (.Call (.Name "_parse_varint" p1) [.Call (.Name "iter" p2) [.Name "signs" p3] [] p4] [] p5) p6) lamScope [] pm cdv ct) ∧ h.CodeRec cdv qual
theorem CodeRec_ex {h h' : Heap} {c : Value} {q : Str} (x : h.CodeRec c q) (k : Ex h h') : h'.CodeRec c q := by
  obtain ⟨c₂, oc, vs, t, e2, hoc, hd, hv⟩ := x
  exact ⟨c₂, oc, vs, t, e2, k _ _ hoc, hd, hv⟩
theorem IsRead.ex {h h' : Heap} {f : Addr} (x : IsRead h f) (k : Ex h h') : IsRead h' f := by
  obtain ⟨o, name, qual, p0, p1, p2, p3, p4, p5, pm, cdv, ct, h1, h2, h3⟩ := x
  exact ⟨o, name, qual, p0, p1, p2, p3, p4, p5, pm, cdv, ct, k _ _ h1, h2, CodeRec_ex h3 k⟩
theorem IsTurned.ex {h h' : Heap} {f : Addr} (x : IsTurned h f) (k : Ex h h') : IsTurned h' f := by
  obtain ⟨o, name, qual, p0, p1, p2, p3, p4, p5, p6, pm, cdv, ct, h1, h2, h3⟩ := x
  exact ⟨o, name, qual, p0, p1, p2, p3, p4, p5, p6, pm, cdv, ct, k _ _ h1, h2, CodeRec_ex h3 k⟩
theorem hid1 {h : Heap} {b : Addr} {o : Obj} {c : Addr} (e : h.get? b = some o) (hb : b ≠ c) : (hideAll h [c]).get? b = some o := hideAll_get _ e fun hm => hb (List.mem_singleton.mp hm)
section
variable {prog : Program} {w : World} {A : Around} {E : Value → Shared → Prop} {s : Shared} {S : List Addr} {G : Heap} {P : Params} {L : Addr} {m cm : Str → Option Value} {Q : Flow → Shared → Prop}
set_option maxHeartbeats 4000000 in
theorem s18 {rest : List Stmt} (F : LFr S G w.params L m cm s.heap) (B : Lg G)
    (h : ∀ h' tk G' kr kt, LFr S G' w.params L (fun y => if y = "turned" then some (.ref kt) else if y = "read" then some (.ref kr) else m y) cm h' → Ex (hideAll G [96]) G' → (∃ ps, G'.get? 96 = some (tabObj ps)) → IsRead G' kr → IsTurned G' kt →
      wpAny (model prog w) A (execs rest (lawEnv w.params L)) Q E { s with heap := h', toks := tk }) :
    wpAny (model prog w) A (execs (lawSt w.params 18 :: lawSt w.params 19 :: rest) (lawEnv w.params L)) Q E s := by
  obtain ⟨⟨mg, hg, ⟨bm, ob, b1, b2, b3, b4, b5, b6, b7, b8⟩, hgP⟩, hP, hC⟩ := B
  have hS : (96 : Addr) ∉ S := fun hm => by rw [F.off _ hm] at hP; cases hP
  have F0 : LFr S (hideAll G [96]) w.params L m cm s.heap := F.lower fun b o e => of_hideAll _ e
  have h96 : (hideAll G [96]).get? 96 = none := hideAll_none _ (.head _)
  have hg0 : (hideAll G [96]).Ns mainGlobals mg := hg.at' fun o e => hid1 e hgP
  have hC0 : CodeHd (hideAll G [96]) 98 96 := by
    obtain ⟨o, vs, file, tf, flags, tg, inF, text, tt, e, r⟩ := hC
    exact ⟨o, vs, file, tf, flags, tg, inF, text, tt, hid1 e (by decide), r⟩
  have hb5 : (hideAll G [96]).get? bm = some ob := hid1 b5 b4
  have hBt : ∀ h', Ex (hideAll G [96]) h' → h'.BuiltinsAt mg 96 := fun h' k => ⟨bm, ob, b1, b2, b3, b4, k _ _ hb5, b6, b7, b8⟩
  refine wpAny_execs_cons ?_
  show wpAny _ _ (exec (Stmt.Assign [Expr.Name _ _] _ _) _) _ _ _
  walk_at "l"
  show wpAny _ _ (eval (Expr.Lambda _ _ _ _) _) _ _ _
  refine kla_eval (by rfl) ?_
  refine kla_makeFunction (mg := mg) (c := 98) (P := 96) (ps := #[]) (by rfl) (by rfl) (hg0.keeps F0.gr) (by rfl) (hC0.keeps F0.gr) (F.gr _ _ hP) (by trivial) (by rfl) hgP (hBt _ F0.gr) fun c1 ct1 h1 tk1 hx1 hge1 hlt1 hr1 ht1 => ?_
  have F1 : LFr S (hideAll G [96]) w.params L m cm h1 := F0.but hx1 hS h96
  have hlt96 : ∀ {b : Addr}, s.heap.objs.size ≤ b → b ≠ 96 := fun hb e => absurd (Nat.lt_of_lt_of_le (Heap.lt_size (F.gr _ _ hP)) (e ▸ hb)) (Nat.lt_irrefl _)
  have hnew : ∀ {b : Addr}, s.heap.objs.size ≤ b → b ∉ S := fun {b} hb hm => by
    obtain ⟨o, ho⟩ := F.live b hm
    have := Heap.lt_size ho
    exact absurd (Nat.lt_of_lt_of_le this hb) (Nat.lt_irrefl _)
  obtain ⟨c1', oc1, vs1, t1, e1, hoc1, hd1, hv1⟩ := hr1
  cases e1
  have hz1 : s.heap.objs.size ≤ h1.objs.size := Nat.le_of_lt (Nat.lt_of_le_of_lt hge1 hlt1)
  generalize hO1 : kla_obj _ _ _ _ _ _ _ _ _ = O1
  have hO1' := (congrArg Obj.data hO1).symm
  have F2 := F1.ex (h' := h1.push O1) fun b o e => Heap.get?_push_of_some _ e
  have hk1 : (h1.push O1).get? h1.objs.size = some O1 := Heap.get?_push_size _ (by rw [← hO1]; rfl)
  have t2 := Heap.get?_push_of_some O1 ht1
  have R1 : IsRead (hideAll (h1.push O1) (96 :: S)) h1.objs.size := by
    refine ⟨O1, _, _, _, _, _, _, _, _, _, .ref c1, _, hideAll_get _ hk1 fun hm => ?_, hO1', c1, oc1, vs1, t1, rfl, hideAll_get _ (Heap.get?_push_of_some _ hoc1) fun hm => ?_, hd1, hv1⟩
    · exact (List.mem_cons.mp hm).elim (hlt96 hz1) (hnew hz1)
    · exact (List.mem_cons.mp hm).elim (hlt96 hge1) (hnew hge1)
  have F2' := F2.hereI 96
  have kG2 : Ex (hideAll G [96]) (hideAll (h1.push O1) (96 :: S)) := F2.upI h96
  have hG2 : (hideAll (h1.push O1) (96 :: S)).get? 96 = none := hideAll_none _ (.head _)
  generalize hideAll (h1.push O1) (96 :: S) = G2 at R1 F2' kG2 hG2
  clear F F0 F1 F2
  dsimp only
  walk_at "l"
  rename_i h3 F3 hs3
  have t3 := hs3.extBut _ _ (fun (e : (96 : Addr) = L) => hS (by rw [e]; exact F2'.inL)) t2
  show wpAny _ _ (execs (_ :: _) _) _ _ _
  walk_at "l"
  show wpAny _ _ (exec (Stmt.Assign [Expr.Name _ _] _ _) _) _ _ _
  walk_at "l"
  show wpAny _ _ (eval (Expr.Lambda _ _ _ _) _) _ _ _
  refine kla_eval (by rfl) ?_
  have hz3 : s.heap.objs.size ≤ h3.objs.size := by
    obtain ⟨o, _, _, _, _, _, _, _, _, _, _, _, hk, _⟩ := id R1
    exact Nat.le_trans hz1 (Nat.le_of_lt (Heap.lt_size (F3.gr _ _ hk)))
  refine kla_makeFunction (mg := mg) (c := 98) (P := 96) (ps := _) (by rfl) (by rfl) ((hg0.keeps kG2).keeps F3.gr) (by rfl) ((hC0.keeps kG2).keeps F3.gr) t3 (by trivial) (by rfl) hgP (hBt _ fun b o e => F3.gr _ _ (kG2 _ _ e)) fun c4 ct4 h4 tk4 hx4 hge4 hlt4 hr4 ht4 => ?_
  have F4 : LFr S G2 w.params L _ cm h4 := F3.but hx4 hS hG2
  obtain ⟨c4', oc4, vs4, t4, e4, hoc4, hd4, hv4⟩ := hr4
  cases e4
  have hz4 : s.heap.objs.size ≤ h4.objs.size := Nat.le_trans hz3 (Nat.le_of_lt (Nat.lt_of_le_of_lt hge4 hlt4))
  generalize hO4 : kla_obj _ _ _ _ _ _ _ _ _ = O4
  have hO4' := (congrArg Obj.data hO4).symm
  have F5 := F4.ex (h' := h4.push O4) fun b o e => Heap.get?_push_of_some _ e
  have hk4 : (h4.push O4).get? h4.objs.size = some O4 := Heap.get?_push_size _ (by rw [← hO4]; rfl)
  have t5 := Heap.get?_push_of_some O4 ht4
  clear F3 F4
  walk_at "l"
  rename_i h6 F6 hs6
  have inLS := F6.inL
  have kL : ∀ b o, b ∉ S → (h4.push O4).get? b = some o → (hideAll h6 S).get? b = some o := fun b o hb e => hideAll_get _ (hs6.extBut _ _ (fun q => hb (q ▸ inLS)) e) hb
  refine h _ _ _ _ _ F6.here (fun b o e => F6.up _ _ (kG2 _ _ e)) ⟨_, kL _ _ hS t5⟩ (R1.ex F6.up) ?_
  exact ⟨O4, _, _, _, _, _, _, _, _, _, _, .ref c4, _, kL _ _ (hnew hz4) hk4, hO4', c4, oc4, vs4, t4, rfl, kL _ _ (hnew (Nat.le_trans hz3 hge4)) (Heap.get?_push_of_some _ hoc4), hd4, hv4⟩
end
end
-- MB
section
open PySem PySem.W PyProof.Rows
open PySem PySem.Spec PySem.Calls
theorem found_clamp {p : Nat → Prop} {lo hi r n c : Nat} (h : Found p lo hi r) (h1 : lo ≤ hi) (h2 : hi ≤ n) (hc : ∀ i, i < n → (p i ↔ i < c)) : r = max lo (min c hi) := by
  obtain ⟨a1, a2, a3, a4⟩ := h
  have b3 : lo < r → r - 1 < c := fun q => (hc _ (by omega)).mp (a3 q)
  have b4 : r < hi → ¬ r < c := fun q e => a4 q ((hc _ (by omega)).mpr e)
  omega
theorem range_getD {T : Nat → Int} {n i : Nat} (h : i < n) : ((List.range n).map T).getD i 0 = T i := by
  simp [List.getD_eq_getElem?_getD, h]
section
variable {prog : Program} {w : World} {A : Around} {s : Shared}
theorem blp {a : Addr} {vs : List Value} {T : Nat → Int} {x : Int} {tx tl : Tok} {lo n c : Nat} {hv : Value} {hi : Nat} {args : Args}
    {R : Result → Shared → Prop} (B : Bs w.params s.heap) (hA : A.depth < recursionLimit) (hl : s.heap.IsList a vs.toArray) (hi' : IntsAre vs ((List.range n).map T)) (hn : n ≤ 7) (hle : hi ≤ n)
    (hhv : (hv = .none ∧ n = hi) ∨ (∃ t, hv = .int hi t)) (hlo : lo ≤ hi) (hc : ∀ i, i < n → (T i < x ↔ i < c))
    (hb : BindsTo s (fdOf (hd.heap_39 w.params) 49) args [("a", .ref a), ("x", .int x tx), ("lo", .int lo tl), ("hi", hv), ("key", .none)])
    (h : ∀ t h' tk, Ex s.heap h' → R (.ok (.ret (.int ((max lo (min c hi) : Nat) : Int) t))) { s with heap := h', toks := tk }) :
    codeAny (model prog w) A (.call (.ref 49) args) R s := by
  have hl' := hi'.length
  rw [List.length_map, List.length_range] at hl'
  refine bl_plain B hA hl hi' (by simp; omega) (by simpa using hle) (hhv.imp (fun q => ⟨q.1, by omega⟩) id) hlo hb fun r t h' tk hf k => ?_
  have e := found_clamp hf hlo hle fun i hi2 => by show (((List.range n).map T).getD i 0 < x ↔ _); rw [range_getD hi2]; exact hc i hi2
  rw [e]; exact h t h' tk k
theorem brp {a : Addr} {vs : List Value} {T : Nat → Int} {x : Int} {tx tl : Tok} {lo n c : Nat} {hv : Value} {hi : Nat} {args : Args}
    {R : Result → Shared → Prop} (B : Bs w.params s.heap) (hA : A.depth < recursionLimit) (hl : s.heap.IsList a vs.toArray) (hi' : IntsAre vs ((List.range n).map T)) (hn : n ≤ 7) (hle : hi ≤ n)
    (hhv : (hv = .none ∧ n = hi) ∨ (∃ t, hv = .int hi t)) (hlo : lo ≤ hi) (hc : ∀ i, i < n → (T i ≤ x ↔ i < c))
    (hb : BindsTo s (fdOf (hd.heap_39 w.params) 40) args [("a", .ref a), ("x", .int x tx), ("lo", .int lo tl), ("hi", hv), ("key", .none)])
    (h : ∀ t h' tk, Ex s.heap h' → R (.ok (.ret (.int ((max lo (min c hi) : Nat) : Int) t))) { s with heap := h', toks := tk }) :
    codeAny (model prog w) A (.call (.ref 40) args) R s := by
  have hl' := hi'.length
  rw [List.length_map, List.length_range] at hl'
  refine br_plain B hA hl hi' (by simp; omega) (by simpa using hle) (hhv.imp (fun q => ⟨q.1, by omega⟩) id) hlo hb fun r t h' tk hf k => ?_
  have e := found_clamp hf hlo hle fun i hi2 => by show (¬ (x < ((List.range n).map T).getD i 0) ↔ _); rw [range_getD hi2, Int.not_lt]; exact hc i hi2
  rw [e]; exact h t h' tk k
end
end
-- SI
section
open PySem PySem.W PyProof.Rows
open PySem PySem.Spec PySem.Calls
/-- the statements of the mark loop -/
noncomputable def lawB (P : Params) (i : Nat) : Stmt := (match lawSt P 20 with | .For _ _ b _ _ => b | _ => []).getD i (.Pass ⟨0, 0, 0, 0⟩)
def talZ (P : List Nat) (st : Int) (i : Nat) : Int := if st < 0 then ((grownN P i : Nat) : Int) else flatZ P i
section
variable {prog : Program} {w : World} {A : Around} {E : Value → Shared → Prop} {s : Shared} {S : List Addr} {G : Heap} {P : Params} {L : Addr} {m cm : Str → Option Value} {Q : Flow → Shared → Prop}
theorem LFr.nm {h : Heap} {x : Str} {v : Value} (F : LFr S G P L (fun y => if y = x then some v else m y) cm h) : ∃ m', LFr S G P L m' cm h ∧ m' x = some v ∧ ∀ y, y ≠ x → m' y = m y :=
  ⟨_, F, if_pos rfl, fun _ hy => if_neg hy⟩
set_option maxHeartbeats 4000000 in
/-- step, tally and aim -/
theorem lb0 {n k : Nat} {t1 t2 t3 : Tok} {K : Int} {PP : List Nat} {gt fl : Addr} {gs fs : List Value} {rest : List Stmt} (F : LFr S G w.params L m cm s.heap) (BG : Bs w.params G)
    (hm : m "size" = some (.int n t2)) (hk : m "known" = some (.int K t1)) (hmk : cm "mark" = some (.int k t3)) (hcg : cm "grown" = some (.ref gt)) (hmf : m "flat" = some (.ref fl))
    (hgt : G.PlainList gt (List.toArray gs)) (hig : IntsAre gs ((List.range n).map fun i => ((grownN PP i : Nat) : Int))) (hfl : G.PlainList fl (List.toArray fs)) (hif : IntsAre fs ((List.range n).map (flatZ PP))) (h5 : 5 ≤ n) (hn : n ≤ 7) {st : Int} (hst : st = ((k : Int) - K).fmod ((n : Int) + 1) - ((grownN PP (n - 1) : Nat) : Int))
    (h : ∀ h' tk m' ta us t4 t5, LFr S G w.params L m' cm h' → m' "step" = some (.int st t4) → m' "aim" = some (.int (if st < 0 then -st else st) t5) → m' "tally" = some (.ref ta) → G.PlainList ta (List.toArray us) → IntsAre us ((List.range n).map (talZ PP st)) →
      (∀ y : Str, y ≠ "step" → y ≠ "tally" → y ≠ "aim" → m' y = m y) → wpAny (model prog w) A (execs rest (lawEnv w.params L)) Q E { s with heap := h', toks := tk }) :
    wpAny (model prog w) A (execs (lawB w.params 0 :: lawB w.params 1 :: lawB w.params 2 :: rest) (lawEnv w.params L)) Q E s := by
  refine wpAny_execs_cons ?_
  show wpAny _ _ (exec (Stmt.Assign [Expr.Name _ _] _ _) _) _ _ _
  walk_at "ls"
  refine PyProof.Rows.mod_int (by omega) ?_
  walk_at "ls"
  obtain ⟨t6, e6⟩ := range_item hig (i := n - 1) (by omega)
  refine PyProof.Rows.item_listL (il_keep hgt.isList F.gr) (by omega) (by omega) (by rw [show ((n : Int) - 1).toNat = n - 1 by omega]; exact e6) ?_
  walk_at "l"
  rw [← hst]
  walk_at "l"
  rename_i h6 F6 hs6
  obtain ⟨m6, F6, w1, w3⟩ := F6.nm
  have w2 : m6 "flat" = some (.ref fl) := (w3 _ (by decide)).trans hmf
  show wpAny _ _ (execs (_ :: _) _) _ _ _
  walk_at "l"
  show wpAny _ _ (exec (Stmt.Assign [Expr.Name _ _] _ _) _) _ _ _
  walk_at "ls"
  have tail : ∀ (ta : Addr) (us : List Value) (h7 : Heap) (tk7 : Nat) , LFr S G w.params L (fun y => if y = Str.ofString "tally" then some (Value.ref ta) else m6 y) cm h7 → G.PlainList ta (List.toArray us) → IntsAre us ((List.range n).map (talZ PP st)) →
      wpAny (model prog w) A (execs (lawB w.params 2 :: rest) (lawEnv w.params L)) Q E { s with heap := h7, toks := tk7 } := by
    intro ta us h7 tk7 F7 hta iu
    obtain ⟨m7, F7, v2, v3'⟩ := F7.nm
    have v1 := (v3' "step" (by decide)).trans w1
    have v3 : ∀ y : Str, y ≠ "step" → y ≠ "tally" → m7 y = m y := fun y hy hy2 => (v3' y hy2).trans (w3 y hy)
    clear F F6
    show wpAny _ _ (execs (_ :: _) _) _ _ _
    walk_at "l"
    show wpAny _ _ (exec (Stmt.Assign [Expr.Name _ _] _ _) _) _ _ _
    walk_at "ls"
    refine PyProof.Rows.call_abs_int fun u8 tk8 => ?_
    walk_at "l"
    rename_i h9 F9 hs9
    obtain ⟨m9, F9, u2, u3⟩ := F9.nm
    exact h _ _ m9 ta us _ _ F9 ((u3 _ (by decide)).trans v1) u2 ((u3 _ (by decide)).trans v2) hta iu fun y h1 h2 h3 => (u3 y h3).trans (v3 y h1 h2)
  by_cases hneg : st < 0
  · rw [decide_eq_true hneg]
    walk_at "l"
    walk_at "l"
    walk_at "l"
    rename_i h7 F7 hs7
    exact tail gt gs h7 _ F7 hgt (by rw [show talZ PP st = fun i => ((grownN PP i : Nat) : Int) from funext fun i => if_pos hneg]; exact hig)
  · rw [decide_eq_false hneg]
    walk_at "l"
    walk_at "l"
    walk_at "l"
    rename_i h7 F7 hs7
    exact tail fl fs h7 _ F7 hfl (by rw [show talZ PP st = flatZ PP from funext fun i => if_neg hneg]; exact hif)
end
end
-- SJ
section
open PySem PySem.W PyProof.Rows
open PySem PySem.Spec PySem.Calls
section
variable {prog : Program} {w : World} {A : Around} {E : Value → Shared → Prop} {s : Shared} {S : List Addr} {G : Heap} {P : Params} {L : Addr} {m cm : Str → Option Value} {Q : Flow → Shared → Prop}
set_option maxHeartbeats 4000000 in
/-- low and high -/
theorem lb3 {n low high : Nat} {t1 : Tok} {a : Int} {T : Nat → Int} {ta : Addr} {us : List Value} {rest : List Stmt} (F : LFr S G w.params L m cm s.heap) (BG : Bs w.params G) (hA : A.depth + 5 < recursionLimit)
    (hmt : m "tally" = some (.ref ta)) (hma : m "aim" = some (.int a t1)) (hta : G.PlainList ta (List.toArray us)) (hiu : IntsAre us ((List.range n).map T)) (hn : n ≤ 7)
    (hlo : ∀ i, i < n → (T i < a ↔ i < low)) (hhi : ∀ i, i < n → (T i ≤ a ↔ i < high)) (hln : low ≤ n) (hhn : high ≤ n)
    (h : ∀ h' tk m' t4 t5, LFr S G w.params L m' cm h' → m' "low" = some (.int low t4) → m' "high" = some (.int high t5) → (∀ y : Str, y ≠ "low" → y ≠ "high" → m' y = m y) → wpAny (model prog w) A (execs rest (lawEnv w.params L)) Q E { s with heap := h', toks := tk }) :
    wpAny (model prog w) A (execs (lawB w.params 3 :: lawB w.params 4 :: rest) (lawEnv w.params L)) Q E s := by
  refine wpAny_execs_cons ?_
  show wpAny _ _ (exec (Stmt.Assign [Expr.Name _ _] _ _) _) _ _ _
  walk_at "ls"
  refine cw_fnB (BG.keeps F.gr) ?_
  walk_at "ls"
  refine ⟨Ex.refl _, wpAny_call ?_⟩
  have B0 := BG.keeps F.gr
  refine blp (lo := 0) (hi := n) (hv := .none) B0 (by omega) (il_keep hta.isList F.gr) hiu hn (Nat.le_refl _) (.inl ⟨rfl, rfl⟩) (Nat.zero_le _) hlo (kp_binds B0.K fun _ => by rfl) fun t4 h4 tk4 k4 => ?_
  have F4 := F.ex k4
  clear B0
  rw [show max 0 (min low n) = low by omega]
  walk_at "l"
  rename_i h5 F5 hs5
  obtain ⟨m5, F5, w1, w2⟩ := F5.nm
  have w3 := (w2 "tally" (by decide)).trans hmt
  have w4 := (w2 "aim" (by decide)).trans hma
  clear F4
  show wpAny _ _ (execs (_ :: _) _) _ _ _
  walk_at "l"
  show wpAny _ _ (exec (Stmt.Assign [Expr.Name _ _] _ _) _) _ _ _
  walk_at "ls"
  refine cw_fnB (BG.keeps F5.gr) ?_
  walk_at "ls"
  refine ⟨Ex.refl _, wpAny_call ?_⟩
  have B5 := BG.keeps F5.gr
  refine brp (lo := 0) (hi := n) (hv := .none) B5 (by omega) (il_keep hta.isList F5.gr) hiu hn (Nat.le_refl _) (.inl ⟨rfl, rfl⟩) (Nat.zero_le _) hhi (kp_binds B5.K fun _ => by rfl) fun t6 h6 tk6 k6 => ?_
  have F6 := F5.ex k6
  rw [show max 0 (min high n) = high by omega]
  walk_at "l"
  rename_i h7 F7 hs7
  obtain ⟨m7, F7, u1, u2⟩ := F7.nm
  exact h _ _ m7 _ _ F7 ((u2 _ (by decide)).trans w1) u1 fun y h1 h2 => (u2 y h2).trans (w2 y h1)
end
end
-- SK
section
open PySem PySem.W PyProof.Rows
open PySem PySem.Spec PySem.Calls
section
variable {prog : Program} {w : World} {A : Around} {E : Value → Shared → Prop} {s : Shared} {S : List Addr} {G : Heap} {P : Params} {L : Addr} {m cm : Str → Option Value} {Q : Flow → Shared → Prop}
set_option maxHeartbeats 8000000 in
/-- the searches beside low and high -/
theorem lb5 {n low high : Nat} {t1 t2 t3 : Tok} {a : Int} {T : Nat → Int} {ta : Addr} {us : List Value} {rest : List Stmt} (F : LFr S G w.params L m cm s.heap) (BG : Bs w.params G) (hA : A.depth + 5 < recursionLimit) (hu : A.units + 64 < cLine)
    (hmt : m "tally" = some (.ref ta)) (hma : m "aim" = some (.int a t1)) (hml : m "low" = some (.int low t2)) (hmh : m "high" = some (.int high t3)) (hta : G.PlainList ta (List.toArray us)) (hiu : IntsAre us ((List.range n).map T)) (hn : n ≤ 7)
    (hlo : ∀ i, i < n → (T i < a ↔ i < low)) (hhi : ∀ i, i < n → (T i ≤ a ↔ i < high)) (hlh : low < high) (hhn : high ≤ n)
    (h : ∀ h' tk m', LFr S G w.params L m' cm h' → (∀ y : Str, y ≠ "beside" → m' y = m y) → wpAny (model prog w) A (execs rest (lawEnv w.params L)) Q E { s with heap := h', toks := tk }) :
    wpAny (model prog w) A (execs (lawB w.params 5 :: lawB w.params 6 :: lawB w.params 7 :: lawB w.params 8 :: rest) (lawEnv w.params L)) Q E s := by
  have hlo1 : ∀ i, i < n → (T i ≤ a - 1 ↔ i < low) := fun i hi => by have := hlo i hi; omega
  have hhi1 : ∀ i, i < n → (T i < a + 1 ↔ i < high) := fun i hi => by have := hhi i hi; omega
  refine wpAny_execs_cons ?_
  show wpAny _ _ (exec (Stmt.Assign [Expr.Name _ _] _ _) _) _ _ _
  walk_at "ls"
  refine cw_fnB (BG.keeps F.gr) ?_
  walk_at "ls"
  refine ⟨Ex.refl _, wpAny_call ?_⟩
  refine brp (lo := 0) (hi := n) (hv := .none) (BG.keeps F.gr) (by omega) (il_keep hta.isList F.gr) hiu hn (Nat.le_refl _) (.inl ⟨rfl, rfl⟩) (Nat.zero_le _) hlo1 (kp_binds (BG.keeps F.gr).K fun _ => by rfl) fun t4 h4 tk4 k4 => ?_
  have F4 := F.ex k4
  rw [show max 0 (min low n) = low by omega]
  walk_at "ls"
  refine cw_fnB (BG.keeps F4.gr) ?_
  walk_at "ls"
  refine ⟨Ex.refl _, wpAny_call ?_⟩
  refine blp (lo := 0) (hi := n) (hv := .none) (BG.keeps F4.gr) (by omega) (il_keep hta.isList F4.gr) hiu hn (Nat.le_refl _) (.inl ⟨rfl, rfl⟩) (Nat.zero_le _) hhi1 (kp_binds (BG.keeps F4.gr).K fun _ => by rfl) fun t5 h5 tk5 k5 => ?_
  have F5 := F4.ex k5
  rw [show max 0 (min high n) = high by omega]
  walk_at "ls"
  refine new_list (by simp) fun h6 D6 nw6 pl6 => ?_
  have F6 := F5.ex nw6.ex
  have nD6 := F5.new nw6.fresh
  walk_at "l"
  rename_i h7 F7 hs7
  have pl7 := pl_but pl6 hs7 fun e => nD6.1 (e ▸ F6.inL)
  obtain ⟨m7, F7, w1, w2⟩ := F7.nm
  have w3 := (w2 "tally" (by decide)).trans hmt
  have w4 := (w2 "aim" (by decide)).trans hma
  have w5 := (w2 "low" (by decide)).trans hml
  have w6 := (w2 "high" (by decide)).trans hmh
  clear F4 F5 F6 F
  show wpAny _ _ (execs (_ :: _) _) _ _ _
  walk_at "l"
  show wpAny _ _ (exec (Stmt.Assign [Expr.Name _ _] _ _) _) _ _ _
  walk_at "ls"
  refine cw_fnB (BG.keeps F7.gr) ?_
  walk_at "ls"
  refine ⟨Ex.refl _, wpAny_call ?_⟩
  refine brp (lo := low + 1) (hi := n) (hv := .none) (BG.keeps F7.gr) (by omega) (il_keep hta.isList F7.gr) hiu hn (Nat.le_refl _) (.inl ⟨rfl, rfl⟩) (by omega) hlo1 (kp_binds (BG.keeps F7.gr).K fun _ => by rfl) fun t8 h8 tk8 k8 => ?_
  have F8 := F7.ex k8
  rw [show max (low + 1) (min low n) = low + 1 by omega]
  walk_at "ls"
  refine cw_fnB (BG.keeps F8.gr) ?_
  walk_at "ls"
  refine ⟨Ex.refl _, wpAny_call ?_⟩
  rw [show (high : Int) - 1 = ((high - 1 : Nat) : Int) by omega]
  refine blp (lo := 0) (hi := high - 1) (hv := .int ((high - 1 : Nat) : Int) _) (BG.keeps F8.gr) (by omega) (il_keep hta.isList F8.gr) hiu hn (by omega) (.inr ⟨_, rfl⟩) (Nat.zero_le _) hhi1 (kp_binds (BG.keeps F8.gr).K fun _ => by rfl) fun t9 h9 tk9 k9 => ?_
  have F9 := F8.ex k9
  rw [show max 0 (min high (high - 1)) = high - 1 by omega]
  walk_at "ls"
  refine new_list (by simp) fun h10 D10 nw10 pl10 => ?_
  have F10 := F9.ex nw10.ex
  walk_at "ls"
  refine add_lists (pl_keep pl7 fun b o e => nw10.ex _ _ (k9 _ _ (k8 _ _ e))) pl10 (by simp) fun h11 D11 nw11 pl11 => ?_
  have F11 := F10.ex nw11.ex
  have nD11 := F10.new nw11.fresh
  walk_at "l"
  rename_i h12 F12 hs12
  have pl12 := pl_but pl11 hs12 fun e => nD11.1 (e ▸ F11.inL)
  obtain ⟨m12, F12, v1, v2⟩ := F12.nm
  have v3 := (v2 "tally" (by decide)).trans w3
  have v4 := (v2 "aim" (by decide)).trans w4
  have v5 := (v2 "low" (by decide)).trans w5
  have v6 := (v2 "high" (by decide)).trans w6
  clear F7 F8 F9 F10 F11 w1 w3 w4 w5 w6
  show wpAny _ _ (execs (_ :: _) _) _ _ _
  walk_at "l"
  show wpAny _ _ (exec (Stmt.Assign [Expr.Name _ _] _ _) _) _ _ _
  walk_at "ls"
  refine cw_fnB (BG.keeps F12.gr) ?_
  walk_at "ls"
  refine ⟨Ex.refl _, wpAny_call ?_⟩
  refine blp (lo := high) (hi := n) (hv := .none) (BG.keeps F12.gr) (by omega) (il_keep hta.isList F12.gr) hiu hn (Nat.le_refl _) (.inl ⟨rfl, rfl⟩) (by omega) hlo (kp_binds (BG.keeps F12.gr).K fun _ => by rfl) fun t13 h13 tk13 k13 => ?_
  have F13 := F12.ex k13
  rw [show max high (min low n) = high by omega]
  walk_at "ls"
  refine cw_fnB (BG.keeps F13.gr) ?_
  walk_at "ls"
  refine ⟨Ex.refl _, wpAny_call ?_⟩
  refine brp (lo := 0) (hi := low) (hv := .int (low : Int) _) (BG.keeps F13.gr) (by omega) (il_keep hta.isList F13.gr) hiu hn (by omega) (.inr ⟨_, rfl⟩) (Nat.zero_le _) hhi (kp_binds (BG.keeps F13.gr).K fun _ => by rfl) fun t14 h14 tk14 k14 => ?_
  have F14 := F13.ex k14
  rw [show max 0 (min high low) = low by omega]
  walk_at "ls"
  refine new_list (by simp) fun h15 D15 nw15 pl15 => ?_
  have F15 := F14.ex nw15.ex
  walk_at "ls"
  refine add_lists (pl_keep pl12 fun b o e => nw15.ex _ _ (k14 _ _ (k13 _ _ e))) pl15 (by simp) fun h16 D16 nw16 pl16 => ?_
  have F16 := F15.ex nw16.ex
  have nD16 := F15.new nw16.fresh
  walk_at "l"
  rename_i h17 F17 hs17
  have pl17 := pl_but pl16 hs17 fun e => nD16.1 (e ▸ F16.inL)
  obtain ⟨m17, F17, u1, u2⟩ := F17.nm
  have u5 := (u2 "low" (by decide)).trans v5
  have u6 := (u2 "high" (by decide)).trans v6
  clear F12 F13 F14 F15 F16 v1 v3 v4 v5 v6
  show wpAny _ _ (execs (_ :: _) _) _ _ _
  walk_at "l"
  show wpAny _ _ (exec (Stmt.If _ _ _ _) _) _ _ _
  walk_at "ls"
  refine new_list (by simp) fun h18 D18 nw18 pl18 => ?_
  have F18 := F17.ex nw18.ex
  walk_at "ls"
  refine ne_intsK (pl_keep pl17 nw18.ex).isList (.cons _ _ (.cons _ _ (.cons _ _ (.cons _ _ (.cons _ _ (.cons _ _ .nil)))))) pl18.isList (.cons _ _ (.cons _ _ (.cons _ _ (.cons _ _ (.cons _ _ (.cons _ _ .nil)))))) hu ?_
  rw [decide_eq_true (by simp only [List.cons.injEq, and_true, true_and]; omega)]
  walk_at "l"
  rw [if_neg (by decide)]
  exact wpAny_execs_nil (h _ _ m17 F18 fun y hy => (u2 y hy).trans ((v2 y hy).trans (w2 y hy)))
end
end
-- MK
section
open PySem PySem.W PyProof.Rows
open PySem PySem.Spec PySem.Calls
section
variable {prog : Program} {w : World} {A : Around} {E : Value → Shared → Prop} {s : Shared} {S : List Addr} {G : Heap} {L : Addr} {m cm : Str → Option Value}
theorem Call_key {env : Env} {x name : Str} {p pk pos : Pos} {args : List Expr} {value : Expr} {Q : Value → Shared → Prop}
    (h : wpAny (model prog w) A (eval (.Name x p) env) (fun f s₁ => wpAny (model prog w) A (callWith pos f [] (backTo pos (starEach args env)) (backToKw pos (keywordEach [⟨some name, value, pk⟩] env))) Q E s₁) E s) :
    wpAny (model prog w) A (eval (.Call (.Name x p) args [⟨some name, value, pk⟩] pos) env) Q E s := wpAny_bind h
theorem cw_key {env : Env} {name : Str} {pk pos : Pos} {f : Addr} {e value : Expr} {rest : List Expr} {Q : Value → Shared → Prop} {g : Heap} (B : Bs w.params g)
    (h : wpAny (model prog w) A (spliced (backTo pos (starEach (e :: rest) env))) (fun vs s₁ => wpAny (model prog w) A (eval value env) (fun kv s₂ => Ex g s₂.heap ∧ wpAny (model prog w) A (call (.ref f) vs [(name, kv)]) Q E s₂) E s₁) E s)
    (he : starEach (e :: rest) env = (false, eval e env) :: starEach rest env := by rfl)
    (hK : ∃ o fd, (hd.heap_39 w.params).lookup f = some o ∧ o.data = .func fd := by exact ⟨_, _, rfl, rfl⟩) :
    wpAny (model prog w) A (callWith pos (.ref f) [] (backTo pos (starEach (e :: rest) env)) (backToKw pos (keywordEach [⟨some name, value, pk⟩] env))) Q E s := by
  obtain ⟨o, fd, ho, hd⟩ := hK
  refine callWith_function_kw (o := o) (fd := fd) (evalArgs_kw2 rfl (wpAny_mono h (fun vs s₁ h₁ => kwAll_cons (wpAny_mono h₁ (fun kv s₂ h₂ => kwAll_nil ⟨⟨h₂.1 _ _ (B.K _ _ ho), hd⟩, h₂.2⟩) fun _ _ e => e)) fun _ _ e => e) he)
/-- what the two lambdas give of the octets -/
theorem key_read {PP : List Nat} {os : Nat → List Nat} {n : Nat} {kf : Addr} {ots : List Value} (BG : Bs w.params G) (k : Ex G s.heap) (R : IsRead G kf) (hA : A.depth + 1 < recursionLimit) (hh : A.handled = none) (hl : ots.length = n)
    (hos : ∀ i, i < n → ∃ T vs, ots[i]? = some (.ref T) ∧ G.IsList T (List.toArray vs) ∧ IntsAre vs ((os i).map fun n => ((n : Nat) : Int)) ∧ Oct (PP.getD i 0) (os i)) :
    KeyOf prog w A s kf ots (fun i => ((PP.getD i 0 : Nat) : Int)) := by
  obtain ⟨o, name, qual, p0, p1, p2, p3, p4, p5, pm, cdv, ct, h1, h2, h3⟩ := R
  refine ⟨⟨o, _, k _ _ h1, h2⟩, fun i v h tk R hv kx hR => ?_⟩
  have hi : i < n := by rw [← hl]; exact (List.getElem?_eq_some_iff.mp hv).1
  obtain ⟨T, vs, e1, e2, e3, oc⟩ := hos i hi
  rw [e1] at hv; cases hv
  have kh : Ex G h := fun b o e => kx _ _ (k _ _ e)
  obtain ⟨ks, f, q1, q2, q3, q4, q5⟩ := oc.shape
  have hval := oc.val
  rw [q1] at e3 hval
  refine read_call (BG.keeps kh) (kh _ _ h1) h2 (CodeRec_ex h3 kh) (il_keep e2 kh) e3 (fun k hk => (q2 k hk).1) (by omega) q3 hA hh fun h' t tk' k' => ?_
  rw [hval]
  exact hR h' t tk' k'
theorem key_turned {PP : List Nat} {os : Nat → List Nat} {n : Nat} {kf : Addr} {ots : List Value} (BG : Bs w.params G) (k : Ex G s.heap) (R : IsTurned G kf) (hA : A.depth + 1 < recursionLimit) (hh : A.handled = none) (hl : ots.length = n)
    (hos : ∀ i, i < n → ∃ T vs, ots[i]? = some (.ref T) ∧ G.IsList T (List.toArray vs) ∧ IntsAre vs ((os i).map fun n => ((n : Nat) : Int)) ∧ Oct (PP.getD i 0) (os i)) :
    KeyOf prog w A s kf ots (fun i => -((PP.getD i 0 : Nat) : Int)) := by
  obtain ⟨o, name, qual, p0, p1, p2, p3, p4, p5, p6, pm, cdv, ct, h1, h2, h3⟩ := R
  refine ⟨⟨o, _, k _ _ h1, h2⟩, fun i v h tk R hv kx hR => ?_⟩
  have hi : i < n := by rw [← hl]; exact (List.getElem?_eq_some_iff.mp hv).1
  obtain ⟨T, vs, e1, e2, e3, oc⟩ := hos i hi
  rw [e1] at hv; cases hv
  have kh : Ex G h := fun b o e => kx _ _ (k _ _ e)
  obtain ⟨ks, f, q1, q2, q3, q4, q5⟩ := oc.shape
  have hval := oc.val
  rw [q1] at e3 hval
  refine turned_call (BG.keeps kh) (kh _ _ h1) h2 (CodeRec_ex h3 kh) (il_keep e2 kh) e3 (fun k hk => (q2 k hk).1) (by omega) q3 hA hh fun h' t tk' k' => ?_
  rw [hval]
  exact hR h' t tk' k'
end
end
-- SM
section
open PySem PySem.W PyProof.Rows
open PySem PySem.Spec PySem.Calls
section
variable {prog : Program} {w : World} {A : Around} {E : Value → Shared → Prop} {s : Shared} {S : List Addr} {G : Heap} {P : Params} {L : Addr} {m cm : Str → Option Value} {Q : Flow → Shared → Prop}
set_option maxHeartbeats 8000000 in
/-- first, last and due, where the numbers fall -/
theorem lb9n {n x low high : Nat} {t1 t2 t3 t4 : Tok} {st : Int} {PP : List Nat} {os : Nat → List Nat} {ot kt : Addr} {ots : List Value} {rest : List Stmt} (F : LFr S G w.params L m cm s.heap) (BG : Bs w.params G) (hA : A.depth + 5 < recursionLimit) (hh : A.handled = none)
    (hms : m "step" = some (.int st t4)) (hneg : st < 0) (hml : m "low" = some (.int low t2)) (hmh : m "high" = some (.int high t3)) (hmt : m "turned" = some (.ref kt)) (hcl : cm "lost" = some (.int x t1)) (hco : cm "octets" = some (.ref ot))
    (hot : G.PlainList ot (List.toArray ots)) (hol : ots.length = n) (R : IsTurned G kt) (hn : n ≤ 7)
    (hos : ∀ i, i < n → ∃ T vs, ots[i]? = some (.ref T) ∧ G.IsList T (List.toArray vs) ∧ IntsAre vs ((os i).map fun n => ((n : Nat) : Int)) ∧ Oct (PP.getD i 0) (os i))
    (hlh : low < high) (hhn : high ≤ n)
    (h : ∀ h' tk G' m' D ds (first last : Nat), LFr S G' w.params L m' cm h' → Ex G G' → m' "due" = some (.ref D) → G'.PlainList D (List.toArray ds) → IntsAre ds (if first = last then [(first : Int)] else []) → Found (fun i => -((PP.getD i 0 : Nat) : Int) < -(x : Int)) low high first → Found (fun i => ¬ -(x : Int) < -((PP.getD i 0 : Nat) : Int)) low high last →
      (∀ y : Str, y ≠ "first" → y ≠ "last" → y ≠ "due" → m' y = m y) → Q .next { s with heap := h', toks := tk }) :
    wpAny (model prog w) A (exec (lawB w.params 9) (lawEnv w.params L)) Q E s := by
  show wpAny _ _ (exec (Stmt.If _ _ _ _) _) _ _ _
  walk_at "ls"
  rw [decide_eq_true hneg]
  walk_at "l"
  walk_at "l"
  show wpAny _ _ (exec (Stmt.Assign [Expr.Name _ _] _ _) _) _ _ _
  walk_at "l"
  refine Call_key ?_
  walk_at "l"
  refine cw_key (BG.keeps F.gr) ?_
  walk_at "ls"
  refine ⟨Ex.refl _, wpAny_call ?_⟩
  refine bl_key (lo := low) (hi := high) (g := fun i => -((PP.getD i 0 : Nat) : Int)) (vs := ots) (hv := .int (high : Int) _) (BG.keeps F.gr) (by omega) (il_keep hot.isList F.gr) (fun L' cd sc => key_turned BG F.gr R (by show A.depth + 1 + 1 < _; omega) hh hol hos) (by omega) (by omega) (.inr ⟨_, rfl⟩) (by omega) (kp_binds (BG.keeps F.gr).K fun _ => by rfl) fun first tf h5 tk5 hf k5 => ?_
  have F5 := F.ex k5
  walk_at "l"
  rename_i h6 F6 hs6
  obtain ⟨m6, F6, w1, w2⟩ := F6.nm
  have w3 := (w2 "low" (by decide)).trans hml
  have w4 := (w2 "high" (by decide)).trans hmh
  have w5 := (w2 "turned" (by decide)).trans hmt
  clear F5 F
  show wpAny _ _ (execs (_ :: _) _) _ _ _
  walk_at "l"
  show wpAny _ _ (exec (Stmt.Assign [Expr.Name _ _] _ _) _) _ _ _
  walk_at "l"
  refine Call_key ?_
  walk_at "l"
  refine cw_key (BG.keeps F6.gr) ?_
  walk_at "ls"
  refine ⟨Ex.refl _, wpAny_call ?_⟩
  refine br_key (lo := low) (hi := high) (g := fun i => -((PP.getD i 0 : Nat) : Int)) (vs := ots) (hv := .int (high : Int) _) (BG.keeps F6.gr) (by omega) (il_keep hot.isList F6.gr) (fun L' cd sc => key_turned BG F6.gr R (by show A.depth + 1 + 1 < _; omega) hh hol hos) (by omega) (by omega) (.inr ⟨_, rfl⟩) (by omega) (kp_binds (BG.keeps F6.gr).K fun _ => by rfl) fun last tl h7 tk7 hg k7 => ?_
  have F7 := F6.ex k7
  walk_at "l"
  rename_i h8 F8 hs8
  obtain ⟨m8, F8, v1, v2⟩ := F8.nm
  have v3 := (v2 "first" (by decide)).trans w1
  clear F7 F6
  show wpAny _ _ (execs (_ :: _) _) _ _ _
  walk_at "l"
  show wpAny _ _ (exec (Stmt.Assign [Expr.Name _ _] _ _) _) _ _ _
  walk_at "ls"
  have fin : ∀ (ds : List Value) h9 D (tk9 : Nat), Nw h8 h9 D → h9.PlainList D (List.toArray ds) → IntsAre ds (if first = last then [(first : Int)] else []) →
      wpAny (model prog w) A (storeName (lawEnv w.params L) (Str.ofString "due") (.ref D)) (fun _ s' => wpAny (model prog w) A (execs [] (lawEnv w.params L)) Q E s') E { s with heap := h9, toks := tk9 } := by
    intro ds h9 D tk9 nw9 pl9 i9
    have F9 := F8.ex nw9.ex
    have nD9 := F8.new nw9.fresh
    walk_at "l"
    rename_i h10 F10 hs10
    obtain ⟨m10, F10, u1, u2⟩ := F10.nm
    exact wpAny_execs_nil (h _ _ _ m10 D ds first last F10.here F10.up u1 (LFr.hidL (pl_but pl9 hs10 fun e => nD9.1 (e ▸ F9.inL)) nD9.1) i9 hf hg fun y h1 h2 h3 => (u2 y h3).trans ((v2 y h2).trans (w2 y h1)))
  by_cases he : first = last
  · rw [if_pos (by rw [beq_iff_eq]; omega)]
    rw [if_pos he] at fin
    walk_at "ls"
    refine new_list (by simp) fun h9 D nw9 pl9 => ?_
    exact fin _ h9 D _ nw9 pl9 (.cons _ _ .nil)
  · rw [if_neg (by rw [beq_iff_eq]; omega)]
    rw [if_neg he] at fin
    walk_at "ls"
    refine new_list (by simp) fun h9 D nw9 pl9 => ?_
    exact fin _ h9 D _ nw9 pl9 .nil
end
end
-- SN
section
open PySem PySem.W PyProof.Rows
open PySem PySem.Spec PySem.Calls
section
variable {prog : Program} {w : World} {A : Around} {E : Value → Shared → Prop} {s : Shared} {S : List Addr} {G : Heap} {P : Params} {L : Addr} {m cm : Str → Option Value} {Q : Flow → Shared → Prop}
set_option maxHeartbeats 8000000 in
/-- first, last and due, where they rise -/
theorem lb9p {n x low high : Nat} {t1 t2 t3 t4 : Tok} {st : Int} {PP : List Nat} {os : Nat → List Nat} {ot kt : Addr} {ots : List Value} {rest : List Stmt} (F : LFr S G w.params L m cm s.heap) (BG : Bs w.params G) (hA : A.depth + 5 < recursionLimit) (hh : A.handled = none)
    (hms : m "step" = some (.int st t4)) (hneg : ¬ st < 0) (hml : m "low" = some (.int low t2)) (hmh : m "high" = some (.int high t3)) (hmt : m "read" = some (.ref kt)) (hcl : cm "lost" = some (.int x t1)) (hco : cm "octets" = some (.ref ot))
    (hot : G.PlainList ot (List.toArray ots)) (hol : ots.length = n) (R : IsRead G kt) (hn : n ≤ 7)
    (hos : ∀ i, i < n → ∃ T vs, ots[i]? = some (.ref T) ∧ G.IsList T (List.toArray vs) ∧ IntsAre vs ((os i).map fun n => ((n : Nat) : Int)) ∧ Oct (PP.getD i 0) (os i))
    (hlh : low < high) (hhn : high ≤ n)
    (h : ∀ h' tk G' m' D ds (first last : Nat), LFr S G' w.params L m' cm h' → Ex G G' → m' "due" = some (.ref D) → G'.PlainList D (List.toArray ds) → IntsAre ds ((List.range (last + 1 - first)).map fun i => ((first + i : Nat) : Int)) → Found (fun i => ((PP.getD i 0 : Nat) : Int) < (x : Int)) low high first → Found (fun i => ¬ (x : Int) < ((PP.getD i 0 : Nat) : Int)) low high last →
      (∀ y : Str, y ≠ "first" → y ≠ "last" → y ≠ "due" → m' y = m y) → Q .next { s with heap := h', toks := tk }) :
    wpAny (model prog w) A (exec (lawB w.params 9) (lawEnv w.params L)) Q E s := by
  show wpAny _ _ (exec (Stmt.If _ _ _ _) _) _ _ _
  walk_at "ls"
  rw [decide_eq_false hneg]
  walk_at "l"
  walk_at "l"
  show wpAny _ _ (exec (Stmt.Assign [Expr.Name _ _] _ _) _) _ _ _
  walk_at "l"
  refine Call_key ?_
  walk_at "l"
  refine cw_key (BG.keeps F.gr) ?_
  walk_at "ls"
  refine ⟨Ex.refl _, wpAny_call ?_⟩
  refine bl_key (lo := low) (hi := high) (g := fun i => ((PP.getD i 0 : Nat) : Int)) (vs := ots) (hv := .int (high : Int) _) (BG.keeps F.gr) (by omega) (il_keep hot.isList F.gr) (fun L' cd sc => key_read BG F.gr R (by show A.depth + 1 + 1 < _; omega) hh hol hos) (by omega) (by omega) (.inr ⟨_, rfl⟩) (by omega) (kp_binds (BG.keeps F.gr).K fun _ => by rfl) fun first tf h5 tk5 hf k5 => ?_
  have F5 := F.ex k5
  walk_at "l"
  rename_i h6 F6 hs6
  obtain ⟨m6, F6, w1, w2⟩ := F6.nm
  have w3 := (w2 "low" (by decide)).trans hml
  have w4 := (w2 "high" (by decide)).trans hmh
  have w5 := (w2 "read" (by decide)).trans hmt
  clear F5 F
  show wpAny _ _ (execs (_ :: _) _) _ _ _
  walk_at "l"
  show wpAny _ _ (exec (Stmt.Assign [Expr.Name _ _] _ _) _) _ _ _
  walk_at "l"
  refine Call_key ?_
  walk_at "l"
  refine cw_key (BG.keeps F6.gr) ?_
  walk_at "ls"
  refine ⟨Ex.refl _, wpAny_call ?_⟩
  refine br_key (lo := low) (hi := high) (g := fun i => ((PP.getD i 0 : Nat) : Int)) (vs := ots) (hv := .int (high : Int) _) (BG.keeps F6.gr) (by omega) (il_keep hot.isList F6.gr) (fun L' cd sc => key_read BG F6.gr R (by show A.depth + 1 + 1 < _; omega) hh hol hos) (by omega) (by omega) (.inr ⟨_, rfl⟩) (by omega) (kp_binds (BG.keeps F6.gr).K fun _ => by rfl) fun last tl h7 tk7 hg k7 => ?_
  have F7 := F6.ex k7
  walk_at "l"
  rename_i h8 F8 hs8
  obtain ⟨m8, F8, v1, v2⟩ := F8.nm
  have v3 := (v2 "first" (by decide)).trans w1
  clear F7 F6
  show wpAny _ _ (execs (_ :: _) _) _ _ _
  walk_at "l"
  show wpAny _ _ (exec (Stmt.Assign [Expr.Name _ _] _ _) _) _ _ _
  walk_at "ls"
  refine call_range_2 ?_
  walk_at "l"
  have kr : Ex h8 (h8.push { cls := .type "range", data := .fields #[.int (first : Int) tf, .int ((last : Int) + 1) (tk7 + 1 + 1), .int 1 (tk7 + 1 + 1 + 1)] }) := fun b o e => Heap.get?_push_of_some _ e
  have hsz : Builtin.Range.rangeSize (first : Int) ((last : Int) + 1) 1 = ((last + 1 - first : Nat) : Int) := by rw [rangeSize_one]; split <;> omega
  have hfl := hf.le
  have hgl := hg.le
  refine call_list_range hh (IsRange.new ..) (small_one (by omega) (by omega) (by omega) (by omega)) hsz (by omega) fun h9 tk9 acc c9 k9 hD hacc => ?_
  have F9 := F8.ex (fun b o e => k9 _ _ (kr _ _ e))
  have fD : h8.get? (h8.push { cls := .type "range", data := .fields #[.int (first : Int) tf, .int ((last : Int) + 1) (tk7 + 1 + 1), .int 1 (tk7 + 1 + 1 + 1)] }).objs.size = none := by
    rw [Heap.size_push]
    cases q : h8.get? (h8.objs.size + 1) with
    | none => rfl
    | some o => exact absurd (Heap.lt_size q) (Nat.not_lt.mpr (Nat.le_succ _))
  have nD9 := F8.new fD
  have i9 : IntsAre acc.toList ((List.range (last + 1 - first)).map fun i => ((first + i : Nat) : Int)) := by
    obtain ⟨ha1, ha2⟩ := hacc
    have : ∀ (ys : List Value) (k : Nat), (∀ (i : Nat) z, ys[i]? = some z → ∃ t, z = .int (((first + (k + i) : Nat)) : Int) t) → IntsAre ys ((List.range' k ys.length).map fun i => ((first + i : Nat) : Int)) := by
      intro ys
      induction ys with
      | nil => intro k _; exact .nil
      | cons y r ih =>
        intro k hy
        obtain ⟨t, rfl⟩ := hy 0 y rfl
        rw [List.length_cons, List.range'_succ, List.map_cons]
        exact .cons _ _ (ih (k + 1) fun i z e => by have := hy (i + 1) z (by simpa using e); rwa [show k + (i + 1) = k + 1 + i by omega] at this)
    have h2 := this acc.toList 0 (fun i z e => by
      obtain ⟨t, e2⟩ := ha2 i z (by simpa using e)
      exact ⟨t, by rw [e2]; congr 1 <;> (push_cast; omega)⟩)
    rw [show acc.toList.length = last + 1 - first by simpa using ha1, ← List.range_eq_range'] at h2
    exact h2
  walk_at "l"
  rename_i h10 F10 hs10
  obtain ⟨m10, F10, u1, u2⟩ := F10.nm
  exact wpAny_execs_nil (h _ _ _ m10 _ acc.toList first last F10.here F10.up u1 (LFr.hidL (by rw [Array.toArray_toList]; exact pl_but ⟨c9, hD⟩ hs10 fun e => nD9.1 (e ▸ F9.inL)) nD9.1) i9 hf hg fun y h1 h2 h3 => (u2 y h3).trans ((v2 y h2).trans (w2 y h1)))
end
end
-- SO
section
open PySem PySem.W PyProof.Rows
open PySem PySem.Spec PySem.Calls
section
variable {prog : Program} {w : World} {A : Around} {E : Value → Shared → Prop} {s : Shared} {S : List Addr} {G : Heap} {P : Params} {L : Addr} {m cm : Str → Option Value} {Q : Flow → Shared → Prop}
set_option maxHeartbeats 8000000 in
theorem lb10 {n k : Nat} {t1 t2 : Tok} {g : Nat → Nat} {mt D : Addr} {ms ds : List Value} {dl : List Int} (F : LFr S G w.params L m cm s.heap) (BG : Bs w.params G) (hh : A.handled = none) (hu : A.units + 64 < cLine)
    (hm : m "size" = some (.int n t2)) (hmd : m "due" = some (.ref D)) (hcm : cm "marks" = some (.ref mt)) (hck : cm "mark" = some (.int k t1)) (hmt : G.PlainList mt (List.toArray ms)) (him : IntsAre ms ((List.range (n + 1)).map fun p => ((g p : Nat) : Int))) (hD : G.PlainList D (List.toArray ds)) (hid : IntsAre ds dl) (hn : n ≤ 7)
    (hdue : ((List.range (n + 1)).filter fun p => decide (g p = k)).map (fun p => ((p : Nat) : Int)) = dl)
    (h : ∀ h' tk G', LFr S G' w.params L m cm h' → Ex G G' → Q .next { s with heap := h', toks := tk }) :
    wpAny (model prog w) A (exec (lawB w.params 10) (lawEnv w.params L)) Q E s := by
  show wpAny _ _ (exec (Stmt.If _ _ _ _) _) _ _ _
  walk_at "ls"
  refine comp_range (a := 0) (n := n + 1) (fun p => decide (g p = k)) (fun p y => ∃ t, y = .int ((p : Nat) : Int) t) ?_ (by omega) ?_ ?_ ?_
  · refine rit1 (n := n + 1) hh (BG.keeps F.gr) (by omega) fun Q'' hq => ?_
    walk_at "ls"
    exact hq _ _ _ (Ex.refl _)
  · intro C i t s₃ m₃ E' hi' kx N hk
    have F := F.ex kx
    rw [Nat.zero_add] at hk
    refine wpAny_tests_one ?_
    walk_at "ls"
    obtain ⟨t3, e3⟩ := range_item him (i := i) (by omega)
    refine PyProof.Rows.item_listL (il_keep hmt.isList F.gr) (by omega) (by omega) (by rw [Int.toNat_natCast]; exact e3) ?_
    walk_at "ls"
    refine ⟨?_, _, _, rfl, fun _ _ e => e⟩
    rw [Bool.eq_iff_iff, beq_iff_eq, decide_eq_true_iff]
    omega
  · intro C i t s₃ m₃ E' hi' _ kx N hk
    rw [Nat.zero_add] at hk
    walk_at "ls"
    exact ⟨⟨_, rfl⟩, _, _, rfl, fun _ _ e => e⟩
  · intro D' h' tk ys nx pl hF
    have F1 := F.ex nx.ex
    walk_at "ls"
    refine ne_intsK pl.isList (ints_pair hF) (il_keep hD.isList F1.gr) hid hu ?_
    rw [decide_eq_true hdue]
    walk_at "l"
    rw [if_neg (by decide)]
    exact wpAny_execs_nil (h _ _ _ F1.here F1.up)
end
end
-- SP
section
open PySem PySem.W PyProof.Rows
open PySem PySem.Spec PySem.Calls
section
variable {prog : Program} {w : World} {A : Around} {E : Value → Shared → Prop} {s : Shared} {S : List Addr} {G : Heap} {P : Params} {L : Addr} {m cm : Str → Option Value} {Q : Flow → Shared → Prop}
set_option maxHeartbeats 8000000 in
theorem s21 {gt : Addr} (F : LFr S G w.params L m cm s.heap) (BG : Bs w.params G) (hh : A.handled = none) (hA : A.depth + 5 < recursionLimit) (hfr : A.frames = some [lawEnv w.params L])
    (hcg : cm "grown" = some (.ref gt)) (h : ∀ h' tk, LFr S G w.params L m cm h' → Q (.ret (.bool true)) { s with heap := h', toks := tk }) :
    wpAny (model prog w) A (exec (lawSt w.params 21) (lawEnv w.params L)) Q E s := by
  show wpAny _ _ (exec (Stmt.Return (some (Expr.BoolOp BoolOp.And [_, _] _)) _) _) _ _ _
  walk_at "l"
  refine PyProof.Rows.BoolOp_and ?_
  walk_at "l"
  walk_at "l"
  refine cw_fnB (BG.keeps F.gr) ?_
  walk_at "ls"
  refine ⟨Ex.refl _, wpAny_call ?_⟩
  refine ref_left hfr F.ff (BG.keeps F.toHide) (by omega) hh fun h1 tk1 st1 up1 => ?_
  have F1 := F.slots st1 up1
  clear F
  walk_at "l"
  rw [if_pos rfl]
  refine PyProof.Rows.BoolOp_one ?_
  walk_at "l"
  walk_at "l"
  refine cw_fnB (BG.keeps F1.gr) ?_
  walk_at "ls"
  refine ⟨Ex.refl _, wpAny_call ?_⟩
  refine ref_right hfr F1.ff (BG.keeps F1.toHide) (by omega) hh fun h2 tk2 st2 up2 => ?_
  exact h _ _ (F1.slots st2 up2)
end
end
-- SQ
section
open PySem PySem.W PyProof.Rows
open PySem PySem.Spec PySem.Calls
/-- what the mark loop rests on, no program in sight -/
def Dues (PP : List Nat) (x n : Nat) : Prop := ∀ k, k ≤ n → ∀ st : Int, st = ((k : Int) - knownZ PP n).fmod ((n : Int) + 1) - ((grownN PP (n - 1) : Nat) : Int) →
  ∃ low high : Nat, low < high ∧ high ≤ n ∧ (∀ i, i < n → (talZ PP st i < (if st < 0 then -st else st) ↔ i < low)) ∧ (∀ i, i < n → (talZ PP st i ≤ (if st < 0 then -st else st) ↔ i < high)) ∧
    (st < 0 → ∀ first last : Nat, Found (fun i => -((PP.getD i 0 : Nat) : Int) < -(x : Int)) low high first → Found (fun i => ¬ -(x : Int) < -((PP.getD i 0 : Nat) : Int)) low high last →
      ((List.range (n + 1)).filter fun p => decide (changeN PP x n p % (n + 1) = k)).map (fun p => ((p : Nat) : Int)) = if first = last then [(first : Int)] else []) ∧
    (¬ st < 0 → ∀ first last : Nat, Found (fun i => ((PP.getD i 0 : Nat) : Int) < (x : Int)) low high first → Found (fun i => ¬ (x : Int) < ((PP.getD i 0 : Nat) : Int)) low high last →
      ((List.range (n + 1)).filter fun p => decide (changeN PP x n p % (n + 1) = k)).map (fun p => ((p : Nat) : Int)) = (List.range (last + 1 - first)).map fun i => ((first + i : Nat) : Int))
section
variable {prog : Program} {w : World} {A : Around} {E : Value → Shared → Prop} {s : Shared} {S : List Addr} {G : Heap} {P : Params} {L : Addr} {m cm : Str → Option Value} {Q : Flow → Shared → Prop}
theorem LFr.nmC {h : Heap} {x : Str} {v : Value} (F : LFr S G P L m (fun y => if y = x then some v else cm y) h) : ∃ cm', LFr S G P L m cm' h ∧ cm' x = some v ∧ ∀ y, y ≠ x → cm' y = cm y :=
  ⟨_, F, if_pos rfl, fun _ hy => if_neg hy⟩
set_option maxHeartbeats 8000000 in
/-- one turn of the mark loop -/
theorem turn20 {n k x : Nat} {t1 t2 t3 t4 : Tok} {PP : List Nat} {os : Nat → List Nat} {gt fl mt ot kr kt : Addr} {gs fs ms ots : List Value} (F : LFr S G w.params L m cm s.heap) (BG : Bs w.params G) (hh : A.handled = none) (hA : A.depth + 5 < recursionLimit) (hu : A.units + 64 < cLine)
    (hm : m "size" = some (.int n t2)) (hk : m "known" = some (.int (knownZ PP n) t1)) (hcg : cm "grown" = some (.ref gt)) (hmf : m "flat" = some (.ref fl)) (hmr : m "read" = some (.ref kr)) (hmt : m "turned" = some (.ref kt)) (hcm : cm "marks" = some (.ref mt)) (hcl : cm "lost" = some (.int x t3)) (hco : cm "octets" = some (.ref ot)) (hmk : cm "mark" = some (.int k t4))
    (hgt : G.PlainList gt (List.toArray gs)) (hig : IntsAre gs ((List.range n).map fun i => ((grownN PP i : Nat) : Int))) (hfl : G.PlainList fl (List.toArray fs)) (hif : IntsAre fs ((List.range n).map (flatZ PP)))
    (hms : G.PlainList mt (List.toArray ms)) (him : IntsAre ms ((List.range (n + 1)).map fun p => ((changeN PP x n p % (n + 1) : Nat) : Int)))
    (hot : G.PlainList ot (List.toArray ots)) (hol : ots.length = n) (hos : ∀ i, i < n → ∃ T vs, ots[i]? = some (.ref T) ∧ G.IsList T (List.toArray vs) ∧ IntsAre vs ((os i).map fun n => ((n : Nat) : Int)) ∧ Oct (PP.getD i 0) (os i))
    (R : IsRead G kr) (R' : IsTurned G kt) (h5 : 5 ≤ n) (hn : n ≤ 7) (hkn : k ≤ n) (D : Dues PP x n)
    (h : ∀ h' tk G' m', LFr S G' w.params L m' cm h' → Ex G G' → (∀ y : Str, y ≠ "step" → y ≠ "tally" → y ≠ "aim" → y ≠ "low" → y ≠ "high" → y ≠ "beside" → y ≠ "first" → y ≠ "last" → y ≠ "due" → m' y = m y) → Q .next { s with heap := h', toks := tk }) :
    wpAny (model prog w) A (execs [lawB w.params 0, lawB w.params 1, lawB w.params 2, lawB w.params 3, lawB w.params 4, lawB w.params 5, lawB w.params 6, lawB w.params 7, lawB w.params 8, lawB w.params 9, lawB w.params 10] (lawEnv w.params L)) Q E s := by
  obtain ⟨st, hst⟩ : ∃ st : Int, st = ((k : Int) - knownZ PP n).fmod ((n : Int) + 1) - ((grownN PP (n - 1) : Nat) : Int) := ⟨_, rfl⟩
  obtain ⟨low, high, hlh, hhn, hlo, hhi, hng, hps⟩ := D k hkn st hst
  refine lb0 F BG hm hk hmk hcg hmf hgt hig hfl hif h5 hn hst fun h1 tk1 m1 ta us t4 t5 F1 a1 a2 a3 a4 a5 a6 => ?_
  refine lb3 F1 BG hA a3 a2 a4 a5 hn hlo hhi (by omega) hhn fun h2 tk2 m2 t6 t7 F2 b1 b2 b3 => ?_
  refine lb5 F2 BG hA hu ((b3 _ (by decide) (by decide)).trans a3) ((b3 _ (by decide) (by decide)).trans a2) b1 b2 a4 a5 hn hlo hhi hlh hhn fun h3 tk3 m3 F3 c1 => ?_
  have d1 : m3 "step" = some (.int st t4) := (c1 _ (by decide)).trans ((b3 _ (by decide) (by decide)).trans a1)
  have d2 := (c1 "low" (by decide)).trans b1
  have d3 := (c1 "high" (by decide)).trans b2
  have d4 : ∀ y : Str, y ≠ "step" → y ≠ "tally" → y ≠ "aim" → y ≠ "low" → y ≠ "high" → y ≠ "beside" → m3 y = m y := fun y e1 e2 e3 e4 e5 e6 => (c1 y e6).trans ((b3 y e4 e5).trans (a6 y e1 e2 e3))
  refine wpAny_execs_cons ?_
  have fin : ∀ h4 tk4 G4 m4 D ds (dl : List Int), LFr S G4 w.params L m4 cm h4 → Ex G G4 → m4 "due" = some (.ref D) → G4.PlainList D (List.toArray ds) → IntsAre ds dl → ((List.range (n + 1)).filter fun p => decide (changeN PP x n p % (n + 1) = k)).map (fun p => ((p : Nat) : Int)) = dl →
      (∀ y : Str, y ≠ "first" → y ≠ "last" → y ≠ "due" → m4 y = m3 y) → wpAny (model prog w) A (execs [lawB w.params 10] (lawEnv w.params L)) Q E { s with heap := h4, toks := tk4 } := by
    intro h4 tk4 G4 m4 D ds dl F4 k4 e1 e2 e3 e4 e5
    refine wpAny_execs_cons ?_
    refine lb10 (g := fun p => changeN PP x n p % (n + 1)) F4 (BG.keeps k4) hh hu ((e5 _ (by decide) (by decide) (by decide)).trans ((d4 _ (by decide) (by decide) (by decide) (by decide) (by decide) (by decide)).trans hm)) e1 hcm hmk (pl_keep hms k4) him e2 e3 hn e4 fun h5 tk5 G5 F5 k5 => ?_
    exact wpAny_execs_nil (h _ _ _ m4 F5 (fun b o e => k5 _ _ (k4 _ _ e)) fun y q1 q2 q3 q4 q5 q6 q7 q8 q9 => (e5 y q7 q8 q9).trans (d4 y q1 q2 q3 q4 q5 q6))
  by_cases hneg : st < 0
  · refine lb9n (rest := []) F3 BG hA hh d1 hneg d2 d3 ((d4 _ (by decide) (by decide) (by decide) (by decide) (by decide) (by decide)).trans hmt) hcl hco hot hol R' hn hos hlh hhn fun h4 tk4 G4 m4 D ds first last F4 k4 e1 e2 e3 f1 f2 e5 => ?_
    exact fin _ _ _ _ _ _ _ F4 k4 e1 e2 e3 (hng hneg first last f1 f2) e5
  · refine lb9p (rest := []) F3 BG hA hh d1 hneg d2 d3 ((d4 _ (by decide) (by decide) (by decide) (by decide) (by decide) (by decide)).trans hmr) hcl hco hot hol R hn hos hlh hhn fun h4 tk4 G4 m4 D ds first last F4 k4 e1 e2 e3 f1 f2 e5 => ?_
    exact fin _ _ _ _ _ _ _ F4 k4 e1 e2 e3 (hps hneg first last f1 f2) e5
end
end
-- SR
section
open PySem PySem.W PyProof.Rows
open PySem PySem.Spec PySem.Calls
section
variable {prog : Program} {w : World} {A : Around} {E : Value → Shared → Prop} {s : Shared} {S : List Addr} {G : Heap} {P : Params} {L : Addr} {m cm : Str → Option Value} {Q : Flow → Shared → Prop}
abbrev loopNames : List Str := ["step", "tally", "aim", "low", "high", "beside", "first", "last", "due"]
set_option maxHeartbeats 8000000 in
theorem s20 {n x : Nat} {t1 t2 t3 : Tok} {PP : List Nat} {os : Nat → List Nat} {gt fl mt ot kr kt : Addr} {gs fs ms ots : List Value} (F : LFr S G w.params L m cm s.heap) (BG : Bs w.params G) (hh : A.handled = none) (hA : A.depth + 5 < recursionLimit) (hu : A.units + 64 < cLine)
    (hm : m "size" = some (.int n t2)) (hk : m "known" = some (.int (knownZ PP n) t1)) (hcg : cm "grown" = some (.ref gt)) (hmf : m "flat" = some (.ref fl)) (hmr : m "read" = some (.ref kr)) (hmt : m "turned" = some (.ref kt)) (hcm : cm "marks" = some (.ref mt)) (hcl : cm "lost" = some (.int x t3)) (hco : cm "octets" = some (.ref ot))
    (hgt : G.PlainList gt (List.toArray gs)) (hig : IntsAre gs ((List.range n).map fun i => ((grownN PP i : Nat) : Int))) (hfl : G.PlainList fl (List.toArray fs)) (hif : IntsAre fs ((List.range n).map (flatZ PP)))
    (hms : G.PlainList mt (List.toArray ms)) (him : IntsAre ms ((List.range (n + 1)).map fun p => ((changeN PP x n p % (n + 1) : Nat) : Int)))
    (hot : G.PlainList ot (List.toArray ots)) (hol : ots.length = n) (hos : ∀ i, i < n → ∃ T vs, ots[i]? = some (.ref T) ∧ G.IsList T (List.toArray vs) ∧ IntsAre vs ((os i).map fun n => ((n : Nat) : Int)) ∧ Oct (PP.getD i 0) (os i))
    (R : IsRead G kr) (R' : IsTurned G kt) (hn5 : 5 ≤ n) (hn : n ≤ 7) (D : Dues PP x n)
    (h : ∀ h' tk G' m' cm', LFr S G' w.params L m' cm' h' → Ex G G' → cm' "grown" = some (.ref gt) → Q .next { s with heap := h', toks := tk }) :
    wpAny (model prog w) A (exec (lawSt w.params 20) (lawEnv w.params L)) Q E s := by
  show wpAny _ _ (exec (Stmt.For (Expr.Name _ _) _ _ [] _) _) _ _ _
  refine for_range (a := 0) (n := n + 1) (fun I k s₁ => ∃ G' m' cm' h tk, s₁ = { s with heap := h, toks := tk } ∧ LFr S G' w.params L m' cm' h ∧ Ex G G' ∧ I ∉ S ∧ G'.get? I = none ∧ (∀ y : Str, y ∉ loopNames → m' y = m y) ∧ (∀ y : Str, y ≠ "mark" → cm' y = cm y)) (by omega) ?_ ?_ ?_ ?_ ?_
  · refine rit1 (n := n + 1) hh (BG.keeps F.gr) (by omega) fun Q'' hq => ?_
    walk_at "ls"
    exact hq _ _ _ (Ex.refl _)
  · intro I h5 tk5 nx hI
    have nI := F.new nx.fresh
    exact ⟨G, m, cm, h5, _, rfl, F.ex nx.ex, Ex.refl _, nI.1, nI.2, fun y _ => rfl, fun y _ => rfl⟩
  · rintro I k s₁ h' tk ⟨G', m', cm', h5, tk5, rfl, F5, kG, hI, hGI, m1, m2⟩ hk
    exact ⟨G', m', cm', h', tk, rfl, F5.but hk hI hGI, kG, hI, hGI, m1, m2⟩
  · rintro I k t s₁ oI E' hk1 ⟨G', m', cm', h5, tk5, rfl, F5, kG, hI, hGI, m1, m2⟩ hoI
    rw [Nat.zero_add]
    clear F
    walk_at "l"
    rename_i h6 F6 hs6
    obtain ⟨c6, F6, u1, u2⟩ := F6.nmC
    have hoI6 : h6.get? I = some oI := hs6.extBut _ _ (fun e => hI (e ▸ F5.inC "mark" _ rfl)) hoI
    have F7 := F6.here
    have k7 : Ex G' (hideAll h6 S) := F6.up
    have kG7 : Ex G (hideAll h6 S) := fun b o e => k7 _ _ (kG _ _ e)
    have hI7 : (hideAll h6 S).get? I = some oI := hideAll_get _ hoI6 hI
    have cc : ∀ y : Str, y ≠ "mark" → c6 y = cm y := fun y hy => (u2 y hy).trans (m2 y hy)
    refine turn20 (n := n) (k := k) (x := x) (PP := PP) (os := os) F7 (BG.keeps kG7) hh hA hu ((m1 _ (by decide)).trans hm) ((m1 _ (by decide)).trans hk) ((cc _ (by decide)).trans hcg) ((m1 _ (by decide)).trans hmf) ((m1 _ (by decide)).trans hmr) ((m1 _ (by decide)).trans hmt)
      ((cc _ (by decide)).trans hcm) ((cc _ (by decide)).trans hcl) ((cc _ (by decide)).trans hco) u1 (pl_keep hgt kG7) hig (pl_keep hfl kG7) hif (pl_keep hms kG7) him (pl_keep hot kG7) hol
      (fun i hi => let ⟨T, vs, e1, e2, e3, e4⟩ := hos i hi; ⟨T, vs, e1, il_keep e2 kG7, e3, e4⟩) (R.ex kG7) (R'.ex kG7) hn5 hn (by omega) D fun h8 tk8 G8 m8 F8 k8 m8' => ?_
    have F9 := F8.lower (G₀ := G') fun b o e => k8 _ _ (k7 _ _ e)
    refine ⟨⟨hideAll h8 (I :: S), m8, c6, h8, tk8, rfl, F9.hereI I, fun b o e => F9.upI hGI _ _ (kG _ _ e), hI, hideAll_none _ (.head _), fun y hy => ?_, cc⟩, F8.gr _ _ (k8 _ _ hI7)⟩
    simp only [loopNames, List.mem_cons, List.not_mem_nil, or_false, not_or] at hy
    obtain ⟨q1, q2, q3, q4, q5, q6, q7, q8, q9⟩ := hy
    exact (m8' y q1 q2 q3 q4 q5 q6 q7 q8 q9).trans (m1 y (by simp only [loopNames, List.mem_cons, List.not_mem_nil, or_false, not_or]; exact ⟨q1, q2, q3, q4, q5, q6, q7, q8, q9⟩))
  · rintro I s₁ ⟨G', m', cm', h5, tk5, rfl, F5, kG, hI, hGI, m1, m2⟩
    exact h _ _ G' m' cm' F5 kG ((m2 _ (by decide)).trans hcg)
end
end
end
end
-- RU
section
open PySem PySem.W PyProof.Rows
open PySem PySem.Spec PySem.Calls
theorem lookup_of_mem : ∀ {l : List (Str × Addr)} {n : Str} {c : Addr}, (l.map (·.1)).Nodup → (n, c) ∈ l → l.lookup n = some c
  | (k, v) :: r, n, c, h, hm => by
    rw [List.map_cons, List.nodup_cons] at h
    rcases List.mem_cons.mp hm with e | hm
    · cases e; simp [List.lookup_cons]
    · have hne : (n == k) = false := by
        rw [beq_eq_false_iff_ne]
        intro q
        exact h.1 (List.mem_map.mpr ⟨(n, c), hm, q⟩)
      rw [List.lookup_cons, hne]
      exact lookup_of_mem h.2 hm
theorem lawBody_eq (P : Params) : lawBody P = [lawSt P 0, lawSt P 1, lawSt P 2, lawSt P 3, lawSt P 4, lawSt P 5, lawSt P 6, lawSt P 7, lawSt P 8, lawSt P 9, lawSt P 10, lawSt P 11, lawSt P 12, lawSt P 13, lawSt P 14, lawSt P 15, lawSt P 16, lawSt P 17, lawSt P 18, lawSt P 19, lawSt P 20, lawSt P 21] := rfl
theorem law_names (P : Params) (L : Addr) : ((lawEnv P L).cells.map (·.1)).Nodup := by
  have e : (lawEnv P L).cells.map (·.1) = ([("mark" : Str), "whole", "marks", "grown", "fronts", "ends", "rows", "dots", "octets", "page", "lost", "script"] : List Str) := by rfl
  rw [e]
  decide
section
variable {prog : Program} {w : World} {s : Shared}
/-- entering the law -/
theorem law_enter {l : Addr} {R : Result → Shared → Prop} (B : Bs w.params s.heap)
    (h : ∀ h₁ tk₁ S m cm, LFr S s.heap w.params s.heap.objs.size m cm h₁ → cm "script" = some (.ref l) →
      wpAny (model prog w) (callerA.deeper (lawEnv w.params s.heap.objs.size)) (execs (lawBody w.params) (lawEnv w.params s.heap.objs.size)) (fun f s' => R (.ok (.ret (match f with | .ret v => v | _ => .none))) s')
        (fun e s' => wpAny (model prog w) (callerA.deeper (lawEnv w.params s.heap.objs.size)) (leaving (lawEnv w.params s.heap.objs.size) e) (fun _ s'' => R (.error e) s'') (fun e' s'' => R (.error e') s'') s') { s with heap := h₁, toks := tk₁ }) :
    codeAny (model prog w) callerA (.call (.ref 99) ⟨[.ref l], []⟩) R s := by
  refine codeAny_call_cells (fd := lawFd w.params) (body := lawBody w.params) (binds := [("script", .ref l)]) (by decide) (B.K 99 _ rfl) rfl B.nolimit (codeRec_of B.K (by rfl)) rfl rfl rfl (fun x hx => by rw [List.mem_singleton.mp hx]; exact .inr ⟨rfl, rfl⟩) fun s₁ x => ?_
  have nd := law_names w.params s.heap.objs.size
  obtain ⟨h₁, tk₁, rfl, k⟩ := x.done
  refine h h₁ tk₁ (s.heap.objs.size :: (lawEnv w.params s.heap.objs.size).cells.map (·.2)) _ _ ⟨x.toInCall.ns, x.cell, k, fun a ha => ?_, fun a ha => ?_, List.mem_cons_self, fun n c e => ?_, x.apart, x.above⟩ ?_
  · rcases List.mem_cons.mp ha with e | hm
    · rw [e]; exact fresh_size _
    · obtain ⟨⟨n, c⟩, hc, rfl⟩ := List.mem_map.mp hm
      exact Heap.get?_none_of_le (Nat.le_of_lt (x.above n c hc))
  · rcases List.mem_cons.mp ha with e | hm
    · rw [e]; obtain ⟨o, _, _, ho, _⟩ := x.toInCall.ns; exact ⟨o, ho⟩
    · obtain ⟨⟨n, c⟩, hc, rfl⟩ := List.mem_map.mp hm
      obtain ⟨o, ho, _⟩ := x.cell n c (lookup_of_mem nd hc)
      exact ⟨o, ho⟩
  · exact List.mem_cons_of_mem _ (List.mem_map.mpr ⟨(n, c), mem_of_lookup e, rfl⟩)
  · rfl
end
end
-- RV
section
open PySem PySem.W PyProof.Rows
open PySem PySem.Spec PySem.Calls
theorem tabs_of {H : Heap} (x : Lg H) : TabsAt [(98, 96)] H := fun q hq => by rw [List.mem_singleton.mp hq]; exact ⟨x.C, x.tab⟩
theorem Bs.ghost {P : Params} {H : Heap} (B : Bs P H) (x : Lg H) : Bs P (hideAll H [96]) :=
  have hT := tabs_of x
  ⟨ghost_K hT B.K (by rfl), (let ⟨mc, a, r⟩ := B.nolimit; ⟨mc, ghost_ns hT a, r⟩), (let ⟨mg, a⟩ := B.g; ⟨mg, ghost_ns hT a⟩), (let ⟨mb, a, r⟩ := B.b; ⟨mb, ghost_ns hT a, r⟩)⟩
theorem pl_ghost {H : Heap} {D : Addr} {its : Array Value} (e : H.PlainList D its) (x : Lg H) : (hideAll H [96]).PlainList D its := by
  obtain ⟨n, e⟩ := e
  refine ⟨n, hid1 e fun q => ?_⟩
  rw [q, x.tab] at e; cases e
theorem il_ghost {H : Heap} {D : Addr} {its : Array Value} (e : H.IsList D its) (x : Lg H) : (hideAll H [96]).IsList D its := ghost_list (tabs_of x) e
set_option maxHeartbeats 8000000 in
theorem law_run (D : ∀ (PP : List Nat) (x n : Nat), 5 ≤ n → n ≤ 7 → PP.length = n → Dues PP x n) : LawRun := by
  intro prog w s l vs ns B Lg0 hl hi hlen
  refine law_enter B fun h₁ tk₁ S m cm F hs => ?_
  generalize hA : callerA.deeper (lawEnv w.params s.heap.objs.size) = A
  have hh : A.handled = none := by rw [← hA]; rfl
  have hd : A.depth + 5 < recursionLimit := by rw [← hA]; show callerA.depth + 1 + 5 < recursionLimit; decide
  have hfr : A.frames = some [lawEnv w.params s.heap.objs.size] := by rw [← hA]; rfl
  have hu : A.units + 64 < cLine := by rw [← hA]; show callerA.units + 3 + 64 < cLine; decide
  clear hA
  rw [lawBody_eq]
  refine wpAny_execs_cons (s0 F B hh hs hl hi hlen fun h1 tk1 G1 D1 us1 ks1 F1 k1 p1 i1 l1 b1 => ?_)
  have nk := nats_of i1 fun k hk => (b1 k hk).1
  generalize hns : ks1.map Int.toNat = ns1 at nk
  rw [nk] at i1
  have l1' : ns1.length = 8 := by rw [← hns, List.length_map]; exact l1
  have b1' : ∀ k ∈ ns1, k < 262144 := fun k hk => by
    rw [← hns] at hk
    obtain ⟨z, hz, rfl⟩ := List.mem_map.mp hk
    have := b1 z hz; omega
  dsimp only
  refine s13 F1 (B.keeps k1) rfl p1 i1 l1' b1' fun h2 tk2 G2 x n t1 t2 pg ps PP F2 k2 hx hn p2 i2 l2 b2 => ?_
  have B2 := (B.keeps k1).keeps k2
  have hn5 : 5 ≤ n := by omega
  have hn7 : n ≤ 7 := by omega
  clear F F1
  refine wpAny_execs_cons (s4 F2 B2 hh hd rfl rfl p2 i2 l2 hn7 b2 fun h3 tk3 G3 ot ots F3 k3 p3 l3 hos0 => ?_)
  obtain ⟨os, hos⟩ : ∃ os : Nat → List Nat, ∀ i, i < n → ∃ T vs, ots[i]? = some (.ref T) ∧ G3.IsList T (List.toArray vs) ∧ IntsAre vs ((os i).map fun n => ((n : Nat) : Int)) ∧ Oct (PP.getD i 0) (os i) := by
    have : ∀ i, ∃ o : List Nat, i < n → ∃ T vs, ots[i]? = some (.ref T) ∧ G3.IsList T (List.toArray vs) ∧ IntsAre vs (o.map fun n => ((n : Nat) : Int)) ∧ Oct (PP.getD i 0) o := fun i => by
      by_cases hi : i < n
      · obtain ⟨T, vs, o, r⟩ := hos0 i hi
        exact ⟨o, fun _ => ⟨T, vs, r⟩⟩
      · exact ⟨[], fun q => absurd q hi⟩
    exact ⟨fun i => (this i).choose, fun i => (this i).choose_spec⟩
  have hoc : ∀ j, j < n → Oct (PP.getD j 0) (os j) := fun j hj => let ⟨_, _, _, _, _, o⟩ := hos j hj; o
  have B3 := B2.keeps k3
  have p2 := pl_keep p2 k3
  dsimp only
  refine wpAny_execs_cons (s5 F3 B3 hh rfl rfl p2 i2 l2 hn7 fun h4 tk4 G4 dt ds F4 k4 p4 l4 hds => ?_)
  have B4 := B3.keeps k4
  have p2 := pl_keep p2 k4
  have p3 := pl_keep p3 k4
  have hos : ∀ i, i < n → ∃ T vs, ots[i]? = some (.ref T) ∧ G4.IsList T (List.toArray vs) ∧ IntsAre vs ((os i).map fun n => ((n : Nat) : Int)) ∧ Oct (PP.getD i 0) (os i) := fun i hi => let ⟨T, vs, e1, e2, e3, e4⟩ := hos i hi; ⟨T, vs, e1, il_keep e2 k4, e3, e4⟩
  dsimp only
  refine wpAny_execs_cons (s6 F4 B4 hh rfl rfl rfl p4 p3 hn7 hds hos fun h5 tk5 G5 rt rs F5 k5 p5 l5 hrs => ?_)
  have B5 := B4.keeps k5
  dsimp only
  refine wpAny_execs_cons (s7 F5 fun h6 tk6 G6 et es F6 k6 p6 hes => ?_)
  have B6 := B5.keeps k6
  have p5 := pl_keep p5 k6
  dsimp only
  refine wpAny_execs_cons (s8 F6 B6 hh rfl rfl rfl rfl p5 p6 hn7 (fun i hi => (hoc i hi).len) hrs hes fun h7 tk7 G7 ft fs F7 k7 p7 l7 hfs => ?_)
  have B7 := B6.keeps k7
  have k57 : Ex G4 G7 := fun b o e => k7 _ _ (k6 _ _ (k5 _ _ e))
  dsimp only
  clear F2 F3 F4 F5 F6
  refine s9 F7 B7 hh rfl rfl rfl (pl_keep p4 k57) (pl_keep p2 k57) i2 l2 hn7 hds fun h8 tk8 G8 wt ws m8 F8 k8 p8 i8 a1 a2 => ?_
  have B8 := B7.keeps k8
  refine wpAny_execs_cons (s12 F8 B8 hh hd hfr hu a1 a2 rfl (pl_keep p7 k8) p8 i8 hn5 hn7 hoc hfs fun h9 tk9 G9 F9 k9 => ?_)
  have B9 := B8.keeps k9
  dsimp only
  clear F7 F8
  refine wpAny_execs_cons (s13g F9 B9 hh hd a1 rfl rfl (pl_keep (pl_keep p7 k8) k9) (pl_keep (pl_keep (pl_keep p5 k7) k8) k9) hn7 hoc hfs hrs fun h10 tk10 G10 gt gs F10 k10 p10 i10 => ?_)
  have B10 := B9.keeps k10
  dsimp only
  refine wpAny_execs_cons (s14 F10 B10 hh a1 rfl p10 i10 hn7 fun h11 tk11 G11 fl fls F11 k11 p11 i11 => ?_)
  have B11 := B10.keeps k11
  dsimp only
  refine wpAny_execs_cons (s15 F11 B11 hh a1 rfl (pl_keep p10 k11) i10 hn5 hn7 fun h12 tk12 G12 t12 F12 k12 => ?_)
  have B12 := B11.keeps k12
  have k8c : Ex G4 G12 := fun b o e => k12 _ _ (k11 _ _ (k10 _ _ (k9 _ _ (k8 _ _ (k57 _ _ e)))))
  dsimp only
  clear F9 F10 F11
  refine s16 F12 B12 hh a1 rfl rfl (pl_keep p2 k8c) i2 l2 hn7 fun h13 tk13 G13 mt ms m13 c13 F13 k13 p13 i13 m13e c13e c13m => ?_
  have kall : Ex s.heap G13 := fun b o e => k13 _ _ (k8c _ _ (k4 _ _ (k3 _ _ (k2 _ _ (k1 _ _ e)))))
  have Lg13 : Lg G13 := by
    obtain ⟨⟨mg, hg, ⟨bm, ob, b1, b2, b3, b4, b5, b6⟩, hgP⟩, hP, hC⟩ := Lg0
    exact ⟨⟨mg, hg.keeps kall, ⟨bm, ob, b1, b2, b3, b4, kall _ _ b5, b6⟩, hgP⟩, kall _ _ hP, hC.keeps kall⟩
  clear F12
  refine s18 F13 Lg13 fun h14 tk14 G14 kr kt F14 k14 g14 R R' => ?_
  have B13 := B12.keeps k13
  have B14 := (B13.ghost Lg13).keeps k14
  have k1013 : Ex G10 G13 := fun b o e => k13 _ _ (k12 _ _ (k11 _ _ e))
  have k413 : Ex G4 G13 := fun b o e => k13 _ _ (k8c _ _ e)
  have hos14 : ∀ i, i < n → ∃ T vs, ots[i]? = some (.ref T) ∧ G14.IsList T (List.toArray vs) ∧ IntsAre vs ((os i).map fun n => ((n : Nat) : Int)) ∧ Oct (PP.getD i 0) (os i) := fun i hi => let ⟨T, vs, e1, e2, e3, e4⟩ := hos i hi; ⟨T, vs, e1, il_keep (il_ghost (il_keep e2 k413) Lg13) k14, e3, e4⟩
  refine wpAny_execs_cons (s20 F14 B14 hh hd hu ((m13e _ (by decide)).trans a1) ((m13e _ (by decide)).trans rfl) ((c13e _ (by decide) (by decide)).trans rfl) ((m13e _ (by decide)).trans rfl) rfl rfl c13m ((c13e _ (by decide) (by decide)).trans rfl) ((c13e _ (by decide) (by decide)).trans rfl)
    (pl_keep (pl_ghost (pl_keep p10 k1013) Lg13) k14) i10 (pl_keep (pl_ghost (pl_keep p11 fun b o e => k13 _ _ (k12 _ _ e)) Lg13) k14) i11 (pl_keep (pl_ghost p13 Lg13) k14) i13 (pl_keep (pl_ghost (pl_keep p3 k413) Lg13) k14) l3 hos14 R R' hn5 hn7 (D PP x n hn5 hn7 l2)
    fun h15 tk15 G15 m15 c15 F15 k15 hcg => ?_)
  have B15 := B14.keeps k15
  dsimp only
  refine wpAny_execs_cons (s21 F15 B15 hh hd hfr hcg fun h16 tk16 F16 => ?_)
  refine ⟨h16, tk16, rfl, rfl, fun b o e => ?_, ?_⟩
  · have hb : b ≠ 96 := fun q => by
      rw [q, show (ghostOf s.heap [(98, 96)]).get? 96 = none from hideAll_none _ (.head _)] at e; cases e
    exact F16.gr _ _ (k15 _ _ (k14 _ _ (hid1 (kall _ _ (of_hideAll _ e)) hb)))
  · obtain ⟨qs, hq⟩ := g14
    exact ⟨qs, F16.gr _ _ (k15 _ _ hq)⟩
end
-- DA
section
def le01 (a b : Nat) : Nat := if a ≤ b then 1 else 0
theorem le01_one {a b : Nat} (h : a ≤ b) : le01 a b = 1 := if_pos h
theorem le01_zero {a b : Nat} (h : b < a) : le01 a b = 0 := if_neg (by omega)
theorem le01_le (a b : Nat) : le01 a b ≤ 1 := by unfold le01; split <;> omega
theorem ite_le (a b k : Nat) : (if decide (a ≤ b) = true then k else 0) = k * le01 a b := by
  unfold le01; by_cases h : a ≤ b <;> simp [h]
theorem sum_filter (l : List Nat) (p : Nat → Bool) (f : Nat → Nat) : ((l.filter p).map f).sum = (l.map fun i => if p i = true then f i else 0).sum := by
  induction l with
  | nil => rfl
  | cons a t ih => by_cases h : p a = true <;> simp [h, ih]
theorem grown_zero (P : List Nat) : grownN P 0 = 1 := rfl
theorem dot_succ (P : List Nat) (k : Nat) : (if dotB P (k + 1) then 1 else 0) = le01 (P.getD k 0) (P.getD (k + 1) 0) := by
  unfold dotB le01
  by_cases h : P.getD k 0 ≤ P.getD (k + 1) 0
  · have h2 : ¬ P.getD (k + 1) 0 < P.getD k 0 := by omega
    simp only [Nat.add_sub_cancel, h2, decide_false, Bool.and_false, Bool.not_false, if_true, h]
  · have h2 : P.getD (k + 1) 0 < P.getD k 0 := by omega
    have h3 : 0 < k + 1 := by omega
    simp only [Nat.add_sub_cancel, h2, h3, decide_true, Bool.and_true, Bool.not_true, h, if_false]
    simp
theorem grown_succ (P : List Nat) (k : Nat) : grownN P (k + 1) = grownN P k + le01 (P.getD k 0) (P.getD (k + 1) 0) := by
  unfold grownN
  rw [List.range_succ, List.map_append, List.sum_append]
  simp only [List.map_cons, List.map_nil, List.sum_cons, List.sum_nil, Nat.add_zero]
  rw [dot_succ]
theorem known_succ (P : List Nat) (m : Nat) : knownZ P (m + 2) = knownZ P (m + 1) + ((m + 1) * le01 (P.getD m 0) (P.getD (m + 1) 0) : Nat) := by
  unfold knownZ
  rw [show m + 2 - 1 = m + 1 from rfl, Nat.add_sub_cancel, List.range_succ, List.map_append, List.sum_append]
  simp only [List.map_cons, List.map_nil, List.sum_cons, List.sum_nil]
  rw [Nat.add_comm 1 m, grown_succ, show ∀ a b : Nat, (((a + b : Nat) : Int) - (a : Nat) : Int) = (b : Nat) by omega, Int.add_zero, Int.natCast_mul]
/-- the step of a place -/
def stZ (P : List Nat) (x n p : Nat) : Int :=
  -((grownN P (min p (n - 1)) : Nat) : Int) + (p * (if p = 0 then 0 else le01 (P.getD (p - 1) 0) x) : Nat)
    + ((p + 1) * (if p < n then le01 x (P.getD p 0) else 0) : Nat) - (p * (if 0 < p ∧ p < n then le01 (P.getD (p - 1) 0) (P.getD p 0) else 0) : Nat)
/-- the change by the first m fronts -/
def chgN (P : List Nat) (x p m : Nat) : Nat := ((List.range m).map fun i => (1 + i) * le01 ((wholeL P x p).getD i 0) ((wholeL P x p).getD (1 + i) 0)).sum
theorem chg_zero (P : List Nat) (x p : Nat) : chgN P x p 0 = 0 := rfl
theorem chg_succ (P : List Nat) (x p m : Nat) : chgN P x p (m + 1) = chgN P x p m + (1 + m) * le01 ((wholeL P x p).getD m 0) ((wholeL P x p).getD (m + 1) 0) := by
  unfold chgN
  rw [List.range_succ, List.map_append, List.sum_append]
  simp only [List.map_cons, List.map_nil, List.sum_cons, List.sum_nil, Nat.add_zero]
  rw [Nat.add_comm 1 m]
theorem change_chg (P : List Nat) (x n p : Nat) : changeN P x n p = chgN P x p n := by
  unfold changeN chgN
  rw [sum_filter]
  simp only [ite_le]
variable {P : List Nat} {x p : Nat}
theorem whole_lt {i : Nat} (h : p ≤ P.length) (hi : i < p) : (wholeL P x p).getD i 0 = P.getD i 0 := by
  have : i < P.length := by omega
  simp [wholeL, List.getD_eq_getElem?_getD, List.getElem?_append, Nat.min_eq_left h, hi, this]
theorem whole_eq (h : p ≤ P.length) : (wholeL P x p).getD p 0 = x := by
  simp [wholeL, List.getD_eq_getElem?_getD, Nat.min_eq_left h]
theorem whole_gt {i : Nat} (h : p ≤ P.length) (hi : p < i) : (wholeL P x p).getD i 0 = P.getD (i - 1) 0 := by
  obtain ⟨d, rfl⟩ : ∃ d, i = p + 1 + d := ⟨i - (p + 1), by omega⟩
  rw [show p + 1 + d - 1 = p + d by omega]
  simp only [wholeL, List.getD_eq_getElem?_getD]
  rw [List.getElem?_append_right (by simp [Nat.min_eq_left h]), List.getElem?_drop]
  simp [Nat.min_eq_left h]
theorem chg_lt (h : p ≤ P.length) : ∀ m, m < p → (chgN P x p m : Int) = knownZ P (m + 1)
  | 0, _ => rfl
  | m + 1, hm => by
    rw [chg_succ, known_succ, Int.natCast_add, chg_lt h m (by omega), whole_lt h (by omega), whole_lt h hm, Nat.add_comm 1 m]
theorem chg_at (h : p + 1 ≤ P.length) : (chgN P x (p + 1) (p + 1) : Int) = knownZ P (p + 1) + ((p + 1) * le01 (P.getD p 0) x : Nat) := by
  rw [chg_succ, Int.natCast_add, chg_lt h p (by omega), whole_lt h (by omega), whole_eq h, Nat.add_comm 1 p]
theorem chg_gt (h : p ≤ P.length) (c : Int) (h0 : (chgN P x p (p + 1) : Int) = knownZ P (p + 1) + (grownN P p : Nat) + c) :
    ∀ d, (chgN P x p (p + 1 + d) : Int) = knownZ P (p + 1 + d) + (grownN P (p + d) : Nat) + c
  | 0 => h0
  | d + 1 => by
    have e := chg_gt h c h0 d
    have e1 := known_succ P (p + d)
    have e2 := grown_succ P (p + d)
    rw [show p + 1 + (d + 1) = p + 1 + d + 1 from rfl, show p + (d + 1) = p + d + 1 from rfl, chg_succ, Int.natCast_add, e, whole_gt h (by omega), whole_gt h (by omega),
      show p + 1 + d = p + d + 1 by omega, Nat.add_sub_cancel, e1, e2, Nat.add_sub_cancel, Nat.add_mul 1, Nat.one_mul]
    omega
theorem form_all {n : Nat} (h1 : 0 < n) (hl : P.length = n) (hp : p ≤ n) : (changeN P x n p : Int) = knownZ P n + (grownN P (n - 1) : Nat) + stZ P x n p := by
  rw [change_chg]
  have hP : p ≤ P.length := by omega
  by_cases e : p = n
  · subst e
    obtain ⟨q, rfl⟩ : ∃ q, p = q + 1 := ⟨p - 1, by omega⟩
    rw [chg_at hP]
    unfold stZ
    rw [if_neg (by omega), if_neg (by omega), if_neg (by omega), Nat.min_eq_right (by omega), Nat.add_sub_cancel]; omega
  · obtain ⟨d, rfl⟩ : ∃ d, n = p + 1 + d := ⟨n - (p + 1), by omega⟩
    rw [chg_gt hP (stZ P x (p + 1 + d) p) ?_ d, show p + 1 + d - 1 = p + d by omega]
    rw [chg_succ, Int.natCast_add, whole_eq hP, whole_gt hP (by omega), Nat.add_sub_cancel, Nat.add_comm 1 p]
    unfold stZ
    rw [if_pos (show p < p + 1 + d by omega), Nat.min_eq_left (by omega)]
    cases p with
    | zero => rw [chg_zero, if_pos rfl, if_neg (by omega)]; simp [knownZ]; omega
    | succ q =>
      rw [chg_at (by omega), if_neg (by omega), if_pos (by omega), known_succ, Nat.add_sub_cancel]; omega
end
-- DB
section
theorem grown_mono (P : List Nat) (i d : Nat) : grownN P i ≤ grownN P (i + d) ∧ grownN P (i + d) ≤ grownN P i + d := by
  induction d with
  | zero => simp
  | succ d ih =>
    have h := grown_succ P (i + d)
    have h2 := le01_le (P.getD (i + d) 0) (P.getD (i + d + 1) 0)
    rw [← Nat.add_assoc, h]; omega
theorem grown_one (P : List Nat) (i : Nat) : 1 ≤ grownN P i ∧ grownN P i ≤ i + 1 := by
  have h := grown_mono P 0 i
  rw [grown_zero, Nat.zero_add] at h; omega
theorem cut1 (T : Nat → Int) (n : Nat) (g : Int) (hm : ∀ i, i + 1 < n → T i ≤ T (i + 1)) : ∃ c, c ≤ n ∧ ∀ i, i < n → (T i < g ↔ i < c) := by
  induction n with
  | zero => exact ⟨0, Nat.le_refl 0, fun i h => absurd h (by omega)⟩
  | succ n ih =>
    obtain ⟨c, c1, c2⟩ := ih fun i h => hm i (by omega)
    by_cases h : c = n ∧ T n < g
    · refine ⟨n + 1, Nat.le_refl _, fun i hi => ?_⟩
      by_cases e : i = n
      · subst e; exact ⟨fun _ => hi, fun _ => h.2⟩
      · have := c2 i (by omega); omega
    · refine ⟨c, by omega, fun i hi => ?_⟩
      by_cases e : i = n
      · subst e
        refine ⟨fun q => ?_, fun q => by omega⟩
        by_cases e2 : c = i
        · exact absurd ⟨e2, q⟩ h
        · have h3 := c2 (i - 1) (by omega)
          have h4 := hm (i - 1) (by omega)
          rw [show i - 1 + 1 = i by omega] at h4
          omega
      · exact c2 i (by omega)
theorem cut2 (T : Nat → Int) (n : Nat) (g : Int) (hn : 0 < n) (hm : ∀ i, i + 1 < n → T i ≤ T (i + 1) ∧ T (i + 1) ≤ T i + 1) (h0 : T 0 ≤ g) (h1 : g ≤ T (n - 1)) :
    ∃ low high : Nat, low < high ∧ high ≤ n ∧ (∀ i, i < n → (T i < g ↔ i < low)) ∧ (∀ i, i < n → (T i ≤ g ↔ i < high)) := by
  obtain ⟨l, l1, l2⟩ := cut1 T n g fun i h => (hm i h).1
  obtain ⟨r, r1, r2⟩ := cut1 T n (g + 1) fun i h => (hm i h).1
  refine ⟨l, r, ?_, r1, l2, fun i hi => ?_⟩
  · have e1 := l2 (n - 1) (by omega)
    have hl : l < n := by omega
    have e2 := r2 l hl
    by_cases e : l = 0
    · subst e; exact e2.mp (by omega)
    · have e3 := l2 (l - 1) (by omega)
      have e4 := hm (l - 1) (by omega)
      rw [show l - 1 + 1 = l by omega] at e4
      exact e2.mp (by omega)
  · have := r2 i hi; omega
/-- the tally of a negative step -/
theorem cutG {P : List Nat} {n : Nat} {g : Int} (hn : 0 < n) (h0 : 1 ≤ g) (h1 : g ≤ (grownN P (n - 1) : Nat)) :
    ∃ low high : Nat, low < high ∧ high ≤ n ∧ (∀ i, i < n → (((grownN P i : Nat) : Int) < g ↔ i < low)) ∧ (∀ i, i < n → (((grownN P i : Nat) : Int) ≤ g ↔ i < high)) := by
  refine cut2 (fun i => ((grownN P i : Nat) : Int)) n g hn (fun i _ => ?_) (by rw [grown_zero]; omega) h1
  have := grown_mono P i 1
  omega
theorem cutF {P : List Nat} {n : Nat} {g : Int} (hn : 0 < n) (h0 : 0 ≤ g) (h1 : g ≤ flatZ P (n - 1)) :
    ∃ low high : Nat, low < high ∧ high ≤ n ∧ (∀ i, i < n → (flatZ P i < g ↔ i < low)) ∧ (∀ i, i < n → (flatZ P i ≤ g ↔ i < high)) := by
  refine cut2 (flatZ P) n g hn (fun i _ => ?_) (by unfold flatZ; rw [grown_zero]; omega) h1
  have := grown_mono P i 1
  unfold flatZ; omega
theorem stZ_0 {P : List Nat} {x n : Nat} (hn : 0 < n) : stZ P x n 0 = -1 + (le01 x (P.getD 0 0) : Nat) := by
  unfold stZ; rw [if_pos rfl, if_pos hn, if_neg (by omega), Nat.zero_min, grown_zero]; omega
theorem stZ_n {P : List Nat} {x n : Nat} (hn : 0 < n) : stZ P x n n = -((grownN P (n - 1) : Nat) : Int) + (n * le01 (P.getD (n - 1) 0) x : Nat) := by
  unfold stZ; rw [if_neg (by omega), if_neg (by omega), if_neg (by omega), Nat.min_eq_right (by omega)]; omega
theorem stZ_p {P : List Nat} {x n p : Nat} (h0 : 0 < p) (hn : p < n) : stZ P x n p = -((grownN P p : Nat) : Int) + (p * le01 (P.getD (p - 1) 0) x : Nat)
    + ((p + 1) * le01 x (P.getD p 0) : Nat) - (p * le01 (P.getD (p - 1) 0) (P.getD p 0) : Nat) := by
  unfold stZ; rw [if_neg (by omega), if_pos hn, if_pos ⟨h0, hn⟩, Nat.min_eq_left (by omega)]
theorem grown_pred {P : List Nat} {p : Nat} (h0 : 0 < p) : grownN P p = grownN P (p - 1) + le01 (P.getD (p - 1) 0) (P.getD p 0) := by
  have := grown_succ P (p - 1)
  rwa [show p - 1 + 1 = p by omega] at this
theorem le01_cases (a b : Nat) : (a ≤ b ∧ le01 a b = 1) ∨ (b < a ∧ le01 a b = 0) := by
  by_cases h : a ≤ b
  · exact .inl ⟨h, le01_one h⟩
  · exact .inr ⟨by omega, le01_zero (by omega)⟩
theorem bound_core {p n gp gn Q R x a : Nat} (h0 : 1 ≤ gp ∧ gp ≤ p + 1) (h1 : gp ≤ gn ∧ gn ≤ gp + (n - 1 - p)) (hp : p < n) (ha : a = le01 Q R) (hq : a < gp ∧ gp ≤ p + a) :
    0 ≤ (gn : Int) + (-(gp : Int) + (p * le01 Q x : Nat) + ((p + 1) * le01 x R : Nat) - (p * a : Nat)) ∧ (gn : Int) + (-(gp : Int) + (p * le01 Q x : Nat) + ((p + 1) * le01 x R : Nat) - (p * a : Nat)) ≤ n := by
  rcases le01_cases Q x with ⟨a1, e1⟩ | ⟨a1, e1⟩ <;> rcases le01_cases x R with ⟨a2, e2⟩ | ⟨a2, e2⟩ <;> rw [e1, e2]
  · rw [le01_one (Nat.le_trans a1 a2)] at ha; subst ha; simp only [Nat.mul_one]; omega
  · rcases le01_cases Q R with ⟨_, e3⟩ | ⟨_, e3⟩ <;> rw [e3] at ha <;> subst ha <;> simp only [Nat.mul_one, Nat.mul_zero] <;> omega
  · rcases le01_cases Q R with ⟨_, e3⟩ | ⟨_, e3⟩ <;> rw [e3] at ha <;> subst ha <;> simp only [Nat.mul_one, Nat.mul_zero] <;> omega
  · rw [le01_zero (Nat.lt_trans a2 a1)] at ha; subst ha; simp only [Nat.mul_zero]; omega
theorem stZ_le {P : List Nat} {x n p : Nat} (hn : 0 < n) (hp : p ≤ n) : 0 ≤ (grownN P (n - 1) : Nat) + stZ P x n p ∧ (grownN P (n - 1) : Nat) + stZ P x n p ≤ n := by
  have gn := grown_one P (n - 1)
  by_cases h0 : p = 0
  · subst h0; rw [stZ_0 hn]; have := le01_le x (P.getD 0 0); omega
  · by_cases h1 : p = n
    · subst h1; rw [stZ_n hn]
      rcases le01_cases (P.getD (p - 1) 0) x with ⟨_, e⟩ | ⟨_, e⟩ <;> rw [e] <;> simp only [Nat.mul_one, Nat.mul_zero] <;> omega
    · rw [stZ_p (by omega) (by omega)]
      have gm := grown_mono P p (n - 1 - p)
      rw [show p + (n - 1 - p) = n - 1 by omega] at gm
      have g1 := grown_pred (P := P) (p := p) (by omega)
      have g2 := grown_one P (p - 1)
      exact bound_core (grown_one P p) gm (by omega) rfl (by omega)
theorem place_iff {T : Nat → Int} {n low high p : Nat} {g : Int} {A B : Prop} (hl : ∀ i, i < n → (T i < g ↔ i < low)) (hr : ∀ i, i < n → (T i ≤ g ↔ i < high)) (h0 : 0 < p) (hn : p < n) :
    (low ≤ p ∧ p ≤ high ∧ (p = low ∨ A) ∧ (p = high ∨ B)) ↔ (g ≤ T p ∧ T (p - 1) ≤ g ∧ (T (p - 1) < g ∨ A) ∧ (g < T p ∨ B)) := by
  have k1 := hl p hn
  have k2 := hr p hn
  have k3 := hl (p - 1) (by omega)
  have k4 := hr (p - 1) (by omega)
  have c1 : low ≤ p ↔ g ≤ T p := by clear k2 k3 k4; omega
  have c2 : p ≤ high ↔ T (p - 1) ≤ g := by clear k1 k2 k3 c1; omega
  have c3 : low ≤ p → (p = low ↔ T (p - 1) < g) := by clear k1 k2 k4 c1 c2; omega
  have c4 : p ≤ high → (p = high ↔ g < T p) := by clear k1 k3 k4 c1 c2 c3; omega
  constructor
  · rintro ⟨a, b, c, d⟩; exact ⟨c1.1 a, c2.1 b, c.imp (c3 a).1 id, d.imp (c4 b).1 id⟩
  · rintro ⟨a, b, c, d⟩; exact ⟨c1.2 a, c2.2 b, c.imp (c3 (c1.2 a)).2 id, d.imp (c4 (c2.2 b)).2 id⟩
theorem fall_core {p gp gq Q R x : Nat} {g : Int} (h0 : 1 ≤ g) (h1 : gq ≤ p) (hp : gp = gq + le01 Q R) :
    -(gp : Int) + (p * le01 Q x : Nat) + ((p + 1) * le01 x R : Nat) - (p * le01 Q R : Nat) = -g ↔ (g ≤ (gp : Int) ∧ (gq : Int) ≤ g ∧ ((gq : Int) < g ∨ x < Q) ∧ (g < (gp : Int) ∨ R < x)) := by
  rcases le01_cases Q x with ⟨a1, e1⟩ | ⟨a1, e1⟩ <;> rcases le01_cases x R with ⟨a2, e2⟩ | ⟨a2, e2⟩ <;> rw [e1, e2]
  · rw [le01_one (Nat.le_trans a1 a2)] at hp ⊢; subst hp; simp only [Nat.mul_one]; omega
  · rcases le01_cases Q R with ⟨_, e3⟩ | ⟨_, e3⟩ <;> rw [e3] at hp ⊢ <;> subst hp <;> simp only [Nat.mul_one, Nat.mul_zero] <;> omega
  · rcases le01_cases Q R with ⟨_, e3⟩ | ⟨_, e3⟩ <;> rw [e3] at hp ⊢ <;> subst hp <;> simp only [Nat.mul_one, Nat.mul_zero] <;> omega
  · rw [le01_zero (Nat.lt_trans a2 a1)] at hp ⊢; subst hp; simp only [Nat.mul_zero]; omega
theorem rise_core {p gp gq Q R x : Nat} {g : Int} (h0 : 0 ≤ g) (h1 : 1 ≤ gq) (hp : gp = gq + le01 Q R) :
    -(gp : Int) + (p * le01 Q x : Nat) + ((p + 1) * le01 x R : Nat) - (p * le01 Q R : Nat) = g ↔
      (g ≤ (p : Int) + 1 - gp ∧ (p : Int) - gq ≤ g ∧ ((p : Int) - gq < g ∨ Q ≤ x) ∧ (g < (p : Int) + 1 - gp ∨ x ≤ R)) := by
  rcases le01_cases Q x with ⟨a1, e1⟩ | ⟨a1, e1⟩ <;> rcases le01_cases x R with ⟨a2, e2⟩ | ⟨a2, e2⟩ <;> rw [e1, e2]
  · rw [le01_one (Nat.le_trans a1 a2)] at hp ⊢; subst hp; simp only [Nat.mul_one]; omega
  · rcases le01_cases Q R with ⟨_, e3⟩ | ⟨_, e3⟩ <;> rw [e3] at hp ⊢ <;> subst hp <;> simp only [Nat.mul_one, Nat.mul_zero] <;> omega
  · rcases le01_cases Q R with ⟨_, e3⟩ | ⟨_, e3⟩ <;> rw [e3] at hp ⊢ <;> subst hp <;> simp only [Nat.mul_one, Nat.mul_zero] <;> omega
  · rw [le01_zero (Nat.lt_trans a2 a1)] at hp ⊢; subst hp; simp only [Nat.mul_zero]; omega
theorem fall_at {P : List Nat} {x n low high p : Nat} {g : Int} (h0 : 1 ≤ g) (hlh : low < high) (hh : high ≤ n)
    (hl : ∀ i, i < n → (((grownN P i : Nat) : Int) < g ↔ i < low)) (hr : ∀ i, i < n → (((grownN P i : Nat) : Int) ≤ g ↔ i < high)) (hp : p ≤ n) :
    stZ P x n p = -g ↔ (low ≤ p ∧ p ≤ high ∧ (p = low ∨ x < P.getD (p - 1) 0) ∧ (p = high ∨ P.getD p 0 < x)) := by
  have hn : 0 < n := by omega
  by_cases e0 : p = 0
  · subst e0; rw [stZ_0 hn]
    have k1 := hl 0 hn
    rw [grown_zero] at k1
    rcases le01_cases x (P.getD 0 0) with ⟨a2, e2⟩ | ⟨a2, e2⟩ <;> rw [e2] <;> omega
  · by_cases e1 : p = n
    · subst e1; rw [stZ_n hn]
      have gn := grown_one P (p - 1)
      have k1 := hl (p - 1) (by omega)
      have k2 := hr (p - 1) (by omega)
      rcases le01_cases (P.getD (p - 1) 0) x with ⟨a2, e2⟩ | ⟨a2, e2⟩ <;> rw [e2] <;> simp only [Nat.mul_one, Nat.mul_zero] <;> omega
    · have hp0 : 0 < p := by omega
      rw [stZ_p hp0 (by omega), place_iff (T := fun i => ((grownN P i : Nat) : Int)) hl hr hp0 (by omega)]
      have gq := grown_one P (p - 1)
      exact fall_core h0 (by omega) (grown_pred hp0)
theorem rise_at {P : List Nat} {x n low high p : Nat} {g : Int} (h0 : 0 ≤ g) (hlh : low < high) (hh : high ≤ n)
    (hl : ∀ i, i < n → (flatZ P i < g ↔ i < low)) (hr : ∀ i, i < n → (flatZ P i ≤ g ↔ i < high)) (hp : p ≤ n) :
    stZ P x n p = g ↔ (low ≤ p ∧ p ≤ high ∧ (p = low ∨ P.getD (p - 1) 0 ≤ x) ∧ (p = high ∨ x ≤ P.getD p 0)) := by
  have hn : 0 < n := by omega
  by_cases e0 : p = 0
  · subst e0; rw [stZ_0 hn]
    have k1 := hl 0 hn
    unfold flatZ at k1
    rw [grown_zero] at k1
    rcases le01_cases x (P.getD 0 0) with ⟨a2, e2⟩ | ⟨a2, e2⟩ <;> rw [e2] <;> omega
  · by_cases e1 : p = n
    · subst e1; rw [stZ_n hn]
      have gn := grown_one P (p - 1)
      have k1 := hl (p - 1) (by omega)
      have k2 := hr (p - 1) (by omega)
      unfold flatZ at k1 k2
      rcases le01_cases (P.getD (p - 1) 0) x with ⟨a2, e2⟩ | ⟨a2, e2⟩ <;> rw [e2] <;> simp only [Nat.mul_one, Nat.mul_zero] <;> omega
    · have hp0 : 0 < p := by omega
      rw [stZ_p hp0 (by omega), place_iff hl hr hp0 (by omega)]
      have gq := grown_one P (p - 1)
      unfold flatZ
      rw [show ((p - 1 : Nat) : Int) + 1 - (grownN P (p - 1) : Nat) = (p : Int) - (grownN P (p - 1) : Nat) by omega]
      exact rise_core h0 gq.1 (grown_pred hp0)
end
-- DC
section
theorem run_anti {P : List Nat} {low high : Nat} (h : ∀ k, low ≤ k → k + 1 < high → P.getD (k + 1) 0 ≤ P.getD k 0) (i d : Nat) (h1 : low ≤ i) (h2 : i + d < high) : P.getD (i + d) 0 ≤ P.getD i 0 := by
  induction d with
  | zero => exact Nat.le_refl _
  | succ d ih => exact Nat.le_trans (h (i + d) (by omega) (by omega)) (ih (by omega))
theorem run_mono {P : List Nat} {low high : Nat} (h : ∀ k, low ≤ k → k + 1 < high → P.getD k 0 ≤ P.getD (k + 1) 0) (i d : Nat) (h1 : low ≤ i) (h2 : i + d < high) : P.getD i 0 ≤ P.getD (i + d) 0 := by
  induction d with
  | zero => exact Nat.le_refl _
  | succ d ih => exact Nat.le_trans (ih (by omega)) (h (i + d) (by omega) (by omega))
theorem fall_iff {P : List Nat} {x n low high p first last : Nat} {g : Int} (h0 : 1 ≤ g) (hlh : low < high) (hh : high ≤ n)
    (hl : ∀ i, i < n → (((grownN P i : Nat) : Int) < g ↔ i < low)) (hr : ∀ i, i < n → (((grownN P i : Nat) : Int) ≤ g ↔ i < high)) (hp : p ≤ n)
    (hf : Found (fun i => -((P.getD i 0 : Nat) : Int) < -(x : Int)) low high first) (hs : Found (fun i => ¬ -(x : Int) < -((P.getD i 0 : Nat) : Int)) low high last) :
    stZ P x n p = -g ↔ p = first ∧ first = last := by
  rw [fall_at h0 hlh hh hl hr hp]
  have A : ∀ k, low ≤ k → k + 1 < high → P.getD (k + 1) 0 ≤ P.getD k 0 := fun k k1 k2 => by
    have e1 := hl k (by omega)
    have e2 := hr (k + 1) (by omega)
    have e3 := grown_succ P k
    rcases le01_cases (P.getD k 0) (P.getD (k + 1) 0) with ⟨a3, e⟩ | ⟨a3, e⟩ <;> rw [e] at e3 <;> omega
  have M : ∀ i j, low ≤ i → i ≤ j → j < high → P.getD j 0 ≤ P.getD i 0 := fun i j a b c => by
    have := run_anti A i (j - i) a (by omega)
    rwa [show i + (j - i) = j by omega] at this
  obtain ⟨f1, f2, f3, f4⟩ := hf
  obtain ⟨s1, s2, s3, s4⟩ := hs
  have hle : first ≤ last := by
    apply Decidable.byContradiction; intro q
    have q1 := f3 (by omega)
    have q2 := s4 (by omega)
    have q3 := M last (first - 1) (by omega) (by omega) (by omega)
    omega
  constructor
  · rintro ⟨a1, a2, a3, a4⟩
    have b1 : p ≤ first := by
      apply Decidable.byContradiction; intro q
      have q2 := f4 (by omega)
      have q3 := M first (p - 1) (by omega) (by omega) (by omega)
      omega
    have b2 : last ≤ p := by
      apply Decidable.byContradiction; intro q
      have q2 := s3 (by omega)
      have q3 := M p (last - 1) (by omega) (by omega) (by omega)
      omega
    omega
  · rintro ⟨a1, a2⟩
    subst a1; subst a2
    refine ⟨f1, f2, ?_, ?_⟩
    · by_cases e : p = low
      · exact .inl e
      · have := f3 (by omega); right; omega
    · by_cases e : p = high
      · exact .inl e
      · have := s4 (by omega); right; omega
theorem rise_iff {P : List Nat} {x n low high p first last : Nat} {g : Int} (h0 : 0 ≤ g) (hlh : low < high) (hh : high ≤ n)
    (hl : ∀ i, i < n → (flatZ P i < g ↔ i < low)) (hr : ∀ i, i < n → (flatZ P i ≤ g ↔ i < high)) (hp : p ≤ n)
    (hf : Found (fun i => ((P.getD i 0 : Nat) : Int) < (x : Int)) low high first) (hs : Found (fun i => ¬ (x : Int) < ((P.getD i 0 : Nat) : Int)) low high last) :
    stZ P x n p = g ↔ first ≤ p ∧ p ≤ last := by
  rw [rise_at h0 hlh hh hl hr hp]
  have A : ∀ k, low ≤ k → k + 1 < high → P.getD k 0 ≤ P.getD (k + 1) 0 := fun k k1 k2 => by
    have e1 := hl k (by omega)
    have e2 := hr (k + 1) (by omega)
    have e3 := grown_succ P k
    unfold flatZ at e1 e2
    rcases le01_cases (P.getD k 0) (P.getD (k + 1) 0) with ⟨a3, e⟩ | ⟨a3, e⟩ <;> rw [e] at e3 <;> omega
  have M : ∀ i j, low ≤ i → i ≤ j → j < high → P.getD i 0 ≤ P.getD j 0 := fun i j a b c => by
    have := run_mono A i (j - i) a (by omega)
    rwa [show i + (j - i) = j by omega] at this
  obtain ⟨f1, f2, f3, f4⟩ := hf
  obtain ⟨s1, s2, s3, s4⟩ := hs
  constructor
  · rintro ⟨a1, a2, a3, a4⟩
    constructor
    · apply Decidable.byContradiction; intro q
      have q2 := f3 (by omega)
      have q3 := M p (first - 1) (by omega) (by omega) (by omega)
      omega
    · apply Decidable.byContradiction; intro q
      have q2 := s4 (by omega)
      have q3 := M last (p - 1) (by omega) (by omega) (by omega)
      omega
  · rintro ⟨a1, a2⟩
    refine ⟨by omega, by omega, ?_, ?_⟩
    · by_cases e : p = low
      · exact .inl e
      · have q1 := s3 (by omega)
        have q3 := M (p - 1) (last - 1) (by omega) (by omega) (by omega)
        right; omega
    · by_cases e : p = high
      · exact .inl e
      · have q1 := f4 (by omega)
        have q3 := M first p (by omega) (by omega) (by omega)
        right; omega
theorem filter_range (q : Nat → Bool) (lo m : Nat) : ∀ d, lo + d ≤ m → (∀ p, p < m → (q p = true ↔ lo ≤ p ∧ p < lo + d)) →
    (List.range m).filter q = (List.range d).map fun i => lo + i := by
  induction m with
  | zero => intro d h _; have : d = 0 := by omega
            subst this; rfl
  | succ m ih =>
    intro d h hq
    rw [List.range_succ, List.filter_append]
    have hm := hq m (by omega)
    by_cases e : lo + d = m + 1
    · by_cases e0 : d = 0
      · subst e0
        have hm2 : ¬ q m = true := fun k => by have := hm.mp k; omega
        rw [List.filter_cons_of_neg hm2, List.filter_nil, List.append_nil, List.filter_eq_nil_iff.mpr]
        · rfl
        · intro a ha k
          have := (hq a (by have := List.mem_range.mp ha; omega)).mp k; omega
      · have hm2 : q m = true := hm.mpr (by omega)
        rw [List.filter_cons_of_pos hm2, List.filter_nil, ih (d - 1) (by omega) fun p hp => by have := hq p (by omega); rw [this]; omega]
        obtain ⟨d', rfl⟩ : ∃ d', d = d' + 1 := ⟨d - 1, by omega⟩
        rw [List.range_succ, List.map_append, Nat.add_sub_cancel, show m = lo + d' by omega]; rfl
    · have hm2 : ¬ q m = true := fun k => by have := hm.mp k; omega
      rw [List.filter_cons_of_neg hm2, List.filter_nil, List.append_nil, ih d (by omega) fun p hp => hq p (by omega)]
theorem change_iff {P : List Nat} {x n p k : Nat} (h1 : 5 ≤ n) (h2 : n ≤ 7) (hl : P.length = n) (hp : p ≤ n) (hk : k ≤ n) {st : Int}
    (hst : st = ((k : Int) - knownZ P n).fmod ((n : Int) + 1) - ((grownN P (n - 1) : Nat) : Int)) : changeN P x n p % (n + 1) = k ↔ stZ P x n p = st := by
  have f := form_all (x := x) (by omega) hl hp
  have b := stZ_le (P := P) (x := x) (by omega) hp
  generalize changeN P x n p = C at *
  generalize stZ P x n p = S at *
  generalize knownZ P n = K at *
  generalize grownN P (n - 1) = G at *
  rw [Int.fmod_eq_emod_of_nonneg _ (by omega)] at hst
  have hn : n = 5 ∨ n = 6 ∨ n = 7 := by omega
  rcases hn with e | e | e <;> subst e <;> omega
theorem step_ge {P : List Nat} {n k : Nat} {st : Int} (h1 : 5 ≤ n) (h2 : n ≤ 7)
    (hst : st = ((k : Int) - knownZ P n).fmod ((n : Int) + 1) - ((grownN P (n - 1) : Nat) : Int)) : -((grownN P (n - 1) : Nat) : Int) ≤ st ∧ st ≤ n - ((grownN P (n - 1) : Nat) : Int) := by
  generalize knownZ P n = K at *
  generalize grownN P (n - 1) = G at *
  rw [Int.fmod_eq_emod_of_nonneg _ (by omega)] at hst
  have hn : n = 5 ∨ n = 6 ∨ n = 7 := by omega
  rcases hn with e | e | e <;> subst e <;> omega
theorem dues (PP : List Nat) (x n : Nat) (h1 : 5 ≤ n) (h2 : n ≤ 7) (hl : PP.length = n) : Dues PP x n := by
  intro k hk st hst
  have hb := step_ge h1 h2 hst
  by_cases hs : st < 0
  · obtain ⟨low, high, a1, a2, a3, a4⟩ := cutG (P := PP) (n := n) (g := -st) (by omega) (by omega) (by omega)
    refine ⟨low, high, a1, a2, ?_, ?_, fun _ first last f1 f2 => ?_, fun q => absurd hs q⟩
    · intro i hi; rw [if_pos hs, talZ, if_pos hs]; exact a3 i hi
    · intro i hi; rw [if_pos hs, talZ, if_pos hs]; exact a4 i hi
    · have key : ∀ p, p < n + 1 → (decide (changeN PP x n p % (n + 1) = k) = true ↔ p = first ∧ first = last) := fun p hp => by
        rw [decide_eq_true_iff, change_iff h1 h2 hl (by omega) hk hst, ← fall_iff (g := -st) (by omega) a1 a2 a3 a4 (by omega) f1 f2, Int.neg_neg]
      have hfi := f1.le
      by_cases e : first = last
      · rw [if_pos e, filter_range _ first (n + 1) 1 (by omega) fun p hp => by rw [key p hp]; omega]; rfl
      · rw [if_neg e, filter_range _ first (n + 1) 0 (by omega) fun p hp => by rw [key p hp]; omega]; rfl
  · obtain ⟨low, high, a1, a2, a3, a4⟩ := cutF (P := PP) (n := n) (g := st) (by omega) (by omega) (by unfold flatZ; omega)
    refine ⟨low, high, a1, a2, ?_, ?_, fun q => absurd q hs, fun _ first last f1 f2 => ?_⟩
    · intro i hi; rw [if_neg hs, talZ, if_neg hs]; exact a3 i hi
    · intro i hi; rw [if_neg hs, talZ, if_neg hs]; exact a4 i hi
    · have key : ∀ p, p < n + 1 → (decide (changeN PP x n p % (n + 1) = k) = true ↔ first ≤ p ∧ p ≤ last) := fun p hp => by
        rw [decide_eq_true_iff, change_iff h1 h2 hl (by omega) hk hst, rise_iff (g := st) (by omega) a1 a2 a3 a4 (by omega) f1 f2]
      have hfi := f1.le
      have hla := f2.le
      rw [filter_range _ first (n + 1) (last + 1 - first) (by omega) fun p hp => by rw [key p hp]; omega, List.map_map]
      rfl
end
end Mine
theorem PySem.Challenge.cw_sn0011_01_holds : PySem.Challenge.rw_sn0011_01.Holds := by
  exact Mine.law_holds (Mine.law_run fun PP x n h1 h2 hl => Mine.dues PP x n h1 h2 hl)
