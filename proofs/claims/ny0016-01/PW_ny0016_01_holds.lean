import PyProof.Rows.All
import Wide.All
import OpenK.AllK
import Wide.FinOn
import PySem.Challenge.RW_ny0016_01
set_option Elab.async false

section
open PySem PySem.W PyProof.Rows
namespace Mine
set_option maxRecDepth 100000
set_option maxHeartbeats 8000000
open_top hd for PySem.Challenge.rw_ny0016_01
end Mine
end

section
open PySem PySem.W PyProof.Rows PySem.Calls
set_option maxRecDepth 100000
namespace Mine

/-- an exception whose chain of contexts has at most two members -/
def HChain (h : Heap) : Option Value → List Addr → Prop
  | none, as => as = []
  | some v, as => (∃ a o vs, v = .ref a ∧ as = [a] ∧ h.get? a = some o ∧ o.data = .fields vs ∧ vs[2]? = some .none) ∨
      (∃ a o vs b o' vs', v = .ref a ∧ as = [a, b] ∧ h.get? a = some o ∧ o.data = .fields vs ∧ vs[2]? = some (.ref b) ∧ b ≠ a ∧ h.get? b = some o' ∧ o'.data = .fields vs' ∧ vs'[2]? = some .none)
theorem HChain.at {h h' : Heap} {v : Option Value} {as : List Addr} (x : HChain h v as) (k : ∀ b ∈ as, ∀ o, h.get? b = some o → h'.get? b = some o) : HChain h' v as := by
  cases v with
  | none => exact x
  | some v =>
    rcases x with ⟨a, o, vs, rfl, rfl, ho, hd, h2⟩ | ⟨a, o, vs, b, o', vs', rfl, rfl, ho, hd, h2, hne, hb, hd', h2'⟩
    · exact .inl ⟨a, o, vs, rfl, rfl, k a (by simp) o ho, hd, h2⟩
    · exact .inr ⟨a, o, vs, b, o', vs', rfl, rfl, k a (by simp) o ho, hd, h2, hne, k b (by simp) o' hb, hd', h2'⟩
theorem HChain.there {h : Heap} {v : Option Value} {as : List Addr} (x : HChain h v as) : ∀ b ∈ as, ∃ o, h.get? b = some o := by
  cases v with
  | none => intro b hb; rw [show as = [] from x] at hb; cases hb
  | some v =>
    rcases x with ⟨a, o, vs, rfl, rfl, ho, hd, h2⟩ | ⟨a, o, vs, b, o', vs', rfl, rfl, ho, hd, h2, hne, hb, hd', h2'⟩
    · intro b hb; simp at hb; subst hb; exact ⟨o, ho⟩
    · intro c hc; simp at hc; rcases hc with rfl | rfl
      · exact ⟨o, ho⟩
      · exact ⟨o', hb⟩

theorem entry_unchain : entryFor table "proto.unchain" = some Builtin.«proto.unchain» := entryFor_of_tree (by kernel_rfl)
theorem plain_unchain : plainId "proto.unchain" = true := by decide +kernel

theorem wpAny_raiseNewH {α : Type} {prog : Program} {w : World} {A : Around} {s : Shared} {E : Value → Shared → Prop} {Q : α → Shared → Prop} {e : Addr} {oe : Obj} {evs : Array Value} {as : List Addr}
    (hc : HChain s.heap A.handled as) (he : s.heap.get? e = some oe) (hed : oe.data = .fields evs) (hsz : 2 < evs.size) (hne : e ∉ as)
    (h : ∀ h', Heap.SameBut e s.heap h' → (∃ o vs c, h'.get? e = some o ∧ o.cls = oe.cls ∧ o.data = .fields vs ∧ vs.size = evs.size ∧ (∀ i, i ≠ 2 → vs[i]? = evs[i]?) ∧ vs[2]? = some c ∧ (A.handled = none → vs[2]? = evs[2]?) ∧ (∀ v, A.handled = some v → c = v)) → E (.ref e) { s with heap := h' }) :
    wpAny (model prog w) A (raiseNew (.ref e) : Sem α) Q E s := by
  unfold raiseNew
  refine wpAny_bind (wpAny_handled ?_)
  have same : ∀ x : Value, ∃ o vs c, (s.heap.update e (Obj.mapFields (·.setIfInBounds 2 x))).get? e = some o ∧ o.cls = oe.cls ∧ o.data = .fields vs ∧ vs.size = evs.size ∧ (∀ i, i ≠ 2 → vs[i]? = evs[i]?) ∧ vs[2]? = some c ∧ c = x := fun x =>
    ⟨_, _, x, Heap.get?_update_self _ he (Obj.isFreed_of_fields (Obj.data_mapFields hed _)), Obj.cls_mapFields .., Obj.data_mapFields hed _, by simp, by intro i hi; simp [Ne.symm hi], by simp [hsz], rfl⟩
  cases hA : A.handled with
  | none =>
    refine wpAny_bind (wpAny_pure (wpAny_throw (h s.heap (.refl ..) ⟨oe, evs, evs[2], he, rfl, hed, rfl, fun _ _ => rfl, by simp [hsz], (fun _ => rfl), (fun v hv => by rw [hA] at hv; cases hv)⟩)))
  | some v =>
    rw [hA] at hc
    have fin : ∀ v : Value, A.handled = some v → wpAny (model prog w) A (updateField e 2 v >>= fun _ => (throw (.ref e) : Sem α)) Q E s := fun v hv =>
      wpAny_bind (by
        refine wpAny_setField (a := e) he hed hsz (wpAny_throw (h _ (Heap.SameBut.update ..) ?_))
        obtain ⟨o, vs, c, q1, q2, q3, q4, q5, q6, q7⟩ := same v
        exact ⟨o, vs, c, q1, q2, q3, q4, q5, q6, (fun z => by rw [hA] at z; cases z), (fun v' hv' => by rw [hv] at hv'; cases hv'; exact q7)⟩)
    rcases hc with ⟨a, o, vs, rfl, rfl, ho, hd, h2⟩ | ⟨a, o, vs, b, o', vs', rfl, rfl, ho, hd, h2, hab, hb, hd', h2'⟩
    · have hea : e ≠ a := fun q => hne (by simp [q])
      show wpAny _ _ (if (Value.ref a != Value.ref e) = true then _ else _) _ _ _
      rw [if_pos (by simp [bne_iff_ne, Ne.symm hea])]
      refine wpAny_bind (wpAny_holding (wpAny_runValue (codeAny_builtin entry_unchain ?_)))
      rw [Around.under_plainId plain_unchain]
      unfold Builtin.«proto.unchain»
      refine wpAny_bind (wpAny_field ho hd h2 ?_)
      exact wpAny_pure (fin _ hA)
    · have hea : e ≠ a := fun q => hne (by simp [q])
      have heb : e ≠ b := fun q => hne (by simp [q])
      show wpAny _ _ (if (Value.ref a != Value.ref e) = true then _ else _) _ _ _
      rw [if_pos (by simp [bne_iff_ne, Ne.symm hea])]
      refine wpAny_bind (wpAny_holding (wpAny_runValue (codeAny_builtin entry_unchain ?_)))
      rw [Around.under_plainId plain_unchain]
      unfold Builtin.«proto.unchain»
      refine wpAny_bind (wpAny_field ho hd h2 ?_)
      have n1 : ¬ (Value.ref b == Value.none) = true := by simp
      have n2 : ¬ (Value.ref b == Value.ref e) = true := by simp [Ne.symm heb]
      have n3 : ¬ (Value.ref b == Value.ref a) = true := by simp [hab]
      simp only [n1, n2, n3]
      refine wpAny_bind (wpAny_pure ?_)
      refine wpAny_pure ⟨plainId_quiet plain_unchain _, codeAny_builtin entry_unchain ?_⟩
      rw [Around.under_plainId plain_unchain]
      unfold Builtin.«proto.unchain»
      refine wpAny_bind (wpAny_field hb hd' h2' ?_)
      exact wpAny_pure (fin _ hA)

section
variable {prog : Program} {w : World} {A : Around} {E : Value → Shared → Prop} {s : Shared}
theorem next_end {it l : Addr} {i : Nat} {items : Array Value} {Q : Option Value → Shared → Prop} {as : List Addr} (hh : HChain s.heap A.handled as)
    (hit : s.heap.IsListIter it l i) (hl : s.heap.IsList l items) (hx : items[i]? = none) (hni : it ∉ as)
    (hQ : ∀ h', Heap.ExtBut it s.heap h' → Q none { s with heap := h' }) : wpAny (model prog w) A (pyNext (.ref it)) Q E s := by
  obtain ⟨o, ho, hc, hd⟩ := id hit
  obtain ⟨ol, hol, _, nl, hdl⟩ := hl
  unfold pyNext
  refine wpAny_bind (wpAny_attempt (wpAny_callSpecial?_slot (name := Str.ofString "__next__") hit.typeIs slot_listiter_next
    (wpAny_call_entry slot_listiter_next hit.typeIs entry_listiter_next ?_ (args_listiter_next _))))
  show wpAny _ _ (field (.ref it) 0 >>= _) _ _ s
  refine wpAny_bind (wpAny_field ho hd (x := .ref l) rfl ?_)
  show wpAny _ _ (if (Value.ref l == Value.none) = true then _ else _) _ _ s
  rw [if_neg (show ¬ ((Value.ref l == Value.none) = true) from Bool.false_ne_true)]
  show wpAny _ _ (field (.ref it) 1 >>= _) _ _ s
  refine wpAny_bind (wpAny_field ho hd (x := .int i 0) rfl ?_)
  show wpAny _ _ (seqItems? (.ref l) >>= _) _ _ s
  refine wpAny_bind (wpAny_seqItems hol hdl ?_)
  simp only [Int.toNat_natCast, hx]
  refine wpAny_bind (wpAny_rule (wpAny_bind (wpAny_setField ho hd (by simp) ?_)))
  show wpAny _ _ (newExc (.type "StopIteration") [] >>= _) _ _ _
  refine wpAny_bind ?_
  simp only [newExc, newTuple]
  refine wpAny_bind (wpAny_newObj_type ?_ (by size_fits))
  refine wpAny_bind (m := firstArgMember _ _) (wpAny_of_eq (a := Value.none) (by first | rfl | (simp only [firstArgMember]; rfl)) ?_)
  refine wpAny_newObj_type ?_ (by size_fits)
  have hE1 := ((Heap.SameBut.update (h := s.heap) (a := it) (f := Obj.mapFields (·.setIfInBounds 0 Value.none))).extBut.push ({ cls := .type "tuple", data := .seq ([] : List Value).toArray } : Obj))
  refine wpAny_raiseNewH (as := as) (hh.at fun b hb o' e => ?_) (Heap.get?_push_size _ rfl) rfl (by simp; omega) (fun hm => ?_) fun h' hs' hthere => ?_
  · exact Heap.get?_push_of_some _ (hE1 b o' (fun q => hni (q ▸ hb)) e)
  · obtain ⟨o', e⟩ := hh.there _ hm
    have := Heap.lt_size (hE1 _ o' (fun q => hni (q ▸ hm)) e)
    exact absurd this (Nat.lt_irrefl _)
  · obtain ⟨o₂, vs₂, c₂, q1, q2, q3, -⟩ := hthere
    refine wpAny_bind (wpAny_isInstance (T := "StopIteration") (b := true) ⟨_, q1, q2⟩ isSubtype_stop ?_)
    refine wpAny_pure (hQ _ fun b o' hb e => ?_)
    have e1 := hE1 b o' hb e
    exact hs'.extBut b o' (fun q => absurd (Heap.lt_size e1) (by rw [q]; exact Nat.lt_irrefl _)) (Heap.get?_push_of_some _ e1)

theorem walksH (as : List Addr) (I ax : Addr) (hne : ax ≠ I) (hI : I ∉ as) (items : Array Value) :
    Walks prog w A I (I :: ax :: as) [I] items.size (fun i v => items[i]? = some v) (fun i h => h.IsListIter I ax i ∧ h.IsList ax items ∧ HChain h A.handled as) where
  sub := fun b hb => by simp at hb; simp [hb]
  frame := fun _ _ _ st hk => ⟨st.1.at fun o e => hk I (by simp) o e, st.2.1.at fun o e => hk ax (by simp) o e, st.2.2.at fun b hb o e => hk b (by simp [hb]) o e⟩
  item := fun i s Q E hi st hQ => by
    refine wpAny_pyNext_list_item st.1 st.2.1 (x := items[i]) (by simp [hi]) fun h' hit' hs' => ?_
    exact hQ _ h' s.toks (by simp [hi]) ⟨hit', st.2.1.extBut hs'.extBut hne, st.2.2.at fun b hb o e => hs'.extBut b o (fun q => hI (q ▸ hb)) e⟩ fun b o hb e => hs'.extBut b o (fun h => hb (by simp [h])) e
  done := fun s Q E st hQ => next_end st.2.2 st.1 st.2.1 (by simp) hI fun h' he' => hQ h' s.toks fun b o hb e => he' b o (fun h => hb (by simp [h])) e
  self := fun _ _ _ _ st hQ => wpAny_pyIter_listiter st.1 hQ

/-- an env of a def: function scope, main's globals, the built-ins -/
structure FEnv (env : Env) (sc : Scope) : Prop where
  scope : env.scope = sc
  kind : sc.kind = .function
  glob : env.globals = mainGlobals
  blt : env.builtins = builtinsNs

variable {env : Env} {sc : Scope}
theorem FEnv.k (F : FEnv env sc) : env.scope.kind = .function := by rw [F.scope]; exact F.kind
theorem FEnv.kd (F : FEnv env sc) (x : Str) {k : NameKind} (h : sc.names.lookup x = some k) : env.kindOf x = some k := by rw [Env.kindOf, F.scope]; exact h
theorem FEnv.hp (F : FEnv env sc) : (env.scope.kind == .class || (env.scope.kind == .module && env.locals != env.globals)) = false := by rw [F.k]; rfl

theorem nmL {x : Str} {pos : Pos} {m : Str → Option Value} {v : Value} {Q : Value → Shared → Prop} (F : FEnv env sc) (hl : sc.names.lookup x = some .local) (hn : s.heap.Ns env.locals m) (hv : m x = some v) (h : Q v s) (hd : (x == ("__debug__" : Str)) = false := by decide) :
    wpAny (model prog w) A (eval (.Name x pos) env) Q E s := wpAny_Name (wpAny_loadName_local F.k (F.kd x hl) hn hv h) hd
theorem nmG {x : Str} {pos : Pos} {mg : Str → Option Value} {v : Value} {Q : Value → Shared → Prop} (F : FEnv env sc) (hl : sc.names.lookup x = some .globalImplicit) (hn : s.heap.Ns mainGlobals mg) (hv : mg x = some v) (h : Q v s) (hd : (x == ("__debug__" : Str)) = false := by decide) :
    wpAny (model prog w) A (eval (.Name x pos) env) Q E s := Name_function_global F.k (F.kd x hl) (loadGlobal_global (by rw [F.glob]; exact hn) hv h) hd
theorem nmB {x : Str} {pos : Pos} {mg mb : Str → Option Value} {v : Value} {Q : Value → Shared → Prop} (F : FEnv env sc) (hl : sc.names.lookup x = some .globalImplicit) (hn : s.heap.Ns mainGlobals mg) (hmiss : mg x = none) (hb : s.heap.Ns builtinsNs mb) (hv : mb x = some v) (h : Q v s) (hd : (x == ("__debug__" : Str)) = false := by decide) :
    wpAny (model prog w) A (eval (.Name x pos) env) Q E s := Name_function_global F.k (F.kd x hl) (loadGlobal_builtin (by rw [F.glob]; exact hn) hmiss (by rw [F.blt]; exact hb) hv h) hd
theorem stL {x : Str} {m : Str → Option Value} {v : Value} {h₀ : Heap} {Q : Unit → Shared → Prop} (F : FEnv env sc) (hl : sc.names.lookup x = some .local) (hF : Fr h₀ env.locals s.heap m)
    (h : ∀ h', Fr h₀ env.locals h' (fun y => if y = x then some v else m y) → Heap.SameBut env.locals s.heap h' → Q () { s with heap := h', toks := s.toks + 1 }) :
    wpAny (model prog w) A (storeName env x v) Q E s :=
  wpAny_storeName_local (F.kd x hl) hF.ns (fun h' hn hs => h h' (hF.set hn hs) hs) F.hp
end

/-- what every heap of the call bears of the top -/
structure GR (P : Params) (mg mb : Str → Option Value) (h : Heap) : Prop where
  X : (hd.heap_39 P).In h
  g : h.Ns mainGlobals mg
  b : h.Ns builtinsNs mb
  lim : h.NoLimit
  bm : ∀ x : Str, x ≠ "__name__" → mb x = bootBuiltins x
theorem GR.keeps {P : Params} {mg mb : Str → Option Value} {h h' : Heap} (G : GR P mg mb h) (k : ∀ b o, h.get? b = some o → h'.get? b = some o) : GR P mg mb h' :=
  ⟨G.X.keeps k, G.g.keeps k, G.b.keeps k, G.lim.keeps k, G.bm⟩
noncomputable def fdAt (a : Addr) (P : Params) : FuncData := match (hd.heap_39 P).lookup a with
  | some ⟨_, _, .func fd, _⟩ => fd
  | _ => default
noncomputable def bodyAt (a : Addr) (P : Params) : List Stmt := match (fdAt a P).body with
  | .stmts b => b
  | _ => []
noncomputable def scAt (a : Addr) (P : Params) : Scope := (fdAt a P).scope

section
variable {prog : Program} {w : World} {A : Around} {E : Value → Shared → Prop} {s : Shared} {env : Env} {sc : Scope} {mg mb : Str → Option Value}
theorem gName {x : Str} {pos : Pos} {v : Value} {Q : Value → Shared → Prop} (F : FEnv env sc) (hl : sc.names.lookup x = some .globalImplicit) (G : GR w.params mg mb s.heap) (e : nsIn (hd.heap_39 w.params) mainGlobals x = some (some v)) (h : Q v s) (hd : (x == ("__debug__" : Str)) = false := by decide) :
    wpAny (model prog w) A (eval (.Name x pos) env) Q E s := nmG F hl G.g (mg_of G.X G.g e) h hd
theorem bName {x : Str} {pos : Pos} {v : Value} {Q : Value → Shared → Prop} (F : FEnv env sc) (hl : sc.names.lookup x = some .globalImplicit) (G : GR w.params mg mb s.heap) (e : nsIn (hd.heap_39 w.params) mainGlobals x = some none) (hb : bootBuiltins x = some v) (h : Q v s) (hn : x ≠ "__name__" := by decide) (hd : (x == ("__debug__" : Str)) = false := by decide) :
    wpAny (model prog w) A (eval (.Name x pos) env) Q E s := nmB F hl G.g (mg_none_of G.X G.g e) G.b ((G.bm x hn).trans hb) h hd

theorem callAt {a : Addr} {o : Obj} {args : Args} {binds : List (Str × Value)} {body : List Stmt} {R : Result → Shared → Prop} (G : GR w.params mg mb s.heap) (hroom : A.depth < recursionLimit)
    (ho : (hd.heap_39 w.params).lookup a = some o) (hdata : o.data = .func (fdAt a w.params)) (hbody : (fdAt a w.params).body = .stmts body) (hcd : codeIn (hd.heap_39 w.params) (fdAt a w.params).code (fdAt a w.params).qualname = true) (hbind : BindsTo s (fdAt a w.params) args binds)
    (hcell : ((fdAt a w.params).scope.names.all fun x => decide (x.2 ≠ .cell)) = true) (hloc : ∀ x ∈ binds, (fdAt a w.params).scope.names.lookup x.1 = some .local)
    (hgl : (fdAt a w.params).globals = mainGlobals) (hbl : (fdAt a w.params).builtins = builtinsNs) (hk : (fdAt a w.params).scope.kind = .function) (hco : (fdAt a w.params).scope.isCoroutine = false) (hgen : (fdAt a w.params).scope.isGenerator = false)
    (h : ∀ env h₁, FEnv env (scAt a w.params) → env.locals = s.heap.objs.size → env.frame = some s.heap.objs.size → Fr s.heap env.locals h₁ (fun x => binds.reverse.lookup x) →
      wpAny (model prog w) (A.deeper env) (execs body env) (fun f s' => R (.ok (.ret (match f with | .ret v => v | _ => .none))) s')
        (fun e s' => wpAny (model prog w) (A.deeper env) (leaving env e) (fun _ s'' => R (.error e) s'') (fun e' s'' => R (.error e') s'') s') { s with heap := h₁, toks := s.toks + binds.length }) :
    codeAny (model prog w) A (.call (.ref a) args) R s :=
  codeAny_call_def hroom (G.X _ _ ho) hdata G.lim (codeRec_of G.X hcd) hbody hbind (fun x hx => of_decide_eq_true (List.all_eq_true.mp hcell x hx)) hloc (fun h₁ hns hk₁ => h _ h₁ ⟨rfl, hk, hgl, hbl⟩ rfl rfl ⟨hns, hk₁, Nat.le_refl _⟩) hco hgen hk
end
end Mine
end

section
open PySem PySem.W PyProof.Rows PySem.Calls PySem.SeqAt
set_option maxRecDepth 100000
namespace Mine

def row2d (r : List Str) : PyData := .list (r.map .str)
def dd {α : Type} [DecidableEq α] (l : List α) : List α := l.foldl (fun acc r => if r ∈ acc then acc else acc ++ [r]) []
theorem dd_snoc {α : Type} [DecidableEq α] (l : List α) (r : α) : dd (l ++ [r]) = if r ∈ dd l then dd l else dd l ++ [r] := by unfold dd; rw [List.foldl_append]; rfl

def RowOk (r : List Str) : Prop := ∀ x ∈ r, PyData.strOk x = true
theorem strs_canLay : ∀ r : List Str, RowOk r → PyData.canLayAll0 (r.map .str) = true
  | [], _ => rfl
  | x :: r, h => by simp [PyData.canLayAll0, PyData.canLay0, strs_canLay r fun y hy => h y (List.mem_cons_of_mem _ hy), h x List.mem_cons_self]
theorem row_canLay {r : List Str} (h : RowOk r) : (row2d r).canLay0 = true := by simp [row2d, PyData.canLay0, strs_canLay r h]
theorem rows_canLay : ∀ rs : List (List Str), (∀ r ∈ rs, RowOk r) → PyData.canLayAll0 (rs.map row2d) = true
  | [], _ => rfl
  | r :: rs, h => by simp [PyData.canLayAll0, row_canLay (h r List.mem_cons_self), rows_canLay rs fun y hy => h y (List.mem_cons_of_mem _ hy)]
theorem strs_depth : ∀ r : List Str, PyData.depthAll (r.map .str) ≤ 1
  | [] => by simp [PyData.depthAll]
  | x :: r => by have := strs_depth r; simp [PyData.depthAll, PyData.depth]; omega
theorem row_depth (r : List Str) : (row2d r).depth ≤ 2 := by have := strs_depth r; simp [row2d, PyData.depth]; omega
theorem strs_eqv : ∀ a b : List Str, PyData.eqvAll (a.map .str) (b.map .str) = decide (a = b)
  | [], [] => by simp [PyData.eqvAll]
  | [], _ :: _ => by simp [PyData.eqvAll]
  | _ :: _, [] => by simp [PyData.eqvAll]
  | x :: a, y :: b => by
    simp only [List.map_cons, PyData.eqvAll, PyData.eqv, strs_eqv a b]
    by_cases h : x = y <;> by_cases h' : a = b <;> simp [h, h']
theorem row_eqv (a b : List Str) : PyData.eqv (row2d a) (row2d b) = decide (a = b) := by simp [row2d, PyData.eqv, strs_eqv]
theorem any_row (rs : List (List Str)) (r : List Str) : ((rs.map row2d).any fun y => PyData.eqv y (row2d r)) = decide (r ∈ rs) := by
  induction rs with
  | nil => simp
  | cons x rs ih => simp only [List.map_cons, List.any_cons, ih, row_eqv]; by_cases h : x = r <;> by_cases h' : r ∈ rs <;> simp [h, h'] <;> exact fun q => h q.symm

/-- rows of texts at values, by member -/
def RowsAt (h : Heap) (vs : List Value) (rs : List (List Str)) : Prop := (∀ r ∈ rs, RowOk r) ∧ ∃ as, ReadsAll h vs (rs.map row2d) as
theorem RowsAt.keeps {h h' : Heap} {vs : List Value} {rs : List (List Str)} (x : RowsAt h vs rs) (k : ∀ b o, h.get? b = some o → h'.get? b = some o) : RowsAt h' vs rs := let ⟨ok, as, r⟩ := x; ⟨ok, as, ReadsAll.keeps k r⟩
theorem RowsAt.nil {h : Heap} : RowsAt h [] [] := ⟨(fun _ h => nomatch h), [], .nil⟩
theorem readsAll_append {h : Heap} : ∀ {vs ws : List Value} {ds es : List PyData} {as bs : List Addr}, ReadsAll h vs ds as → ReadsAll h ws es bs → ∃ cs, ReadsAll h (vs ++ ws) (ds ++ es) cs
  | _, _, _, _, _, bs, .nil, r => ⟨bs, r⟩
  | _, _, _, _, _, _, .cons a b, r => let ⟨_, q⟩ := readsAll_append b r; ⟨_, .cons a q⟩
theorem RowsAt.append {h : Heap} {vs ws : List Value} {rs qs : List (List Str)} (x : RowsAt h vs rs) (y : RowsAt h ws qs) : RowsAt h (vs ++ ws) (rs ++ qs) := by
  obtain ⟨ok, as, x⟩ := x; obtain ⟨ok', bs, y⟩ := y
  unfold RowsAt
  rw [List.map_append]
  exact ⟨fun r hr => (List.mem_append.mp hr).elim (ok r) (ok' r), readsAll_append x y⟩
theorem RowsAt.length {h : Heap} {vs : List Value} {rs : List (List Str)} (x : RowsAt h vs rs) : vs.length = rs.length := by
  obtain ⟨_, as, r⟩ := x
  have := SeqAt.ReadsAll.length _ _ _ r
  simpa using this
theorem readsAll_get {h : Heap} : ∀ {vs : List Value} {ds : List PyData} {as : List Addr}, ReadsAll h vs ds as → ∀ (i : Nat) (v : Value), vs[i]? = some v → ∃ d bs, ds[i]? = some d ∧ Reads h v d bs
  | _, _, _, .nil, i, v, e => by simp at e
  | _, _, _, .cons a b, 0, v, e => by simp at e; subst e; exact ⟨_, _, rfl, a⟩
  | _, _, _, .cons a b, i + 1, v, e => by simp at e; obtain ⟨d, bs, h1, h2⟩ := readsAll_get b i v e; exact ⟨d, bs, by simpa using h1, h2⟩
theorem RowsAt.get {h : Heap} {vs : List Value} {rs : List (List Str)} (x : RowsAt h vs rs) {i : Nat} {v : Value} (e : vs[i]? = some v) : ∃ r bs, rs[i]? = some r ∧ RowOk r ∧ Reads h v (row2d r) bs := by
  obtain ⟨ok, as, x⟩ := x
  obtain ⟨d, bs, h1, h2⟩ := readsAll_get x i v e
  rw [List.getElem?_map] at h1
  obtain ⟨r, hr, rfl⟩ := Option.map_eq_some_iff.mp h1
  exact ⟨r, bs, hr, ok r (List.mem_of_getElem? hr), h2⟩
theorem RowsAt.one {h : Heap} {v : Value} {r : List Str} {bs : List Addr} (ok : RowOk r) (x : Reads h v (row2d r) bs) : RowsAt h [v] [r] := ⟨fun q hq => (List.mem_singleton.mp hq) ▸ ok, _, .cons x .nil⟩

section
variable {prog : Program} {w : World} {A : Around} {s : Shared} {E : Value → Shared → Prop}
theorem dedup_body {env : Env} {h₀ : Heap} {l : Addr} {vs : List Value} {rs : List (List Str)} {hcs : List Addr} {Q : Flow → Shared → Prop}
    (FE : FEnv env (scAt 29 w.params)) (hu : A.units + 70 < cLine) (hh : HChain h₀ A.handled hcs)
    (hl : h₀.IsList l vs.toArray) (hr : RowsAt h₀ vs rs) (hsz : vs.length ≤ 4096)
    {m : Str → Option Value} (hm₀ : m (Str.ofString "unhashable_params") = some (.ref l)) (F : Fr h₀ env.locals s.heap m)
    (h : ∀ D vs' n h' tk, (∀ b o, h₀.get? b = some o → h'.get? b = some o) → h₀.get? D = none → h'.get? D = some (W.listOf vs'.toArray n) → (∀ hx, RowsAt hx vs rs → RowsAt hx vs' (dd rs)) → vs'.length ≤ vs.length → Q (.ret (.ref D)) { s with heap := h', toks := tk }) :
    wpAny (model prog w) A (execs (bodyAt 29 w.params) env) Q E s := by
  have N : News h₀ env.locals s.heap [] := News.nil
  refine wpAny_execs_cons (wpAny_Assign_Name (List_ (spliced_nil ?_)))
  refine newList_N F N (fun h₁ F₁ N₁ => ?_)
  refine stL FE rfl F₁ fun h₂ F₂ hs₂ => ?_
  have N₂ := N₁.set hs₂
  dsimp only at F₂ N₂ ⊢
  refine wpAny_execs_cons ?_
  refine wpAny_noRaise ?_
  refine For_invV h₀ (FE.kd _ rfl) FE.hp (nmL FE rfl F₂.ns ((if_neg (by decide)).trans hm₀) ?_) (hE := PassesOwn.never)
  have hl₂ : h₂.IsList l vs.toArray := hl.at fun o e => F₂.keep l o e
  have hh₂ : HChain h₂ A.handled hcs := hh.at fun b _ o e => F₂.keep b o e
  obtain ⟨ol, hol, _⟩ := id hl
  have hlt : l < h₀.objs.size := Heap.lt_size hol
  have hnew : ∀ b o, h₀.get? b = some o → b ≠ h₂.objs.size := fun b o e => Nat.ne_of_lt (Heap.lt_size (F₂.keep b o e))
  have hI : h₂.objs.size ∉ hcs := fun hm => by obtain ⟨o, e⟩ := hh.there _ hm; exact hnew _ o e rfl
  have hpush : ∀ b o, h₂.get? b = some o → (h₂.push { cls := .type "list_iterator", data := .fields #[.ref l, .int 0 0] }).get? b = some o := fun b o e => Heap.get?_push_of_some _ e
  have hD : s.heap.objs.size ≠ h₂.objs.size := Nat.ne_of_lt (Heap.lt_size (N₂.get List.mem_cons_self))
  refine wpAny_pyIter_list hl₂ ?_
  refine ⟨h₂.objs.size, _, _, vs.length, _, _, _, [(s.heap.objs.size, W.listOf #[] 0)], (fun i m news => ∃ vs' n, m (Str.ofString "new_unhashable") = some (.ref s.heap.objs.size) ∧ news = [(s.heap.objs.size, W.listOf (List.toArray vs') n)] ∧ (∀ hx, RowsAt hx vs rs → RowsAt hx vs' (dd (rs.take i))) ∧ vs'.length ≤ i),
    rfl, walksH hcs h₂.objs.size l (hnew l ol hol) hI vs.toArray, ?_, ?_, ?_, ⟨⟨_, Heap.get?_push_size _ rfl, rfl, rfl⟩, hl₂.push _, hh₂.at fun b _ o e => hpush b o e⟩, F₂.push _, N₂.grown hpush, ⟨[], 0, rfl, rfl, fun _ _ => RowsAt.nil, Nat.le_refl _⟩, ?_, ?_⟩
  · intro hm
    rcases List.mem_cons.mp hm with e | hm
    · exact absurd F₂.ns.lt (e ▸ Nat.lt_irrefl _)
    · rcases List.mem_cons.mp hm with e | hm
      · exact absurd (Nat.lt_of_lt_of_le hlt F₂.above) (e ▸ Nat.lt_irrefl _)
      · obtain ⟨o, e⟩ := hh.there _ hm
        exact absurd (Nat.lt_of_lt_of_le (Heap.lt_size e) F₂.above) (Nat.lt_irrefl _)
  · intro b hb
    rw [List.mem_singleton.mp hb]
    exact next_is_new F₂
  · intro p hp hb
    rw [List.mem_singleton.mp hp] at hb
    exact hD (List.mem_singleton.mp hb)
  · rintro i v m₁ news₁ s₁ own ⟨g₁, tk₁, rfl⟩ hi hP ⟨vs', n', hm, rfl, hrows, hlen⟩ hoff hsub hget hall hst F₃ N₃
    have hv : vs[i]? = some v := by simpa using hP
    obtain ⟨r, bs, hri, hok, hrd⟩ := hr.get hv
    have hmem : (s.heap.objs.size, W.listOf (List.toArray vs') n') ∈ own ++ [(s.heap.objs.size, W.listOf (List.toArray vs') n')] := by simp
    have hDg := (N₃ _ hmem).1
    have hneD : s.heap.objs.size ≠ env.locals := (N₃ _ hmem).2.1
    have hD0 : h₀.get? s.heap.objs.size = none := (N₃ _ hmem).2.2
    obtain ⟨okA, as', hra⟩ := hrows h₀ hr
    have htake : rs.take (i + 1) = rs.take i ++ [r] := by rw [List.take_add_one, hri]; rfl
    dsimp only at F₃ N₃ hDg
    refine wpAny_execs_cons (wpAny_If (wpAny_isTrue_Compare1 (nmL FE rfl F₃.ns rfl (nmL FE rfl F₃.ns (v := .ref s.heap.objs.size) hm ?_))))
    refine notIn_list_reads (reads_list_at hDg rfl rfl (ReadsAll.keeps F₃.keep hra)) (Reads.keeps F₃.keep hrd) (rows_canLay _ okA) (row_canLay hok) ?_ ?_
    · have := row_depth r; omega
    rw [any_row]
    refine wpAny_truthy_bool ?_
    by_cases hin : r ∈ dd (rs.take i)
    · simp only [hin, decide_true, Bool.not_true, Bool.false_eq_true, if_false]
      refine wpAny_execs_nil (wpAny_execs_nil (.next (.intro F₃ N₃ hoff ⟨vs', n', ?_, rfl, ?_, Nat.le_succ_of_le hlen⟩)))
      · exact hm
      · rw [htake, dd_snoc, if_pos hin]; exact hrows
    · simp only [hin, decide_false, Bool.not_false, if_true]
      refine wpAny_execs_cons (wpAny_Expr_any (wpAny_Call_append rfl rfl rfl rfl (nmL FE rfl F₃.ns (v := .ref s.heap.objs.size) hm ⟨_, _, rfl, ⟨_, _, hDg, rfl, rfl, rfl⟩, nmL FE rfl F₃.ns rfl ?_⟩)) (by unfold interactive; rw [FE.k]; rfl))
      refine append_at hDg (hsz := by show vs'.toArray.size ≤ sizeLine; rw [List.size_toArray]; have : i < vs.length := hi; rw [sizeLine_eq]; omega) fun h₅ hs₅ hD₅ => ?_
      refine wpAny_execs_nil (wpAny_execs_nil (.next (.intro (news₂ := [(s.heap.objs.size, W.listOf (List.toArray (vs' ++ [v])) (n' + 1))]) (F₃.change hs₅ hneD hD0) (fun p hp => ?_) ?_ ⟨vs' ++ [v], n' + 1, hm, rfl, ?_, ?_⟩)))
      · rcases List.mem_append.mp hp with hp | hp
        · have z := N₃ p (List.mem_append_left _ hp)
          refine ⟨hs₅.extBut _ _ (fun q => ?_) z.1, z.2⟩
          rcases List.mem_cons.mp (hsub p hp) with h1 | h1
          · exact hD (q.symm.trans h1)
          · have z3 := z.2.2
            rcases List.mem_cons.mp h1 with h2 | h2
            · rw [h2, hol] at z3; cases z3
            · obtain ⟨o, e⟩ := hh.there _ h2
              rw [e] at z3; cases z3
        · rw [List.mem_singleton.mp hp]
          exact ⟨by simpa using hD₅, hneD, hD0⟩
      · intro p hp hb
        rw [List.mem_singleton.mp hp] at hb
        exact hD (List.mem_singleton.mp hb)
      · rw [htake, dd_snoc, if_neg hin]
        intro hx hrx
        obtain ⟨r', bs', hri', hok', hrd'⟩ := hrx.get hv
        rw [hri] at hri'
        cases hri'
        exact RowsAt.append (hrows hx hrx) (RowsAt.one hok' hrd')
      · simp; omega
  · rintro h' tk m' news' F' N' - ⟨vs', n', hm, rfl, hrows, hlen⟩
    refine wpAny_execs_cons (wpAny_Return_some (nmL FE rfl F'.ns (v := .ref s.heap.objs.size) hm ?_))
    have hD' := N' _ (List.mem_cons_self ..)
    refine h _ vs' n' h' tk F'.keep hD'.2.2 hD'.1 ?_ hlen
    have e : rs.take vs.length = rs := List.take_of_length_le (by rw [hr.length]; exact Nat.le_refl _)
    rw [e] at hrows
    exact hrows

theorem dedup_call {mg mb : Str → Option Value} {l : Addr} {vs : List Value} {rs : List (List Str)} {hcs : List Addr} {Q : Value → Shared → Prop}
    (G : GR w.params mg mb s.heap) (hdp : A.depth < recursionLimit) (hu : A.units + 80 < cLine) (hh : HChain s.heap A.handled hcs)
    (hl : s.heap.IsList l vs.toArray) (hr : RowsAt s.heap vs rs) (hsz : vs.length ≤ 4096)
    (h : ∀ D vs' n h' tk, (∀ b o, s.heap.get? b = some o → h'.get? b = some o) → s.heap.get? D = none → h'.get? D = some (W.listOf vs'.toArray n) → (∀ hx, RowsAt hx vs rs → RowsAt hx vs' (dd rs)) → vs'.length ≤ vs.length → Q (.ref D) { s with heap := h', toks := tk }) :
    wpAny (model prog w) A (call (.ref 29) [.ref l]) Q E s := by
  refine wpAny_call (callAt (body := bodyAt 29 w.params) G hdp rfl rfl rfl rfl (BindsTo.of_eq rfl) rfl (locs rfl) rfl rfl rfl rfl rfl fun env h₁ FE hL hf F => ?_)
  exact dedup_body FE (by show A.units + 3 + 70 < cLine; omega) hh hl hr hsz rfl F fun D vs' n h' tk k1 k2 k3 k4 k5 => h D vs' n h' tk k1 k2 k3 k4 k5
end
end Mine
end

section
open PySem PySem.W PyProof.Rows PySem.Calls PySem.SeqAt
set_option maxRecDepth 100000
namespace Mine

/-- the heap h₁ stands in h, but for slots of the frames fs -/
structure Kf (fs : List Addr) (h₁ h : Heap) : Prop where
  keep : ∀ b o, b ∉ fs → h₁.get? b = some o → h.get? b = some o
  slots : ∀ b o, h₁.get? b = some o → (∀ vs, o.data ≠ .fields vs) → ∃ sl, h.get? b = some { o with slots := sl }
theorem Kf.of_keeps {fs : List Addr} {h h' : Heap} (k : ∀ b o, h.get? b = some o → h'.get? b = some o) : Kf fs h h' := ⟨fun b o _ e => k b o e, fun b o e _ => ⟨o.slots, k b o e⟩⟩
theorem Kf.refl (fs : List Addr) (h : Heap) : Kf fs h h := .of_keeps fun _ _ e => e
theorem Kf.trans {fs : List Addr} {h₁ h₂ h₃ : Heap} (x : Kf fs h₁ h₂) (y : Kf fs h₂ h₃) : Kf fs h₁ h₃ :=
  ⟨fun b o hb e => y.keep b o hb (x.keep b o hb e), fun b o e hn => let ⟨_, e₁⟩ := x.slots b o e hn; let ⟨sl, e₂⟩ := y.slots b _ e₁ hn; ⟨sl, e₂⟩⟩
theorem Kf.ns {fs : List Addr} {h h' : Heap} {a : Addr} {m : Str → Option Value} (x : Kf fs h h') (hn : h.Ns a m) : h'.Ns a m := by
  obtain ⟨o, es, ep, ho, hd, r⟩ := hn
  obtain ⟨sl, e⟩ := x.slots a o ho (fun vs q => by rw [hd] at q; cases q)
  exact ⟨_, es, ep, e, hd, r⟩

def fsOf (l : List Env) : List Addr := l.filterMap (·.frame)
/-- the frames of the stack stand in h -/
def Frames (h : Heap) : List Env → Prop
  | [] => True
  | env :: l => env.scope.kind ≠ .module ∧ (∃ L o, env.frame = some L ∧ h.get? L = some o ∧ ∀ vs, o.data ≠ .fields vs) ∧ Frames h l
theorem Frames.kf {fs : List Addr} {h h' : Heap} (k : Kf fs h h') : ∀ {l : List Env}, Frames h l → Frames h' l
  | [], _ => trivial
  | _ :: _, ⟨h1, ⟨L, o, hf, ho, hn⟩, r⟩ => ⟨h1, let ⟨_, e⟩ := k.slots L o ho hn; ⟨L, _, hf, e, hn⟩, Frames.kf k r⟩
theorem Frames.mem {h : Heap} : ∀ {l : List Env}, Frames h l → ∀ b ∈ fsOf l, ∃ o, h.get? b = some o ∧ ∀ vs, o.data ≠ .fields vs
  | [], _, b, hb => by simp [fsOf] at hb
  | env :: l, ⟨h1, ⟨L, o, hf, ho, hn⟩, r⟩, b, hb => by
    rw [fsOf, List.filterMap_cons, hf] at hb
    rcases List.mem_cons.mp hb with rfl | hb
    · exact ⟨o, ho, hn⟩
    · exact Frames.mem r b hb
theorem Frames.fun {h h' : Heap} {fs : List Addr} (k : Kf fs h h') : ∀ {l : List Env}, (∀ b ∈ fsOf l, b ∈ fs) → Frames h l → h'.FunFrames (TI.gone h fs) l
  | [], _, _ => trivial
  | env :: l, hs, ⟨h1, ⟨L, o, hf, ho, hn⟩, r⟩ => by
    obtain ⟨sl, e⟩ := k.slots L o ho hn
    have hL : L ∈ fsOf (env :: l) := by rw [fsOf, List.filterMap_cons, hf]; exact List.mem_cons_self ..
    exact ⟨h1, ⟨L, _, hf, TI.gone_none (hs L hL), e, hn⟩, Frames.fun k (fun b hb => hs b (by rw [fsOf, List.filterMap_cons, hf]; exact List.mem_cons_of_mem _ hb)) r⟩

/-- an exception that is under way: e, new since h₁; its context c; its traceback none, or an entry with the flight mark fl -/
structure ExcAt (fs : List Addr) (h₁ h : Heap) (e : Addr) (X : String) (c : Value) (fl : Option Value) : Prop where
  kf : Kf fs h₁ h
  new : h₁.get? e = none
  there : ∃ ob vs, h.get? e = some ob ∧ ob.cls = .type X ∧ ob.data = .fields vs ∧ vs[2]? = some c ∧
    match fl with
    | none => vs[1]? = some .none
    | some f => ∃ T oT ts, vs[1]? = some (.ref T) ∧ h₁.get? T = none ∧ T ≠ e ∧ h.get? T = some oT ∧ oT.data = .fields ts ∧ ts[3]? = some f

section
variable {M : Model} {A : Around} {s : Shared} {E : Value → Shared → Prop} {env : Env} {outer : List Env} {fs : List Addr} {h₁ : Heap} {e : Addr} {X : String} {c : Value} {Q : Unit → Shared → Prop}

theorem note_entry {L : Addr} {head : Value} {hadNext : Bool} {oe : Obj} {vs : Array Value}
    (hfr : A.frames = some (env :: outer)) (hF : Frames h₁ (env :: outer)) (hfs : fs = fsOf (env :: outer)) (hf : env.frame = some L)
    (kf : Kf fs h₁ s.heap) (new : h₁.get? e = none) (he : s.heap.get? e = some oe) (hcls : oe.cls = .type X) (hd : oe.data = .fields vs) (h2 : vs[2]? = some c)
    (h : ∀ h', ExcAt fs h₁ h' e X c (some (rawInt L)) → Q () { s with heap := h' }) :
    wpAny M A (do let a ← frameOf env; let pl ← entryPlaceOf L hadNext; let b ← EntryCells.newEntry head a .none (rawInt L) .none pl; setField (.ref e) 1 b) Q E s := by
  have hl := hF.fun kf (fun b hb => hfs ▸ hb)
  have hsz2 : 2 < vs.size := (Array.getElem?_eq_some_iff.mp h2).1
  have hsz : 1 < vs.size := by omega
  have hene : e ∉ (env :: outer).filterMap (·.frame) := fun hm => by
    obtain ⟨_, o, ho, hnf⟩ := hl.mem hm
    rw [he] at ho; injection ho with ho; subst ho; exact hnf vs hd
  refine wpAny_bind (wpAny_frameOf_fun hfr hl hf fun h₂ hs₂ => ?_)
  refine wpAny_bind (wpAny_entryPlaceOf fun pl hpl => ?_)
  unfold EntryCells.newEntry newFields
  refine wpAny_bind (wpAny_newObj_type ?_ (hpl.sizeOk5 _ _ _ _ _))
  have he₁ : h₂.get? e = some oe := (hs₂.2.1 e hene).trans he
  have he₂ := Heap.get?_push_of_some (h := h₂) { cls := .type "traceback", dict := none, data := .fields ([head, .ref L, .none, rawInt L, .none] ++ (if pl.isEmpty then List.replicate 6 Value.none else pl)).toArray } he₁
  refine wpAny_setField he₂ hd hsz (h _ ?_)
  have hTe : h₂.objs.size ≠ e := Nat.ne_of_gt (Heap.lt_size he₁)
  have hd₃ := Obj.data_mapFields hd (·.setIfInBounds 1 (Value.ref h₂.objs.size))
  have he₃ := Heap.get?_update_self (Obj.mapFields (·.setIfInBounds 1 (Value.ref h₂.objs.size))) he₂ (Obj.isFreed_of_fields hd₃)
  have hT₃ := (Heap.get?_update_other (h₂.push { cls := .type "traceback", dict := none, data := .fields ([head, .ref L, .none, rawInt L, .none] ++ (if pl.isEmpty then List.replicate 6 Value.none else pl)).toArray })
    (Obj.mapFields (·.setIfInBounds 1 (Value.ref h₂.objs.size))) (Ne.symm hTe)).trans (Heap.get?_push_size h₂ rfl)
  have keep : ∀ b o, b ≠ e → h₂.get? b = some o →
      ((h₂.push { cls := .type "traceback", dict := none, data := .fields ([head, .ref L, .none, rawInt L, .none] ++ (if pl.isEmpty then List.replicate 6 Value.none else pl)).toArray }).update e (Obj.mapFields (·.setIfInBounds 1 (Value.ref h₂.objs.size)))).get? b = some o :=
    fun b o hbe hb => by
      rw [Heap.get?_update_other _ _ (Ne.symm hbe)]
      exact Heap.get?_push_of_some _ hb
  have old : ∀ b o, h₁.get? b = some o → b ≠ e := fun b o hb q => by rw [q, new] at hb; cases hb
  refine ⟨⟨fun b o hb hbo => keep b o (old b o hbo) ((hs₂.2.1 b (by rw [hfs] at hb; exact hb)).trans (kf.keep b o hb hbo)), fun b o hbo hn => ?_⟩, new, ?_⟩
  · obtain ⟨sl, q⟩ := kf.slots b o hbo hn
    obtain ⟨sl', q'⟩ := hs₂.2.2 b _ q
    exact ⟨sl', keep b _ (old b o hbo) q'⟩
  · refine ⟨_, _, he₃, (Obj.cls_mapFields _ _).trans hcls, hd₃, by rw [Array.getElem?_setIfInBounds_ne (by decide)]; exact h2, h₂.objs.size, _, _, by simp [hsz], ?_, hTe, hT₃, rfl, by first | (simp; done) | (rcases hpl with rfl | ⟨_, _, _, _, _, _, _, rfl⟩ <;> simp)⟩
    cases hq : h₁.get? h₂.objs.size with
    | none => rfl
    | some o =>
      have hlt : h₂.objs.size < s.heap.objs.size := by
        by_cases hm : h₂.objs.size ∈ fs
        · obtain ⟨o', q1, _⟩ := hF.mem _ (hfs ▸ hm)
          rw [hq] at q1; cases q1
          obtain ⟨o'', q2, q3⟩ := hF.mem _ (hfs ▸ hm)
          rw [hq] at q2; cases q2
          obtain ⟨sl, q⟩ := kf.slots _ _ hq q3
          exact Heap.lt_size q
        · exact Heap.lt_size (kf.keep _ o hm hq)
      rw [hs₂.1] at hlt
      exact absurd hlt (Nat.lt_irrefl _)

theorem note_first {L : Addr} (hfr : A.frames = some (env :: outer)) (hF : Frames h₁ (env :: outer)) (hfs : fs = fsOf (env :: outer)) (hf : env.frame = some L)
    (x : ExcAt fs h₁ s.heap e X c none) (h : ∀ h', ExcAt fs h₁ h' e X c (some (rawInt L)) → Q () { s with heap := h' }) : wpAny M A (noteFrame (.ref e) env) Q E s := by
  obtain ⟨kf, new, ob, vs, he, hcls, hd, h2, h1⟩ := x
  unfold noteFrame
  simp only [hf]
  refine wpAny_bind (wpAny_field he hd h1 ?_)
  rw [if_neg (by decide)]
  exact note_entry hfr hF hfs hf kf new he hcls hd h2 h

theorem note_again {L : Addr} (hf : env.frame = some L) (x : ExcAt fs h₁ s.heap e X c (some (rawInt L))) (h : Q () s) : wpAny M A (noteFrame (.ref e) env) Q E s := by
  obtain ⟨kf, new, ob, vs, he, hcls, hd, h2, T, oT, ts, h1, hT1, hTe, hT, hTd, h3⟩ := x
  exact wpAny_noteFrame_inFlight hf he hd h1 hT hTd h3 h

theorem set_flight {f : Option Addr} {fl : Value} (x : ExcAt fs h₁ s.heap e X c (some fl)) (h : ∀ h', ExcAt fs h₁ h' e X c (some (f.elim .none fun f => rawInt f)) → Q () { s with heap := h' }) :
    wpAny M A (setFlight (.ref e) f) Q E s := by
  obtain ⟨kf, new, ob, vs, he, hcls, hd, h2, T, oT, ts, h1, hT1, hTe, hT, hTd, h3⟩ := x
  have hsz : 3 < ts.size := (Array.getElem?_eq_some_iff.mp h3).1
  unfold setFlight
  refine wpAny_bind (wpAny_field he hd h1 ?_)
  rw [if_pos (show (Value.ref T != Value.none) = true from by simp)]
  refine wpAny_setField hT hTd hsz (h _ ?_)
  have other : ∀ b, b ≠ T → (s.heap.update T (Obj.mapFields (·.setIfInBounds 3 (f.elim .none fun f => rawInt f)))).get? b = s.heap.get? b := fun b hb => Heap.get?_update_other _ _ (Ne.symm hb)
  have old : ∀ b o, h₁.get? b = some o → b ≠ T := fun b o hb q => by rw [q, hT1] at hb; cases hb
  refine ⟨⟨fun b o hb hbo => (other b (old b o hbo)).trans (kf.keep b o hb hbo), fun b o hbo hn => let ⟨sl, q⟩ := kf.slots b o hbo hn; ⟨sl, (other b (old b o hbo)).trans q⟩⟩, new, ob, vs, (other e (Ne.symm hTe)).trans he, hcls, hd, h2, T, _, ts.setIfInBounds 3 (f.elim .none fun f => rawInt f), h1, hT1, hTe, Heap.get?_update_self _ hT (Obj.isFreed_of_fields (Obj.data_mapFields hTd _)), Obj.data_mapFields hTd _, ?_⟩
  simp [hsz]

theorem note_next {L : Addr} (hfr : A.frames = some (env :: outer)) (hF : Frames h₁ (env :: outer)) (hfs : fs = fsOf (env :: outer)) (hf : env.frame = some L)
    (x : ExcAt fs h₁ s.heap e X c (some .none)) (h : ∀ h', ExcAt fs h₁ h' e X c (some (rawInt L)) → Q () { s with heap := h' }) : wpAny M A (noteFrame (.ref e) env) Q E s := by
  obtain ⟨kf, new, ob, vs, he, hcls, hd, h2, T, oT, ts, h1, hT1, hTe, hT, hTd, h3⟩ := x
  have hsz : 3 < ts.size := (Array.getElem?_eq_some_iff.mp h3).1
  unfold noteFrame
  simp only [hf]
  refine wpAny_bind (wpAny_field he hd h1 ?_)
  rw [if_pos (show (Value.ref T != Value.none) = true from by simp)]
  refine wpAny_bind (wpAny_field hT hTd h3 ?_)
  rw [if_neg (show ¬ (Value.none == rawInt L) = true from by simp [rawInt])]
  refine wpAny_bind (wpAny_setField hT hTd hsz ?_)
  have other : ∀ b, b ≠ T → (s.heap.update T (Obj.mapFields (·.setIfInBounds 3 Value.none))).get? b = s.heap.get? b := fun b hb => Heap.get?_update_other _ _ (Ne.symm hb)
  have old : ∀ b o, h₁.get? b = some o → b ≠ T := fun b o hb q => by rw [q, hT1] at hb; cases hb
  exact note_entry hfr hF hfs hf ⟨fun b o hb hbo => (other b (old b o hbo)).trans (kf.keep b o hb hbo), fun b o hbo hn => let ⟨sl, q⟩ := kf.slots b o hbo hn; ⟨sl, (other b (old b o hbo)).trans q⟩⟩ new ((other e (Ne.symm hTe)).trans he) hcls hd h2 h
end

section
variable {prog : Program} {w : World} {A : Around} {s : Shared} {E : Value → Shared → Prop} {env : Env} {outer : List Env} {fs : List Addr} {h₁ : Heap} {e : Addr} {X T : String} {c : Value} {Q : Flow → Shared → Prop} {L : Addr}
  {t : Expr} {b₀ : Stmt} {suite : List Stmt} {pos : Pos} {rest : List ExceptHandler}
theorem caught (hfr : A.frames = some (env :: outer)) (hF : Frames h₁ (env :: outer)) (hfs : fs = fsOf (env :: outer)) (hf : env.frame = some L)
    (x : ExcAt fs h₁ s.heap e X c none ∨ ExcAt fs h₁ s.heap e X c (some .none))
    (hexc : isSubtype (.type T) (.type "BaseException") = pure true) (hnt : isSubtype (.type ((Manifest.find? T).elim "type" fun y => y.metatype)) (.type "tuple") = pure false) (hsub : isSubtype (.type X) (.type T) = pure true)
    (hname : ∀ (s₃ : Shared) (Q' E' : Value → Shared → Prop), Kf fs h₁ s₃.heap → Q' (.type T) s₃ → wpAny (model prog w) (A.mark (some (.ref e))) (eval t env) Q' E' s₃)
    (k : ∀ h', ExcAt fs h₁ h' e X c (some .none) → wpAny (model prog w) (A.mark (some (.ref e))) (execs (b₀ :: suite) env) Q (notedBy (model prog w) (A.mark (some (.ref e))) env (cameBackBy (model prog w) A env E)) { s with heap := h' }) :
    wpAny (model prog w) A (noteFrame (.ref e) env) (fun _ s₂ => wpAny (model prog w) A (setFlight (.ref e) none) (fun _ s₃ =>
        wpAny (model prog w) A (handleBy (.ref e) env (.ExceptHandler (some t) none (b₀ :: suite) pos :: rest)) Q E s₃) E s₂) E s := by
  have go : ∀ h', ExcAt fs h₁ h' e X c (some (rawInt L)) → wpAny (model prog w) A (setFlight (.ref e) none) (fun _ s₃ =>
        wpAny (model prog w) A (handleBy (.ref e) env (.ExceptHandler (some t) none (b₀ :: suite) pos :: rest)) Q E s₃) E { s with heap := h' } := by
    intro h' x'
    refine set_flight x' fun h₂ x₂ => ?_
    refine wpAny_handleBy_builtin (X := X) (T := T) (b := true) hexc hnt hsub (hname _ _ _ x₂.kf ⟨rfl, ?_, ?_⟩)
    · obtain ⟨_, _, ob, vs, he, hcls, _⟩ := x₂
      exact ⟨ob, he, hcls⟩
    · rw [if_pos rfl]
      exact set_flight x₂ fun h₃ x₃ => k h₃ x₃
  rcases x with x | x
  · exact note_first hfr hF hfs hf x go
  · exact note_next hfr hF hfs hf x go
theorem newE_of {h h' : Heap} {cls : String} (x : Heap.NewExc h h' e cls) : ExcAt fs h h' e cls .none none := by
  obtain ⟨ob, t, h1, h2, h3⟩ := x.there
  exact ⟨.of_keeps x.keeps, x.new, ob, _, h1, h2, h3, rfl, rfl⟩
end
end Mine
end

section
open PySem PySem.W PyProof.Rows PySem.Calls PySem.SeqAt
open PySem.AutoSeq1 (wpAny_loadPart')
open PySem.MeetsSeq
set_option maxRecDepth 100000
namespace Mine

theorem remove_loopE (l : Addr) (items : Array Value) (n : Nat) (x : Value) (e : Value → Bool) (j : Nat) (hj : j < items.size) (hit : e items[j] = true) (k : Nat) (hs1 : items.size ≤ sizeLine) :
    ∀ i : Nat, j - i = k → i ≤ j → (∀ m (hm : m < items.size), i ≤ m → m < j → e items[m] = false) → Meets (Builtin.«list.remove.loop» ⟨[.ref l, x, rawInt i], []⟩)
      (fun A R s => s.heap.get? l = some { cls := .type "list", dict := none, data := .seq items n, slots := #[] } ∧ (∀ y, y ∈ items → EqAt A.in1 s y x (e y)) ∧ R (.ok (.ret .none)) { s with heap := s.heap.update l (Obj.mapSeq fun xs => xs.eraseIdxIfInBounds j) }) := by
  induction k with
  | zero =>
    intro i hk hij hno prog w A R s h
    obtain ⟨hp, g, d, tk, os⟩ := s; obtain ⟨hl, he, h⟩ := h
    have hij' : i = j := by omega
    subst hij'
    wp_walk using wpAny_loadPart' hl
    have hi : items[((i : Nat) : Int).toNat]? = some items[i] := by simp [hj]
    rw [hi]
    refine wpAny_bind (he _ (Array.getElem_mem hj) prog w _ _ ?_)
    rw [hit]
    have hz' : (items.eraseIdxIfInBounds i).size ≤ sizeLine + 1 := Nat.le_trans (size_erased items _) (Nat.le_succ_of_le hs1)
    wp_walk using (wpAny_updateSeq hl rfl (hz := hs1) (_hz' := hz')), wpAny_loadPart' hl
    simpa using h
  | succ k ih =>
    intro i hk hij hno prog w A R s h
    obtain ⟨hp, g, d, tk, os⟩ := s; obtain ⟨hl, he, h⟩ := h
    have hlt : i < items.size := by omega
    wp_walk using wpAny_loadPart' hl
    have hi : items[((i : Nat) : Int).toNat]? = some items[i] := by simp [hlt]
    have hc : ((i : Int) + 1) = ((i + 1 : Nat) : Int) := by push_cast; rfl
    rw [hi]
    refine wpAny_bind (he _ (Array.getElem_mem hlt) prog w _ _ ?_)
    rw [hno i hlt (Nat.le_refl _) (by omega)]
    wp_walk
    rw [hc]
    exact ⟨plainId_quiet plain_remove_loop _, codeAny_builtin entry_remove_loop (by
      rw [Around.under_plainId plain_remove_loop _]
      exact ih (i + 1) (by omega) (by omega) (fun m hm h1 h2 => hno m hm (by omega) h2) prog w A R _ ⟨hl, he, h⟩)⟩

theorem list_removeE (l : Addr) (items : Array Value) (n : Nat) (x : Value) (e : Value → Bool) (j : Nat) (hj : j < items.size)
    (hit : e items[j] = true) (hno : ∀ m (hm : m < items.size), m < j → e items[m] = false) (hs1 : items.size ≤ sizeLine) :
    Meets (Builtin.«list.remove» ⟨[.ref l, x], []⟩)
      (fun A R s => s.heap.get? l = some { cls := .type "list", dict := none, data := .seq items n, slots := #[] } ∧ (∀ y, y ∈ items → EqAt A.in1 s y x (e y)) ∧ R (.ok (.ret .none)) { s with heap := s.heap.update l (Obj.mapSeq fun xs => xs.eraseIdxIfInBounds j) }) := by
  intro prog w A R s h
  obtain ⟨hp, g, d, tk, os⟩ := s; obtain ⟨hl, he, h⟩ := h
  wp_walk using wpAny_loadPart' hl
  exact ⟨plainId_quiet plain_remove_loop _, codeAny_builtin entry_remove_loop (by
    rw [Around.under_plainId plain_remove_loop _]
    exact remove_loopE l items n x e j hj hit _ hs1 0 rfl (Nat.zero_le _) (fun m hm _ h2 => hno m hm h2) prog w A R _ ⟨hl, he, h⟩)⟩

theorem remove_loop_noneE (l : Addr) (items : Array Value) (n : Nat) (x : Value) (e : Value → Bool) (hno : ∀ m (hm : m < items.size), e items[m] = false) (k : Nat) :
    ∀ i : Nat, items.size - i = k → Meets (Builtin.«list.remove.loop» ⟨[.ref l, x, rawInt i], []⟩)
      (fun A R s => s.heap.get? l = some { cls := .type "list", dict := none, data := .seq items n, slots := #[] } ∧ (∀ y, y ∈ items → EqAt A.in1 s y x (e y)) ∧ raisesNew "ValueError" A R s) := by
  induction k with
  | zero =>
    intro i hk prog w A R s h
    obtain ⟨hp, g, d, tk, os⟩ := s; obtain ⟨hl, he, h⟩ := h
    wp_walk using wpAny_loadPart' hl
    have hi : items[((i : Nat) : Int).toNat]? = none := by simp; omega
    rw [hi]
    wp_walk
    exact_raiseError plainExc_ValueError h.1 h.2
  | succ k ih =>
    intro i hk prog w A R s h
    obtain ⟨hp, g, d, tk, os⟩ := s; obtain ⟨hl, he, h⟩ := h
    have hlt : i < items.size := by omega
    wp_walk using wpAny_loadPart' hl
    have hi : items[((i : Nat) : Int).toNat]? = some items[i] := by simp [hlt]
    have hc : ((i : Int) + 1) = ((i + 1 : Nat) : Int) := by push_cast; rfl
    rw [hi]
    refine wpAny_bind (he _ (Array.getElem_mem hlt) prog w _ _ ?_)
    rw [hno i hlt]
    wp_walk
    rw [hc]
    exact ⟨plainId_quiet plain_remove_loop _, codeAny_builtin entry_remove_loop (by
      rw [Around.under_plainId plain_remove_loop _]
      exact ih (i + 1) (by omega) prog w A R _ ⟨hl, he, h⟩)⟩

theorem list_remove_noneE (l : Addr) (items : Array Value) (n : Nat) (x : Value) (e : Value → Bool) (hno : ∀ m (hm : m < items.size), e items[m] = false) :
    Meets (Builtin.«list.remove» ⟨[.ref l, x], []⟩)
      (fun A R s => s.heap.get? l = some { cls := .type "list", dict := none, data := .seq items n, slots := #[] } ∧ (∀ y, y ∈ items → EqAt A.in1 s y x (e y)) ∧ raisesNew "ValueError" A R s) := by
  intro prog w A R s h
  obtain ⟨hp, g, d, tk, os⟩ := s; obtain ⟨hl, he, h⟩ := h
  wp_walk using wpAny_loadPart' hl
  exact ⟨plainId_quiet plain_remove_loop _, codeAny_builtin entry_remove_loop (by
    rw [Around.under_plainId plain_remove_loop _]
    exact remove_loop_noneE l items n x e hno _ 0 rfl prog w A R _ ⟨hl, he, h⟩)⟩

def ers {α : Type} [DecidableEq α] (t : List α) (x : α) : List α := t.erase x
def rmv {α : Type} [DecidableEq α] (t : List α) : List α → Option (List α)
  | [] => some t
  | x :: xs => if x ∈ t then rmv (ers t x) xs else none
theorem rmv_hit {α : Type} [DecidableEq α] {t : List α} {x : α} {xs : List α} (h : x ∈ t) : rmv t (x :: xs) = rmv (ers t x) xs := if_pos h
theorem rmv_miss {α : Type} [DecidableEq α] {t : List α} {x : α} {xs : List α} (h : x ∉ t) : rmv t (x :: xs) = none := if_neg h
def ixs {α : Type} [DecidableEq α] (t : List α) (x : α) : Nat := t.idxOf x
theorem ers_eq {α : Type} [DecidableEq α] (T : List α) (r : α) : ers T r = T.eraseIdx (ixs T r) := List.erase_eq_eraseIdx_of_idxOf rfl
theorem ixs_lt {α : Type} [DecidableEq α] {T : List α} {r : α} (h : r ∈ T) : ixs T r < T.length := List.idxOf_lt_length_iff.mpr h
theorem ixs_get {α : Type} [DecidableEq α] {T : List α} {r : α} (h : r ∈ T) : T[ixs T r]? = some r := by
  have := ixs_lt h
  rw [List.getElem?_eq_getElem this]
  have h2 : (T[ixs T r] == r) = true := List.findIdx_getElem (p := (· == r)) (xs := T) (w := this)
  rw [beq_iff_eq.mp h2]
theorem ixs_before {α : Type} [DecidableEq α] {T : List α} {r : α} {m : Nat} (hlt : m < ixs T r) : T[m]? ≠ some r := by
  intro q
  obtain ⟨hm, h2⟩ := List.getElem?_eq_some_iff.mp q
  have := List.not_of_lt_findIdx (p := (· == r)) (xs := T) hlt
  simp [h2] at this
def cmp {α : Type} [DecidableEq α] (a b : List α) : Bool := match rmv (dd b) (dd a) with
  | none => false
  | some t => t.isEmpty

theorem readsAll_eraseIdx {h : Heap} : ∀ {vs : List Value} {ds : List PyData} {as : List Addr} (j : Nat), ReadsAll h vs ds as → ∃ bs, ReadsAll h (vs.eraseIdx j) (ds.eraseIdx j) bs
  | _, _, _, _, .nil => ⟨_, by simpa using ReadsAll.nil⟩
  | _, _, _, 0, .cons a b => ⟨_, by simpa using b⟩
  | _, _, _, j + 1, .cons a b => by
    obtain ⟨bs, q⟩ := readsAll_eraseIdx j b
    exact ⟨_, by simpa using ReadsAll.cons a q⟩
theorem map_eraseIdx' {α β : Type} (f : α → β) : ∀ (l : List α) (j : Nat), (l.map f).eraseIdx j = (l.eraseIdx j).map f
  | [], _ => by simp
  | x :: l, 0 => by simp
  | x :: l, j + 1 => by simp [map_eraseIdx' f l j]
theorem RowsAt.eraseIdx {h : Heap} {vs : List Value} {rs : List (List Str)} (x : RowsAt h vs rs) (j : Nat) : RowsAt h (vs.eraseIdx j) (rs.eraseIdx j) := by
  obtain ⟨ok, as, r⟩ := x
  obtain ⟨bs, q⟩ := readsAll_eraseIdx j r
  refine ⟨fun y hy => ok y (List.mem_of_mem_eraseIdx hy), bs, ?_⟩
  rwa [map_eraseIdx'] at q

open Classical in
noncomputable def eqRow (h : Heap) (r : List Str) (y : Value) : Bool := decide (∃ bs, Reads h y (row2d r) bs)
theorem eqRow_of {h : Heap} {r r' : List Str} {y : Value} {bs : List Addr} (ok : RowOk r') (x : Reads h y (row2d r') bs) : eqRow h r y = decide (r' = r) := by
  unfold eqRow
  by_cases e : r' = r
  · subst e; simp only [decide_true, decide_eq_true_eq]; exact ⟨bs, x⟩
  · simp only [e, decide_false, decide_eq_false_iff_not]
    rintro ⟨bs', x'⟩
    have := SeqAt.Reads.unique _ _ _ _ _ (row_canLay ok) x x'
    simp only [row2d, PyData.list.injEq] at this
    have h2 := row_eqv r' r
    rw [show row2d r' = row2d r by simp [row2d, this]] at h2
    rw [row_eqv] at h2
    simp [e] at h2

section
variable {prog : Program} {w : World} {A : Around} {s : Shared} {E : Value → Shared → Prop}
theorem remove_rows {D : Addr} {ws : List Value} {n : Nat} {T : List (List Str)} {r : List Str} {v : Value} {bs : List Addr} {Q : Value → Shared → Prop}
    (hD : s.heap.get? D = some (W.listOf ws.toArray n)) (hT : RowsAt s.heap ws T) (ok : RowOk r) (hv : Reads s.heap v (row2d r) bs) (hsz : ws.length ≤ sizeLine) (hu : A.units + 20 < cLine)
    (hit : r ∈ T → ∀ h' n', Heap.SameBut D s.heap h' → h'.get? D = some (W.listOf (ws.eraseIdx (ixs T r)).toArray n') → Q .none { s with heap := h' })
    (miss : r ∉ T → A.handled = none ∧ ∀ h' tk e, Heap.NewExc s.heap h' e "ValueError" → E (.ref e) { s with heap := h', toks := tk }) :
    wpAny (model prog w) A (call (.builtin "list.remove") [.ref D, v]) Q E s := by
  have hlen := hT.length
  have item : ∀ i (hi : i < ws.length), ∃ r' bs', T[i]? = some r' ∧ RowOk r' ∧ Reads s.heap ws[i] (row2d r') bs' := fun i hi => hT.get (by simp [hi])
  have heq : ∀ (A' : Around), A'.units + 10 < cLine → ∀ y, y ∈ ws.toArray → EqAt A' s y v (eqRow s.heap r y) := fun A' hA' y hy => by
    have hy' : y ∈ ws := by simpa using hy
    obtain ⟨i, hi, rfl⟩ := List.mem_iff_getElem.mp hy'
    obtain ⟨r', bs', _, ok', rd⟩ := item i hi
    rw [eqRow_of ok' rd, ← row_eqv]
    exact eqAt_reads _ _ A' s _ _ _ _ rd hv (row_canLay ok') (row_canLay ok) (by have := row_depth r; omega)
  by_cases hr : r ∈ T
  · have hj : ixs T r < T.length := ixs_lt hr
    have hj' : ixs T r < ws.toArray.size := by simp; omega
    have hjw : ixs T r < ws.length := by omega
    refine call_meets F.slot_list_remove ⟨_, hD, rfl⟩ F.entry_list_remove (F.args_list_remove_2 _ _) (list_removeE D ws.toArray n v (eqRow s.heap r) (ixs T r) hj' ?_ ?_ (by simpa using hsz)) ⟨hD, heq _ (by show A.units + 1 + 10 < cLine; omega), ?_⟩
    · obtain ⟨r', bs', h1, ok', rd⟩ := item _ hjw
      have : T[ixs T r]? = some r := ixs_get hr
      rw [this] at h1; cases h1
      simpa using (eqRow_of ok' rd).trans (by simp)
    · intro m hm hlt
      have hm' : m < ws.length := by simpa using hm
      obtain ⟨r', bs', h1, ok', rd⟩ := item m hm'
      have hmT : m < T.length := by omega
      have hne : r' ≠ r := fun q => by
        subst q
        exact ixs_before hlt h1
      simpa using (eqRow_of ok' rd).trans (by simp [hne])
    · obtain ⟨n', hn'⟩ : ∃ n', (W.listOf ws.toArray n).mapSeq (fun xs => xs.eraseIdxIfInBounds (ixs T r)) = W.listOf (ws.eraseIdx (ixs T r)).toArray n' := by
        have hf : ws.toArray.eraseIdxIfInBounds (ixs T r) = (ws.eraseIdx (ixs T r)).toArray := by simp
        rw [← hf]
        exact ⟨_, rfl⟩
      exact hit hr _ n' (Heap.SameBut.update ..) (by rw [← hn']; exact Heap.get?_update_self _ hD (by rw [hn']; rfl))
  · refine call_meets F.slot_list_remove ⟨_, hD, rfl⟩ F.entry_list_remove (F.args_list_remove_2 _ _) (list_remove_noneE D ws.toArray n v (eqRow s.heap r) ?_) ⟨hD, heq _ (by show A.units + 1 + 10 < cLine; omega), miss hr⟩
    intro m hm
    have hm' : m < ws.length := by simpa using hm
    obtain ⟨r', bs', h1, ok', rd⟩ := item m hm'
    have hne : r' ≠ r := fun q => hr (q ▸ List.mem_of_getElem? h1)
    simpa using (eqRow_of ok' rd).trans (by simp [hne])
end
end Mine
end

section
open PySem PySem.W PyProof.Rows PySem.Calls PySem.SeqAt
set_option maxRecDepth 100000
namespace Mine
section
variable {prog : Program} {w : World} {A : Around} {s : Shared} {E : Value → Shared → Prop} {env : Env} {sc : Scope} {mg mb : Str → Option Value}
theorem callN1 {fn : Str} {p pos : Pos} {e : Expr} {a : Addr} {Q : Value → Shared → Prop} (FE : FEnv env sc) (hl : sc.names.lookup fn = some .globalImplicit) (G : GR w.params mg mb s.heap)
    (eg : nsIn (hd.heap_39 w.params) mainGlobals fn = some (some (.ref a))) (hk : keepIn (hd.heap_39 w.params) (.ref a) = true)
    (h : wpAny (model prog w) A (eval e env) (fun v s₁ => GR w.params mg mb s₁.heap ∧ wpAny (model prog w) A (call (.ref a) [v]) Q E s₁) E s)
    (he : starEach [e] env = [(false, eval e env)] := by rfl) (hd : (fn == ("__debug__" : Str)) = false := by decide) :
    wpAny (model prog w) A (eval (.Call (.Name fn p) [e] [] pos) env) Q E s := by
  refine Call_Name rfl (gName FE hl G eg ?_ hd)
  refine callWith_K (K := Mine.hd.heap_39 w.params) G.X hk ?_ (by rw [he]; rfl) rfl
  rw [he]
  exact spliced_cons (wpAny_mono h (fun v s₁ h₁ => spliced_nil ⟨h₁.1.X, h₁.2⟩) fun _ _ x => x)
theorem callN2 {fn : Str} {p pos : Pos} {e e' : Expr} {a : Addr} {Q : Value → Shared → Prop} (FE : FEnv env sc) (hl : sc.names.lookup fn = some .globalImplicit) (G : GR w.params mg mb s.heap)
    (eg : nsIn (hd.heap_39 w.params) mainGlobals fn = some (some (.ref a))) (hk : keepIn (hd.heap_39 w.params) (.ref a) = true)
    (h : wpAny (model prog w) A (eval e env) (fun v s₁ => wpAny (model prog w) A (eval e' env) (fun v' s₂ => GR w.params mg mb s₂.heap ∧ wpAny (model prog w) A (call (.ref a) [v, v']) Q E s₂) E s₁) E s)
    (he : starEach [e, e'] env = (false, eval e env) :: starEach [e'] env := by rfl) (he' : starEach [e'] env = [(false, eval e' env)] := by rfl) (hd : (fn == ("__debug__" : Str)) = false := by decide) :
    wpAny (model prog w) A (eval (.Call (.Name fn p) [e, e'] [] pos) env) Q E s := by
  refine Call_Name rfl (gName FE hl G eg ?_ hd)
  refine callWith_K (K := Mine.hd.heap_39 w.params) G.X hk ?_ he (by rw [he']; rfl)
  rw [he, he']
  exact spliced_cons (wpAny_mono h (fun v s₁ h₁ => spliced_cons (wpAny_mono h₁ (fun v' s₂ h₂ => spliced_nil ⟨h₂.1.X, h₂.2⟩) fun _ _ x => x)) fun _ _ x => x)

theorem none_at_end (h : Heap) : h.get? h.objs.size = none := by
  cases e : h.get? h.objs.size with
  | none => rfl
  | some o => exact absurd (Heap.lt_size e) (Nat.lt_irrefl _)
theorem news_made {h₀ h h' : Heap} {L D : Addr} {o : Obj} {m : Str → Option Value} (F : Fr h₀ L h m) (new : h.get? D = none) (hD : h'.get? D = some o) : News h₀ L h' [(D, o)] := by
  intro p hp
  rw [List.mem_singleton.mp hp]
  refine ⟨hD, fun q => ?_, ?_⟩
  · obtain ⟨oL, es, ep, ho, _⟩ := F.ns
    have q' : D = L := q
    rw [q', ho] at new; cases new
  · cases hq : h₀.get? D with
    | none => rfl
    | some o => have := F.keep _ o hq; rw [new] at this; cases this
theorem news_cons {h₀ h : Heap} {L : Addr} {p : Addr × Obj} {news : List (Addr × Obj)} (x : News h₀ L h [p]) (N : News h₀ L h news) : News h₀ L h (p :: news) := fun q hq => by
  rcases List.mem_cons.mp hq with rfl | hq
  · exact x _ (List.mem_singleton.mpr rfl)
  · exact N q hq

theorem cmp_body {h₀ : Heap} {outer : List Env} {l₁ l₂ : Addr} {vs₁ vs₂ : List Value} {rs₁ rs₂ : List (List Str)} {Q : Flow → Shared → Prop} {m : Str → Option Value}
    {ht : Heap} (FE : FEnv env (scAt 36 w.params)) (Gt : GR w.params mg mb ht) (kt : ∀ b o, ht.get? b = some o → h₀.get? b = some o) (hot : ∀ b ∈ fsOf outer, ht.get? b = none) (hfr : A.frames = some (env :: outer)) (hFo : Frames h₀ outer) (hfe : env.frame = some env.locals)
    (hdp : A.depth < recursionLimit) (hu : A.units + 90 < cLine) (hh : A.handled = none)
    (hl₁ : h₀.IsList l₁ vs₁.toArray) (hr₁ : RowsAt h₀ vs₁ rs₁) (hsz₁ : vs₁.length ≤ 4096) (hl₂ : h₀.IsList l₂ vs₂.toArray) (hr₂ : RowsAt h₀ vs₂ rs₂) (hsz₂ : vs₂.length ≤ 4096)
    (hm₁ : m (Str.ofString "first_args") = some (.ref l₁)) (hm₂ : m (Str.ofString "second_args") = some (.ref l₂)) (F : Fr h₀ env.locals s.heap m)
    (h : ∀ h' tk, Kf (fsOf outer) h₀ h' → Q (.ret (.bool (cmp rs₁ rs₂))) { s with heap := h', toks := tk }) :
    wpAny (model prog w) A (execs (bodyAt 36 w.params) env) Q (fun _ _ => False) s := by
  have G := Gt.keeps kt
  have hch : ∀ h : Heap, HChain h A.handled [] := fun h => by rw [hh]; rfl
  refine wpAny_execs_cons (wpAny_Assign_Name (callN1 FE rfl (G.keeps F.keep) rfl rfl (nmL FE rfl F.ns hm₁ ⟨G.keeps F.keep, ?_⟩)))
  refine dedup_call (G.keeps F.keep) hdp (by omega) (hch _) (hl₁.at fun o e => F.keep l₁ o e) (hr₁.keeps F.keep) hsz₁ fun D₁ ws₁ n₁ h₁ tk₁ k₁ new₁ hD₁ rw₁ len₁ => ?_
  have F₁ := F.keeps k₁
  have hD₁' : News h₀ env.locals h₁ [(D₁, W.listOf ws₁.toArray n₁)] := news_made F new₁ hD₁
  refine stL FE rfl F₁ fun h₂ F₂ hs₂ => ?_
  have N₂ := hD₁'.set hs₂
  dsimp only at F₂ N₂ ⊢
  refine wpAny_execs_cons (wpAny_Assign_Name (callN1 FE rfl (G.keeps F₂.keep) rfl rfl (nmL FE rfl F₂.ns ((if_neg (by decide)).trans hm₂) ⟨G.keeps F₂.keep, ?_⟩)))
  refine dedup_call (G.keeps F₂.keep) hdp (by omega) (hch _) (hl₂.at fun o e => F₂.keep l₂ o e) (hr₂.keeps F₂.keep) hsz₂ fun D₂ ws₂ n₂ h₃ tk₃ k₃ new₃ hD₂ rw₂ len₂ => ?_
  have F₃ := F₂.keeps k₃
  have N₃ : News h₀ env.locals h₃ [(D₂, W.listOf ws₂.toArray n₂), (D₁, W.listOf ws₁.toArray n₁)] := news_cons (news_made F₂ new₃ hD₂) (N₂.grown k₃)
  refine stL FE rfl F₃ fun h₄ F₄ hs₄ => ?_
  have N₄ := N₃.set hs₄
  dsimp only at F₄ N₄ ⊢
  -- t = list(second_unhashable)
  have hD₂₄ := (N₄ _ List.mem_cons_self).1
  refine wpAny_execs_cons (wpAny_Assign_Name (Call_Name1 (bName FE rfl (G.keeps F₄.keep) rfl rfl ?_)))
  refine PyProof.Rows.callWith_type rfl (evalArgs_plain (spliced_cons (nmL FE rfl F₄.ns (v := .ref D₂) rfl (spliced_nil ?_))))
  refine call_list_seq (hsz := by rw [List.size_toArray, sizeLine_eq]; omega) D₂ (.inl rfl) hD₂₄ rfl rfl fun h₅ c₅ k₅ hD₅ => ?_
  have F₅ := F₄.keeps k₅
  have new₅ : h₄.get? h₄.objs.size = none := none_at_end h₄
  have N₅ : News h₀ env.locals h₅ [(h₄.objs.size, W.listOf ws₂.toArray c₅), (D₂, W.listOf ws₂.toArray n₂), (D₁, W.listOf ws₁.toArray n₁)] := news_cons (news_made F₄ new₅ hD₅) (N₄.grown k₅)
  refine stL FE rfl F₅ fun h₆ F₆ hs₆ => ?_
  have N₆ := N₅.set hs₆
  dsimp only at F₆ N₆ ⊢
  have hD1₀ : h₀.get? D₁ = none := (N₆ (D₁, W.listOf ws₁.toArray n₁) (by simp)).2.2
  have hD₁₆ : h₆.IsList D₁ ws₁.toArray := ⟨_, (N₆ (D₁, W.listOf ws₁.toArray n₁) (by simp)).1, rfl, _, rfl⟩
  have ne13 : h₄.objs.size ≠ D₁ := fun q => by have := Heap.lt_size (N₄ (D₁, W.listOf ws₁.toArray n₁) (by simp)).1; rw [q] at this; exact absurd this (Nat.lt_irrefl _)
  have ne23 : h₄.objs.size ≠ D₂ := fun q => by have := Heap.lt_size (N₄ (D₂, W.listOf ws₂.toArray n₂) (by simp)).1; rw [q] at this; exact absurd this (Nat.lt_irrefl _)
  have hRes : ∀ h', (∀ b o, h₀.get? b = some o → h'.get? b = some o) → Kf (fsOf outer) h₀ h' := fun h' k => .of_keeps k
  have rr₁ := rw₁ h₀ hr₁
  have rr₂ := rw₂ h₀ hr₂
  refine wpAny_execs_cons (wpAny_Try_except (wpAny_execs_cons (For_invV h₀ (FE.kd _ rfl) FE.hp (nmL FE rfl F₆.ns (v := .ref D₁) rfl ?_) (hE := by passes_own))))
  refine wpAny_pyIter_list hD₁₆ ?_
  have hpush : ∀ b o, h₆.get? b = some o → (h₆.push { cls := .type "list_iterator", data := .fields #[.ref D₁, .int 0 0] }).get? b = some o := fun b o e => Heap.get?_push_of_some _ e
  have offI : ∀ p ∈ ([(h₄.objs.size, W.listOf ws₂.toArray c₅), (D₂, W.listOf ws₂.toArray n₂), (D₁, W.listOf ws₁.toArray n₁)] : List (Addr × Obj)), p.1 ≠ h₆.objs.size := fun p hp => Nat.ne_of_lt (Heap.lt_size (N₆ p hp).1)
  refine ⟨h₆.objs.size, _, _, ws₁.length, _, _, _, _, (fun i m news => ∃ (ws : List Value) (n : Nat) (T : List (List Str)), m (Str.ofString "t") = some (.ref h₄.objs.size) ∧ news = [(h₄.objs.size, W.listOf (List.toArray ws) n), (D₂, W.listOf ws₂.toArray n₂), (D₁, W.listOf ws₁.toArray n₁)] ∧
      RowsAt h₀ ws T ∧ ws.length ≤ 4096 ∧ rmv (dd rs₂) (dd rs₁) = rmv T ((dd rs₁).drop i)),
    rfl, Walks.list hh h₆.objs.size D₁ (Nat.ne_of_lt (Heap.lt_size (N₆ (D₁, W.listOf ws₁.toArray n₁) (by simp)).1)) ws₁.toArray, ?_, ?_, ?_, ⟨⟨_, Heap.get?_push_size _ rfl, rfl, rfl⟩, hD₁₆.push _⟩, F₆.push _, N₆.grown hpush, ⟨ws₂, c₅, dd rs₂, rfl, rfl, rr₂, by omega, rfl⟩, ?_, ?_⟩
  · intro hm
    rcases List.mem_cons.mp hm with e | hm
    · exact absurd F₆.ns.lt (e ▸ Nat.lt_irrefl _)
    · exact (N₆ (D₁, W.listOf ws₁.toArray n₁) (by simp)).2.1 (List.mem_singleton.mp hm).symm
  · intro b hb
    rw [List.mem_singleton.mp hb]
    exact next_is_new F₆
  · intro p hp hb
    exact offI p hp (List.mem_singleton.mp hb)
  · rintro i v m₁ news₁ s₁ own ⟨g₁, tk₁, rfl⟩ hi hP ⟨ws, n, T, hm, rfl, hT, hlen, hrm⟩ hoff hsub hget hall hst F₇ N₇
    have hv : ws₁[i]? = some v := by simpa using hP
    obtain ⟨r, bs, hri, hok, hrd⟩ := rr₁.get hv
    have hmem : (h₄.objs.size, W.listOf (List.toArray ws) n) ∈ own ++ [(h₄.objs.size, W.listOf (List.toArray ws) n), (D₂, W.listOf ws₂.toArray n₂), (D₁, W.listOf ws₁.toArray n₁)] := by simp
    have hDg := (N₇ _ hmem).1
    have hneD : h₄.objs.size ≠ env.locals := (N₇ _ hmem).2.1
    have hD0 : h₀.get? h₄.objs.size = none := (N₇ _ hmem).2.2
    have hdrop : (dd rs₁).drop i = r :: (dd rs₁).drop (i + 1) := by
      have hilt : i < (dd rs₁).length := (List.getElem?_eq_some_iff.mp hri).1
      rw [List.drop_eq_getElem_cons hilt]
      congr 1
      exact (List.getElem?_eq_some_iff.mp hri).2
    dsimp only at F₇ N₇ hDg
    have hin : interactive env = false := by unfold interactive; rw [FE.k]; rfl
    refine wpAny_execs_cons (wpAny_Expr_any (wpAny_Call_method1_late rfl rfl rfl (nmL FE rfl F₇.ns (v := .ref h₄.objs.size) hm ⟨"list", "list.remove", PySem.F.plainAttrs_list, PySem.F.slot_list_remove, PySem.F.type_list_remove, ⟨_, hDg, rfl⟩, (fun a ha => by cases ha; exact ⟨_, hDg, rfl⟩), ?_⟩)) hin)
    refine Calls.callWith_builtin rfl (evalArgs_plain (spliced_cons (nmL FE rfl F₇.ns rfl (spliced_nil ?_))))
    refine remove_rows hDg (hT.keeps F₇.keep) hok (Reads.keeps F₇.keep hrd) (by rw [sizeLine_eq]; omega) (by omega) (fun hin h₈ n₈ hs₈ hD₈ => ?_) (fun hnin => ⟨hh, fun h₈ tk₈ e hx => ?_⟩)
    · refine wpAny_execs_nil (.next (.intro (news₂ := [(h₄.objs.size, W.listOf (ws.eraseIdx (ixs T r)).toArray n₈), (D₂, W.listOf ws₂.toArray n₂), (D₁, W.listOf ws₁.toArray n₁)]) (F₇.change hs₈ hneD hD0) (fun p hp => ?_) ?_ ⟨_, n₈, ers T r, hm, rfl, ?_, ?_, ?_⟩))
      · have hz : ∀ q ∈ own ++ [(h₄.objs.size, W.listOf (List.toArray ws) n), (D₂, W.listOf ws₂.toArray n₂), (D₁, W.listOf ws₁.toArray n₁)], q.1 ≠ h₄.objs.size → h₈.get? q.1 = some q.2 ∧ q.1 ≠ env.locals ∧ h₀.get? q.1 = none := fun q hq hne => ⟨hs₈.extBut _ _ hne (N₇ q hq).1, (N₇ q hq).2⟩
        rcases List.mem_append.mp hp with hp | hp
        · refine hz p (List.mem_append_left _ hp) fun q => ?_
          rcases List.mem_cons.mp (hsub p hp) with h1 | h1
          · exact offI (h₄.objs.size, W.listOf ws₂.toArray c₅) (by simp) (q.symm.trans h1)
          · exact ne13 (q.symm.trans (List.mem_singleton.mp h1))
        · rcases List.mem_cons.mp hp with rfl | hp
          · exact ⟨hD₈, hneD, hD0⟩
          · rcases List.mem_cons.mp hp with rfl | hp
            · exact hz (D₂, W.listOf ws₂.toArray n₂) (by simp) (Ne.symm ne23)
            · rw [List.mem_singleton.mp hp]
              exact hz (D₁, W.listOf ws₁.toArray n₁) (by simp) (Ne.symm ne13)
      · intro p hp hb
        have hb' := List.mem_singleton.mp hb
        rcases List.mem_cons.mp hp with rfl | hp
        · exact offI (h₄.objs.size, W.listOf ws₂.toArray c₅) (by simp) hb'
        · exact offI p (List.mem_cons_of_mem _ hp) hb'
      · rw [ers_eq]; exact hT.eraseIdx _
      · have := List.length_eraseIdx_le ws (ixs T r); omega
      · rw [hrm, hdrop, rmv_hit hin]
    · have hFr : Frames g₁ (env :: outer) := ⟨by rw [FE.k]; decide, (by obtain ⟨o, es, ep, ho, hdt, _⟩ := F₇.ns; exact ⟨_, o, hfe, ho, fun vs q => by rw [hdt] at q; cases q⟩), hFo.kf (Kf.of_keeps (fs := []) F₇.keep)⟩
      have hfs : fsOf (env :: outer) = env.locals :: fsOf outer := by simp [fsOf, hfe]
      have hLt : ht.get? env.locals = none := by
        cases hq : ht.get? env.locals with
        | none => rfl
        | some o => exact absurd (Nat.lt_of_lt_of_le (Heap.lt_size (kt _ o hq)) F₇.above) (Nat.lt_irrefl _)
      have htop : ∀ (h' : Heap), Kf (fsOf (env :: outer)) g₁ h' → GR w.params mg mb h' := fun h' kf => Gt.keeps fun b o e => kf.keep b o (fun hm => by
        rw [hfs] at hm
        rcases List.mem_cons.mp hm with q | hm
        · rw [q, hLt] at e; cases e
        · rw [hot b hm] at e; cases e) (F₇.keep b o (kt b o e))
      refine caught hfr hFr rfl hfe (.inl (newE_of hx)) (T := "ValueError") (by rw [isSubtype_type]; kernel_rfl) (by rw [isSubtype_type]; kernel_rfl) (by rw [isSubtype_type]; kernel_rfl) (fun s₃ Q' E' kf hq => bName FE rfl (htop _ kf) rfl rfl hq) fun h₉ x₉ => ?_
      refine wpAny_execs_cons (wpAny_Return_some (wpAny_Constant_bool ?_))
      have hcmp : cmp rs₁ rs₂ = false := by unfold cmp; rw [hrm, hdrop, rmv_miss hnin]
      rw [hcmp] at h
      refine h h₉ tk₈ ⟨fun b o hb e => x₉.kf.keep b o (fun hm => ?_) (F₇.keep b o e), fun b o e hn => x₉.kf.slots b o (F₇.keep b o e) hn⟩
      rw [hfs] at hm
      rcases List.mem_cons.mp hm with q | hm
      · exact absurd (Nat.lt_of_lt_of_le (Heap.lt_size e) F₇.above) (by rw [q]; exact Nat.lt_irrefl _)
      · exact hb hm
  · rintro h' tk m' news' F' N' - ⟨ws, n, T, hm, rfl, hT, hlen, hrm⟩
    refine wpAny_execs_nil (wpAny_execs_nil (wpAny_execs_cons (wpAny_Return_some (wpAny_UnaryOp (nmL FE rfl F'.ns (v := .ref h₄.objs.size) hm (not_value ?_))))))
    refine wpAny_truthy_list ⟨_, (N' _ List.mem_cons_self).1, rfl, _, rfl⟩ (by simp; omega) ?_
    have hcmp : cmp rs₁ rs₂ = !!ws.toArray.isEmpty := by
      unfold cmp
      have hl1 := rr₁.length
      rw [hrm, List.drop_eq_nil_of_le (by omega)]
      have hl2 := hT.length
      simp only [rmv, Bool.not_not, List.isEmpty_toArray]
      cases ws <;> cases T <;> simp at hl2 ⊢
    have := h h' (tk + 1 + 1) (.of_keeps F'.keep)
    rw [hcmp] at this
    exact this

theorem cmp_call {ht : Heap} {outer : List Env} {l₁ l₂ : Addr} {vs₁ vs₂ : List Value} {rs₁ rs₂ : List (List Str)} {Q : Value → Shared → Prop}
    (Gt : GR w.params mg mb ht) (kt : ∀ b o, ht.get? b = some o → s.heap.get? b = some o) (hot : ∀ b ∈ fsOf outer, ht.get? b = none) (hfr : A.frames = some outer) (hFo : Frames s.heap outer)
    (hdp : A.depth + 1 < recursionLimit) (hu : A.units + 100 < cLine) (hh : A.handled = none)
    (hl₁ : s.heap.IsList l₁ vs₁.toArray) (hr₁ : RowsAt s.heap vs₁ rs₁) (hsz₁ : vs₁.length ≤ 4096) (hl₂ : s.heap.IsList l₂ vs₂.toArray) (hr₂ : RowsAt s.heap vs₂ rs₂) (hsz₂ : vs₂.length ≤ 4096)
    (h : ∀ h' tk, Kf (fsOf outer) s.heap h' → Q (.bool (cmp rs₁ rs₂)) { s with heap := h', toks := tk }) :
    wpAny (model prog w) A (call (.ref 36) [.ref l₁, .ref l₂]) Q E s := by
  refine wpAny_call (callAt (body := bodyAt 36 w.params) (Gt.keeps kt) (by omega) rfl rfl rfl rfl (BindsTo.of_eq rfl) rfl (locs rfl) rfl rfl rfl rfl rfl fun env h₁ FE hL hf F => ?_)
  refine wpAny_noRaise (cmp_body (outer := outer) FE Gt kt hot (by show A.frames.map _ = _; rw [hfr]; rfl) hFo (by rw [hf, hL]) (by show A.depth + 1 < recursionLimit; exact hdp) (by show A.units + 3 + 90 < cLine; omega) hh hl₁ hr₁ hsz₁ hl₂ hr₂ hsz₂ rfl rfl F ?_)
  exact fun h' tk k => h h' tk k
end
end Mine
end

section
open PySem PySem.W PyProof.Rows PySem.Calls PySem.SeqAt
set_option maxRecDepth 100000
namespace Mine
section
variable {prog : Program} {w : World} {A : Around} {s : Shared} {E : Value → Shared → Prop} {env : Env} {sc : Scope} {mg mb : Str → Option Value}
theorem spl_cons {e : Expr} {rest : List Expr} {pos : Pos} {Q : List Value → Shared → Prop} (h : wpAny (model prog w) A (eval e env) (fun v s₁ => wpAny (model prog w) A (spliced (backTo pos (starEach rest env))) (fun vs s₂ => Q (v :: vs) s₂) E s₁) E s)
    (he : starEach (e :: rest) env = (false, eval e env) :: starEach rest env := by rfl) : wpAny (model prog w) A (spliced (backTo pos (starEach (e :: rest) env))) Q E s := by
  rw [he]; exact spliced_cons h
theorem spl_nil {pos : Pos} {Q : List Value → Shared → Prop} (h : Q [] s) : wpAny (model prog w) A (spliced (backTo pos (starEach [] env))) Q E s := spliced_nil h
theorem itemL {value slice : Expr} {l : Addr} {items : Array Value} {k : Int} {t : Tok} {x : Value} {Q : Value → Shared → Prop} (hl : s.heap.IsList l items) (h0 : 0 ≤ k) (hfit : k < 2 ^ 63) (hx : items[k.toNat]? = some x) (h : Q x s)
    (hs : subscripted slice false (.ref l) (.int k t) = operate [.ref l, .int k t] (getItem (.ref l) (.int k t)) := by with_unfolding_all rfl) :
    wpAny (model prog w) A (subscriptTail value slice (.ref l) (.int k t)) Q E s :=
  tail_any hl.typeIs slot_list_getitem.lookup (wpAny_getItem_list hl h0 hfit hx h) hs

theorem push_keeps (h : Heap) (o : Obj) : ∀ b o', h.get? b = some o' → (h.push o).get? b = some o' := fun _ _ e => Heap.get?_push_of_some _ e

def sgn (x c : Nat) : Nat := match c with
  | 0 => x % 3
  | 1 => x / 3 % 2
  | _ => x / 6
theorem sgn_eq (x c : Nat) (hc : c < 3) (t1 t2 t3 : Tok) : ∃ tk, (#[Value.int ((x : Int).fmod 3) t1, Value.int (((x : Int).fdiv 3).fmod 2) t2, Value.int ((x : Int).fdiv 6) t3] : Array Value)[((c : Nat) : Int).toNat]? = some (.int ((sgn x c : Nat) : Int) tk) := by
  have e1 : (x : Int).fmod 3 = ((x % 3 : Nat) : Int) := by rw [Int.fmod_eq_emod_of_nonneg _ (by decide)]; omega
  have e2 : (x : Int).fdiv 3 = ((x / 3 : Nat) : Int) := by rw [Int.fdiv_eq_ediv_of_nonneg _ (by decide)]; omega
  have e3 : ((x / 3 : Nat) : Int).fmod 2 = ((x / 3 % 2 : Nat) : Int) := by rw [Int.fmod_eq_emod_of_nonneg _ (by decide)]; omega
  have e4 : (x : Int).fdiv 6 = ((x / 6 : Nat) : Int) := by rw [Int.fdiv_eq_ediv_of_nonneg _ (by decide)]; omega
  rw [e1, e2, e3, e4]
  match c, hc with
  | 0, _ => exact ⟨_, rfl⟩
  | 1, _ => exact ⟨_, rfl⟩
  | 2, _ => exact ⟨_, rfl⟩

theorem sign_body {h₀ : Heap} {x c : Nat} {t t' : Tok} {Q : Flow → Shared → Prop} {m : Str → Option Value}
    (FE : FEnv env (scAt 50 w.params)) (hc : c < 3) (hm₁ : m (Str.ofString "x") = some (.int x t)) (hm₂ : m (Str.ofString "column") = some (.int c t')) (F : Fr h₀ env.locals s.heap m)
    (h : ∀ h' tk tk', (∀ b o, h₀.get? b = some o → h'.get? b = some o) → Q (.ret (.int ((sgn x c : Nat) : Int) tk)) { s with heap := h', toks := tk' }) :
    wpAny (model prog w) A (execs (bodyAt 50 w.params) env) Q E s := by
  refine wpAny_execs_cons ?_
  refine wpAny_Return_some ?_
  refine Subscript_ ?_
  refine wpAny_List ?_
  refine spl_cons ?_
  refine wpAny_BinOp (nmL FE rfl F.ns hm₁ (wpAny_Constant_int (mod_int' (by decide) ?_)))
  refine spl_cons ?_
  refine wpAny_BinOp (wpAny_BinOp (nmL FE rfl F.ns hm₁ (wpAny_Constant_int (floordiv_int (by decide) (wpAny_Constant_int (mod_int' (by decide) ?_))))))
  refine spl_cons ?_
  refine wpAny_BinOp (nmL FE rfl F.ns hm₁ (wpAny_Constant_int (floordiv_int (by decide) ?_)))
  refine spl_nil ⟨by simp [sizeLine_eq], ?_⟩
  have F' := F.push ({ cls := .type "list", data := .seq ([Value.int ((x : Int).fmod 3) (s.toks + 1), Value.int (((x : Int).fdiv 3).fmod 2) (s.toks + 1 + 1 + 1 + 1 + 1), Value.int ((x : Int).fdiv 6) (s.toks + 1 + 1 + 1 + 1 + 1 + 1 + 1)] : List Value).toArray } : Obj)
  refine nmL FE rfl F'.ns hm₂ ?_
  obtain ⟨tk, e⟩ := sgn_eq x c hc (s.toks + 1) (s.toks + 1 + 1 + 1 + 1 + 1) (s.toks + 1 + 1 + 1 + 1 + 1 + 1 + 1)
  refine itemL ⟨_, Heap.get?_push_size _ rfl, rfl, _, rfl⟩ (by omega) (by omega) e ?_
  exact h _ tk _ F'.keep
theorem sign_call {x c : Nat} {t t' : Tok} {Q : Value → Shared → Prop} (G : GR w.params mg mb s.heap) (hdp : A.depth < recursionLimit) (hc : c < 3)
    (h : ∀ h' tk tk', (∀ b o, s.heap.get? b = some o → h'.get? b = some o) → Q (.int ((sgn x c : Nat) : Int) tk) { s with heap := h', toks := tk' }) :
    wpAny (model prog w) A (call (.ref 50) [.int x t, .int c t']) Q E s := by
  refine wpAny_call (callAt (body := bodyAt 50 w.params) G hdp rfl rfl rfl rfl (BindsTo.of_eq rfl) rfl (locs rfl) rfl rfl rfl rfl rfl fun env h₁ FE hL hf F => ?_)
  exact sign_body FE hc rfl rfl F fun h' tk tk' k => h h' tk tk' k

def cs0 (i : Nat) : Str := match i with
  | 0 => Str.ofString "a"
  | 1 => Str.ofString ""
  | _ => Str.ofString "b"
def cs1 (i : Nat) : Str := match i with
  | 0 => Str.ofString ""
  | _ => Str.ofString "c"
def cs2 (i : Nat) : Str := match i with
  | 0 => Str.ofString "'"
  | 1 => Str.ofString ""
  | _ => Str.ofString "c'a"
def pcs (x : Nat) : List Str := [cs0 (x % 3), cs1 (x / 3 % 2), cs2 (x / 6)]
theorem cs0_eq (i : Nat) (hi : i < 3) (t1 t2 t3 : Tok) : ∃ tk, (#[Value.str (Str.ofString "a") t1, Value.str (Str.ofString "") t2, Value.str (Str.ofString "b") t3] : Array Value)[((i : Nat) : Int).toNat]? = some (.str (cs0 i) tk) := by
  match i, hi with
  | 0, _ => exact ⟨_, rfl⟩
  | 1, _ => exact ⟨_, rfl⟩
  | 2, _ => exact ⟨_, rfl⟩
theorem cs1_eq (i : Nat) (hi : i < 2) (t1 t2 : Tok) : ∃ tk, (#[Value.str (Str.ofString "") t1, Value.str (Str.ofString "c") t2] : Array Value)[((i : Nat) : Int).toNat]? = some (.str (cs1 i) tk) := by
  match i, hi with
  | 0, _ => exact ⟨_, rfl⟩
  | 1, _ => exact ⟨_, rfl⟩
theorem cs2_eq (i : Nat) (hi : i < 3) (t1 t2 t3 : Tok) : ∃ tk, (#[Value.str (Str.ofString "'") t1, Value.str (Str.ofString "") t2, Value.str (Str.ofString "c'a") t3] : Array Value)[((i : Nat) : Int).toNat]? = some (.str (cs2 i) tk) := by
  match i, hi with
  | 0, _ => exact ⟨_, rfl⟩
  | 1, _ => exact ⟨_, rfl⟩
  | 2, _ => exact ⟨_, rfl⟩
theorem fm3 (x : Nat) : (x : Int).fmod 3 = ((x % 3 : Nat) : Int) := by rw [Int.fmod_eq_emod_of_nonneg _ (by decide)]; omega
theorem fd3 (x : Nat) : (x : Int).fdiv 3 = ((x / 3 : Nat) : Int) := by rw [Int.fdiv_eq_ediv_of_nonneg _ (by decide)]; omega
theorem fm2 (x : Nat) : (x : Int).fmod 2 = ((x % 2 : Nat) : Int) := by rw [Int.fmod_eq_emod_of_nonneg _ (by decide)]; omega
theorem fd6 (x : Nat) : (x : Int).fdiv 6 = ((x / 6 : Nat) : Int) := by rw [Int.fdiv_eq_ediv_of_nonneg _ (by decide)]; omega

/-- a new list of three texts -/
def Row3 (h : Heap) (D : Addr) (r : List Str) : Prop := ∃ a b c t1 t2 t3 n, r = [a, b, c] ∧ h.get? D = some (W.listOf #[.str a t1, .str b t2, .str c t3] n)

theorem parts_body {h₀ : Heap} {x : Nat} {t : Tok} {Q : Flow → Shared → Prop} {m : Str → Option Value}
    (FE : FEnv env (scAt 57 w.params)) (hx : x < 18) (hm₁ : m (Str.ofString "x") = some (.int x t)) (F : Fr h₀ env.locals s.heap m)
    (h : ∀ D h' tk', (∀ b o, h₀.get? b = some o → h'.get? b = some o) → h₀.get? D = none → Row3 h' D (pcs x) → Q (.ret (.ref D)) { s with heap := h', toks := tk' }) :
    wpAny (model prog w) A (execs (bodyAt 57 w.params) env) Q E s := by
  refine wpAny_execs_cons ?_
  refine wpAny_Return_some ?_
  refine wpAny_List ?_
  refine spl_cons ?_
  refine Subscript_ ?_
  refine wpAny_List ?_
  refine spl_cons ?_
  refine wpAny_Constant_str ?_
  refine spl_cons ?_
  refine wpAny_Constant_str ?_
  refine spl_cons ?_
  refine wpAny_Constant_str ?_
  refine spl_nil ⟨by simp [sizeLine_eq], ?_⟩
  have F1 := F.push ({ cls := .type "list", data := .seq ([Value.str (Str.ofString "a") s.toks, Value.str (Str.ofString "") (s.toks + 1), Value.str (Str.ofString "b") (s.toks + 1 + 1)] : List Value).toArray } : Obj)
  refine wpAny_BinOp (nmL FE rfl F1.ns hm₁ (wpAny_Constant_int (mod_int' (by decide) ?_)))
  rw [fm3]
  obtain ⟨k1, e1⟩ := cs0_eq (x % 3) (by omega) s.toks (s.toks + 1) (s.toks + 1 + 1)
  refine itemL ⟨_, Heap.get?_push_size _ rfl, rfl, _, rfl⟩ (by omega) (by omega) e1 ?_
  refine spl_cons ?_
  refine Subscript_ ?_
  refine wpAny_List ?_
  refine spl_cons ?_
  refine wpAny_Constant_str ?_
  refine spl_cons ?_
  refine wpAny_Constant_str ?_
  refine spl_nil ⟨by simp [sizeLine_eq], ?_⟩
  dsimp only
  generalize s.toks + 1 + 1 + 1 + 1 + 1 = T2
  have F2 := F1.push ({ cls := .type "list", data := .seq ([Value.str (Str.ofString "") T2, Value.str (Str.ofString "c") (T2 + 1)] : List Value).toArray } : Obj)
  refine wpAny_BinOp (wpAny_BinOp (nmL FE rfl F2.ns hm₁ (wpAny_Constant_int (floordiv_int (by decide) (wpAny_Constant_int (mod_int' (by decide) ?_))))))
  rw [fd3, fm2]
  obtain ⟨k2, e2⟩ := cs1_eq (x / 3 % 2) (by omega) T2 (T2 + 1)
  refine itemL ⟨_, Heap.get?_push_size _ rfl, rfl, _, rfl⟩ (by omega) (by omega) e2 ?_
  refine spl_cons ?_
  refine Subscript_ ?_
  refine wpAny_List ?_
  refine spl_cons ?_
  refine wpAny_Constant_str ?_
  refine spl_cons ?_
  refine wpAny_Constant_str ?_
  refine spl_cons ?_
  refine wpAny_Constant_str ?_
  refine spl_nil ⟨by simp [sizeLine_eq], ?_⟩
  dsimp only
  generalize T2 + 1 + 1 + 1 + 1 + 1 + 1 = T3
  have F3 := F2.push ({ cls := .type "list", data := .seq ([Value.str (Str.ofString "'") T3, Value.str (Str.ofString "") (T3 + 1), Value.str (Str.ofString "c'a") (T3 + 1 + 1)] : List Value).toArray } : Obj)
  refine wpAny_BinOp (nmL FE rfl F3.ns hm₁ (wpAny_Constant_int (floordiv_int (by decide) ?_)))
  rw [fd6]
  obtain ⟨k3, e3⟩ := cs2_eq (x / 6) (by omega) T3 (T3 + 1) (T3 + 1 + 1)
  refine itemL ⟨_, Heap.get?_push_size _ rfl, rfl, _, rfl⟩ (by omega) (by omega) e3 ?_
  refine spl_nil ⟨by simp [sizeLine_eq], ?_⟩
  have F4 := F3.push ({ cls := .type "list", data := .seq ([Value.str (cs0 (x % 3)) k1, Value.str (cs1 (x / 3 % 2)) k2, Value.str (cs2 (x / 6)) k3] : List Value).toArray } : Obj)
  exact h _ _ _ F4.keep (next_is_new F3) ⟨_, _, _, k1, k2, k3, 0, rfl, Heap.get?_push_size _ rfl⟩
theorem parts_call {x : Nat} {t : Tok} {Q : Value → Shared → Prop} (G : GR w.params mg mb s.heap) (hdp : A.depth < recursionLimit) (hx : x < 18)
    (h : ∀ D h' tk', (∀ b o, s.heap.get? b = some o → h'.get? b = some o) → s.heap.get? D = none → Row3 h' D (pcs x) → Q (.ref D) { s with heap := h', toks := tk' }) :
    wpAny (model prog w) A (call (.ref 57) [.int x t]) Q E s := by
  refine wpAny_call (callAt (body := bodyAt 57 w.params) G hdp rfl rfl rfl rfl (BindsTo.of_eq rfl) rfl (locs rfl) rfl rfl rfl rfl rfl fun env h₁ FE hL hf F => ?_)
  exact parts_body FE hx rfl F fun D h' tk' k hn hr => h D h' tk' k hn hr
end
end Mine
end

section
open PySem PySem.W PyProof.Rows PySem.Calls PySem.SeqAt
set_option maxRecDepth 100000
namespace Mine
section
variable {prog : Program} {w : World} {A : Around} {s : Shared} {E : Value → Shared → Prop} {env : Env} {sc : Scope} {mg mb : Str → Option Value}
/-- the joined text -/
def jn (x : Nat) : Str := Txt.join (Str.ofString "'") (pcs x)
theorem split_jn : ∀ x < 18, Txt.splitMax (jn x) (Str.ofString "'") 2 = pcs x := by decide +kernel
theorem jn_short : ∀ x < 18, (jn x).length ≤ 100 := by decide +kernel
theorem jn_ok : ∀ x < 18, JoinOk (Str.ofString "'") (pcs x) = true := by decide +kernel
theorem pcs_ok : ∀ x < 18, RowOk (pcs x) := by
  have : ∀ x < 18, (pcs x).all PyData.strOk = true := by decide +kernel
  intro x hx y hy
  exact List.all_eq_true.mp (this x hx) y hy

theorem decode_body {h₀ : Heap} {x : Nat} {t : Tok} {Q : Flow → Shared → Prop} {m : Str → Option Value}
    (FE : FEnv env (scAt 43 w.params)) (G : GR w.params mg mb h₀) (hx : x < 18) (hm₁ : m (Str.ofString "s") = some (.str (jn x) t)) (F : Fr h₀ env.locals s.heap m)
    (h : ∀ D h' tk', (∀ b o, h₀.get? b = some o → h'.get? b = some o) → h₀.get? D = none → Row3 h' D (pcs x) → Q (.ret (.ref D)) { s with heap := h', toks := tk' }) :
    wpAny (model prog w) A (execs (bodyAt 43 w.params) env) Q E s := by
  refine wpAny_execs_cons (wpAny_Assign_Name (wpAny_Call_method2_late rfl rfl rfl (nmL FE rfl F.ns hm₁ ⟨"str", "str.split", PySem.F.plainAttrs_str, PySem.F.slot_str_split, PySem.F.type_str_split, typeIs_str _ _ _, (fun a ha => by cases ha), ?_⟩)))
  refine Calls.callWith_builtin rfl (evalArgs_plain (spliced_cons (gName FE rfl (G.keeps F.keep) rfl (spliced_cons (wpAny_Constant_int (k := 0) (pos := default) (spliced_nil ?_))))))
  have hsh := jn_short x hx
  refine splitN2A F News.nil rfl rfl (fun l h' tk hl hs _ hD F' N' => ?_) (by rw [sizeLine_eq]; omega)
  have hl' := hl.trans (split_jn x hx)
  obtain ⟨t1, t2, t3, rfl⟩ : ∃ t1 t2 t3, l = [(cs0 (x % 3), t1), (cs1 (x / 3 % 2), t2), (cs2 (x / 6), t3)] := by
    match l, hl' with
    | [(a, t1), (b, t2), (c, t3)], hl' =>
      simp only [pcs, List.map_cons, List.map_nil, List.cons.injEq, and_true] at hl'
      obtain ⟨rfl, rfl, rfl⟩ := hl'
      exact ⟨t1, t2, t3, rfl⟩
  refine stL FE rfl F' fun h₂ F₂ hs₂ => ?_
  have N₂ := N'.set hs₂
  dsimp only at F₂ N₂ ⊢
  have hD₂ := (N₂ _ List.mem_cons_self).1
  refine wpAny_execs_cons (wpAny_If (wpAny_isTrue_Compare1 (Call_Name1 (bName FE rfl (G.keeps F₂.keep) rfl rfl ?_))))
  refine Calls.callWith_builtin rfl (evalArgs_plain (spliced_cons (nmL FE rfl F₂.ns (v := .ref s.heap.objs.size) rfl (spliced_nil ?_))))
  refine call_len_list ⟨_, hD₂, rfl, _, rfl⟩ (by simp [strValues]) ?_
  refine wpAny_Constant_int (le_int (wpAny_truthy_bool ?_))
  have hne : decide (((strValues [(cs0 (x % 3), t1), (cs1 (x / 3 % 2), t2), (cs2 (x / 6), t3)]).toArray.size : Int) ≤ 2) = false := by simp [strValues]
  simp only [hne, Bool.false_eq_true, if_false]
  refine wpAny_execs_nil (wpAny_execs_cons (wpAny_Return_some (nmL FE rfl F₂.ns (v := .ref s.heap.objs.size) rfl ?_)))
  exact h _ _ _ F₂.keep (next_is_new F) ⟨_, _, _, t1, t2, t3, 0, rfl, hD₂⟩
theorem decode_call {x : Nat} {t : Tok} {Q : Value → Shared → Prop} (G : GR w.params mg mb s.heap) (hdp : A.depth < recursionLimit) (hx : x < 18)
    (h : ∀ D h' tk', (∀ b o, s.heap.get? b = some o → h'.get? b = some o) → s.heap.get? D = none → Row3 h' D (pcs x) → Q (.ref D) { s with heap := h', toks := tk' }) :
    wpAny (model prog w) A (call (.ref 43) [.str (jn x) t]) Q E s := by
  refine wpAny_call (callAt (body := bodyAt 43 w.params) G hdp rfl rfl rfl rfl (BindsTo.of_eq rfl) rfl (locs rfl) rfl rfl rfl rfl rfl fun env h₁ FE hL hf F => ?_)
  exact decode_body FE G hx rfl F fun D h' tk' k hn hr => h D h' tk' k hn hr
end
end Mine
end

section
open PySem PySem.W PyProof.Rows PySem.Calls PySem.SeqAt
set_option maxRecDepth 100000
namespace Mine
section
variable {prog : Program} {w : World} {A : Around} {s : Shared} {E : Value → Shared → Prop} {env : Env} {sc : Scope} {mg mb : Str → Option Value}

theorem strs_reads {h : Heap} {T : Addr} {its : Array Value} {r : List Str} (hl : h.IsList T its) (hs : StrsAre its.toList r) : ∃ bs, Reads h (.ref T) (row2d r) bs := by
  obtain ⟨o, ho, hc, n, hd⟩ := hl
  exact ⟨_, reads_list_at ho hc hd (CarriedAll.reads h hs.carried)⟩
theorem Row3.strs {h : Heap} {D : Addr} {r : List Str} (x : Row3 h D r) : ∃ its, h.IsList D its ∧ StrsAre its.toList r := by
  obtain ⟨a, b, c, t1, t2, t3, n, rfl, ho⟩ := x
  exact ⟨_, ⟨_, ho, rfl, _, rfl⟩, .cons _ _ (.cons _ _ (.cons _ _ .nil))⟩

theorem rows_of_paired {Rel : Value → List Str → Prop} {h₂ h' : Heap} : ∀ {vs ys : List Value}, Paired (LstIs h₂ (fun v its => ∃ r, Rel v r ∧ StrsAre its.toList r ∧ RowOk r) h') vs ys → ∃ rs, Paired Rel vs rs ∧ RowsAt h' ys rs
  | _, _, .nil => ⟨[], .nil, RowsAt.nil⟩
  | _, _, .cons a b => by
    obtain ⟨T, its, rfl, _, hl, r, hr, hs, ok⟩ := a
    obtain ⟨rs, h1, h2⟩ := rows_of_paired b
    obtain ⟨bs, hrd⟩ := strs_reads hl hs
    exact ⟨r :: rs, .cons hr h1, RowsAt.append (RowsAt.one ok hrd) h2⟩

theorem filter_tt {α : Type} (l : List α) : l.filter (fun _ => true) = l := by simp

def CompElt (prog : Program) (w : World) (A : Around) (env : Env) (scope : Scope) (cl : List (Str × Addr)) (x : Str) (elt : Expr) (vs : List Value) (Rel : Value → List Str → Prop) (h₁ : Heap) : Prop :=
  ∀ (C : Addr) (i : Nat) (v : Value) (s₃ : Shared) (m₃ : Str → Option Value) (E' : Value → Shared → Prop), vs[i]? = some v → s₃.heap.Ns C m₃ → m₃ x = some v → (∀ b o, h₁.get? b = some o → s₃.heap.get? b = some o) →
    wpAny (model prog w) A (eval elt (compEnvC scope cl C env)) (fun y s₄ => (∃ T its r, y = .ref T ∧ s₃.heap.get? T = none ∧ s₄.heap.IsList T its ∧ Rel v r ∧ StrsAre its.toList r ∧ RowOk r) ∧ Keeps s₃ s₄) E' s₃

theorem quiet_of {scope : Scope} {cl : List (Str × Addr)} {x : Str} {elt : Expr} {vs : List Value} {Rel : Value → List Str → Prop} {s₁ : Shared} {l : Addr} (he : CompElt prog w A env scope cl x elt vs Rel s₁.heap) :
    QuietOnCO prog w A env scope cl x [] elt [s₁.heap.objs.size] (fun i v => vs.toArray[i]? = some v) (fun _ => true) (fun v its => ∃ r, Rel v r ∧ StrsAre its.toList r ∧ RowOk r) { s₁ with heap := s₁.heap.push { cls := .type "list_iterator", data := .fields #[.ref l, .int 0 0] } } where
  tests := fun C i v s₃ m₃ E' _ _ _ _ _ _ => wpAny_tests_nil ⟨rfl, s₃.heap, s₃.toks, rfl, fun _ _ e => e⟩
  elt := fun C i v s₃ m₃ E' _ hP _ hn hm hk _ => by
    refine wpAny_mono (he C i v s₃ m₃ E' (by simpa using hP) hn hm fun b o e => hk b o (fun hb => by rw [List.mem_singleton.mp hb, none_at_end] at e; cases e) (Heap.get?_push_of_some _ e)) (fun y s₄ h₄ => ?_) fun _ _ x => x
    obtain ⟨⟨T, its, r, h1, h2, h3, h4, h5, h6⟩, hk⟩ := h₄
    exact ⟨⟨T, its, h1, h2, h3, r, h4, h5, h6⟩, hk⟩

theorem comp_rows {elt iter : Expr} {x : Str} {px : Pos} {scope : Scope} {cl : List (Str × Addr)} {pos : Pos} {Q : Value → Shared → Prop} (Rel : Value → List Str → Prop) (hh : A.handled = none)
    (hclos : closureFor scope env = pure cl) (hcell : (scope.names.all fun y => decide (y.2 ≠ .cell)) = true) (hkind : scope.kind = .function)
    (hnames : (scope.names.all fun y => decide (y.2 = .local → scope.names.lookup y.1 = some .local)) = true) (hx : scope.names.lookup x = some .local)
    (h : wpAny (model prog w) A (eval iter env) (fun xv s₁ => ∃ l vs, xv = .ref l ∧ s₁.heap.IsList l vs.toArray ∧ vs.length ≤ 4096 ∧ CompElt prog w A env scope cl x elt vs Rel s₁.heap ∧
      (∀ D ys n rs h' tk, s₁.heap.get? D = none → (∀ b o, s₁.heap.get? b = some o → h'.get? b = some o) → h'.get? D = some (W.listOf (List.toArray ys) n) → Paired Rel vs rs → RowsAt h' ys rs → Q (.ref D) { s₁ with heap := h', toks := tk })) E s)
    (hs : ∀ x, foldedSetIterable iter env x = pure x := by intro _; rfl) :
    wpAny (model prog w) A (eval (.ListComp elt [⟨.Name x px, iter, [], 0⟩] scope pos) env) Q E s := by
  refine wpAny_ListComp_freeO (fun _ => true) (fun v its => ∃ r, Rel v r ∧ StrsAre its.toList r ∧ RowOk r) hclos (fun y hy => of_decide_eq_true (List.all_eq_true.mp hcell y hy)) hkind (fun y hy => of_decide_eq_true (List.all_eq_true.mp hnames y hy)) hx (wpAny_mono h (fun xv s₁ h₁ => ?_) fun _ _ x => x) hs
  obtain ⟨l, vs, rfl, hl, hsz, he, hQ⟩ := h₁
  have hlt : l < s₁.heap.objs.size := by obtain ⟨_, e, _⟩ := hl; exact Heap.lt_size e
  have up : ∀ (h' : Heap), (∀ b o, b ∉ [s₁.heap.objs.size] → (s₁.heap.push { cls := .type "list_iterator", data := .fields #[.ref l, .int 0 0] }).get? b = some o → h'.get? b = some o) → ∀ b o, s₁.heap.get? b = some o → h'.get? b = some o :=
    fun h' hk b o e => hk b o (fun hb => by rw [List.mem_singleton.mp hb, none_at_end] at e; cases e) (Heap.get?_push_of_some _ e)
  refine wpAny_pyIter_list hl ⟨s₁.heap.objs.size, [s₁.heap.objs.size, l], [s₁.heap.objs.size], vs.toArray.size, _, _, rfl, Walks.list hh _ _ (Nat.ne_of_lt hlt) vs.toArray, (by rw [List.size_toArray, sizeLine_eq]; omega), ?_, ⟨⟨_, Heap.get?_push_size _ rfl, rfl, rfl⟩, hl.push _⟩, ?_, quiet_of he, ?_⟩
  · intro i h st b hb
    rw [List.mem_singleton.mp hb]
    obtain ⟨o, e, _⟩ := st.1
    exact ⟨o, e⟩
  · intro b hb
    show b < (s₁.heap.push _).objs.size
    rw [Heap.size_push]
    rcases List.mem_cons.mp hb with rfl | hb
    · exact Nat.lt_succ_self _
    · rw [List.mem_singleton.mp hb]; exact Nat.lt_succ_of_lt hlt
  · intro D h' tk ys vs' hnew hlD hplD hlen hP hF _ _ hk
    have e : vs' = vs := by simpa using list_of_places hlen hP
    subst e
    rw [filter_tt] at hF
    obtain ⟨rs, h1, h2⟩ := rows_of_paired hF
    obtain ⟨n, hD⟩ := hplD
    refine hQ D ys.toList n rs h' tk ?_ (up h' hk) (by simpa using hD) h1 h2
    cases e : s₁.heap.get? D with
    | none => rfl
    | some o => rw [Heap.get?_push_of_some _ e] at hnew; cases hnew

theorem assign_comp_rows {elt iter : Expr} {x y : Str} {px py : Pos} {scope : Scope} {cl : List (Str × Addr)} {pos spos : Pos} {Q : Flow → Shared → Prop} {h₀ : Heap} {m : Str → Option Value} (Rel : Value → List Str → Prop) (hh : A.handled = none) (FE : FEnv env sc)
    (hsw : swapsWith (.ListComp elt [⟨.Name x px, iter, [], 0⟩] scope pos) (some (.Name y py)) spos.line env = pure true) (hy : sc.names.lookup y = some .local)
    (hclos : closureFor scope env = pure cl) (hcell : (scope.names.all fun y => decide (y.2 ≠ .cell)) = true) (hkind : scope.kind = .function)
    (hnames : (scope.names.all fun y => decide (y.2 = .local → scope.names.lookup y.1 = some .local)) = true) (hx : scope.names.lookup x = some .local)
    (h : wpAny (model prog w) A (eval iter env) (fun xv s₁ => ∃ l vs, xv = .ref l ∧ s₁.heap.IsList l vs.toArray ∧ vs.length ≤ 4096 ∧ Fr h₀ env.locals s₁.heap m ∧ CompElt prog w A env scope cl x elt vs Rel s₁.heap ∧
      (∀ D ys n rs h' tk, s₁.heap.get? D = none → (∀ b o, b ≠ env.locals → s₁.heap.get? b = some o → h'.get? b = some o) → Fr h₀ env.locals h' (fun z => if z = y then some (.ref D) else m z) → h'.get? D = some (W.listOf (List.toArray ys) n) → D ≠ env.locals → Paired Rel vs rs → RowsAt h' ys rs → Q .next { s₁ with heap := h', toks := tk })) E s)
    (hs : ∀ x, foldedSetIterable iter env x = pure x := by intro _; rfl) :
    wpAny (model prog w) A (exec (.Assign [.Name y py] (.ListComp elt [⟨.Name x px, iter, [], 0⟩] scope pos) spos) env) Q E s := by
  rw [exec_Assign_Name_used _ _ _ _ hsw]
  refine wpAny_bind (wpAny_standAt (wpAny_bind ?_))
  show wpAny _ A (do let _ ← comprehension (.ListComp elt [⟨.Name x px, iter, [], 0⟩] scope pos) scope env _ (newList []) false (eval iter env) (some (assign (.Name y py) env))) _ _ s
  refine wpAny_bind (wpAny_mono (wpAny_comprehension_free (use := some (assign (.Name y py) env)) (Q := fun _ s' => Q .next s') rfl hs hclos hkind (fun y hy => of_decide_eq_true (List.all_eq_true.mp hnames y hy))
    (wpAny_mono h (fun xv s₁ h₁ => ?_) fun _ _ e => e)) (fun _ s' hq => wpAny_pure (wpAny_pure hq)) fun _ _ e => e)
  obtain ⟨l, vs, rfl, hl, hsz, F, he, hQ⟩ := h₁
  have hlt : l < s₁.heap.objs.size := by obtain ⟨_, e, _⟩ := hl; exact Heap.lt_size e
  have up : ∀ (h' : Heap), (∀ b o, b ∉ [s₁.heap.objs.size] → (s₁.heap.push { cls := .type "list_iterator", data := .fields #[.ref l, .int 0 0] }).get? b = some o → h'.get? b = some o) → ∀ b o, s₁.heap.get? b = some o → h'.get? b = some o :=
    fun h' hk b o e => hk b o (fun hb => by rw [List.mem_singleton.mp hb, none_at_end] at e; cases e) (Heap.get?_push_of_some _ e)
  refine wpAny_pyIter_list hl ?_
  refine comp_block_walkCO (RR := fun acc C => compPost (model prog w) A E (some (assign (.Name y py) env)) (fun _ s' => Q .next s') acc C) (Walks.list hh s₁.heap.objs.size l (Nat.ne_of_lt hlt) vs.toArray) (by rw [List.size_toArray, sizeLine_eq]; omega) (fun _ => true) (fun v its => ∃ r, Rel v r ∧ StrsAre its.toList r ∧ RowOk r)
    ?_ (fun y hy => of_decide_eq_true (List.all_eq_true.mp hcell y hy)) hkind hx ⟨⟨_, Heap.get?_push_size _ rfl, rfl, rfl⟩, hl.push _⟩ ?_ (quiet_of he) ?_
  · intro i h st b hb
    rw [List.mem_singleton.mp hb]
    obtain ⟨o, e, _⟩ := st.1
    exact ⟨o, e⟩
  · intro b hb
    show b < (s₁.heap.push _).objs.size
    rw [Heap.size_push]
    rcases List.mem_cons.mp hb with rfl | hb
    · exact Nat.lt_succ_self _
    · rw [List.mem_singleton.mp hb]; exact Nat.lt_succ_of_lt hlt
  · intro D C h' tk m' ys vs' hD hC hDC hnC hlD hplD hlen hP hF hnd hk
    have e : vs' = vs := by simpa using list_of_places hlen hP
    subst e
    rw [filter_tt] at hF
    have older : ∀ a, (s₁.heap.push { cls := .type "list_iterator", data := .fields #[.ref l, .int 0 0] }).get? a = none → s₁.heap.get? a = none := fun a ha => by
      cases e : s₁.heap.get? a with
      | none => rfl
      | some o => rw [Heap.get?_push_of_some _ e] at ha; cases ha
    have hLs : ∃ o, s₁.heap.get? env.locals = some o := by obtain ⟨o, _, _, ho, _⟩ := F.ns; exact ⟨o, ho⟩
    have hLC : env.locals ≠ C := by rintro q; obtain ⟨o, ho⟩ := hLs; rw [q, older _ hC] at ho; cases ho
    have hLD : env.locals ≠ D := by rintro q; obtain ⟨o, ho⟩ := hLs; rw [q, older _ hD] at ho; cases ho
    have hk' := up h' hk
    have F' : Fr h₀ env.locals h' m := F.keeps hk'
    show wpAny _ A (assign (.Name y py) env (.ref D)) _ _ _
    refine wpAny_assign_Name (stL FE hy F' fun h₂ F₂ hs₂ => ?_)
    refine ⟨m', hnC.sameBut hs₂ (Ne.symm hLC), fun h₃ hs₃ => ?_⟩
    have hC0 : h₀.get? C = none := by
      cases q : h₀.get? C with
      | none => rfl
      | some o => have := F.keep _ o q; rw [older _ hC] at this; cases this
    have hF' : Paired (LstIs s₁.heap (fun v its => ∃ r, Rel v r ∧ StrsAre its.toList r ∧ RowOk r) h₃) vs' ys.toList := hF.mono fun v y hy => by
      obtain ⟨T, its, rfl, h1, hTC, _, hTD, hlT, hG⟩ := hy
      refine ⟨T, its, rfl, older _ h1, (hlT.extBut hs₂.extBut fun q => ?_).extBut hs₃.extBut hTC, hG⟩
      obtain ⟨o, ho⟩ := hLs
      rw [q, Heap.get?_push_of_some _ ho] at h1; cases h1
    obtain ⟨rs, h1, h2⟩ := rows_of_paired hF'
    obtain ⟨n, hD'⟩ := hplD
    refine hQ D ys.toList n rs h₃ _ (older _ hD) (fun b o hb e => hs₃.extBut b o (fun q => by rw [q, older _ hC] at e; cases e) (hs₂.extBut b o hb (hk' b o e))) (F₂.change hs₃ (Ne.symm hLC) hC0) ?_ (Ne.symm hLD) h1 h2
    have q1 := hs₂.extBut D _ (Ne.symm hLD) hD'
    have q2 := hs₃.extBut D _ hDC q1
    simpa using q2
end
end Mine
end

section
open PySem PySem.W PyProof.Rows PySem.Calls PySem.SeqAt
set_option maxRecDepth 100000
namespace Mine
/-- wpAny as a structure, so that its trees are not run while a lemma is applied -/
structure WP {α : Type} (M : Model) (A : Around) (t : Sem α) (Q : α → Shared → Prop) (E : Value → Shared → Prop) (s : Shared) : Prop where
  go : wpAny M A t Q E s
abbrev Ext (h h' : Heap) : Prop := ∀ b o, h.get? b = some o → h'.get? b = some o
/-- all but the addresses W stands -/
abbrev St (W : List Addr) (h h' : Heap) : Prop := ∀ b o, b ∉ W → h.get? b = some o → h'.get? b = some o
theorem Ext.st {W : List Addr} {h h' : Heap} (x : Ext h h') : St W h h' := fun b o _ e => x b o e
theorem St.trans {W : List Addr} {h h' h'' : Heap} (x : St W h h') (y : St W h' h'') : St W h h'' := fun b o hb e => y b o hb (x b o hb e)
theorem St.of_same {W : List Addr} {h h' : Heap} {a : Addr} (x : Heap.SameBut a h h') (ha : a ∈ W) : St W h h' := fun b o hb e => x.extBut b o (fun q => hb (q ▸ ha)) e
theorem ext_of_new {h h' : Heap} (x : Heap.ExtBut h.objs.size h h') : Ext h h' := fun b o e => x b o (Nat.ne_of_lt (Heap.lt_size e)) e

section
variable {prog : Program} {w : World} {A : Around} {s : Shared} {E : Value → Shared → Prop} {env : Env} {sc : Scope} {mg mb : Str → Option Value}

theorem letGo_listiter {target : Expr} {I l : Addr} {i : Nat} {v : Value} {Q : Unit → Shared → Prop} (hi : s.heap.IsListIter I l i) (h : Q () s) : wpAny (model prog w) A (letOwnedTupleGo target (.ref I) v) Q E s := by
  obtain ⟨o, ho, hc, hd⟩ := hi
  have main : ∀ {k : Obj → Sem Unit}, wpAny (model prog w) A (k o) Q E s → wpAny (model prog w) A (load I >>= k) Q E s := fun hk => wpAny_bind (wpAny_load ho hk)
  unfold letOwnedTupleGo
  split
  · cases v <;> first | exact wpAny_pure h | (refine main ?_; rw [hc, hd]; exact wpAny_pure h)
  · cases v <;> first | exact wpAny_pure h | (refine main ?_; rw [hc, hd]; exact wpAny_pure h)
  · exact wpAny_pure h

def TurnPost (s₁ : Shared) (W : List Addr) (J : Heap → Prop) (Q : Flow → Shared → Prop) (f : Flow) (s₃ : Shared) : Prop := match f with
  | .next | .cont => (∃ g tk, s₃ = { s₁ with heap := g, toks := tk }) ∧ St W s₁.heap s₃.heap ∧ J s₃.heap
  | .brk => False
  | .ret v => Q (.ret v) s₃

theorem for_gen {target : Expr} {iter : Expr} {body : List Stmt} {pos : Pos} {l : Addr} {vs : List Value} {Q : Flow → Shared → Prop} (W : List Addr) (J : Nat → Heap → Prop)
    (hiter : ∀ Q' : Value → Shared → Prop, Q' (.ref l) s → wpAny (model prog w) A (eval iter env) Q' E s)
    (hh : A.handled = none) (hl : s.heap.IsList l vs.toArray) (hlW : l ∉ W) (hW : ∀ b ∈ W, b < s.heap.objs.size)
    (hJ : ∀ i h h', J i h → (∃ o, h.get? s.heap.objs.size = some o ∧ o.cls = .type "list_iterator") → (∀ b o, b ≠ s.heap.objs.size → h.get? b = some o → h'.get? b = some o) → J i h')
    (h0 : ∀ h', Ext s.heap h' → J 0 h')
    (turn : ∀ i v s₁, (∃ g tk, s₁ = { s with heap := g, toks := tk }) → vs[i]? = some v → J i s₁.heap → s₁.heap.IsList l vs.toArray → St W s.heap s₁.heap → (∃ o, s₁.heap.get? s.heap.objs.size = some o ∧ o.cls = .type "list_iterator") →
      wpAny (model prog w) A (assign target env v) (fun _ s₂ => wpAny (model prog w) A (execs body env) (TurnPost s₁ W (J (i + 1)) Q) (fun _ _ => False) s₂) (fun _ _ => False) s₁)
    (done : ∀ h' tk, J vs.length h' → St W s.heap h' → Q .next { s with heap := h', toks := tk })
    (hs : ∀ x, foldedSetIterable iter env x = pure x := by intro _; rfl) :
    wpAny (model prog w) A (exec (.For target iter body [] pos) env) Q E s := by
  have hlt : l < s.heap.objs.size := by obtain ⟨_, e, _⟩ := hl; exact Heap.lt_size e
  have hIW : s.heap.objs.size ∉ W := fun hm => Nat.lt_irrefl _ (hW _ hm)
  refine wpAny_For (hiter _ (wpAny_pyIter_list hl ?_)) hs
  have hpush := push_keeps s.heap ({ cls := .type "list_iterator", data := .fields #[.ref l, .int 0 0] } : Obj)
  refine codeAny_forLoop_any (fun k s' => ∃ i g tk, s' = { s with heap := g, toks := tk } ∧ k = vs.length + 1 - i ∧ i ≤ vs.length ∧ g.IsListIter s.heap.objs.size l i ∧ g.IsList l vs.toArray ∧ J i g ∧ St W s.heap g) ?_ (vs.length + 1)
    ⟨0, _, s.toks, rfl, rfl, Nat.zero_le _, ⟨_, Heap.get?_push_size _ rfl, rfl, rfl⟩, hl.push _, h0 _ hpush, fun b o _ e => hpush b o e⟩
  rintro k s' ⟨i, g, tk, rfl, rfl, hi, hit, hl', hJi, hSt⟩
  have hIt : ∀ {j : Nat} {g' : Heap}, g'.IsListIter s.heap.objs.size l j → ∃ o, g'.get? s.heap.objs.size = some o ∧ o.cls = .type "list_iterator" := fun ⟨o, e, c, _⟩ => ⟨o, e, c⟩
  have hold : ∀ {g' : Heap}, (∀ b o, b ≠ s.heap.objs.size → g.get? b = some o → g'.get? b = some o) → St W s.heap g' := fun hk b o hb e => hk b o (Nat.ne_of_lt (Heap.lt_size e)) (hSt b o hb e)
  by_cases hlt' : i < vs.length
  · refine wpAny_pyNext_list_item hit hl' (x := vs[i]) (by simp [hlt']) fun h' hit' hs' => ?_
    have hk : ∀ b o, b ≠ s.heap.objs.size → g.get? b = some o → h'.get? b = some o := fun b o hb e => hs'.extBut b o hb e
    have hl'' : h'.IsList l vs.toArray := hl'.extBut hs'.extBut (Nat.ne_of_lt hlt)
    refine letGo_listiter hit' ?_
    refine wpAny_mono (turn i vs[i] _ ⟨h', tk, rfl⟩ (by simp [hlt']) (hJ i g h' hJi (hIt hit) hk) hl'' (hold hk) (hIt hit')) (fun _ s₂ h₂ => wpAny_mono h₂ (fun f s₃ h₃ => ?_) fun _ _ x => x.elim) fun _ _ x => x.elim
    have fin : (∃ g' tk', s₃ = { s with heap := g', toks := tk' }) ∧ St W h' s₃.heap ∧ J (i + 1) s₃.heap → ∃ m, m < vs.length + 1 - i ∧ ∃ i g tk, s₃ = { s with heap := g, toks := tk } ∧ m = vs.length + 1 - i ∧ i ≤ vs.length ∧ g.IsListIter s.heap.objs.size l i ∧ g.IsList l vs.toArray ∧ J i g ∧ St W s.heap g := by
      rintro ⟨⟨g', tk', rfl⟩, hst, hj⟩
      obtain ⟨o, ho, hc, hd⟩ := hit'
      exact ⟨vs.length + 1 - (i + 1), by omega, i + 1, g', tk', rfl, rfl, hlt', ⟨o, hst _ o hIW ho, hc, hd⟩, hl''.at fun o e => hst l o hlW e, hj, (hold hk).trans hst⟩
    cases f with
    | next => exact fin h₃
    | cont => exact fin h₃
    | brk => exact h₃.elim
    | ret v => exact h₃
  · have : i = vs.length := by omega
    subst this
    refine wpAny_pyNext_list_end hh hit hl' (by simp) fun h' he' => wpAny_execs_nil ?_
    exact done h' tk (hJ _ g h' hJi (hIt hit) fun b o hb e => he' b o hb e) (hold fun b o hb e => he' b o hb e)
end
end Mine
end

section
open PySem PySem.W PyProof.Rows PySem.Calls PySem.SeqAt
set_option maxRecDepth 100000
namespace Mine
section
variable {prog : Program} {w : World} {A : Around} {s : Shared} {E : Value → Shared → Prop} {env : Env} {sc : Scope} {mg mb : Str → Option Value}

theorem callAtC {a : Addr} {o : Obj} {vals : List Value} {binds : List (Str × Value)} {body : List Stmt} {R : Result → Shared → Prop} (G : GR w.params mg mb s.heap) (hroom : A.depth < recursionLimit)
    (ho : (hd.heap_39 w.params).lookup a = some o) (hdata : o.data = .func (fdAt a w.params)) (hbody : (fdAt a w.params).body = .stmts body) (hcd : codeIn (hd.heap_39 w.params) (fdAt a w.params).code (fdAt a w.params).qualname = true) (hbind : bindArgs (fdAt a w.params) ⟨vals, []⟩ = pure binds) (hclo : (fdAt a w.params).closure = [])
    (hkind : (binds.all fun y => (fdAt a w.params).scope.names.lookup y.1 == some .local || (fdAt a w.params).scope.names.lookup y.1 == some .cell) = true)
    (hgl : (fdAt a w.params).globals = mainGlobals) (hbl : (fdAt a w.params).builtins = builtinsNs) (hk : (fdAt a w.params).scope.kind = .function) (hco : (fdAt a w.params).scope.isCoroutine = false) (hgen : (fdAt a w.params).scope.isGenerator = false)
    (h : ∀ env s₁, FEnv env (scAt a w.params) → env.locals = s.heap.objs.size → env.frame = some s.heap.objs.size → env.cells = cellsFrom (s.heap.objs.size + 1) (scAt a w.params).names [] →
      InCallC s env.locals (bindL env.kindOf binds fun _ => none) env.cells (bindC env.kindOf binds fun _ => none) s₁ →
      wpAny (model prog w) (A.deeper env) (execs body env) (fun f s' => R (.ok (.ret (match f with | .ret v => v | _ => .none))) s')
        (fun e s' => wpAny (model prog w) (A.deeper env) (leaving env e) (fun _ s'' => R (.error e) s'') (fun e' s'' => R (.error e') s'') s') s₁) :
    codeAny (model prog w) A (.call (.ref a) ⟨vals, []⟩) R s :=
  codeAny_call_cells hroom (G.X _ _ ho) hdata G.lim (codeRec_of G.X hcd) hbody hbind hclo (kindsX hkind _) (fun s₁ x => h _ s₁ ⟨rfl, hk, hgl, hbl⟩ rfl rfl rfl x) hco hgen hk

theorem nmC {x : Str} {pos : Pos} {c : Addr} {v : Value} {Q : Value → Shared → Prop} (F : FEnv env sc) (hl : sc.names.lookup x = some .cell) (hc : env.cells.lookup x = some c) (hv : s.heap.IsCell c (some v)) (h : Q v s) (hd : (x == ("__debug__" : Str)) = false := by decide) :
    wpAny (model prog w) A (eval (.Name x pos) env) Q E s := wpAny_Name (wpAny_loadName_cell F.k (F.kd x hl) hc hv h) hd
theorem stCc {x : Str} {c : Addr} {v₀ : Option Value} {v : Value} {Q : Unit → Shared → Prop} (F : FEnv env sc) (hl : sc.names.lookup x = some .cell) (hc : env.cells.lookup x = some c) (hv : s.heap.IsCell c v₀)
    (h : ∀ h', h'.IsCell c (some v) → Heap.SameBut c s.heap h' → Q () { s with heap := h' }) : wpAny (model prog w) A (storeName env x v) Q E s := wpAny_storeName_cell F.k (F.kd x hl) hc hv h
theorem stN {x : Str} {m : Str → Option Value} {v : Value} {Q : Unit → Shared → Prop} (F : FEnv env sc) (hl : sc.names.lookup x = some .local) (hn : s.heap.Ns env.locals m)
    (h : ∀ h', h'.Ns env.locals (fun y => if y = x then some v else m y) → Heap.SameBut env.locals s.heap h' → Q () { s with heap := h', toks := s.toks + 1 }) :
    wpAny (model prog w) A (storeName env x v) Q E s := wpAny_storeName_local (F.kd x hl) hn h F.hp

def on1 (c : Nat) : Nat := if c = 0 then 1 else 0
def on2 (c : Nat) : Nat := if c = 2 then 1 else 2

theorem assign_pair {e₁ e₂ : Expr} {k : Nat} {pos : Pos} {t : Addr} {v₁ v₂ : Value} {Q : Unit → Shared → Prop} (hh : A.handled = none)
    (ht : IsTup s.heap t #[v₁, v₂] ∨ s.heap.IsList t #[v₁, v₂]) (he : assignEach [e₁, e₂] env = [(false, assign e₁ env), (false, assign e₂ env)])
    (h : ∀ h', Ext s.heap h' → wpAny (model prog w) A (assign e₁ env v₁) (fun _ s₁ => wpAny (model prog w) A (assign e₂ env v₂) Q E s₁) E { s with heap := h' }) :
    wpAny (model prog w) A (assign (.Tuple [e₁, e₂] k pos) env (.ref t)) Q E s := by
  rw [PyProof.Rows.assign_Tuple]
  refine wpAny_bind (wpAny_standAt ?_)
  unfold unpack
  rw [he]
  have fin : ∀ h', Ext s.heap h' → wpAny (model prog w) A (assignInOrder ([(false, assign e₁ env), (false, assign e₂ env)].map (·.2)) [v₁, v₂]) Q E { s with heap := h' } := fun h' k => by
    show wpAny _ _ (holding [v₂] (assign e₁ env v₁) >>= fun _ => (holding [] (assign e₂ env v₂) >>= fun _ => pure ())) _ _ _
    exact wpAny_bind (wpAny_holding (wpAny_mono (h h' k) (fun _ s₁ h₁ => wpAny_bind (wpAny_holding (wpAny_mono h₁ (fun _ _ q => wpAny_pure q) fun _ _ x => x))) fun _ _ x => x))
  refine wpAny_bind (wpAny_holding ?_)
  rcases ht with ht | ht
  · exact PyProof.Rows.unpackItems_tuple (items := #[v₁, v₂]) hh ht fun h' k => fin h' (ext_of_new k)
  · exact kun_itemsOf (items := #[v₁, v₂]) hh ht fun h' k => fin h' (ext_of_new k)

theorem pick3 (c : Nat) (hc : c < 3) {h : Heap} {T₀ T₁ T₂ : Addr} {u₁ u₂ u₃ u₄ u₅ u₆ : Tok} (e₁ : IsTup h T₀ #[.int 1 u₁, .int 2 u₂]) (e₂ : IsTup h T₁ #[.int 0 u₃, .int 2 u₄]) (e₃ : IsTup h T₂ #[.int 0 u₅, .int 1 u₆]) :
    ∃ T, (([Value.ref T₀, Value.ref T₁, Value.ref T₂] : List Value).toArray)[((c : Nat) : Int).toNat]? = some (.ref T) ∧ ∃ t₁ t₂, IsTup h T #[.int (on1 c) t₁, .int (on2 c) t₂] := by
  match c, hc with
  | 0, _ => exact ⟨_, rfl, _, _, e₁⟩
  | 1, _ => exact ⟨_, rfl, _, _, e₂⟩
  | 2, _ => exact ⟨_, rfl, _, _, e₃⟩
theorem tup2 {i j : Int} {k a b : Nat} {p q r : Pos} {Q : Value → Shared → Prop}
    (h : ∀ T g tk t₁ t₂, Ext s.heap g → IsTup g T #[.int i t₁, .int j t₂] → Q (.ref T) { s with heap := g, toks := tk }) :
    wpAny (model prog w) A (eval (.Tuple [.Constant (.int i) a p, .Constant (.int j) b q] k r) env) Q E s := by
  refine wpAny_Tuple ?_
  refine spl_cons ?_
  refine wpAny_Constant_int ?_
  refine spl_cons ?_
  refine wpAny_Constant_int ?_
  refine spl_nil ⟨by simp [sizeLine_eq], ?_⟩
  exact h _ _ _ s.toks (s.toks + 1) (push_keeps _ _) ⟨_, Heap.get?_push_size _ rfl, rfl, _, rfl⟩
theorem oneOther {c : Nat} {t : Tok} {c₁ c₂ c₃ : Addr} {u₂ u₃ : Option Value} {k₀ k₁ k₂ k₃ : Nat} {p1 p2 tp lp q1 q2 q3 sp cp pos a1 a2 a3 a4 a5 a6 : Pos} {Q : Flow → Shared → Prop} (hh : A.handled = none) (FE : FEnv env sc) (hc : c < 3)
    (hk₁ : sc.names.lookup (Str.ofString "column") = some .cell) (hk₂ : sc.names.lookup (Str.ofString "one") = some .cell) (hk₃ : sc.names.lookup (Str.ofString "other") = some .cell)
    (hl₁ : env.cells.lookup (Str.ofString "column") = some c₁) (hl₂ : env.cells.lookup (Str.ofString "one") = some c₂) (hl₃ : env.cells.lookup (Str.ofString "other") = some c₃) (h23 : c₂ ≠ c₃)
    (hv₁ : s.heap.IsCell c₁ (some (.int c t))) (hv₂ : s.heap.IsCell c₂ u₂) (hv₃ : s.heap.IsCell c₃ u₃)
    (h : ∀ h' tk t₁ t₂, St [c₂, c₃] s.heap h' → h'.IsCell c₂ (some (.int (on1 c) t₁)) → h'.IsCell c₃ (some (.int (on2 c) t₂)) → Q .next { s with heap := h', toks := tk }) :
    WP (model prog w) A (exec (.Assign [.Tuple [.Name (Str.ofString "one") p1, .Name (Str.ofString "other") p2] k₀ tp] (.Subscript (.List [.Tuple [.Constant (.int 1) 0 a1, .Constant (.int 2) 0 a2] k₁ q1, .Tuple [.Constant (.int 0) 0 a3, .Constant (.int 2) 0 a4] k₂ q2, .Tuple [.Constant (.int 0) 0 a5, .Constant (.int 1) 0 a6] k₃ q3] lp) (.Name (Str.ofString "column") cp) sp) pos) env) Q E s := by
  refine ⟨?_⟩
  refine Assign_Tuple ?_ ?_ ?_
  rotate_left
  · rfl
  · rfl
  refine Subscript_ ?_
  refine wpAny_List ?_
  refine spl_cons ?_
  refine tup2 fun T₀ g₁ tk₁ u₁ u₂ k₁' e₁ => ?_
  refine spl_cons ?_
  refine tup2 fun T₁ g₂ tk₂ u₃ u₄ k₂' e₂ => ?_
  refine spl_cons ?_
  refine tup2 fun T₂ g₃ tk₃ u₅ u₆ k₃' e₃ => ?_
  refine spl_nil ⟨by simp [sizeLine_eq], ?_⟩
  have k4 := push_keeps g₃ ({ cls := .type "list", data := .seq ([Value.ref T₀, Value.ref T₁, Value.ref T₂] : List Value).toArray } : Obj)
  have kk : Ext s.heap (g₃.push ({ cls := .type "list", data := .seq ([Value.ref T₀, Value.ref T₁, Value.ref T₂] : List Value).toArray } : Obj)) := fun b o e => k4 b o (k₃' b o (k₂' b o (k₁' b o e)))
  have tups : ∃ T, (([Value.ref T₀, Value.ref T₁, Value.ref T₂] : List Value).toArray)[((c : Nat) : Int).toNat]? = some (.ref T) ∧ ∃ t₁ t₂, IsTup (g₃.push ({ cls := .type "list", data := .seq ([Value.ref T₀, Value.ref T₁, Value.ref T₂] : List Value).toArray } : Obj)) T #[.int (on1 c) t₁, .int (on2 c) t₂] := pick3 c hc (((e₁.keeps k₂').keeps k₃').keeps k4) ((e₂.keeps k₃').keeps k4) (e₃.keeps k4)
  obtain ⟨T, hT, t₁, t₂, ht⟩ := tups
  refine nmC FE hk₁ hl₁ (hv₁.keeps kk) ?_
  refine itemL ⟨_, Heap.get?_push_size _ rfl, rfl, _, rfl⟩ (by omega) (by omega) hT ?_
  refine assign_pair hh (.inl ht) rfl fun g5 k5 => ?_
  refine wpAny_assign_Name (stCc FE hk₂ hl₂ ((hv₂.keeps kk).keeps k5) fun g6 c6 s6 => ?_)
  refine wpAny_assign_Name (stCc FE hk₃ hl₃ (((hv₃.keeps kk).keeps k5).sameBut s6 (Ne.symm h23)) fun g7 c7 s7 => ?_)
  refine h g7 _ t₁ t₂ (fun b o hb e => ?_) (c6.sameBut s7 h23) c7
  exact s7.extBut b o (fun q => hb (by simp [q])) (s6.extBut b o (fun q => hb (by simp [q])) (k5 b o (kk b o e)))
end
end Mine
end

section
open PySem PySem.W PyProof.Rows PySem.Calls PySem.SeqAt
set_option maxRecDepth 100000
namespace Mine
/-- lists that are sequences stand -/
def SK (h h' : Heap) : Prop := ∀ b o vs n, o.cls = .type "list" → o.data = .seq vs n → h.get? b = some o → h'.get? b = some o
theorem SK.of_ext {h h' : Heap} (x : Ext h h') : SK h h' := fun b o _ _ _ _ e => x b o e
theorem SK.trans {h h' h'' : Heap} (x : SK h h') (y : SK h' h'') : SK h h'' := fun b o vs n h1 h2 e => y b o vs n h1 h2 (x b o vs n h1 h2 e)
theorem SK.of_ns {h h' : Heap} {L : Addr} {m : Str → Option Value} (hn : h.Ns L m) (k : ∀ b o, b ≠ L → h.get? b = some o → h'.get? b = some o) : SK h h' := fun b o vs n _ h2 e => k b o (fun q => by
  obtain ⟨oL, es, ep, ho, hd, _⟩ := hn
  rw [q, ho] at e
  cases e
  rw [hd] at h2; cases h2) e
theorem SK.of_iter {h h' : Heap} {I : Addr} (hI : ∃ o, h.get? I = some o ∧ o.cls = .type "list_iterator") (k : ∀ b o, b ≠ I → h.get? b = some o → h'.get? b = some o) : SK h h' := fun b o vs n h1 _ e => k b o (fun q => by
  obtain ⟨oI, ho, hc⟩ := hI
  rw [q, ho] at e
  cases e
  rw [hc] at h1
  simp at h1) e
theorem reads_sk {h h' : Heap} (k : SK h h') {v : Value} {r : List Str} {bs : List Addr} (x : Reads h v (row2d r) bs) : ∃ bs', Reads h' v (row2d r) bs' := by
  cases x with
  | list ho hc hd hr =>
    obtain ⟨hs, _⟩ := readsAll_strsAre hr
    exact ⟨_, .list (k _ _ _ _ hc hd ho) hc hd (CarriedAll.reads h' hs.carried)⟩
theorem readsAll_sk {h h' : Heap} (k : SK h h') : ∀ {vs : List Value} {rs : List (List Str)} {as : List Addr}, ReadsAll h vs (rs.map row2d) as → ∃ bs, ReadsAll h' vs (rs.map row2d) bs
  | _, [], _, x => by cases x; exact ⟨_, .nil⟩
  | _, r :: rs, _, x => by
    cases x with
    | cons a b =>
      obtain ⟨_, a'⟩ := reads_sk k a
      obtain ⟨_, b'⟩ := readsAll_sk k b
      exact ⟨_, .cons a' b'⟩
theorem RowsAt.sk {h h' : Heap} {vs : List Value} {rs : List (List Str)} (x : RowsAt h vs rs) (k : SK h h') : RowsAt h' vs rs := by
  obtain ⟨ok, as, r⟩ := x
  obtain ⟨bs, r'⟩ := readsAll_sk k r
  exact ⟨ok, bs, r'⟩
theorem isList_sk {h h' : Heap} {l : Addr} {its : Array Value} (x : h.IsList l its) (k : SK h h') : h'.IsList l its := by
  obtain ⟨o, ho, hc, n, hd⟩ := x
  exact ⟨o, k _ _ _ _ hc hd ho, hc, n, hd⟩
/-- a row's own list -/
theorem row_list {h : Heap} {v : Value} {r : List Str} {bs : List Addr} (x : Reads h v (row2d r) bs) : ∃ a its, v = .ref a ∧ h.IsList a its ∧ StrsAre its.toList r := by
  cases x with
  | list ho hc hd hr => exact ⟨_, _, rfl, ⟨_, ho, hc, _, hd⟩, (readsAll_strsAre hr).1⟩

theorem relabel_cell {env : Env} : ∀ {names : List (Str × NameKind)} {x : Str}, names.lookup x = some .free → env.scope.kind = .function → env.kindOf x = some .cell →
    (names.map fun (n, k) => if (k == NameKind.free && env.scope.kind == .function && env.kindOf n == some .cell) then (n, NameKind.cell) else (n, k)).lookup x = some .cell
  | [], _, h, _, _ => by simp at h
  | (n, k) :: r, x, h, hk, hc => by
    have ih := @relabel_cell env r x
    show List.lookup x ((if (k == NameKind.free && env.scope.kind == .function && env.kindOf n == some .cell) = true then (n, NameKind.cell) else (n, k)) :: _) = _
    cases hx : x == n with
    | true =>
      simp only [List.lookup_cons, hx] at h
      cases h
      rw [← beq_iff_eq.mp hx, hk, hc]
      simp [List.lookup_cons]
    | false =>
      simp only [List.lookup_cons, hx] at h
      by_cases hcond : (k == NameKind.free && env.scope.kind == .function && env.kindOf n == some .cell) = true
      · rw [if_pos hcond]; simp only [List.lookup_cons, hx]; exact ih h hk hc
      · rw [if_neg hcond]; simp only [List.lookup_cons, hx]; exact ih h hk hc
theorem relabel_glob {env : Env} : ∀ {names : List (Str × NameKind)} {x : Str}, names.lookup x = some .globalImplicit →
    (names.map fun (n, k) => if (k == NameKind.free && env.scope.kind == .function && env.kindOf n == some .cell) then (n, NameKind.cell) else (n, k)).lookup x = some .globalImplicit
  | [], _, h => by simp at h
  | (n, k) :: r, x, h => by
    have ih := @relabel_glob env r x
    show List.lookup x ((if (k == NameKind.free && env.scope.kind == .function && env.kindOf n == some .cell) = true then (n, NameKind.cell) else (n, k)) :: _) = _
    cases hx : x == n with
    | true =>
      simp only [List.lookup_cons, hx] at h
      cases h
      simp [List.lookup_cons, hx]
    | false =>
      simp only [List.lookup_cons, hx] at h
      by_cases hcond : (k == NameKind.free && env.scope.kind == .function && env.kindOf n == some .cell) = true
      · rw [if_pos hcond]; simp only [List.lookup_cons, hx]; exact ih h
      · rw [if_neg hcond]; simp only [List.lookup_cons, hx]; exact ih h

def pr (r : List Str) (i j : Nat) : List Str := [r.getD i (Str.ofString ""), r.getD j (Str.ofString "")]
theorem pr_ok {r : List Str} (h : RowOk r) (i j : Nat) : RowOk (pr r i j) := by
  have he : PyData.strOk (Str.ofString "") = true := by decide +kernel
  have g : ∀ i, PyData.strOk (r.getD i (Str.ofString "")) = true := fun i => by
    rw [List.getD_eq_getElem?_getD]
    cases hq : r[i]? with
    | none => exact he
    | some x => exact h x (List.mem_of_getElem? hq)
  intro x hx
  simp only [pr, List.mem_cons, List.not_mem_nil, or_false] at hx
  rcases hx with rfl | rfl <;> exact g _

section
variable {prog : Program} {w : World} {A : Around} {s : Shared} {E : Value → Shared → Prop} {env : Env} {sc : Scope} {mg mb : Str → Option Value}
theorem feC {scope : Scope} {cl : List (Str × Addr)} {C : Addr} (FE : FEnv env sc) (hk : scope.kind = .function) : FEnv (compEnvC scope cl C env) (relabel scope env) := ⟨rfl, hk, FE.glob, FE.blt⟩

theorem strs_item {its : Array Value} {r : List Str} (h : StrsAre its.toList r) {i : Nat} (hi : i < r.length) : ∃ t, its[((i : Nat) : Int).toNat]? = some (.str (r.getD i (Str.ofString "")) t) := by
  obtain ⟨t, e⟩ := StrsAre.get h i r[i] (by simp [hi])
  refine ⟨t, ?_⟩
  rw [List.getD_eq_getElem?_getD, List.getElem?_eq_getElem hi]
  simpa using e

theorem paired_map {h₀ : Heap} {f : List Str → List Str} : ∀ {vs : List Value} {rs' rs : List (List Str)}, Paired (fun v r' => ∀ r bs, RowOk r → Reads h₀ v (row2d r) bs → r' = f r) vs rs' → RowsAt h₀ vs rs → rs' = rs.map f
  | _, _, [], .nil, _ => rfl
  | _, _, _ :: _, .nil, x => by have := x.length; simp at this
  | _, _, [], .cons _ _, x => by have := x.length; simp at this
  | _, _, r :: rs, .cons a b, ⟨ok, as, x⟩ => by
    cases x with
    | cons p q =>
      have e1 := a r _ (ok r List.mem_cons_self) p
      have e2 := paired_map b ⟨fun y hy => ok y (List.mem_cons_of_mem _ hy), _, q⟩
      rw [e1, e2]; rfl

theorem pairComp {nm : Str} {h₀ : Heap} {l : Addr} {vs : List Value} {rs : List (List Str)} {c o : Nat} {t₁ t₂ : Tok} {c₁ c₂ : Addr} {m : Str → Option Value} {p1 p2 p3 p4 p5 p6 p7 p8 p9 pos : Pos} {Q : Value → Shared → Prop} (hh : A.handled = none) (FE : FEnv env sc)
    (hk₁ : sc.names.lookup (Str.ofString "column") = some .cell) (hk₂ : sc.names.lookup nm = some .cell) (hkr : sc.names.lookup (Str.ofString "rows") = some .local) (hm : m (Str.ofString "rows") = some (.ref l)) (hns : s.heap.Ns env.locals m)
    (hl₁ : env.cells.lookup (Str.ofString "column") = some c₁) (hl₂ : env.cells.lookup nm = some c₂) (hn1 : (nm == Str.ofString ".0") = false) (hn2 : (nm == Str.ofString "row") = false) (hn3 : (nm == Str.ofString "column") = false) (hn4 : (nm == ("__debug__" : Str)) = false)
    (hv₁ : s.heap.IsCell c₁ (some (.int c t₁))) (hv₂ : s.heap.IsCell c₂ (some (.int o t₂))) (hl : s.heap.IsList l vs.toArray) (hr : RowsAt h₀ vs rs) (hk₀ : SK h₀ s.heap) (hsz : vs.length ≤ 4096) (hlen : ∀ r ∈ rs, c < r.length ∧ o < r.length) (hc3 : c < 3) (ho3 : o < 3)
    (h : ∀ D ys n h' tk, s.heap.get? D = none → Ext s.heap h' → h'.get? D = some (W.listOf (List.toArray ys) n) → ys.length = vs.length → RowsAt h' ys (rs.map fun r => pr r c o) → Q (.ref D) { s with heap := h', toks := tk }) :
    WP (model prog w) A (eval (.ListComp (.List [.Subscript (.Name (Str.ofString "row") p1) (.Name (Str.ofString "column") p2) p3, .Subscript (.Name (Str.ofString "row") p4) (.Name nm p5) p6] p7) [⟨.Name (Str.ofString "row") p8, .Name (Str.ofString "rows") p9, [], 0⟩]
      { kind := .function, names := [(Str.ofString ".0", .local), (Str.ofString "row", .local), (Str.ofString "column", .free), (nm, .free)], isGenerator := false, isCoroutine := false } pos) env) Q E s := by
  have hclos : closureFor { kind := .function, names := [(Str.ofString ".0", .local), (Str.ofString "row", .local), (Str.ofString "column", .free), (nm, .free)], isGenerator := false, isCoroutine := false } env = pure [(nm, c₂), (Str.ofString "column", c₁)] := by
    simp [closureFor, cellOf, hl₁, hl₂]
  have hfree : List.lookup nm ([(Str.ofString ".0", NameKind.local), (Str.ofString "row", .local), (Str.ofString "column", .free), (nm, .free)]) = some .free := by
    simp [List.lookup_cons, hn1, hn2, hn3]
  refine ⟨?_⟩
  refine comp_rows (fun v r' => ∀ r bs, RowOk r → Reads h₀ v (row2d r) bs → r' = pr r c o) hh hclos rfl rfl ?_ rfl ?_
  · simp [List.lookup_cons]
    cases (Str.ofString "row" == Str.ofString ".0") <;> rfl
  refine nmL FE hkr hns hm ⟨l, vs, rfl, hl, hsz, ?_, ?_⟩
  · intro C i v s₃ m₃ E' hv hn hmx hk
    obtain ⟨r, bs, hri, hok, hrd⟩ := hr.get hv
    have hmemr := List.mem_of_getElem? hri
    obtain ⟨bs₃, hrd₃⟩ := reads_sk (hk₀.trans (SK.of_ext hk)) hrd
    obtain ⟨a, its, rfl, hla, hst⟩ := row_list hrd₃
    have FC := feC (scope := { kind := .function, names := [(Str.ofString ".0", .local), (Str.ofString "row", .local), (Str.ofString "column", .free), (nm, .free)], isGenerator := false, isCoroutine := false }) (cl := [(nm, c₂), (Str.ofString "column", c₁)]) (C := C) FE rfl
    obtain ⟨u₁, e₁⟩ := strs_item hst (hlen r hmemr).1
    obtain ⟨u₂, e₂⟩ := strs_item hst (hlen r hmemr).2
    have hcl1 : List.lookup (Str.ofString "column") [(nm, c₂), (Str.ofString "column", c₁)] = some c₁ := by
      have : (Str.ofString "column" == nm) = false := by rw [beq_eq_false_iff_ne] at hn3 ⊢; exact Ne.symm hn3
      simp [List.lookup_cons, this]
    have hcl2 : List.lookup nm [(nm, c₂), (Str.ofString "column", c₁)] = some c₂ := by simp [List.lookup_cons]
    refine wpAny_List ?_
    refine spl_cons ?_
    refine Subscript_ ?_
    refine nmL FC (lookup_relabel_local rfl) hn hmx ?_
    refine nmC FC (relabel_cell rfl FE.k (FE.kd _ hk₁)) hcl1 (hv₁.keeps hk) ?_
    refine itemL hla (by omega) (by omega) e₁ ?_
    refine spl_cons ?_
    refine Subscript_ ?_
    refine nmL FC (lookup_relabel_local rfl) hn hmx ?_
    refine nmC FC (relabel_cell hfree FE.k (FE.kd _ hk₂)) hcl2 (hv₂.keeps hk) ?_ hn4
    refine itemL hla (by omega) (by omega) e₂ ?_
    refine spl_nil ⟨by simp [sizeLine_eq], ⟨_, _, pr r c o, rfl, none_at_end _, ⟨_, Heap.get?_push_size _ rfl, rfl, _, rfl⟩, ?_, .cons _ _ (.cons _ _ .nil), pr_ok hok c o⟩, _, _, rfl, push_keeps _ _⟩
    intro r₂ bs₂ ok₂ hrd₂
    have := SeqAt.Reads.unique _ _ _ _ _ (row_canLay hok) hrd hrd₂
    have h2 := row_eqv r r₂
    rw [← this, row_eqv] at h2
    have : r = r₂ := by simpa using h2
    rw [this]
  · intro D ys n rs' h' tk hnew hext hD hp hrows
    have e := paired_map hp hr
    subst e
    exact h D ys n h' tk hnew hext hD (by rw [hrows.length]; simp [hr.length]) hrows
end
end Mine
end

section
open PySem PySem.W PyProof.Rows PySem.Calls PySem.SeqAt
set_option maxRecDepth 100000
namespace Mine
def ins3 (c : Nat) (x f g : Value) : Array Value := match c with
  | 0 => #[x, f, g]
  | 1 => #[f, x, g]
  | _ => #[f, g, x]
def mk (c : Nat) (x f g : Str) : List Str := match c with
  | 0 => [x, f, g]
  | 1 => [f, x, g]
  | _ => [f, g, x]
theorem ins3_strs (c : Nat) (x f g : Str) (t u v : Tok) : StrsAre (ins3 c (.str x t) (.str f u) (.str g v)).toList (mk c x f g) := by
  match c with
  | 0 => exact .cons _ _ (.cons _ _ (.cons _ _ .nil))
  | 1 => exact .cons _ _ (.cons _ _ (.cons _ _ .nil))
  | _ + 2 => exact .cons _ _ (.cons _ _ (.cons _ _ .nil))
theorem ins3_eq (c : Nat) (hc : c < 3) (x f g : Value) : (have k := if ((c : Nat) : Int) < 0 then (((c : Nat) : Int) + ((#[f, g] : Array Value).size : Int)).toNat else min ((c : Nat) : Int).toNat (#[f, g] : Array Value).size; ((#[f, g] : Array Value).extract 0 k).push x ++ (#[f, g] : Array Value).extract k) = ins3 c x f g := by
  match c, hc with
  | 0, _ => rfl
  | 1, _ => rfl
  | 2, _ => rfl
theorem mk_ok {c : Nat} {x f g : Str} (h1 : PyData.strOk x = true) (h2 : PyData.strOk f = true) (h3 : PyData.strOk g = true) : RowOk (mk c x f g) := by
  intro y hy
  match c with
  | 0 => simp [mk] at hy; rcases hy with rfl | rfl | rfl <;> assumption
  | 1 => simp [mk] at hy; rcases hy with rfl | rfl | rfl <;> assumption
  | _ + 2 => simp [mk] at hy; rcases hy with rfl | rfl | rfl <;> assumption

def g0 (r : List Str) : Str := r.getD 0 (Str.ofString "")
def g1 (r : List Str) : Str := r.getD 1 (Str.ofString "")
def jl1 (c : Nat) (p : List Str) (R : List (List Str)) : List (List Str) := (R.filter fun q => decide (g0 p = g0 q)).map fun q => mk c (g0 p) (g1 p) (g1 q)
def jl (c : Nat) (L R : List (List Str)) : List (List Str) := L.flatMap fun p => jl1 c p R
theorem jl_snoc (c : Nat) (L : List (List Str)) (p : List Str) (R : List (List Str)) : jl c (L ++ [p]) R = jl c L R ++ jl1 c p R := by simp [jl]
theorem jl1_snoc (c : Nat) (p : List Str) (R : List (List Str)) (q : List Str) : jl1 c p (R ++ [q]) = jl1 c p R ++ (if g0 p = g0 q then [mk c (g0 p) (g1 p) (g1 q)] else []) := by
  simp only [jl1, List.filter_append, List.map_append]
  congr 1
  by_cases h : g0 p = g0 q
  · rw [if_pos h, List.filter_cons_of_pos (by simpa using h)]; rfl
  · rw [if_neg h, List.filter_cons_of_neg (by simpa using h)]; rfl

theorem two_of {its : Array Value} {r : List Str} (h : StrsAre its.toList r) (h2 : r.length = 2) : ∃ x y t u, r = [x, y] ∧ its = #[.str x t, .str y u] := by
  obtain ⟨l⟩ := its
  match r, l, h with
  | [x, y], _, .cons _ t (.cons _ u .nil) => exact ⟨x, y, t, u, rfl, rfl⟩

section
variable {prog : Program} {w : World} {A : Around} {s : Shared} {E : Value → Shared → Prop} {env : Env} {sc : Scope} {mg mb : Str → Option Value}
theorem insert3 {M : Addr} {f g x : Value} {n c : Nat} {k : Int} {t : Tok} {Q : Value → Shared → Prop} (hc : c < 3) (hk : k = ((c : Nat) : Int)) (hM : s.heap.get? M = some (W.listOf #[f, g] n))
    (h : ∀ h' n', Heap.SameBut M s.heap h' → h'.get? M = some (W.listOf (ins3 c x f g) n') → Q .none { s with heap := h' }) :
    wpAny (model prog w) A (call (.builtin "list.insert") [.ref M, .int k t, x]) Q E s := by
  have hfit : ¬ (!Builtin.List.listFitsIndex k) = true := by
    subst hk
    match c, hc with
    | 0, _ => decide +kernel
    | 1, _ => decide +kernel
    | 2, _ => decide +kernel
  have hsz : (#[f, g] : Array Value).size ≤ sizeLine := by rw [sizeLine_eq]; show 2 ≤ _; omega
  refine call_meets F.slot_list_insert ⟨_, hM, rfl⟩ F.entry_list_insert (F.args_list_insert_3 _ _ _) (AutoSeq1.list_insert_list_int_val_1 M #[f, g] n k t x hfit hsz) ⟨hM, ?_⟩
  obtain ⟨n', hn'⟩ : ∃ n', (W.listOf #[f, g] n).mapSeq (fun xs => have j := if k < 0 then (k + (xs.size : Int)).toNat else min k.toNat xs.size; (xs.extract 0 j).push x ++ xs.extract j) = W.listOf (ins3 c x f g) n' := by
    rw [← ins3_eq c hc x f g, hk]
    exact ⟨_, rfl⟩
  exact h _ n' (Heap.SameBut.update ..) (by rw [← hn']; exact Heap.get?_update_self _ hM (by rw [hn']; rfl))
end
end Mine
end

section
open PySem PySem.W PyProof.Rows PySem.Calls PySem.SeqAt
set_option maxRecDepth 100000
namespace Mine
theorem gone1 {h : Heap} {D b : Addr} (hb : b ≠ D) : (TI.gone h [D]).get? b = h.get? b := TI.gone_get (by simpa using hb)
theorem gone_sub {h : Heap} {D : Addr} : Ext (TI.gone h [D]) h := fun _ _ e => (TI.gone_some e).2
theorem gone_sk {h h' : Heap} {D : Addr} (k : ∀ b o vs n, b ≠ D → o.cls = .type "list" → o.data = .seq vs n → h.get? b = some o → h'.get? b = some o) : SK (TI.gone h [D]) (TI.gone h' [D]) := fun b o vs n h1 h2 e => by
  obtain ⟨hb, e'⟩ := TI.gone_some e
  have hb' : b ≠ D := by simpa using hb
  rw [gone1 hb']
  exact k b o vs n hb' h1 h2 e'

theorem mem_foldl_dd {α : Type} [DecidableEq α] (x : α) : ∀ (l acc : List α), x ∈ l.foldl (fun acc r => if r ∈ acc then acc else acc ++ [r]) acc ↔ x ∈ acc ∨ x ∈ l
  | [], acc => by simp
  | y :: l, acc => by
    rw [List.foldl_cons, mem_foldl_dd x l]
    by_cases h : y ∈ acc
    · rw [if_pos h]
      constructor
      · rintro (h1 | h1)
        · exact .inl h1
        · exact .inr (List.mem_cons_of_mem _ h1)
      · rintro (h1 | h1)
        · exact .inl h1
        · rcases List.mem_cons.mp h1 with rfl | h1
          · exact .inl h
          · exact .inr h1
    · rw [if_neg h]
      simp only [List.mem_append, List.mem_cons, List.not_mem_nil, or_false]
      constructor
      · rintro ((h1 | h1) | h1)
        · exact .inl h1
        · exact .inr (.inl h1)
        · exact .inr (.inr h1)
      · rintro (h1 | h1 | h1)
        · exact .inl (.inl h1)
        · exact .inl (.inr h1)
        · exact .inr h1
theorem mem_dd {α : Type} [DecidableEq α] {x : α} {l : List α} : x ∈ dd l ↔ x ∈ l := by
  unfold dd; rw [mem_foldl_dd]; simp
theorem take_snoc {α : Type} {l : List α} {i : Nat} {x : α} (h : l[i]? = some x) : l.take (i + 1) = l.take i ++ [x] := by rw [List.take_add_one, h]; rfl

section
variable {prog : Program} {w : World} {A : Around} {s : Shared} {E : Value → Shared → Prop} {env : Env} {mg mb : Str → Option Value}

/-- the inner turn of _law_joined's loops -/
theorem inner_turn {D c₁ : Addr} {c : Nat} {tc : Tok} {x f x' y' : Str} {t u t' u' : Tok} {a : Addr} {ys : List Value} {n : Nat} {rsJ : List (List Str)} {m : Str → Option Value} 
    {pn1 pn2 tp q1 q2 q3 q4 q5 q6 q7 q8 q9 q10 q11 q12 q13 q14 q15 q16 q17 q18 q19 q20 : Pos} {kk : Nat} {Q : Flow → Shared → Prop}
    (FE : FEnv env (scAt 62 w.params)) (hh : A.handled = none) (hu : A.units + 20 < cLine) (hc : c < 3) (hl₁ : env.cells.lookup (Str.ofString "column") = some c₁) (hv₁ : s.heap.IsCell c₁ (some (.int c tc)))
    (hns : s.heap.Ns env.locals m) (hmj : m (Str.ofString "joined") = some (.ref D)) (hmc : m (Str.ofString "common") = some (.str x t)) (hmf : m (Str.ofString "first") = some (.str f u))
    (hD : s.heap.get? D = some (W.listOf ys.toArray n)) (hLD : env.locals ≠ D) (hc1D : c₁ ≠ D) (hc1L : c₁ ≠ env.locals) (hrows : RowsAt (TI.gone s.heap [D]) ys rsJ) (hsz : ys.length ≤ 100000)
    (ha : s.heap.IsList a #[.str x' t', .str y' u']) (ok1 : PyData.strOk x = true) (ok2 : PyData.strOk f = true) (ok3 : PyData.strOk x' = true) (ok4 : PyData.strOk y' = true)
    (hline1 : (q10.endLine == q13.line) = true) (hline2 : (q16.endLine == q18.line) = true)
    (h : ∀ g tk m' ys' n', St [env.locals, D] s.heap g → g.Ns env.locals m' → (∀ z, z ≠ Str.ofString "alike" → z ≠ Str.ofString "second" → z ≠ Str.ofString "made" → m' z = m z) → g.get? D = some (W.listOf (List.toArray ys') n') → ys'.length ≤ ys.length + 1 →
      RowsAt (TI.gone g [D]) ys' (rsJ ++ (if x = x' then [mk c x f y'] else [])) → Q .next { s with heap := g, toks := tk }) :
    WP (model prog w) A (assign (.Tuple [.Name (Str.ofString "alike") pn1, .Name (Str.ofString "second") pn2] kk tp) env (.ref a)) (fun _ s₂ => wpAny (model prog w) A (execs [
      .If (.Compare (.Name (Str.ofString "common") q1) [.Eq] [.Name (Str.ofString "alike") q2] q3) [
        .Assign [.Name (Str.ofString "made") q4] (.List [.Name (Str.ofString "first") q5, .Name (Str.ofString "second") q6] q7) q8,
        .Expr (.Call (.Attribute (.Name (Str.ofString "made") q9) (Str.ofString "insert") q10) [.Name (Str.ofString "column") q11, .Name (Str.ofString "common") q12] [] q13) q14,
        .Expr (.Call (.Attribute (.Name (Str.ofString "joined") q15) (Str.ofString "append") q16) [.Name (Str.ofString "made") q17] [] q18) q19] [] q20] env) Q (fun _ _ => False) s₂) (fun _ _ => False) s := by
  refine ⟨?_⟩
  refine assign_pair hh (.inr ha) rfl fun g₁ k₁ => ?_
  have hns₁ := hns.keeps k₁
  refine wpAny_assign_Name (stN FE (by kernel_rfl) hns₁ fun g₂ hns₂ s₂ => ?_)
  refine wpAny_assign_Name (stN FE (by kernel_rfl) hns₂ fun g₃ hns₃ s₃ => ?_)
  dsimp only at hns₂ hns₃ s₂ s₃ ⊢
  have st3 : St [env.locals, D] s.heap g₃ := fun b o hb e => s₃.extBut b o (fun q => hb (by simp [q])) (s₂.extBut b o (fun q => hb (by simp [q])) (k₁ b o e))
  have hD₃ : g₃.get? D = some (W.listOf ys.toArray n) := s₃.extBut D _ (Ne.symm hLD) (s₂.extBut D _ (Ne.symm hLD) (k₁ D _ hD))
  have notL : ∀ {g : Heap} {m : Str → Option Value} {b : Addr} {o : Obj} {vs : Array Value} {n : Nat}, g.Ns env.locals m → o.data = .seq vs n → g.get? b = some o → b ≠ env.locals := fun hn h2 e q => by
    obtain ⟨oL, es, ep, ho, hd, _⟩ := hn
    rw [q, ho] at e; cases e; rw [hd] at h2; cases h2
  have hr₃ : RowsAt (TI.gone g₃ [D]) ys rsJ := hrows.sk (gone_sk fun b o vs n hb h1 h2 e => st3 b o (by simp only [List.mem_cons, List.not_mem_nil, or_false, not_or]; exact ⟨notL hns h2 e, hb⟩) e)
  have hcell : ∀ {g : Heap}, St [env.locals, D] s.heap g → g.IsCell c₁ (some (.int c tc)) := fun st => by
    obtain ⟨o, ho, hd⟩ := hv₁
    exact ⟨o, st c₁ o (by simp only [List.mem_cons, List.not_mem_nil, or_false, not_or]; exact ⟨hc1L, hc1D⟩) ho, hd⟩
  refine wpAny_execs_cons (wpAny_If (wpAny_isTrue_Compare1 (nmL FE (by kernel_rfl) hns₃ (v := .str x t) hmc (nmL FE (by kernel_rfl) hns₃ (v := .str x' t') rfl ?_))))
  refine compareEq_reads (Reads.str x t) (Reads.str x' t') ok1 ok3 (by simp [PyData.depth]; omega) (wpAny_truthy_bool ?_)
  have heqv : PyData.eqv (.str x) (.str x') = decide (x = x') := by simp only [PyData.eqv]; by_cases h : x = x' <;> simp [h]
  rw [heqv]
  by_cases hx : x = x'
  · simp only [hx, decide_true, if_true]
    refine wpAny_execs_cons (wpAny_Assign_Name ?_)
    refine wpAny_List ?_
    refine spl_cons ?_
    refine nmL FE (by kernel_rfl) hns₃ (v := .str f u) hmf ?_
    refine spl_cons ?_
    refine nmL FE (by kernel_rfl) hns₃ (v := .str y' u') rfl ?_
    refine spl_nil ⟨by simp [sizeLine_eq], ?_⟩
    have hMg := Heap.get?_push_size g₃ (o := W.listOf ([Value.str f u, Value.str y' u'] : List Value).toArray 0) rfl
    have k₄ := push_keeps g₃ (W.listOf ([Value.str f u, Value.str y' u'] : List Value).toArray 0)
    have hML : g₃.objs.size ≠ env.locals := fun q => absurd hns₃.lt (by rw [q]; exact Nat.lt_irrefl _)
    have hMD : g₃.objs.size ≠ D := fun q => absurd (Heap.lt_size hD₃) (by rw [q]; exact Nat.lt_irrefl _)
    have hMold : ∀ b o, g₃.get? b = some o → b ≠ g₃.objs.size := fun b o e => Nat.ne_of_lt (Heap.lt_size e)
    refine stN FE (by kernel_rfl) (hns₃.keeps k₄) fun g₅ hns₅ s₅ => ?_
    dsimp only at hns₅ s₅ ⊢
    have hM₅ := s₅.extBut _ _ hML hMg
    have hin : interactive env = false := by unfold interactive; rw [FE.k]; rfl
    have st5 : St [env.locals, D] s.heap g₅ := st3.trans fun b o hb e => s₅.extBut b o (fun q => hb (by simp [q])) (k₄ b o e)
    refine wpAny_execs_cons (wpAny_Expr_any ?_ hin rfl)
    refine wpAny_Call_method2_late rfl hline1 rfl ?_
    refine nmL FE (by kernel_rfl) hns₅ (v := .ref g₃.objs.size) rfl ⟨"list", "list.insert", PySem.F.plainAttrs_list, PySem.F.slot_list_insert, PySem.F.type_list_insert, ⟨_, hM₅, rfl⟩, (fun a ha => by cases ha; exact ⟨_, hM₅, rfl⟩), ?_⟩
    refine Calls.callWith_builtin rfl (evalArgs_plain (spliced_cons ?_))
    refine nmC FE (by kernel_rfl) hl₁ (hcell st5) (spliced_cons (nmL FE (by kernel_rfl) hns₅ (v := .str x t) hmc (spliced_nil ?_)))
    refine insert3 hc rfl hM₅ fun g₆ n₆ s₆ hM₆ => ?_
    have hns₆ := hns₅.sameBut s₆ (Ne.symm hML)
    have hD₅ : g₅.get? D = some (W.listOf ys.toArray n) := s₅.extBut D _ (Ne.symm hLD) (k₄ D _ hD₃)
    have hD₆ : g₆.get? D = some (W.listOf ys.toArray n) := s₆.extBut D _ (Ne.symm hMD) hD₅
    refine wpAny_execs_cons (wpAny_Expr_any ?_ hin rfl)
    refine wpAny_Call_append rfl rfl hline2 rfl ?_
    refine nmL FE (by kernel_rfl) hns₆ (v := .ref D) hmj ⟨_, _, rfl, ⟨_, _, hD₆, rfl, rfl, rfl⟩, nmL FE (by kernel_rfl) hns₆ (v := .ref g₃.objs.size) rfl ?_⟩
    refine append_at hD₆ (hsz := by show ys.toArray.size ≤ sizeLine; rw [List.size_toArray, sizeLine_eq]; omega) fun g₇ s₇ hD₇ => ?_
    refine wpAny_execs_nil (wpAny_execs_nil ?_)
    have st7 : St [env.locals, D] s.heap g₇ := fun b o hb e => s₇.extBut b o (fun q => hb (by simp [q])) (s₆.extBut b o (hMold b o (st3 b o hb e)) (st5 b o hb e))
    refine h g₇ _ _ (ys ++ [.ref g₃.objs.size]) (n + 1) st7 (hns₆.sameBut s₇ hLD) (fun z h1 h2 h3 => by simp [h1, h2, h3]) (by simpa using hD₇) (by simp) ?_
    have hk37 : ∀ b o vs n, b ≠ D → o.cls = .type "list" → o.data = .seq vs n → g₃.get? b = some o → g₇.get? b = some o := fun b o vs n hb h1 h2 e =>
      s₇.extBut b o hb (s₆.extBut b o (hMold b o e) (s₅.extBut b o (notL hns₃ h2 e) (k₄ b o e)))
    have hM₇ : g₇.get? g₃.objs.size = some (W.listOf (ins3 c (.str x t) (.str f u) (.str y' u')) n₆) := s₇.extBut _ _ hMD hM₆
    obtain ⟨bs, hrd⟩ := strs_reads (h := TI.gone g₇ [D]) (T := g₃.objs.size) (its := ins3 c (.str x t) (.str f u) (.str y' u')) (r := mk c x f y') ⟨_, (gone1 hMD).trans hM₇, rfl, _, rfl⟩ (ins3_strs c x f y' t u u')
    rw [← hx]
    simp only [if_true]
    exact RowsAt.append (hr₃.sk (gone_sk hk37)) (RowsAt.one (mk_ok ok1 ok2 ok4) hrd)
  · simp only [hx, decide_false, Bool.false_eq_true, if_false]
    refine wpAny_execs_nil (wpAny_execs_nil ?_)
    refine h g₃ _ _ ys n st3 hns₃ (fun z h1 h2 _ => by simp [h1, h2]) hD₃ (by omega) ?_
    simpa [hx] using hr₃

theorem joined_body {h₀ : Heap} {l : Addr} {vs : List Value} {rs : List (List Str)} {c : Nat} {t : Tok} {c₁ c₂ c₃ : Addr} {m : Str → Option Value} {Q : Flow → Shared → Prop}
    (FE : FEnv env (scAt 62 w.params)) (G : GR w.params mg mb h₀) (hdp : A.depth < recursionLimit) (hu : A.units + 90 < cLine) (hh : A.handled = none) (hc : c < 3)
    (hl₁ : env.cells.lookup (Str.ofString "column") = some c₁) (hl₂ : env.cells.lookup (Str.ofString "one") = some c₂) (hl₃ : env.cells.lookup (Str.ofString "other") = some c₃)
    (h12 : c₁ ≠ c₂) (h13 : c₁ ≠ c₃) (h23 : c₂ ≠ c₃) (hL1 : c₁ ≠ env.locals) (hL2 : c₂ ≠ env.locals) (hL3 : c₃ ≠ env.locals) (n1 : h₀.get? c₁ = none) (n2 : h₀.get? c₂ = none) (n3 : h₀.get? c₃ = none) (nL : h₀.get? env.locals = none)
    (hv₁ : s.heap.IsCell c₁ (some (.int c t))) (hv₂ : s.heap.IsCell c₂ none) (hv₃ : s.heap.IsCell c₃ none)
    (hl : h₀.IsList l vs.toArray) (hr : RowsAt h₀ vs rs) (hsz : vs.length ≤ 100) (hlen : ∀ r ∈ rs, r.length = 3) (hm : m (Str.ofString "rows") = some (.ref l)) (hns : s.heap.Ns env.locals m) (hext : Ext h₀ s.heap)
    (h : ∀ D ys n h' tk, Ext h₀ h' → h₀.get? D = none → h'.get? D = some (W.listOf (List.toArray ys) n) → ys.length ≤ 10000 → RowsAt h' ys (jl c (dd (rs.map fun r => pr r c (on1 c))) (dd (rs.map fun r => pr r c (on2 c)))) → Q (.ret (.ref D)) { s with heap := h', toks := tk }) :
    WP (model prog w) A (execs (bodyAt 62 w.params) env) Q (fun _ _ => False) s := by
  refine ⟨?_⟩
  have hch : ∀ h : Heap, HChain h A.handled [] := fun h => by rw [hh]; rfl
  refine wpAny_execs_cons ?_
  refine WP.go ?_
  refine oneOther hh FE hc (by kernel_rfl) (by kernel_rfl) (by kernel_rfl) hl₁ hl₂ hl₃ h23 hv₁ hv₂ hv₃ fun g₁ tk₁ t₁ t₂ st₁ cv₂ cv₃ => ?_
  have ext1 : Ext h₀ g₁ := fun b o e => st₁ b o (by simp only [List.mem_cons, List.not_mem_nil, or_false, not_or]; exact ⟨(fun q => by rw [q, n2] at e; cases e), (fun q => by rw [q, n3] at e; cases e)⟩) (hext b o e)
  have cv₁ : g₁.IsCell c₁ (some (.int c t)) := by obtain ⟨o, ho, hd⟩ := hv₁; exact ⟨o, st₁ c₁ o (by simp [h12, h13]) ho, hd⟩
  have ns1 : g₁.Ns env.locals m := hns.at' fun o e => st₁ _ o (by simp [Ne.symm hL2, Ne.symm hL3]) e
  have hon1 : on1 c < 3 := by unfold on1; split <;> omega
  have hon2 : on2 c < 3 := by unfold on2; split <;> omega
  dsimp only
  -- left
  refine wpAny_execs_cons (wpAny_Assign_Name ?_)
  refine callN1 (a := 29) FE (by kernel_rfl) (G.keeps ext1) (by kernel_rfl) (by kernel_rfl) ?_
  refine WP.go ?_
  refine pairComp (o := on1 c) hh FE (by kernel_rfl) (by kernel_rfl) (by kernel_rfl) hm ns1 hl₁ hl₂ (by decide) (by decide) (by decide) (by decide) cv₁ cv₂ (hl.at fun o e => ext1 l o e) hr (SK.of_ext ext1) (by omega) (fun r hr' => by rw [hlen r hr']; exact ⟨hc, hon1⟩) hc hon1 fun Da ya na g₂ tk₂ new₂ ext₂ hDa lena rowsa => ?_
  refine ⟨(G.keeps ext1).keeps ext₂, ?_⟩
  refine dedup_call ((G.keeps ext1).keeps ext₂) hdp (by omega) (hch _) ⟨_, hDa, rfl, _, rfl⟩ rowsa (by omega) fun D₁ ws₁ n₁ g₃ tk₃ ext₃ new₃ hD₁ rw₁ len₁ => ?_
  have ext13 : Ext g₁ g₃ := fun b o e => ext₃ b o (ext₂ b o e)
  have ns3 := ns1.keeps ext13
  have rows3 := rw₁ g₃ (rowsa.keeps ext₃)
  refine stN FE (by kernel_rfl) ns3 fun g₄ ns4 sb4 => ?_
  dsimp only at ns4 sb4 ⊢
  have sk34 : SK g₃ g₄ := SK.of_ns ns3 fun b o hb e => sb4.extBut b o hb e
  have rows4 := rows3.sk sk34
  have hD₁4 : g₄.IsList D₁ ws₁.toArray := isList_sk ⟨_, hD₁, rfl, _, rfl⟩ sk34
  have ext4 : Ext h₀ g₄ := fun b o e => sb4.extBut b o (fun q => by rw [q, nL] at e; cases e) (ext13 b o (ext1 b o e))
  have cw₁ : g₄.IsCell c₁ (some (.int c t)) := (cv₁.keeps ext13).sameBut sb4 hL1
  have cw₃ : g₄.IsCell c₃ (some (.int (on2 c) t₂)) := (cv₃.keeps ext13).sameBut sb4 hL3
  have new1₀ : h₀.get? D₁ = none := by
    cases q : h₀.get? D₁ with
    | none => rfl
    | some o => have := ext₂ _ o (ext1 _ o q); rw [new₃] at this; cases this
  -- right
  refine wpAny_execs_cons (wpAny_Assign_Name ?_)
  refine callN1 (a := 29) FE (by kernel_rfl) (G.keeps ext4) (by kernel_rfl) (by kernel_rfl) ?_
  refine WP.go ?_
  refine pairComp (o := on2 c) hh FE (by kernel_rfl) (by kernel_rfl) (by kernel_rfl) ((if_neg (by decide)).trans hm) ns4 hl₁ hl₃ (by decide) (by decide) (by decide) (by decide) cw₁ cw₃ (hl.at fun o e => ext4 l o e) hr (SK.of_ext ext4) (by omega) (fun r hr' => by rw [hlen r hr']; exact ⟨hc, hon2⟩) hc hon2 fun Db yb nb g₅ tk₅ new₅ ext₅ hDb lenb rowsb => ?_
  refine ⟨(G.keeps ext4).keeps ext₅, ?_⟩
  refine dedup_call ((G.keeps ext4).keeps ext₅) hdp (by omega) (hch _) ⟨_, hDb, rfl, _, rfl⟩ rowsb (by omega) fun D₂ ws₂ n₂ g₆ tk₆ ext₆ new₆ hD₂ rw₂ len₂ => ?_
  have ext46 : Ext g₄ g₆ := fun b o e => ext₆ b o (ext₅ b o e)
  have ns6 := ns4.keeps ext46
  have rows6 := rw₂ g₆ (rowsb.keeps ext₆)
  refine stN FE (by kernel_rfl) ns6 fun g₇ ns7 sb7 => ?_
  dsimp only at ns7 sb7 ⊢
  have sk67 : SK g₆ g₇ := SK.of_ns ns6 fun b o hb e => sb7.extBut b o hb e
  have rowsR := rows6.sk sk67
  have rowsL := (rows4.keeps ext46).sk sk67
  have hD₂7 : g₇.IsList D₂ ws₂.toArray := isList_sk ⟨_, hD₂, rfl, _, rfl⟩ sk67
  have hD₁7 : g₇.IsList D₁ ws₁.toArray := isList_sk (hD₁4.at fun o e => ext46 _ o e) sk67
  have ext7 : Ext h₀ g₇ := fun b o e => sb7.extBut b o (fun q => by rw [q, nL] at e; cases e) (ext46 b o (ext4 b o e))
  have cx₁ : g₇.IsCell c₁ (some (.int c t)) := (cw₁.keeps ext46).sameBut sb7 hL1
  -- joined = []
  refine wpAny_execs_cons (wpAny_Assign_Name ?_)
  refine wpAny_List ?_
  refine spl_nil ⟨by simp [sizeLine_eq], ?_⟩
  have k8 := push_keeps g₇ (W.listOf ([] : List Value).toArray 0)
  have hD8 := Heap.get?_push_size g₇ (o := W.listOf ([] : List Value).toArray 0) rfl
  have newD : h₀.get? g₇.objs.size = none := by
    cases q : h₀.get? g₇.objs.size with
    | none => rfl
    | some o => exact absurd (Heap.lt_size (ext7 _ o q)) (Nat.lt_irrefl _)
  have hLD : env.locals ≠ g₇.objs.size := Nat.ne_of_lt ns7.lt
  have hold7 : ∀ {b : Addr} {o : Obj}, g₇.get? b = some o → b ≠ g₇.objs.size := fun e => Nat.ne_of_lt (Heap.lt_size e)
  refine stN FE (by kernel_rfl) (ns7.keeps k8) fun g₈ ns8 sb8 => ?_
  dsimp only at ns8 sb8 ⊢
  have hD8' : g₈.get? g₇.objs.size = some (W.listOf ([] : List Value).toArray 0) := sb8.extBut _ _ (Ne.symm hLD) hD8
  have sk78 : SK g₇ g₈ := (SK.of_ext k8).trans (SK.of_ns (ns7.keeps k8) fun b o hb e => sb8.extBut b o hb e)
  have ext8 : Ext h₀ g₈ := fun b o e => sb8.extBut b o (fun q => by rw [q, nL] at e; cases e) (k8 b o (ext7 b o e))
  have cy₁ : g₈.IsCell c₁ (some (.int c t)) := (cx₁.keeps k8).sameBut sb8 hL1
  have hc1D : c₁ ≠ g₇.objs.size := by obtain ⟨o, ho, _⟩ := cx₁; exact hold7 ho
  have hD₁D : D₁ ≠ g₇.objs.size := by obtain ⟨o, ho, _⟩ := hD₁7; exact hold7 ho
  have hD₂D : D₂ ≠ g₇.objs.size := by obtain ⟨o, ho, _⟩ := hD₂7; exact hold7 ho
  have notL : ∀ {g : Heap} {m : Str → Option Value} {b : Addr} {its : Array Value}, g.Ns env.locals m → g.IsList b its → b ≠ env.locals := fun hn hb q => by
    obtain ⟨oL, es, ep, ho, hd, _⟩ := hn
    obtain ⟨o, e, _, n, h2⟩ := hb
    rw [q, ho] at e; cases e; rw [hd] at h2; cases h2
  have skB : ∀ {g : Heap}, St [env.locals, g₇.objs.size] g₈ g → SK g₇ g := fun st b o vs n h1 h2 e => st b o (by
    simp only [List.mem_cons, List.not_mem_nil, or_false, not_or]
    exact ⟨notL ns7 ⟨o, e, h1, n, h2⟩, hold7 e⟩) (sk78 b o vs n h1 h2 e)
  have len2L : ∀ r ∈ dd (rs.map fun r => pr r c (on1 c)), r.length = 2 := fun r hr' => by obtain ⟨q, _, rfl⟩ := List.mem_map.mp (mem_dd.mp hr'); rfl
  have len2R : ∀ r ∈ dd (rs.map fun r => pr r c (on2 c)), r.length = 2 := fun r hr' => by obtain ⟨q, _, rfl⟩ := List.mem_map.mp (mem_dd.mp hr'); rfl
  have hDlt : g₇.objs.size < g₈.objs.size := Heap.lt_size hD8'
  generalize g₇.objs.size = D at *
  generalize dd (rs.map fun r => pr r c (on1 c)) = Lft at *
  generalize dd (rs.map fun r => pr r c (on2 c)) = Rgt at *
  have hR100 : Rgt.length ≤ 100 := by have := rowsR.length; omega
  have hL100 : Lft.length ≤ 100 := by have := rowsL.length; omega
  have hmul : ∀ k, k ≤ 100 → k * Rgt.length ≤ 100 * 100 := fun k hk => Nat.mul_le_mul hk hR100
  have hWlt : ∀ {g : Heap} {m : Str → Option Value}, g.Ns env.locals m → (∃ o, g.get? D = some o) → ∀ b ∈ [env.locals, D], b < g.objs.size := fun hn hd b hb => by
    rcases List.mem_cons.mp hb with rfl | hb
    · exact hn.lt
    · rw [List.mem_singleton.mp hb]; obtain ⟨o, e⟩ := hd; exact Heap.lt_size e
  have stable : ∀ {h h' : Heap} {I : Addr} {ys : List Value} {rsx : List (List Str)}, (∃ o, h.get? I = some o ∧ o.cls = .type "list_iterator") → (∀ b o, b ≠ I → h.get? b = some o → h'.get? b = some o) → RowsAt (TI.gone h [D]) ys rsx → RowsAt (TI.gone h' [D]) ys rsx := fun hI hk hx =>
    hx.sk (gone_sk fun b o vs n _ h1 h2 e => SK.of_iter hI hk b o vs n h1 h2 e)
  refine wpAny_execs_cons ?_
  refine for_gen (l := D₁) (vs := ws₁) [env.locals, D] (fun i h => ∃ m ys n, h.Ns env.locals m ∧ m (Str.ofString "joined") = some (.ref D) ∧ m (Str.ofString "right") = some (.ref D₂) ∧ h.get? D = some (W.listOf (List.toArray ys) n) ∧ RowsAt (TI.gone h [D]) ys (jl c (Lft.take i) Rgt) ∧ ys.length ≤ i * Rgt.length)
    (fun Q' hq => nmL FE (by kernel_rfl) ns8 rfl hq) hh (isList_sk hD₁7 sk78) (by simp only [List.mem_cons, List.not_mem_nil, or_false, not_or]; exact ⟨notL ns7 hD₁7, hD₁D⟩) (hWlt ns8 ⟨_, hD8'⟩) ?_ ?_ ?_ ?_
  · rintro i h₁ h₂ ⟨m₁, ys, n, a1, a2, a3, a4, a5, a6⟩ hI hk
    exact ⟨m₁, ys, n, a1.at' fun o e => hk _ o (Nat.ne_of_lt ns8.lt) e, a2, a3, hk _ _ (Nat.ne_of_lt hDlt) a4, stable hI hk a5, a6⟩
  · intro h' k
    exact ⟨_, [], 0, ns8.keeps k, rfl, rfl, k _ _ hD8', RowsAt.nil, Nat.zero_le _⟩
  · rintro i v s₁ ⟨gA, tkA, rfl⟩ hv ⟨mA, ysA, nA, nsA, mjA, mrA, hDA, rowsA, lenA⟩ hlA stA itA
    obtain ⟨p, bs, hpi, hokp, hrd⟩ := rowsL.get hv
    obtain ⟨bs', hrd'⟩ := reads_sk (skB stA) hrd
    obtain ⟨a, its, rfl, hla, hst⟩ := row_list hrd'
    obtain ⟨x, f, tx, tf, rfl, rfl⟩ := two_of hst (len2L p (List.mem_of_getElem? hpi))
    have hi100 : i < 100 := by have := (List.getElem?_eq_some_iff.mp hv).1; omega
    refine assign_pair hh (.inr hla) rfl fun gB kB => ?_
    dsimp only at nsA hDA kB ⊢
    refine wpAny_assign_Name (stN FE (by kernel_rfl) (nsA.keeps kB) fun gC nsC sC => ?_)
    refine wpAny_assign_Name (stN FE (by kernel_rfl) nsC fun gE nsE sE => ?_)
    dsimp only at nsC sC nsE sE ⊢
    have stAE : St [env.locals, D] gA gE := fun b o hb e => sE.extBut b o (fun q => hb (by simp [q])) (sC.extBut b o (fun q => hb (by simp [q])) (kB b o e))
    have hDE : gE.get? D = some (W.listOf ysA.toArray nA) := sE.extBut D _ (Ne.symm hLD) (sC.extBut D _ (Ne.symm hLD) (kB D _ hDA))
    have st8E : St [env.locals, D] g₈ gE := stA.trans stAE
    have rowsE : RowsAt (TI.gone gE [D]) ysA (jl c (Lft.take i) Rgt) := rowsA.sk (gone_sk fun b o vs n hb h1 h2 e => stAE b o (by simp only [List.mem_cons, List.not_mem_nil, or_false, not_or]; exact ⟨notL nsA ⟨o, e, h1, n, h2⟩, hb⟩) e)
    have hD₂E : gE.IsList D₂ ws₂.toArray := isList_sk hD₂7 (skB st8E)
    refine wpAny_execs_cons ?_
    refine for_gen (l := D₂) (vs := ws₂) [env.locals, D] (fun j h => ∃ m ys n, h.Ns env.locals m ∧ m (Str.ofString "joined") = some (.ref D) ∧ m (Str.ofString "right") = some (.ref D₂) ∧ m (Str.ofString "common") = some (.str x tx) ∧ m (Str.ofString "first") = some (.str f tf) ∧ h.get? D = some (W.listOf (List.toArray ys) n) ∧
        RowsAt (TI.gone h [D]) ys (jl c (Lft.take i) Rgt ++ jl1 c [x, f] (Rgt.take j)) ∧ ys.length ≤ i * Rgt.length + j)
      (fun Q' hq => nmL FE (by kernel_rfl) nsE mrA hq) hh hD₂E (by simp only [List.mem_cons, List.not_mem_nil, or_false, not_or]; exact ⟨notL ns7 hD₂7, hD₂D⟩) (hWlt nsE ⟨_, hDE⟩) ?_ ?_ ?_ ?_
    · rintro j h₁ h₂ ⟨m₁, ys, n, a1, a2, a3, a4, a5, a6, a7, a8⟩ hI hk
      exact ⟨m₁, ys, n, a1.at' fun o e => hk _ o (Nat.ne_of_lt nsE.lt) e, a2, a3, a4, a5, hk _ _ (Nat.ne_of_lt (Heap.lt_size hDE)) a6, stable hI hk a7, a8⟩
    · intro h' k
      refine ⟨_, ysA, nA, nsE.keeps k, mjA, mrA, rfl, rfl, k _ _ hDE, ?_, by omega⟩
      have : jl1 c [x, f] (Rgt.take 0) = [] := by simp [jl1]
      rw [this, List.append_nil]
      exact rowsE.keeps fun b o e => by
        obtain ⟨hb, e'⟩ := TI.gone_some e
        rw [TI.gone_get hb]; exact k b o e'
    · rintro j v s₂ ⟨gX, tkX, rfl⟩ hvj ⟨mX, ysX, nX, nsX, mjX, mrX, mcX, mfX, hDX, rowsX, lenX⟩ hlX stX itX
      dsimp only at nsX hDX rowsX hlX stX ⊢
      have st8X : St [env.locals, D] g₈ gX := st8E.trans stX
      obtain ⟨q, bs₂, hqj, hokq, hrdq⟩ := rowsR.get hvj
      obtain ⟨bs₃, hrdq'⟩ := reads_sk (skB st8X) hrdq
      obtain ⟨a₂, its₂, rfl, hla₂, hst₂⟩ := row_list hrdq'
      obtain ⟨x', y', tx', ty', rfl, rfl⟩ := two_of hst₂ (len2R q (List.mem_of_getElem? hqj))
      have hj100 : j < 100 := by have := (List.getElem?_eq_some_iff.mp hvj).1; omega
      have hsz' : ysX.length ≤ 100000 := by have := hmul i (by omega); omega
      have cX : gX.IsCell c₁ (some (.int c t)) := by
        obtain ⟨o, ho, hd⟩ := cy₁
        exact ⟨o, st8X c₁ o (by simp only [List.mem_cons, List.not_mem_nil, or_false, not_or]; exact ⟨hL1, hc1D⟩) ho, hd⟩
      refine WP.go ?_
      refine inner_turn (D := D) (c := c) (x := x) (f := f) FE hh (by omega) hc hl₁ cX nsX mjX mcX mfX hDX hLD hc1D hL1 rowsX hsz' hla₂ (hokp x (by simp)) (hokp f (by simp)) (hokq x' (by simp)) (hokq y' (by simp)) rfl rfl ?_
      intro g tk m' ys' n' st' ns' hm' hD' hl' hr'
      refine ⟨⟨g, tk, rfl⟩, st', m', ys', n', ns', ?_, ?_, ?_, ?_, hD', ?_, ?_⟩
      · rw [hm' _ (by decide) (by decide) (by decide)]; exact mjX
      · rw [hm' _ (by decide) (by decide) (by decide)]; exact mrX
      · rw [hm' _ (by decide) (by decide) (by decide)]; exact mcX
      · rw [hm' _ (by decide) (by decide) (by decide)]; exact mfX
      · rw [take_snoc hqj, jl1_snoc, ← List.append_assoc]
        exact hr'
      · omega
    · intro h' tk ⟨m₁, ys, n, a1, a2, a3, a4, a5, a6, a7, a8⟩ st'
      refine wpAny_execs_nil ?_
      refine ⟨⟨h', tk, rfl⟩, stAE.trans st', m₁, ys, n, a1, a2, a3, a6, ?_, ?_⟩
      · have hfull : Rgt.take ws₂.length = Rgt := List.take_of_length_le (by rw [rowsR.length]; exact Nat.le_refl _)
        rw [hfull] at a7
        rw [take_snoc hpi, jl_snoc]
        exact a7
      · rw [rowsR.length] at a8
        rw [Nat.succ_mul]
        exact a8
  · intro h' tk ⟨m₁, ys, n, a1, a2, a3, a4, a5, a6⟩ st'
    refine wpAny_execs_cons (wpAny_Return_some (nmL FE (by kernel_rfl) a1 a2 ?_))
    have hfull : Lft.take ws₁.length = Lft := List.take_of_length_le (by rw [rowsL.length]; exact Nat.le_refl _)
    rw [hfull] at a5
    refine h D ys n h' tk (fun b o e => st' b o ?_ (ext8 b o e)) newD a4 ?_ (a5.keeps gone_sub)
    · simp only [List.mem_cons, List.not_mem_nil, or_false, not_or]
      exact ⟨(fun q => by rw [q, nL] at e; cases e), (fun q => by rw [q, newD] at e; cases e)⟩
    · have := hmul ws₁.length (by have := rowsL.length; omega)
      omega
end
end Mine
end

section
open PySem PySem.W PyProof.Rows PySem.Calls PySem.SeqAt
set_option maxRecDepth 100000
namespace Mine
section
variable {prog : Program} {w : World} {A : Around} {s : Shared} {E : Value → Shared → Prop} {mg mb : Str → Option Value}
set_option maxHeartbeats 1000000 in
theorem joined_call {l : Addr} {vs : List Value} {rs : List (List Str)} {c : Nat} {t : Tok} {Q : Value → Shared → Prop} (G : GR w.params mg mb s.heap) (hdp : A.depth + 1 < recursionLimit) (hu : A.units + 100 < cLine) (hh : A.handled = none) (hc : c < 3)
    (hl : s.heap.IsList l vs.toArray) (hr : RowsAt s.heap vs rs) (hsz : vs.length ≤ 100) (hlen : ∀ r ∈ rs, r.length = 3)
    (h : ∀ D ys n h' tk, Ext s.heap h' → s.heap.get? D = none → h'.get? D = some (W.listOf (List.toArray ys) n) → ys.length ≤ 10000 → RowsAt h' ys (jl c (dd (rs.map fun r => pr r c (on1 c))) (dd (rs.map fun r => pr r c (on2 c)))) → Q (.ref D) { s with heap := h', toks := tk }) :
    wpAny (model prog w) A (call (.ref 62) [.ref l, .int c t]) Q E s := by
  refine wpAny_call ?_
  refine callAtC (body := bodyAt 62 w.params) (binds := [(Str.ofString "rows", .ref l), (Str.ofString "column", .int c t)]) G (by omega) rfl (by kernel_rfl) (by kernel_rfl) (by kernel_rfl) (by kernel_rfl) (by kernel_rfl) (by kernel_rfl) (by kernel_rfl) (by kernel_rfl) (by kernel_rfl) (by kernel_rfl) (by kernel_rfl) fun env s₁ FE hL hf hcells x => ?_
  have hfresh : ∀ a, s.heap.objs.size ≤ a → s.heap.get? a = none := fun a ha => by
    cases e : s.heap.get? a with
    | none => rfl
    | some o => exact absurd (Heap.lt_size e) (Nat.not_lt.mpr ha)
  have e1 : env.cells.lookup (Str.ofString "column") = some (s.heap.objs.size + 1) := by rw [hcells]; kernel_rfl
  have e2 : env.cells.lookup (Str.ofString "one") = some (s.heap.objs.size + 1 + 1) := by rw [hcells]; kernel_rfl
  have e3 : env.cells.lookup (Str.ofString "other") = some (s.heap.objs.size + 1 + 1 + 1) := by rw [hcells]; kernel_rfl
  have kl : env.kindOf = fun y => List.lookup y (scAt 62 w.params).names := by funext y; rw [Env.kindOf, FE.scope]
  have hmr : bindL env.kindOf [(Str.ofString "rows", .ref l), (Str.ofString "column", .int c t)] (fun _ => none) (Str.ofString "rows") = some (.ref l) := by rw [kl]; kernel_rfl
  have c1 : bindC env.kindOf [(Str.ofString "rows", .ref l), (Str.ofString "column", .int c t)] (fun _ => none) (Str.ofString "column") = some (.int c t) := by rw [kl]; kernel_rfl
  have c2 : bindC env.kindOf [(Str.ofString "rows", .ref l), (Str.ofString "column", .int c t)] (fun _ => none) (Str.ofString "one") = none := by rw [kl]; kernel_rfl
  have c3 : bindC env.kindOf [(Str.ofString "rows", .ref l), (Str.ofString "column", .int c t)] (fun _ => none) (Str.ofString "other") = none := by rw [kl]; kernel_rfl
  have v1 := x.cell _ _ e1
  have v2 := x.cell _ _ e2
  have v3 := x.cell _ _ e3
  rw [c1] at v1
  rw [c2] at v2
  rw [c3] at v3
  have ns := x.toInCall.ns
  have kp := x.toInCall.keep
  obtain ⟨h₁, tk₁, rfl⟩ := x.toInCall.same
  have d12 : (s.heap.objs.size + 1 : Nat) ≠ s.heap.objs.size + 1 + 1 := by omega
  have d13 : (s.heap.objs.size + 1 : Nat) ≠ s.heap.objs.size + 1 + 1 + 1 := by omega
  have d23 : (s.heap.objs.size + 1 + 1 : Nat) ≠ s.heap.objs.size + 1 + 1 + 1 := by omega
  have dL1 : (s.heap.objs.size + 1 : Nat) ≠ env.locals := by rw [hL]; exact Nat.succ_ne_self _
  have dL2 : (s.heap.objs.size + 1 + 1 : Nat) ≠ env.locals := by rw [hL]; exact Nat.ne_of_gt (by omega)
  have dL3 : (s.heap.objs.size + 1 + 1 + 1 : Nat) ≠ env.locals := by rw [hL]; exact Nat.ne_of_gt (by omega)
  have q1 : s.heap.objs.size ≤ (s.heap.objs.size + 1 : Nat) := by omega
  have q2 : s.heap.objs.size ≤ (s.heap.objs.size + 1 + 1 : Nat) := by omega
  have q3 : s.heap.objs.size ≤ (s.heap.objs.size + 1 + 1 + 1 : Nat) := by omega
  refine wpAny_noRaise ?_
  refine WP.go ?_
  refine joined_body (h₀ := s.heap) FE G (by show A.depth + 1 < recursionLimit; exact hdp) (by show A.units + 3 + 90 < cLine; omega) hh hc e1 e2 e3 d12 d13 d23 dL1 dL2 dL3 (hfresh _ q1) (hfresh _ q2) (hfresh _ q3) (hfresh _ (Nat.le_of_eq hL.symm)) v1 v2 v3 hl hr hsz hlen hmr ns kp ?_
  intro D ys n h' tk k1 k2 k3 k4 k5
  exact h D ys n h' tk k1 k2 k3 k4 k5
end
end Mine
end

section
open PySem PySem.W PyProof.Rows PySem.Calls PySem.SeqAt
set_option maxRecDepth 100000
namespace Mine
theorem slot_setiter_next : Slot "set_iterator" "__next__" "set_iterator.__next__" :=
  .of (owner := "set_iterator") (n := "__next__") (by rw [typeLookup_type, builtinLookup_eq_fast]; kernel_rfl) (by decide +kernel) (by decide +kernel) (by decide +kernel)
    (by first | exact .inl (by decide +kernel) | exact .inr (by decide +kernel)) (by rw [isSubtype_type]; kernel_rfl)
theorem slot_setiter_iter : Slot "set_iterator" "__iter__" "set_iterator.__iter__" :=
  .of (owner := "set_iterator") (n := "__iter__") (by rw [typeLookup_type, builtinLookup_eq_fast]; kernel_rfl) (by decide +kernel) (by decide +kernel) (by decide +kernel)
    (by first | exact .inl (by decide +kernel) | exact .inr (by decide +kernel)) (by rw [isSubtype_type]; kernel_rfl)
theorem entry_setiter_next : entryFor table "set_iterator.__next__" = some Builtin.«set_iterator.__next__» := entryFor_of_tree (by kernel_rfl)
theorem entry_setiter_iter : entryFor table "set_iterator.__iter__" = some Builtin.«dict_keyiterator.__iter__» :=
  entryFor_alias (id' := "dict_keyiterator.__iter__") (by kernel_rfl) rfl (by decide +kernel) (by kernel_rfl)
theorem entry_set_iter : entryFor table "set.__iter__" = some Builtin.«frozenset.__iter__» :=
  entryFor_alias (id' := "frozenset.__iter__") (by kernel_rfl) rfl (by decide +kernel) (by kernel_rfl)
theorem args_setiter_next (a : Value) : argsOk "set_iterator.__next__" ⟨[a], []⟩ := by unfold argsOk; kernel_rfl
theorem args_setiter_iter (a : Value) : argsOk "set_iterator.__iter__" ⟨[a], []⟩ := by unfold argsOk; kernel_rfl

theorem len_le_of_sub {α : Type} [DecidableEq α] : ∀ {l m : List α}, l.Nodup → (∀ x ∈ l, x ∈ m) → l.length ≤ m.length
  | [], _, _, _ => Nat.zero_le _
  | a :: l, m, hn, hs => by
    have ha : a ∈ m := hs a (.head _)
    have h1 := List.nodup_cons.mp hn
    have : l.length ≤ (m.erase a).length := len_le_of_sub h1.2 fun x hx => by
      refine (List.mem_erase_of_ne ?_).mpr (hs x (.tail _ hx))
      rintro rfl; exact h1.1 hx
    rw [List.length_erase_of_mem ha] at this
    have hp : 0 < m.length := List.length_pos_of_mem ha
    simp only [List.length_cons]; omega

theorem below_go (xs : Array Nat) (j : Nat) (hr : ∀ (i k v u : Nat), i < k → xs[i]? = some v → xs[k]? = some u → v < u) : ∀ fuel lo hi, hi - lo ≤ fuel → lo ≤ hi → hi ≤ xs.size → (∀ (i v : Nat), i < lo → xs[i]? = some v → v < j) → (∀ (i v : Nat), hi ≤ i → xs[i]? = some v → j ≤ v) →
    SetTable.below.go xs j fuel lo hi ≤ xs.size ∧ (∀ (i v : Nat), i < SetTable.below.go xs j fuel lo hi → xs[i]? = some v → v < j) ∧ (∀ (i v : Nat), SetTable.below.go xs j fuel lo hi ≤ i → xs[i]? = some v → j ≤ v)
  | 0, lo, hi, h1, h2, h3, h4, h5 => by
    have : lo = hi := by omega
    subst this
    exact ⟨h3, h4, h5⟩
  | fuel + 1, lo, hi, h1, h2, h3, h4, h5 => by
    unfold SetTable.below.go
    by_cases hlt : lo < hi
    · rw [if_pos hlt]
      have hm : (lo + hi) / 2 < hi := by omega
      have hm' : (lo + hi) / 2 < xs.size := by omega
      have hg : xs[(lo + hi) / 2]? = some xs[(lo + hi) / 2] := by simp [hm']
      have hgd : xs.getD ((lo + hi) / 2) j = xs[(lo + hi) / 2] := by simp [Array.getD, hm']
      dsimp only
      rw [hgd]
      by_cases hv : xs[(lo + hi) / 2] < j
      · rw [if_pos hv]
        refine below_go xs j hr fuel _ _ (by omega) (by omega) h3 (fun i v hi' e => ?_) h5
        rcases Nat.lt_or_ge i ((lo + hi) / 2) with h | h
        · exact Nat.lt_trans (hr _ _ _ _ h e hg) hv
        · have : i = (lo + hi) / 2 := by omega
          subst this; rw [hg] at e; cases e; exact hv
      · rw [if_neg hv]
        refine below_go xs j hr fuel _ _ (by omega) (by omega) (by omega) h4 fun i v hi' e => ?_
        rcases Nat.lt_or_ge ((lo + hi) / 2) i with h | h
        · have := hr _ _ _ _ h hg e; omega
        · have : i = (lo + hi) / 2 := by omega
          subst this; rw [hg] at e; cases e; omega
    · rw [if_neg hlt]
      have : lo = hi := by omega
      subst this
      exact ⟨h3, h4, h5⟩

abbrev Ris (xs : Array Nat) : Prop := xs.toList.Pairwise (· < ·)
theorem Ris.lt {xs : Array Nat} (h : Ris xs) (i k v u : Nat) (hik : i < k) (hi : xs[i]? = some v) (hk : xs[k]? = some u) : v < u := by
  have hk' : k < xs.toList.length := by
    have := (Array.getElem?_eq_some_iff.mp hk).1; simpa using this
  have hi' : i < xs.toList.length := by omega
  have := List.pairwise_iff_getElem.mp h i k hi' hk' hik
  obtain ⟨_, e1⟩ := Array.getElem?_eq_some_iff.mp hi
  obtain ⟨_, e2⟩ := Array.getElem?_eq_some_iff.mp hk
  simp only [Array.getElem_toList] at this
  rw [e1, e2] at this; exact this
theorem below_of {xs : Array Nat} (h : Ris xs) (j : Nat) : SetTable.below xs j ≤ xs.size ∧ (∀ (i v : Nat), i < SetTable.below xs j → xs[i]? = some v → v < j) ∧ (∀ (i v : Nat), SetTable.below xs j ≤ i → xs[i]? = some v → j ≤ v) :=
  below_go xs j h.lt xs.size 0 xs.size (by omega) (Nat.zero_le _) (Nat.le_refl _) (fun i v hi _ => by omega) fun i v hi e => by
    have := (Array.getElem?_eq_some_iff.mp e).1; omega

theorem ris_insert {xs : Array Nat} (h : Ris xs) {j : Nat} (hj : xs[SetTable.below xs j]? ≠ some j) : Ris (SetTable.insertAt xs (SetTable.below xs j) j) := by
  obtain ⟨h1, h2, h3⟩ := below_of h j
  show List.Pairwise _ _
  rw [SetTable.toList_insertAt]
  generalize hp : SetTable.below xs j = p at *
  have hlt : ∀ v ∈ xs.toList.take p, v < j := fun v hv => by
    obtain ⟨i, hi, e⟩ := List.getElem_of_mem hv
    rw [List.getElem_take] at e
    have hi2 : i < p := by rw [List.length_take] at hi; omega
    have hi3 : i < xs.size := by rw [List.length_take, Array.length_toList] at hi; omega
    refine h2 i v hi2 ?_
    rw [← e]; simp [hi3]
  have hgt : ∀ v ∈ xs.toList.drop p, j < v := fun v hv => by
    obtain ⟨i, hi, e⟩ := List.getElem_of_mem hv
    rw [List.getElem_drop] at e
    have hi2 : p + i < xs.size := by rw [List.length_drop, Array.length_toList] at hi; omega
    have e' : xs[p + i]? = some v := by rw [← e]; simp [hi2]
    have hge := h3 (p + i) v (by omega) e'
    rcases Nat.eq_zero_or_pos i with rfl | hi0
    · have : v ≠ j := by rintro rfl; exact hj e'
      omega
    · have hpp : p < xs.size := by omega
      have := h.lt p (p + i) xs[p] v (by omega) (by simp [hpp]) e'
      have := h3 p xs[p] (Nat.le_refl _) (by simp [hpp])
      omega
  refine List.pairwise_append.mpr ⟨h.sublist (List.take_sublist _ _), List.pairwise_cons.mpr ⟨hgt, h.sublist (List.drop_sublist _ _)⟩, fun a ha b hb => ?_⟩
  have := hlt a ha
  rcases List.mem_cons.mp hb with rfl | hb
  · exact this
  · exact Nat.lt_trans this (hgt b hb)

theorem slot_cases {t : SetTable} (hd : t.dummies = #[]) (j : Nat) : (t.slot j = .empty ∧ t.place[SetTable.below t.place j]? ≠ some j) ∨ ∃ i, t.slot j = .live i ∧ j ∈ t.place.toList := by
  unfold SetTable.slot
  dsimp only
  by_cases h : t.place[SetTable.below t.place j]? = some j
  · refine .inr ⟨SetTable.below t.place j, by simp [h], ?_⟩
    have := Array.mem_of_getElem? h
    simpa using this
  · refine .inl ⟨?_, h⟩
    have hh : SetTable.has t.dummies j = false := by rw [hd]; simp [SetTable.has]
    simp [h, hh]

def gg : Nat → Nat → Nat
  | 0, j => j
  | k + 1, j => gg k ((j * 5 + 1) % 8)
theorem gg_all : ∀ j0 < 8, ∀ j < 8, ∃ k < 8, gg k j0 = j := by decide
theorem advance7 {t : SetTable} (hm : t.mask = 7) {p : SetTable.Probe} (h1 : p.j = p.i) (h2 : p.more = 0) (h3 : p.perturb < 32) (h4 : p.dummy = none) :
    (t.advance p).j = (p.j * 5 + 1) % 8 ∧ (t.advance p).i = (t.advance p).j ∧ (t.advance p).more = 0 ∧ (t.advance p).perturb < 32 ∧ (t.advance p).dummy = none := by
  have hp : p.perturb / 32 = 0 := Nat.div_eq_of_lt h3
  unfold SetTable.advance
  rw [if_neg (by omega)]
  simp only [SetTable.leap, hm, hp, h1]
  refine ⟨by simp, by simp, ?_, by simp, h4⟩
  have : (p.i * 5 + 1 + 0) % (7 + 1) < 8 := Nat.mod_lt _ (by omega)
  unfold SetTable.runEnd
  rw [if_neg (by omega)]; omega
theorem go7 {t : SetTable} (hm : t.mask = 7) (hd : t.dummies = #[]) {f : Nat → Int} {h : Int} (hf : ∀ i, f i ≠ h) : ∀ fuel (p : SetTable.Probe), p.j = p.i → p.more = 0 → p.perturb < 32 → p.dummy = none →
    (∃ k < fuel, t.slot (gg k p.j) = .empty) → ∃ j, SetTable.probe.go t f h fuel p = some (.empty j none) ∧ t.slot j = .empty ∧ t.place[SetTable.below t.place j]? ≠ some j
  | 0, p, _, _, _, _, ⟨k, hk, _⟩ => absurd hk (Nat.not_lt_zero _)
  | fuel + 1, p, h1, h2, h3, h4, ⟨k, hk, he⟩ => by
    unfold SetTable.probe.go
    rcases slot_cases hd p.j with ⟨e, hn⟩ | ⟨i, e, _⟩
    · rw [e]; exact ⟨p.j, by simp [h4], e, hn⟩
    · rw [e]
      dsimp only
      rw [if_neg (by simpa using hf i)]
      obtain ⟨a1, a2, a3, a4, a5⟩ := advance7 hm h1 h2 h3 h4
      refine go7 hm hd hf fuel (t.advance p) a2.symm a3 a4 a5 ?_
      cases k with
      | zero => rw [show gg 0 p.j = p.j from rfl, e] at he; cases he
      | succ k => exact ⟨k, by omega, by rw [a1]; exact he⟩

theorem bits_nat {n : Nat} (h : n < 18) : SetTable.bits (n : Int) = n := by unfold SetTable.bits; omega

theorem free7 {t : SetTable} (hm : t.mask = 7) (hd : t.dummies = #[]) (hs : t.place.size ≤ 4) {n : Nat} (hn : n < 18) :
    ∃ j, t.freeSlot (n : Int) = some (j, false) ∧ t.place[SetTable.below t.place j]? ≠ some j := by
  have hex : ∃ k < 8, t.slot (gg k (n % 8)) = .empty := by
    apply Classical.byContradiction
    intro hno
    have : ∀ j ∈ List.range 8, j ∈ t.place.toList := fun j hj => by
      obtain ⟨k, hk, e⟩ := gg_all (n % 8) (Nat.mod_lt _ (by omega)) j (List.mem_range.mp hj)
      rcases slot_cases hd j with ⟨he, _⟩ | ⟨_, _, hm⟩
      · exact absurd ⟨k, hk, e ▸ he⟩ hno
      · exact hm
    have := len_le_of_sub List.nodup_range this
    rw [List.length_range, Array.length_toList] at this
    omega
  obtain ⟨k, hk, he⟩ := hex
  obtain ⟨j, e, _, hj⟩ := go7 (t := t) hm hd (f := fun _ => (n : Int) + 1) (h := (n : Int)) (fun _ => by omega) (10 * SetTable.turns t.mask) (t.probeStart n) rfl (by
      simp only [SetTable.probeStart, hm, bits_nat hn, SetTable.runEnd]; split <;> omega)
    (by simp only [SetTable.probeStart, bits_nat hn]; omega) rfl ⟨k, by rw [hm]; simp only [SetTable.turns]; omega, by simpa only [SetTable.probeStart, hm, bits_nat hn] using he⟩
  refine ⟨j, ?_, hj⟩
  unfold SetTable.freeSlot SetTable.probe
  rw [e]; rfl

theorem free31 {t : SetTable} (hm : t.mask = 31) (hd : t.dummies = #[]) {n : Nat} (hn : n < 18) (hs : n ∉ t.place.toList) :
    t.freeSlot (n : Int) = some (n, false) ∧ t.place[SetTable.below t.place n]? ≠ some n := by
  rcases slot_cases hd n with ⟨he, h2⟩ | ⟨_, _, h⟩
  · refine ⟨?_, h2⟩
    unfold SetTable.freeSlot SetTable.probe
    have hf : 10 * SetTable.turns t.mask = 459 + 1 := by rw [hm]; rfl
    have hj : (t.probeStart n).j = n := by simp only [SetTable.probeStart, hm, bits_nat hn]; omega
    rw [hf]
    unfold SetTable.probe.go
    rw [hj, he]
    rfl
  · exact absurd h hs
end Mine
end

section
open PySem PySem.W PyProof.Rows PySem.Calls PySem.SeqAt
set_option maxRecDepth 100000
namespace Mine
theorem perm_of {α : Type} [DecidableEq α] : ∀ {l m : List α}, l.Nodup → (∀ x ∈ l, x ∈ m) → m.length ≤ l.length → l.Perm m
  | [], m, _, _, h => by
    have : m = [] := List.eq_nil_of_length_eq_zero (by simpa using h)
    rw [this]
  | a :: l, m, hn, hs, hl => by
    have ha : a ∈ m := hs a (.head _)
    have h1 := List.nodup_cons.mp hn
    have e := List.length_erase_of_mem ha
    have : l.Perm (m.erase a) := perm_of h1.2 (fun x hx => by
      refine (List.mem_erase_of_ne ?_).mpr (hs x (.tail _ hx))
      rintro rfl; exact h1.1 hx) (by simp only [List.length_cons] at hl; omega)
    exact (this.cons a).trans (List.perm_cons_erase ha).symm

def ix (p : List Nat) (j : Nat) : Option Nat := p.findIdx? (· == j)
theorem ix_some {p : List Nat} {j k : Nat} (h : ix p j = some k) : p[k]? = some j := by
  obtain ⟨hk, e, _⟩ := List.findIdx?_eq_some_iff_getElem.mp h
  simp only [beq_iff_eq] at e
  simp [hk, e]
theorem ix_of {p : List Nat} (hn : p.Nodup) {j k : Nat} (h : p[k]? = some j) : ix p j = some k := by
  obtain ⟨hk, e⟩ := List.getElem?_eq_some_iff.mp h
  refine List.findIdx?_eq_some_iff_getElem.mpr ⟨hk, by simpa using e, fun i hi => ?_⟩
  have := List.pairwise_iff_getElem.mp hn i k (by omega) hk hi
  simp only [beq_iff_eq]
  rw [e] at this; exact this
theorem ix_none {p : List Nat} {j : Nat} (h : j ∉ p) : ix p j = none := by
  refine List.findIdx?_eq_none_iff.mpr fun x hx => ?_
  simp only [beq_eq_false_iff_ne]; rintro rfl; exact h hx
theorem ix_snoc {p : List Nat} {n j : Nat} (hn : n ∉ p) : ix (p ++ [n]) j = if j = n then some p.length else ix p j := by
  unfold ix
  rw [List.findIdx?_append]
  by_cases h : j = n
  · subst h
    have : ix p j = none := ix_none hn
    unfold ix at this
    rw [this]; simp
  · rw [if_neg h]
    have : List.findIdx? (fun x => x == j) [n] = none := by
      simp [List.findIdx?_cons]; omega
    rw [this]; simp

theorem free_first {owner : Array (Option Nat)} {i perturb : Nat} (h : owner[i]? = some none) : SetTable.layClean.free 31 owner (SetTable.turns 31) i perturb = some i := by
  show SetTable.layClean.free 31 owner (45 + 1) i perturb = some i
  unfold SetTable.layClean.free
  have hr : ∃ m, SetTable.runEnd 31 i + 1 - i = m + 1 := by
    refine ⟨SetTable.runEnd 31 i - i, ?_⟩
    unfold SetTable.runEnd; split <;> omega
  obtain ⟨m, hr⟩ := hr
  rw [hr, List.range_succ_eq_map, List.find?_cons_of_pos (by simp [Array.getD_eq_getD_getElem?, h])]
  simp

theorem lay_fold : ∀ (l p : List Nat) (owner : Array (Option Nat)), (p ++ l).Nodup → (∀ n ∈ l, n < 18) → owner.size = 32 → (∀ j < 32, owner[j]? = some (ix p j)) →
    ∃ owner' : Array (Option Nat), (l.map fun (n : Nat) => (n : Int)).foldl (fun (acc : Option (Array (Option Nat) × Nat)) h => do
      let (owner, k) ← acc
      let j ← SetTable.layClean.free 31 owner (SetTable.turns 31) (SetTable.bits h % (31 + 1)) (SetTable.bits h)
      pure (owner.setIfInBounds j (some k), k + 1)) (some (owner, p.length)) = some (owner', (p ++ l).length) ∧ owner'.size = 32 ∧ ∀ j < 32, owner'[j]? = some (ix (p ++ l) j)
  | [], p, owner, _, _, hs, ho => ⟨owner, by simp, hs, by simpa using ho⟩
  | n :: l, p, owner, hn, hl, hs, ho => by
    have hn18 := hl n (.head _)
    have hnp : n ∉ p := fun h => (List.nodup_append.mp hn).2.2 _ h _ (.head _) rfl
    have e1 : SetTable.bits (n : Int) % (31 + 1) = n := by rw [bits_nat hn18]; omega
    have e2 := free_first (owner := owner) (i := n) (perturb := SetTable.bits (n : Int)) (by rw [ho n (by omega), ix_none hnp])
    have step : ((some (owner, p.length) : Option (Array (Option Nat) × Nat)) >>= fun x => do
      let j ← SetTable.layClean.free 31 x.1 (SetTable.turns 31) (SetTable.bits (n : Int) % (31 + 1)) (SetTable.bits (n : Int))
      pure (x.1.setIfInBounds j (some x.2), x.2 + 1)) = some (owner.setIfInBounds n (some p.length), (p ++ [n]).length) := by
      show (SetTable.layClean.free 31 owner (SetTable.turns 31) (SetTable.bits (n : Int) % (31 + 1)) (SetTable.bits (n : Int)) >>= fun j => pure (owner.setIfInBounds j (some p.length), p.length + 1)) = _
      rw [e1, e2]; simp
    rw [List.map_cons, List.foldl_cons]
    have hnd : ((p ++ [n]) ++ l).Nodup := by simpa using hn
    obtain ⟨owner', h1, h2, h3⟩ := lay_fold l (p ++ [n]) (owner.setIfInBounds n (some p.length)) hnd (fun m hm => hl m (.tail _ hm)) (by simpa using hs) (fun j hj => by
      rw [ix_snoc hnp, Array.getElem?_setIfInBounds]
      by_cases h : n = j
      · subst h; simp [hs]; omega
      · rw [if_neg h, if_neg (Ne.symm h)]; exact ho j hj)
    refine ⟨owner', ?_, h2, fun j hj => by simpa using h3 j hj⟩
    have e3 : (p ++ [n] ++ l).length = (p ++ n :: l).length := by simp
    rw [e3] at h1
    rw [← h1]
    exact congrArg (fun z => List.foldl _ z _) step

theorem layClean31 {l : List Nat} (hn : l.Nodup) (hl : ∀ n ∈ l, n < 18) : ∃ owner, SetTable.layClean 31 (l.map fun (n : Nat) => (n : Int)).toArray = some owner ∧ owner.size = 32 ∧ ∀ j < 32, owner[j]? = some (ix l j) := by
  obtain ⟨owner, h1, h2, h3⟩ := lay_fold l [] (Array.replicate (31 + 1) none) (by simpa using hn) hl (by simp) (fun j hj => by
    rw [ix_none (by simp)]; simp [Array.getElem?_replicate, hj])
  refine ⟨owner, ?_, h2, by simpa using h3⟩
  unfold SetTable.layClean
  rw [List.foldl_toArray']
  · simp only [List.length_nil] at h1
    rw [h1]; rfl
  · simp

theorem filterMap_congr' {α β : Type} {f g : α → Option β} {l : List α} (h : ∀ x ∈ l, f x = g x) : l.filterMap f = l.filterMap g := by
  induction l with
  | nil => rfl
  | cons a l ih =>
    have := h a (.head _)
    simp only [List.filterMap_cons, this, ih fun x hx => h x (.tail _ hx)]

theorem laid31 {l : List Nat} (hn : l.Nodup) (hl : ∀ n ∈ l, n < 18) (finger moves : Nat) (led plain : Bool) :
    SetTable.laid 31 finger moves led plain (l.map fun (n : Nat) => (n : Int)).toArray = some ({ mask := 31, place := ((List.range 32).filterMap fun j => (ix l j).map fun _ => j).toArray, dummies := #[], finger, led, moves, plain }, ((List.range 32).filterMap (ix l)).toArray) := by
  obtain ⟨owner, h1, h2, h3⟩ := layClean31 hn hl
  unfold SetTable.laid
  rw [h1]
  have e : (List.range (31 + 1)).filterMap (fun j => (owner.getD j none).map (j, ·)) = (List.range 32).filterMap (fun j => (ix l j).map (j, ·)) := filterMap_congr' fun j hj => by
    have := h3 j (List.mem_range.mp hj)
    rw [Array.getD_eq_getD_getElem?, this]; rfl
  show some _ = _
  rw [e, List.map_filterMap, List.map_filterMap]
  simp only [Option.map_map]
  have e1 : (fun x => Option.map ((fun x => x.fst) ∘ fun x_1 => (x, x_1)) (ix l x)) = fun j => (ix l j).map fun _ => j := rfl
  have e2 : (fun x => Option.map ((fun x => x.snd) ∘ fun x_1 => (x, x_1)) (ix l x)) = ix l := by
    funext j; cases ix l j <;> rfl
  rw [e1, e2]
end Mine
end

section
open PySem PySem.W PyProof.Rows PySem.Calls PySem.SeqAt
set_option maxRecDepth 100000
namespace Mine
/-- the hashes of the entries, as plain numbers -/
def hsh (es : Array (Int × Value)) : List Nat := es.toList.map fun e => e.1.toNat
structure Tab (led : Bool) (es : Array (Int × Value)) (t : SetTable) : Prop where
  d : t.dummies = #[]
  pl : t.plain = true
  ld : t.led = led
  ris : Ris t.place
  sz : t.place.size = es.size
  hs : ∀ e ∈ es.toList, ∃ n : Nat, n < 18 ∧ e.1 = n
  nd : (hsh es).Nodup
  md : (t.mask = 7 ∧ es.size ≤ 4) ∨ (t.mask = 31 ∧ t.place.toList = hsh es)

theorem Tab.fresh (led : Bool) : Tab led #[] (.fresh 0 0 led) where
  d := rfl
  pl := rfl
  ld := rfl
  ris := List.Pairwise.nil
  sz := rfl
  hs := fun e he => by simp at he
  nd := List.nodup_nil
  md := .inl ⟨rfl, by simp⟩

theorem hsh_lt {es : Array (Int × Value)} (h : ∀ e ∈ es.toList, ∃ n : Nat, n < 18 ∧ e.1 = n) : ∀ n ∈ hsh es, n < 18 := fun n hn => by
  obtain ⟨e, he, rfl⟩ := List.mem_map.mp hn
  obtain ⟨m, hm, e2⟩ := h e he
  rw [e2]; simpa using hm
theorem hsh_len (es : Array (Int × Value)) : (hsh es).length = es.size := by simp [hsh]
theorem Tab.small {led : Bool} {es : Array (Int × Value)} {t : SetTable} (T : Tab led es t) : es.size ≤ 18 := by
  have := len_le_of_sub T.nd (m := List.range 18) fun n hn => List.mem_range.mpr (hsh_lt T.hs n hn)
  rw [hsh_len, List.length_range] at this; exact this

theorem Tab.lay {led : Bool} {es : Array (Int × Value)} {t : SetTable} (T : Tab led es t) {n : Nat} (hn : n < 18) (hne : n ∉ hsh es) (x : Value) :
    ∃ es1 t1, layNew t es (n : Int) x = (es1, t1, false, false) ∧ es1.size = es.size + 1 ∧ t1.dummies = #[] ∧ t1.plain = true ∧ t1.led = led ∧ Ris t1.place ∧ t1.place.size = es1.size ∧
      ((t1.mask = 7 ∧ es1.size ≤ 5) ∨ (t1.mask = 31 ∧ t1.place.toList = hsh es1)) ∧ t1.fill = es1.size := by
  have hle : es.size + 1 ≤ 18 := by
    have hn' : (n :: hsh es).Nodup := List.nodup_cons.mpr ⟨hne, T.nd⟩
    have := len_le_of_sub hn' (m := List.range 18) fun m hm => List.mem_range.mpr (by
      rcases List.mem_cons.mp hm with rfl | hm
      · exact hn
      · exact hsh_lt T.hs m hm)
    rw [List.length_cons, hsh_len, List.length_range] at this; exact this
  have hfree : ∃ j, t.freeSlot (n : Int) = some (j, false) ∧ t.place[SetTable.below t.place j]? ≠ some j ∧ (t.mask = 31 → j = n) := by
    rcases T.md with ⟨hm, hs⟩ | ⟨hm, hp⟩
    · obtain ⟨j, h1, h2⟩ := free7 hm T.d (by rw [T.sz]; exact hs) hn
      exact ⟨j, h1, h2, fun h => by omega⟩
    · obtain ⟨h1, h2⟩ := free31 hm T.d hn (by rw [hp]; exact hne)
      exact ⟨n, h1, h2, fun _ => rfl⟩
  obtain ⟨j, hf, hj, hjn⟩ := hfree
  have hput : t.put j = ({ t with place := SetTable.insertAt t.place (SetTable.below t.place j) j, dummies := #[] }, SetTable.below t.place j) := by
    unfold SetTable.put
    have : SetTable.has t.dummies j = false := by rw [T.d]; simp [SetTable.has]
    simp only [this, Bool.false_eq_true, if_false]
    rw [T.d]
  have hsz : (SetTable.insertAt es (SetTable.below t.place j) ((n : Int), x)).size = es.size + 1 := by
    have := (SetTable.insertAt_perm es (SetTable.below t.place j) ((n : Int), x)).length_eq
    simpa using this
  have hpsz : (SetTable.insertAt t.place (SetTable.below t.place j) j).size = t.place.size + 1 := by
    have := (SetTable.insertAt_perm t.place (SetTable.below t.place j) j).length_eq
    simpa using this
  have hfits : SetTable.fits ({ t with place := SetTable.insertAt t.place (SetTable.below t.place j) j, dummies := #[] } : SetTable) (SetTable.insertAt es (SetTable.below t.place j) ((n : Int), x)).size = true := by
    unfold SetTable.fits SetTable.fill
    simp only [hsz, hpsz, T.sz, Bool.and_eq_true, beq_iff_eq, decide_eq_true_eq, true_and, List.size_toArray, List.length_nil]
    rcases T.md with ⟨hm, hs⟩ | ⟨hm, hp⟩ <;> omega
  refine ⟨SetTable.insertAt es (SetTable.below t.place j) ((n : Int), x), { t with place := SetTable.insertAt t.place (SetTable.below t.place j) j, dummies := #[] }, ?_, hsz, rfl, T.pl, T.ld, ris_insert T.ris hj, ?_, ?_, ?_⟩
  · unfold layNew
    rw [hf]
    dsimp only
    rw [hput]
    dsimp only
    unfold SetTable.orStandIn
    rw [hfits]; rfl
  · rw [hpsz, hsz, T.sz]
  · rcases T.md with ⟨hm, hs⟩ | ⟨hm, hp⟩
    · exact .inl ⟨hm, by rw [hsz]; omega⟩
    · refine .inr ⟨hm, ?_⟩
      rw [hjn hm]
      unfold hsh
      rw [SetTable.toList_insertAt, SetTable.toList_insertAt, hp]
      simp [hsh, List.map_take, List.map_drop]
  · show (SetTable.insertAt t.place _ j).size + (#[] : Array Nat).size = _
    rw [hpsz, hsz, T.sz]; rfl

theorem Tab.relay {led : Bool} {es : Array (Int × Value)} {t : SetTable} (d : t.dummies = #[]) (pl : t.plain = true) (ld : t.led = led) (h5 : es.size = 5) (hs : ∀ e ∈ es.toList, ∃ n : Nat, n < 18 ∧ e.1 = n) (nd : (hsh es).Nodup) :
    ∃ es' t', relayAll t es (SetTable.grown es.size) = (es', t', false) ∧ Tab led es' t' := by
  have hw : SetTable.sizeAbove (SetTable.grown es.size) - 1 = 31 := by rw [h5]; decide
  have hh : es.map (·.1) = ((hsh es).map fun (n : Nat) => (n : Int)).toArray := by
    apply Array.ext'
    rw [Array.toList_map]
    unfold hsh
    rw [List.map_map]
    refine List.map_congr_left fun e he => ?_
    obtain ⟨n, _, e1⟩ := hs e he
    simp [e1]
  have hlt := hsh_lt hs
  have hrl : t.relaid (es.map (·.1)) (SetTable.grown es.size) = some ({ mask := 31, place := ((List.range 32).filterMap fun j => (ix (hsh es) j).map fun _ => j).toArray, dummies := #[], finger := t.finger, led := t.led, moves := t.movedTo 31, plain := t.plain }, ((List.range 32).filterMap (ix (hsh es))).toArray) := by
    unfold SetTable.relaid
    rw [hw, hh]
    exact laid31 nd hlt _ _ _ _
  -- the order
  have hgetk : ∀ k j, ix (hsh es) j = some k → ∃ e, es[k]? = some e ∧ e.1.toNat = j := fun k j h => by
    have := ix_some h
    unfold hsh at this
    rw [List.getElem?_map, Array.getElem?_toList] at this
    cases he : es[k]? with
    | none => rw [he] at this; cases this
    | some e => rw [he] at this; cases this; exact ⟨e, rfl, rfl⟩
  have ond : ((List.range 32).filterMap (ix (hsh es))).Nodup := by
    refine List.Pairwise.filterMap (R := (· < ·)) _ (fun a a' haa b hb b' hb' => ?_) List.pairwise_lt_range
    rintro rfl
    obtain ⟨e, h1, h2⟩ := hgetk _ _ hb
    obtain ⟨e', h3, h4⟩ := hgetk _ _ hb'
    rw [h1] at h3; cases h3; omega
  have hsub : ∀ k ∈ (List.range 32).filterMap (ix (hsh es)), k ∈ List.range es.size := fun k hk => by
    obtain ⟨j, _, hj⟩ := List.mem_filterMap.mp hk
    obtain ⟨e, h1, _⟩ := hgetk _ _ hj
    exact List.mem_range.mpr (Array.getElem?_eq_some_iff.mp h1).1
  have hsup : ∀ k ∈ List.range es.size, k ∈ (List.range 32).filterMap (ix (hsh es)) := fun k hk => by
    have hk' := List.mem_range.mp hk
    have hkl : k < (hsh es).length := by rw [hsh_len]; exact hk'
    refine List.mem_filterMap.mpr ⟨(hsh es)[k], List.mem_range.mpr ?_, ix_of nd (by simp [hkl])⟩
    have := hlt _ (List.getElem_mem hkl)
    omega
  have hperm : ((List.range 32).filterMap (ix (hsh es))).Perm (List.range es.size) := perm_of ond hsub (len_le_of_sub List.nodup_range hsup)
  have hcov : coversAll ((List.range 32).filterMap (ix (hsh es))).toArray es.size = true := by
    unfold coversAll
    exact List.isPerm_iff.mpr hperm
  have hes : (((List.range 32).filterMap (ix (hsh es))).toArray.filterMap (es[·]?)).toList.map (fun e => e.1.toNat) = (List.range 32).filterMap fun j => (ix (hsh es) j).map fun _ => j := by
    rw [Array.toList_filterMap, List.filterMap_filterMap, List.map_filterMap]
    refine filterMap_congr' fun j hj => ?_
    cases h : ix (hsh es) j with
    | none => rfl
    | some k =>
      obtain ⟨e, h1, h2⟩ := hgetk _ _ h
      simp [h1, h2]
  have hpm : (((List.range 32).filterMap (ix (hsh es))).toArray.filterMap (es[·]?)).toList.Perm es.toList := by
    rw [Array.toList_filterMap]
    exact (hperm.filterMap _).trans (by rw [filterMap_getElem?_range])
  have hs5 : (((List.range 32).filterMap (ix (hsh es))).toArray.filterMap (es[·]?)).size = 5 := by
    have := hpm.length_eq
    rw [Array.length_toList, Array.length_toList, h5] at this; exact this
  have hpl : ((List.range 32).filterMap fun j => (ix (hsh es) j).map fun _ => j).length = 5 := by
    rw [← hes, List.length_map, Array.length_toList]; exact hs5
  have hfits : SetTable.fits ({ mask := 31, place := ((List.range 32).filterMap fun j => (ix (hsh es) j).map fun _ => j).toArray, dummies := #[], finger := t.finger, led := t.led, moves := t.movedTo 31, plain := t.plain } : SetTable) (((List.range 32).filterMap (ix (hsh es))).toArray.filterMap (es[·]?)).size = true := by
    unfold SetTable.fits SetTable.fill
    rw [hs5]
    simp only [List.size_toArray, hpl]
    rfl
  refine ⟨((List.range 32).filterMap (ix (hsh es))).toArray.filterMap (es[·]?), ({ mask := 31, place := ((List.range 32).filterMap fun j => (ix (hsh es) j).map fun _ => j).toArray, dummies := #[], finger := t.finger, led := t.led, moves := t.movedTo 31, plain := t.plain } : SetTable), ?_, ?_⟩
  · unfold relayAll
    rw [hrl]
    dsimp only
    rw [hcov, hfits]
    rfl
  · refine ⟨rfl, pl, ld, ?_, ?_, fun e he => hs e (hpm.mem_iff.mp he), ?_, .inr ⟨rfl, ?_⟩⟩
    · refine List.Pairwise.filterMap (R := (· < ·)) _ (fun a a' haa b hb b' hb' => ?_) List.pairwise_lt_range
      simp only [Option.map_eq_some_iff] at hb hb'
      obtain ⟨_, _, rfl⟩ := hb
      obtain ⟨_, _, rfl⟩ := hb'
      exact haa
    · rw [hs5]; simpa using hpl
    · exact (hpm.map _).nodup_iff.mpr nd
    · exact hes.symm
end Mine
end

section
open PySem PySem.W PyProof.Rows PySem.Calls PySem.SeqAt
set_option maxRecDepth 100000
namespace Mine
theorem hash_nat {n : Nat} (h : n < 18) : hashInt (n : Int) = n := by
  have : ∀ n < 18, hashInt ((n : Nat) : Int) = n := by decide
  exact this n h

/-- a set of small numbers stands at a -/
def SetI (h : Heap) (a : Addr) (led : Bool) (σ : List Nat) : Prop :=
  ∃ o es ep t, h.get? a = some o ∧ o.ExactSet ∧ o.data = .set es ep t ∧ Tab led es t ∧ (∀ e ∈ es.toList, ∃ (n : Nat) (tk : Tok), e = ((n : Int), .int n tk)) ∧ (hsh es).Perm σ
def ins (σ : List Nat) (n : Nat) : List Nat := if n ∈ σ then σ else σ ++ [n]

theorem SetI.at {h h' : Heap} {a : Addr} {led : Bool} {σ : List Nat} (x : SetI h a led σ) (hk : ∀ o, h.get? a = some o → h'.get? a = some o) : SetI h' a led σ :=
  let ⟨o, es, ep, t, ho, r⟩ := x; ⟨o, es, ep, t, hk o ho, r⟩
theorem SetI.nodup {h : Heap} {a : Addr} {led : Bool} {σ : List Nat} (x : SetI h a led σ) : σ.Nodup :=
  let ⟨_, _, _, _, _, _, _, T, _, p⟩ := x; p.nodup_iff.mp T.nd

theorem Tab.fits {led : Bool} {es : Array (Int × Value)} {t : SetTable} (T : Tab led es t) : t.fits es.size = true := by
  have := T.small
  unfold SetTable.fits SetTable.fill
  rw [T.d]
  simp only [T.sz, Bool.and_eq_true, beq_iff_eq, decide_eq_true_eq, true_and, List.size_toArray, List.length_nil]
  rcases T.md with ⟨hm, hs⟩ | ⟨hm, hp⟩ <;> omega

section
variable {prog : Program} {w : World} {A : Around} {s : Shared} {E : Value → Shared → Prop}

theorem elems_of {led : Bool} {es : Array (Int × Value)} {t : SetTable} (T : Tab led es t) (hv : ∀ e ∈ es.toList, ∃ (n : Nat) (tk : Tok), e = ((n : Int), .int n tk)) : ElemsOf (intKind prog w) es.toList := fun e he => by
  obtain ⟨n, tk, rfl⟩ := hv e he
  obtain ⟨m, hm, e1⟩ := T.hs _ he
  have : n = m := by have q : (n : Int) = (m : Int) := e1; omega
  subst this
  exact ⟨⟨n, intKind_is _ _ _ _, (hash_nat hm).symm⟩, rfl⟩

theorem full_iff {t : SetTable} {n : Nat} (hf : t.fill = n) (hn : n ≤ 18) (hm : (t.mask = 7 ∧ n ≤ 5) ∨ t.mask = 31) : t.tooFull = true ↔ (t.mask = 7 ∧ n = 5) := by
  unfold SetTable.tooFull
  simp only [decide_eq_true_eq, ge_iff_le, hf]
  rcases hm with ⟨h, _⟩ | h <;> rw [h] <;> omega

theorem mem_hsh_iff {es : Array (Int × Value)} (hv : ∀ e ∈ es.toList, ∃ (n : Nat) (tk : Tok), e = ((n : Int), .int n tk)) (n : Nat) : n ∈ hsh es ↔ ∃ e ∈ es.toList, Value.isInt n e.2 = true := by
  constructor
  · intro h
    obtain ⟨e, he, e1⟩ := List.mem_map.mp h
    obtain ⟨m, tk, rfl⟩ := hv e he
    simp only [Int.toNat_natCast] at e1
    subst e1
    exact ⟨_, he, by simp [Value.isInt]⟩
  · rintro ⟨e, he, h⟩
    obtain ⟨m, tk, rfl⟩ := hv e he
    have : m = n := by have q : (m : Int) = (n : Int) := by simpa [Value.isInt] using h
                       omega
    subst this
    exact List.mem_map.mpr ⟨_, he, by simp⟩

theorem add_setI {a : Addr} {σ : List Nat} {n : Nat} {tk : Tok} {led : Bool} {Q : Value → Shared → Prop} (hn : n < 18) (S : SetI s.heap a led σ)
    (h : ∀ h', Heap.SameBut a s.heap h' → SetI h' a led (ins σ n) → Q .none { s with heap := h', toks := s.toks + 1 }) :
    wpAny (model prog w) A (call (.builtin "set.add") [.ref a, .int n tk]) Q E s := by
  obtain ⟨o, es, ep, t, ho, hex, hd, T, hv, hp⟩ := S
  have hel : ElemsOf (intKind prog w) es.toList := elems_of T hv
  have hsm := T.small
  have hT : s.TypeIs (.ref a) "set" := ⟨o, ho, hex.1⟩
  have hkey : (intKind prog w).is (n : Int) (.int n tk) = true := intKind_is _ _ _ _
  have hmem := mem_hsh_iff hv n
  refine wpAny_call_entry F.slot_set_add hT F.entry_set_add ?_ (F.args_set_add_2 _ _)
  unfold Builtin.«set.add» Builtin.Frozenset.oneOther
  simp only [List.isEmpty_nil, bind_assoc]
  unfold Builtin.Frozenset.addrOf setAdd
  refine wpAny_bind (wpAny_pure ?_)
  try dsimp only
  refine wpAny_bind (wpAny_pure ?_)
  try dsimp only
  refine wpAny_bind ?_
  refine wpAny_holding ?_
  refine wpAny_bind ((intKind prog w).pyHash hkey ?_)
  unfold setAddHashed setAddHashedIn
  refine wpAny_holding (wpAny_bind (wpAny_setState_of (s := { s with toks := s.toks + 1 }) ho hd T.fits ?_))
  dsimp only
  rw [byScan_of (knd := intKind prog w) rfl (by unfold scanBound; omega) hel]
  simp only [↓reduceIte]
  unfold setAddByScan
  refine wpAny_bind ?_
  refine wpAny_bind (wpAny_rule ?_)
  refine wpAny_bind (wpAny_setScan_of (s := { s with toks := s.toks + 1 }) hkey ho hd T.fits hel ?_)
  cases hr : List.findIdx? (fun e => (intKind prog w).is (n : Int) e.2) es.toList with
  | some j =>
    dsimp only
    obtain ⟨hj, hpj, _⟩ := List.findIdx?_eq_some_iff_getElem.mp hr
    have hin : n ∈ σ := hp.mem_iff.mp (hmem.mpr ⟨_, List.getElem_mem hj, hpj⟩)
    refine wpAny_pure (wpAny_pure ?_)
    show wpAny _ _ (ret Value.none) _ _ _
    refine wpAny_pure ⟨_, rfl, ?_⟩
    refine h s.heap (Heap.SameBut.refl a s.heap) ⟨o, es, ep, t, ho, hex, hd, T, hv, ?_⟩
    unfold ins; rw [if_pos hin]; exact hp
  | none =>
    dsimp only
    have hni : n ∉ hsh es := fun hin => by
      obtain ⟨e, he, h1⟩ := hmem.mp hin
      have h2 := List.findIdx?_eq_none_iff.mp hr e he
      have h1' : (intKind prog w).is (n : Int) e.2 = true := h1
      rw [h1'] at h2; cases h2
    have hniσ : n ∉ σ := fun hin => hni (hp.mem_iff.mpr hin)
    obtain ⟨es1, t1, hL, hsz, d1, pl1, ld1, r1, ps1, md1, hfill⟩ := T.lay hn hni (.int n tk)
    have hperm := layNew_perm t es (n : Int) (.int n tk)
    have hh : (intKind prog w).hash (n : Int) = (n : Int) := hash_nat hn
    rw [hh, hL]
    rw [hL, Array.toList_push] at hperm
    dsimp only at hperm ⊢
    have hv1 : ∀ e ∈ es1.toList, ∃ (m : Nat) (tk : Tok), e = ((m : Int), .int m tk) := fun e he => by
      rcases List.mem_append.mp (hperm.mem_iff.mp he) with h | h
      · exact hv e h
      · rw [List.mem_singleton.mp h]; exact ⟨n, tk, rfl⟩
    have hs1 : ∀ e ∈ es1.toList, ∃ m : Nat, m < 18 ∧ e.1 = m := fun e he => by
      rcases List.mem_append.mp (hperm.mem_iff.mp he) with h | h
      · exact T.hs e h
      · rw [List.mem_singleton.mp h]; exact ⟨n, hn, rfl⟩
    have hp1 : (hsh es1).Perm (σ ++ [n]) := by
      have := hperm.map fun e => e.1.toNat
      rw [List.map_append] at this
      refine List.Perm.trans this ?_
      exact List.Perm.append hp (by simp)
    have hnd1 : (hsh es1).Nodup := by
      refine hp1.nodup_iff.mpr ?_
      rw [List.nodup_append]
      refine ⟨hp.nodup_iff.mp T.nd, by simp, fun x hx y hy => ?_⟩
      rw [List.mem_singleton.mp hy]; rintro rfl; exact hniσ hx
    have hle1 : es1.size ≤ 18 := by
      have := len_le_of_sub hnd1 (m := List.range 18) fun m hm => List.mem_range.mpr (hsh_lt hs1 m hm)
      rw [hsh_len, List.length_range] at this; exact this
    have hins : ins σ n = σ ++ [n] := by unfold ins; rw [if_neg hniσ]
    refine wpAny_bind (wpAny_pure ?_)
    rw [if_pos pl1]
    refine wpAny_bind ?_
    rw [hashByValue_scannable 8 (show (Value.int n tk).scannable = true from rfl)]
    refine wpAny_pure ?_
    rw [if_pos (show plainKind (Value.int n tk) = true from rfl)]
    refine wpAny_bind (wpAny_storeSet_of (s := { s with toks := s.toks + 1 }) ho hd ?_ (by rw [sizeLine_eq]; omega))
    have ho1 : (s.heap.update a (Obj.putSet es1 t1)).get? a = some { o with data := .set es1 (ep + 1) t1 } := by
      have := Heap.get?_update_self (Obj.putSet es1 t1) ho (by rw [putSet_of es1 t1 hd]; rfl)
      rw [putSet_of es1 t1 hd] at this; exact this
    have hsb1 := Heap.SameBut.update s.heap a (Obj.putSet es1 t1)
    have hfull := full_iff hfill hle1 (md1.imp id And.left)
    cases hf : t1.tooFull with
    | false =>
      rw [if_neg (by simp)]
      refine wpAny_pure (wpAny_pure ?_)
      show wpAny _ _ (ret Value.none) _ _ _
      refine wpAny_pure ⟨_, rfl, h _ hsb1 ⟨_, es1, ep + 1, t1, ho1, hex, rfl, ⟨d1, pl1, ld1, r1, ps1, hs1, hnd1, ?_⟩, hv1, by rw [hins]; exact hp1⟩⟩
      rcases md1 with ⟨hm, h5⟩ | hm
      · refine .inl ⟨hm, ?_⟩
        have : ¬ (t1.mask = 7 ∧ es1.size = 5) := fun q => by rw [hfull.mpr q] at hf; cases hf
        omega
      · exact .inr hm
    | true =>
      rw [if_pos (by simp)]
      have h5 := (hfull.mp hf).2
      obtain ⟨es2, t2, hR, T2⟩ := Tab.relay d1 pl1 ld1 h5 hs1 hnd1
      have hperm2 := relayAll_perm t1 es1 (SetTable.grown es1.size)
      rw [hR] at hperm2
      dsimp only at hperm2
      rw [hR]
      dsimp only
      refine wpAny_bind (wpAny_pure ?_)
      refine wpAny_bind (wpAny_storeSet_of (s := { s with heap := _, toks := s.toks + 1 }) ho1 rfl ?_ (by rw [sizeLine_eq]; have := T2.small; omega))
      have ho2 : ((s.heap.update a (Obj.putSet es1 t1)).update a (Obj.putSet es2 t2)).get? a = some { o with data := .set es2 (ep + 1 + 1) t2 } := by
        have := Heap.get?_update_self (Obj.putSet es2 t2) ho1 (by rw [putSet_of es2 t2 rfl]; rfl)
        rw [putSet_of es2 t2 rfl] at this; exact this
      refine wpAny_pure (wpAny_pure ?_)
      show wpAny _ _ (ret Value.none) _ _ _
      refine wpAny_pure ⟨_, rfl, h _ (hsb1.trans (Heap.SameBut.update _ a _)) ⟨_, es2, _, t2, ho2, hex, rfl, T2, fun e he => hv1 e (hperm2.mem_iff.mp he), ?_⟩⟩
      rw [hins]
      have hq : (hsh es2).Perm (hsh es1) := hperm2.map (fun e : Int × Value => e.1.toNat)
      exact hq.trans hp1

theorem new_setI {Q : Value → Shared → Prop} (led : Bool) (hled : led = !w.params.followText "set-order")
    (h : ∀ o, SetI (s.heap.push o) s.heap.objs.size led [] → Q (.ref s.heap.objs.size) { s with heap := s.heap.push o }) :
    wpAny (model prog w) A (newSet (.type "set")) Q E s := by
  unfold newSet setsByText
  refine wpAny_bind (wpAny_bind (wpAny_askSetting (wpAny_pure ?_)))
  dsimp only
  simp only [newObj]
  refine wpAny_bind (wpAny_alloc (wpAny_pure (h _ ⟨_, #[], 0, _, Heap.get?_push_size _ rfl, ⟨rfl, rfl, rfl⟩, rfl, ?_, fun e he => by simp at he, List.Perm.refl _⟩)))
  rw [hled]; exact Tab.fresh _

theorem len_setI {a : Addr} {σ : List Nat} {led : Bool} {Q : Value → Shared → Prop} (S : SetI s.heap a led σ)
    (h : Q (.int σ.length (s.toks + 1)) { s with toks := s.toks + 1 + 1 }) : wpAny (model prog w) A (call (.builtin "len") [.ref a]) Q E s := by
  obtain ⟨o, es, ep, t, ho, hex, hd, T, hv, hp⟩ := S
  have : es.size = σ.length := by rw [← hp.length_eq, hsh_len]
  rw [← this] at h
  exact call_len_set ho hex hd T.fits (by have := T.small; omega) h
end
end Mine
end

section
open PySem PySem.W PyProof.Rows PySem.Calls PySem.SeqAt
set_option maxRecDepth 100000
namespace Mine
theorem erase_perm {α : Type} : ∀ {l : List α} {i : Nat} {x : α}, l[i]? = some x → (x :: l.eraseIdx i).Perm l
  | [], _, _, h => by simp at h
  | a :: l, 0, x, h => by simp at h; subst h; exact List.Perm.refl _
  | a :: l, i + 1, x, h => by
    simp at h
    exact (List.Perm.swap a x _).trans ((erase_perm h).cons a)
theorem pick_go {α : Type} (next : Nat → Nat) : ∀ (fuel k : Nat) (left : List α) (out : Array α), left.length = fuel → (pickOrder.go next fuel k left out).toList.Perm (out.toList ++ left)
  | 0, k, left, out, h => by
    have : left = [] := List.eq_nil_of_length_eq_zero h
    subst this
    unfold pickOrder.go; simp
  | fuel + 1, k, left, out, h => by
    have hlt : next k % left.length < left.length := Nat.mod_lt _ (by omega)
    have hg : left[next k % left.length]? = some left[next k % left.length] := by simp [hlt]
    unfold pickOrder.go
    rw [hg]
    dsimp only
    refine (pick_go next fuel (k + 1) _ _ (by rw [List.length_eraseIdx_of_lt hlt]; omega)).trans ?_
    rw [Array.toList_push, List.append_assoc]
    exact List.Perm.append_left _ (erase_perm hg)
theorem pick_perm {α : Type} (next : Nat → Nat) (xs : Array α) : (pickOrder next xs).toList.Perm xs.toList := by
  have := pick_go next xs.size 0 xs.toList #[] (by simp)
  unfold pickOrder
  simpa using this

def byText (w : World) : Bool := w.params.followText "set-order"
def ordE (w : World) (a : Addr) (ep : Nat) (es : Array (Int × Value)) : Array (Int × Value) := if byText w = true then pickOrder (w.params.setOrder a ep) es else es
def fO (w : World) (t : SetTable) : Nat → Nat
  | 0 => 0
  | k + 1 => if byText w = true then 0 else t.place.getD k 0 + 1
theorem ordE_perm (w : World) (a : Addr) (ep : Nat) (es : Array (Int × Value)) : (ordE w a ep es).toList.Perm es.toList := by
  unfold ordE; split
  · exact pick_perm _ _
  · exact List.Perm.refl _
theorem ordE_size (w : World) (a : Addr) (ep : Nat) (es : Array (Int × Value)) : (ordE w a ep es).size = es.size := by
  have := (ordE_perm w a ep es).length_eq; simpa using this

theorem below_fO {w : World} {t : SetTable} (hr : Ris t.place) (hb : byText w = false) {i : Nat} (hi : i ≤ t.place.size) : SetTable.below t.place (fO w t i) = i := by
  obtain ⟨h1, h2, h3⟩ := below_of hr (fO w t i)
  generalize SetTable.below t.place (fO w t i) = p at *
  cases i with
  | zero =>
    apply Classical.byContradiction
    intro hp
    have : p ≥ 1 := by omega
    have := h2 0 t.place[0] (by omega) (by simp)
    simp [fO] at this
  | succ k =>
    have hk : k < t.place.size := by omega
    have hf : fO w t (k + 1) = t.place[k] + 1 := by simp [fO, hb, Array.getD, hk]
    rw [hf] at h2 h3
    rcases Nat.lt_trichotomy p (k + 1) with h | h | h
    · have hps : p < t.place.size := by omega
      have e1 := h3 p t.place[p] (Nat.le_refl _) (by simp [hps])
      rcases Nat.lt_or_ge p k with q | q
      · have := hr.lt p k t.place[p] t.place[k] q (by simp [hps]) (by simp [hk]); omega
      · have : p = k := by omega
        subst this; omega
    · exact h
    · have hks : k + 1 < t.place.size := by omega
      have e1 := h2 (k + 1) t.place[k + 1] h (by simp [hks])
      have := hr.lt k (k + 1) t.place[k] t.place[k + 1] (by omega) (by simp [hk]) (by simp [hks]); omega

section
variable {prog : Program} {w : World} {A : Around} {s : Shared} {E : Value → Shared → Prop}

theorem setNext_of {a : Addr} {o : Obj} {es : Array (Int × Value)} {ep : Nat} {t : SetTable} {i : Nat} {Q : Option (Value × Nat) → Shared → Prop}
    (ho : s.heap.get? a = some o) (hd : o.data = .set es ep t) (T : Tab (!byText w) es t) (hi : i ≤ es.size)
    (h : Q ((ordE w a ep es)[i]?.map fun e => (e.2, fO w t (i + 1))) s) : wpAny (model prog w) A (setNext a (fO w t i) i ep) Q E s := by
  unfold setNext setsByText
  refine wpAny_bind (wpAny_setState_of ho hd T.fits ?_)
  dsimp only
  refine wpAny_bind (wpAny_bind (wpAny_askSetting (wpAny_pure ?_)))
  dsimp only
  have hp : (model prog w).w.params.followText "set-order" = byText w := rfl
  rw [hp]
  cases hb : byText w with
  | true =>
    simp only [↓reduceIte, bne_self_eq_false, Bool.false_eq_true]
    unfold setWalk setsByText
    refine wpAny_bind (wpAny_bind (wpAny_setState_of ho hd T.fits ?_))
    dsimp only
    refine wpAny_bind (wpAny_bind (wpAny_askSetting (wpAny_pure ?_)))
    dsimp only
    rw [hp, hb]
    simp only [↓reduceIte]
    refine wpAny_bind (wpAny_askSetting (wpAny_pure ?_))
    refine wpAny_pure ?_
    have e1 : fO w t (i + 1) = fO w t i := by cases i <;> simp [fO, hb]
    rw [e1] at h
    unfold ordE at h
    rw [if_pos hb] at h
    exact h
  | false =>
    simp only [Bool.false_eq_true, ↓reduceIte]
    split
    · rename_i hdr
      exact absurd hdr (by show ¬ ((!t.plain && decide (es.size > 1)) = true); rw [T.pl]; simp)
    · refine wpAny_bind ?_
      show wpAny _ _ (if (!t.led && !es.isEmpty) = true then unsupported "set:maker-not-led" else pure ()) _ _ s
      rw [T.ld, hb]
      rw [if_neg (by simp)]
      refine wpAny_pure (wpAny_pure ?_)
      rw [below_fO T.ris hb (by rw [T.sz]; exact hi)]
      unfold ordE at h
      rw [if_neg (by simp [hb])] at h
      rcases Nat.lt_or_ge i es.size with hlt | hge
      · have hpl : i < t.place.size := by rw [T.sz]; exact hlt
        have e1 : es[i]? = some es[i] := by simp [hlt]
        have e2 : t.place[i]? = some t.place[i] := by simp [hpl]
        rw [e1] at h ⊢
        rw [e2]
        have e3 : fO w t (i + 1) = t.place[i] + 1 := by simp [fO, hb, Array.getD, hpl]
        rw [e3] at h
        exact h
      · have e1 : es[i]? = none := by simp; exact hge
        rw [e1] at h ⊢
        exact h

/-- the iterator over the set a stands at I, i elements given -/
def IterS (w : World) (h : Heap) (I a : Addr) (es : Array (Int × Value)) (ep : Nat) (t : SetTable) (i : Nat) : Prop :=
  ∃ o, h.get? I = some o ∧ o.cls = .type "set_iterator" ∧ o.data = .fields #[.int (fO w t i : Nat) 0, .int i 0, .ref a, .int es.size 0, .int ep 0]
theorem IterS.typeIs {I a : Addr} {es : Array (Int × Value)} {ep : Nat} {t : SetTable} {i : Nat} (x : IterS w s.heap I a es ep t i) : s.TypeIs (.ref I) "set_iterator" := let ⟨o, ho, hc, _⟩ := x; ⟨o, ho, hc⟩

theorem iter_setI {a : Addr} {o : Obj} {es : Array (Int × Value)} {ep : Nat} {t : SetTable} {Q : Value → Shared → Prop}
    (ho : s.heap.get? a = some o) (hex : o.ExactSet) (hd : o.data = .set es ep t) (T : Tab (!byText w) es t)
    (hQ : Q (.ref s.heap.objs.size) { s with heap := s.heap.push { cls := .type "set_iterator", data := .fields #[.int 0 0, .int 0 0, .ref a, .int es.size 0, .int ep 0] } }) :
    wpAny (model prog w) A (pyIter (.ref a)) Q E s := by
  have hT : s.TypeIs (.ref a) "set" := ⟨o, ho, hex.1⟩
  refine wpAny_pyIter_slot hT F.slot_set_iter (wpAny_call_entry F.slot_set_iter hT entry_set_iter ?_ (F.args_set_iter_1 _))
  unfold Builtin.«frozenset.__iter__» Builtin.Frozenset.slot0 slotArgs
  simp only [List.isEmpty_nil, Bool.not_true, Bool.false_eq_true, ↓reduceIte, bind_assoc, List.length_nil, bne_self_eq_false]
  unfold Builtin.Frozenset.addrOf Builtin.Frozenset.sizeOf setDrawn setsByText
  refine wpAny_bind (wpAny_pure ?_)
  try dsimp only
  refine wpAny_bind (wpAny_pure ?_)
  refine wpAny_bind (wpAny_bind (wpAny_setEntries_of ho hd T.fits (wpAny_pure ?_)))
  refine wpAny_bind (wpAny_bind (wpAny_setState_of ho hd T.fits ?_))
  dsimp only
  refine wpAny_bind (wpAny_bind (wpAny_askSetting (wpAny_pure ?_)))
  refine wpAny_pure ?_
  split
  · rename_i hdr
    refine absurd hdr (by show ¬ ((! _ && (!t.plain && decide (es.size > 1))) = true); rw [T.pl]; simp)
  · refine wpAny_bind (wpAny_pure ?_)
    refine wpAny_bind (wpAny_setEpoch_of ho hd T.fits ?_)
    exact wpAny_bind (wpAny_newObj_type (wpAny_pure ⟨_, rfl, "set_iterator", _, ⟨_, Heap.get?_push_size _ rfl, rfl⟩, slot_setiter_next.lookup, hQ⟩))

theorem next_setI {I a : Addr} {o : Obj} {es : Array (Int × Value)} {ep : Nat} {t : SetTable} {i : Nat} {e : Int × Value} {Q : Option Value → Shared → Prop}
    (ho : s.heap.get? a = some o) (hd : o.data = .set es ep t) (T : Tab (!byText w) es t) (hit : IterS w s.heap I a es ep t i) (he : (ordE w a ep es)[i]? = some e)
    (hQ : ∀ h', IterS w h' I a es ep t (i + 1) → Heap.SameBut I s.heap h' → Q (some e.2) { s with heap := h' }) :
    wpAny (model prog w) A (pyNext (.ref I)) Q E s := by
  obtain ⟨oi, hoi, hci, hdi⟩ := id hit
  have hlt : i < es.size := by have := (Array.getElem?_eq_some_iff.mp he).1; rw [ordE_size] at this; exact this
  unfold pyNext
  refine wpAny_bind (wpAny_attempt (wpAny_callSpecial?_slot (name := Str.ofString "__next__") hit.typeIs slot_setiter_next
    (wpAny_call_entry slot_setiter_next hit.typeIs entry_setiter_next ?_ (args_setiter_next _))))
  unfold Builtin.«set_iterator.__next__» slotArgs
  simp only [List.isEmpty_nil, Bool.not_true, Bool.false_eq_true, ↓reduceIte, bind_assoc, List.length_nil, bne_self_eq_false]
  refine wpAny_bind (wpAny_pure ?_)
  refine wpAny_bind (wpAny_fieldsOf hoi hdi ?_)
  dsimp only
  refine wpAny_bind (wpAny_setEntries_of ho hd T.fits ?_)
  rw [if_neg (by simp)]
  try dsimp only
  simp only [Int.toNat_natCast]
  refine wpAny_bind (setNext_of ho hd T (Nat.le_of_lt hlt) ?_)
  rw [he]
  dsimp only [Option.map]
  refine wpAny_bind (wpAny_setField hoi hdi (by simp) ?_)
  have hg1 := Heap.get?_update_self (Obj.mapFields (·.setIfInBounds 0 (rawInt (fO w t (i + 1))))) hoi (Obj.isFreed_of_fields (Obj.data_mapFields hdi _))
  refine wpAny_bind (wpAny_setField hg1 (Obj.data_mapFields hdi _) (by simp) (wpAny_pure ⟨_, rfl, wpAny_pure (hQ _ ?_ ((Heap.SameBut.update ..).trans (Heap.SameBut.update ..)))⟩))
  refine ⟨_, Heap.get?_update_self _ hg1 (Obj.isFreed_of_fields (Obj.data_mapFields (Obj.data_mapFields hdi _) _)), (Obj.cls_mapFields ..).trans ((Obj.cls_mapFields ..).trans hci), ?_⟩
  rw [Obj.data_mapFields (Obj.data_mapFields hdi _)]
  simp [rawInt]

theorem end_setI {I a : Addr} {o : Obj} {es : Array (Int × Value)} {ep : Nat} {t : SetTable} {Q : Option Value → Shared → Prop} (hh : A.handled = none)
    (ho : s.heap.get? a = some o) (hd : o.data = .set es ep t) (T : Tab (!byText w) es t) (hit : IterS w s.heap I a es ep t es.size)
    (hQ : ∀ h', Heap.ExtBut I s.heap h' → Q none { s with heap := h' }) :
    wpAny (model prog w) A (pyNext (.ref I)) Q E s := by
  obtain ⟨oi, hoi, hci, hdi⟩ := id hit
  have he : (ordE w a ep es)[es.size]? = none := by simp [ordE_size]
  unfold pyNext
  refine wpAny_bind (wpAny_attempt (wpAny_callSpecial?_slot (name := Str.ofString "__next__") hit.typeIs slot_setiter_next
    (wpAny_call_entry slot_setiter_next hit.typeIs entry_setiter_next ?_ (args_setiter_next _))))
  unfold Builtin.«set_iterator.__next__» slotArgs
  simp only [List.isEmpty_nil, Bool.not_true, Bool.false_eq_true, ↓reduceIte, bind_assoc, List.length_nil, bne_self_eq_false]
  refine wpAny_bind (wpAny_pure ?_)
  refine wpAny_bind (wpAny_fieldsOf hoi hdi ?_)
  dsimp only
  refine wpAny_bind (wpAny_setEntries_of ho hd T.fits ?_)
  rw [if_neg (by simp)]
  try dsimp only
  simp only [Int.toNat_natCast]
  refine wpAny_bind (setNext_of ho hd T (Nat.le_refl _) ?_)
  rw [he]
  dsimp only [Option.map]
  refine wpAny_bind (wpAny_setField hoi hdi (by simp) ?_)
  show wpAny _ _ (newExc (.type "StopIteration") [] >>= _) _ _ _
  refine wpAny_bind ?_
  simp only [newExc, newTuple]
  refine wpAny_bind (wpAny_newObj_type ?_ (by size_fits))
  refine wpAny_bind (m := firstArgMember _ _) (wpAny_of_eq (a := Value.none) (by first | rfl | (simp only [firstArgMember]; rfl)) ?_)
  refine wpAny_newObj_type ?_ (by size_fits)
  simp only [raiseNew]
  refine wpAny_bind (wpAny_handled ?_)
  rw [show A.in1.handled = none from hh]
  refine wpAny_bind (wpAny_pure (wpAny_throw ?_))
  refine wpAny_bind (wpAny_isInstance (T := "StopIteration") (b := true) ⟨_, Heap.get?_push_size _ rfl, rfl⟩ isSubtype_stop ?_)
  exact wpAny_pure (hQ _ (((Heap.SameBut.update ..).extBut.push _).push _))

theorem self_setI {I a : Addr} {es : Array (Int × Value)} {ep : Nat} {t : SetTable} {i : Nat} {Q : Value → Shared → Prop} (hit : IterS w s.heap I a es ep t i) (h : Q (.ref I) s) :
    wpAny (model prog w) A (pyIter (.ref I)) Q E s := by
  refine wpAny_pyIter_slot hit.typeIs slot_setiter_iter (wpAny_call_entry slot_setiter_iter hit.typeIs entry_setiter_iter ?_ (args_setiter_iter _))
  show wpAny _ _ (ret (.ref I)) _ _ s
  exact wpAny_pure ⟨_, rfl, "set_iterator", _, hit.typeIs, slot_setiter_next.lookup, h⟩

theorem walks_set (hh : A.handled = none) (I a : Addr) (hne : a ≠ I) {o : Obj} {es : Array (Int × Value)} {ep : Nat} {t : SetTable} (hd : o.data = .set es ep t) (T : Tab (!byText w) es t) :
    Walks prog w A I [I, a] [I] es.size (fun i v => (ordE w a ep es)[i]?.map (·.2) = some v) (fun i h => IterS w h I a es ep t i ∧ h.get? a = some o) where
  sub := fun b hb => by simp at hb; simp [hb]
  frame := fun _ _ _ st hk => ⟨let ⟨oi, hoi, r⟩ := st.1; ⟨oi, hk I (by simp) _ hoi, r⟩, hk a (by simp) _ st.2⟩
  item := fun i s Q E hi st hQ => by
    have hi' : i < (ordE w a ep es).size := by rw [ordE_size]; exact hi
    have he : (ordE w a ep es)[i]? = some (ordE w a ep es)[i] := by simp [hi']
    refine next_setI st.2 hd T st.1 he fun h' hit' hs' => ?_
    exact hQ _ h' s.toks (by rw [he]; rfl) ⟨hit', hs'.extBut _ _ hne st.2⟩ fun b o hb e => hs'.extBut b o (fun h => hb (by simp [h])) e
  done := fun s Q E st hQ => end_setI hh st.2 hd T st.1 fun h' he' => hQ h' s.toks fun b o hb e => he' b o (fun h => hb (by simp [h])) e
  self := fun _ _ _ _ st hQ => self_setI st.1 hQ
end
end Mine
end

section
open PySem PySem.W PyProof.Rows PySem.Calls PySem.SeqAt
set_option maxRecDepth 100000
namespace Mine
theorem compTurn_set (elt target iter : Expr) (ifs : List Expr) (scope : Scope) (pos : Pos) (it acc : Value) (env : Env) :
    compTurn (.SetComp elt [⟨target, iter, ifs, 0⟩] scope pos) 0 it acc env = (do
      standAt iter.pos
      match ← pyNext it with
      | none => pure (.done .next)
      | some v =>
        letOwnedTupleGo target it v
        assign target env v
        let mut ok := true
        for c in ifs do
          if ok then ok ← isTrue c env (eval c env)
        if ok then
          (do let y ← eval elt env; standAt elt.pos; let _ ← call (.builtin "set.add") [acc, y])
        again (.compLoop (.SetComp elt [⟨target, iter, ifs, 0⟩] scope pos) 0 it acc env)) := by rfl

section
variable {prog : Program} {w : World} {A : Around} {E : Value → Shared → Prop} {R : Result → Shared → Prop} {s : Shared} {env : Env}

theorem compLoop_set {elt target iter : Expr} {ifs : List Expr} {scope : Scope} {pos : Pos} {it acc : Value} {env : Env} (I : Nat → Shared → Prop)
    (turn : ∀ n s, I n s → wpAny (model prog w) A (pyNext it) (fun r s₁ => match r with
      | none => R (.ok .next) s₁
      | some v => wpAny (model prog w) A (assign target env v) (fun _ s₂ =>
          wpAny (model prog w) A (forIn ifs true fun c r => if r = true then do let ok ← isTrue c env (eval c env); pure (ForInStep.yield ok) else pure (ForInStep.yield r)) (fun ok s₃ =>
            if ok = true then wpAny (model prog w) A (eval elt env) (fun x s₄ =>
              wpAny (model prog w) A (call (.builtin "set.add") [acc, x]) (fun _ s₅ => ∃ m, m < n ∧ I m s₅) (notedBy (model prog w) A env fun e s' => R (.error e) s') s₄) (notedBy (model prog w) A env fun e s' => R (.error e) s') s₃
            else ∃ m, m < n ∧ I m s₃) (notedBy (model prog w) A env fun e s' => R (.error e) s') s₂) (notedBy (model prog w) A env fun e s' => R (.error e) s') s₁) (notedBy (model prog w) A env fun e s' => R (.error e) s') s)
    (n : Nat) (h : I n s) (ht : ∀ v, letOwnedTupleGo target it v = pure () := by intro _; rfl) :
    codeAny (model prog w) A (.compLoop (.SetComp elt [⟨target, iter, ifs, 0⟩] scope pos) 0 it acc env) R s := by
  refine codeAny_loop rfl I (fun n s hI => ?_) n h
  show wpAny _ A ((compTurn (.SetComp elt [⟨target, iter, ifs, 0⟩] scope pos) 0 it acc env).onRaise (fun x => do noteFrame x env; theTreesLotGoes x)) _ _ s
  refine wpAny_noted ?_
  rw [compTurn_set]
  refine wpAny_bind (wpAny_standAt (wpAny_bind (wpAny_mono (turn n s hI) (fun r s₁ h₁ => ?_) fun _ _ h' => h')))
  cases r with
  | none => exact wpAny_pure h₁
  | some v =>
    refine wpAny_bind (wpAny_of_eq (ht v) ?_)
    refine wpAny_bind (wpAny_mono h₁ (fun _ s₂ h₂ => wpAny_bind (wpAny_mono h₂ (fun ok s₃ h₃ => ?_) fun _ _ h' => h')) fun _ _ h' => h')
    cases ok with
    | false => exact wpAny_pure ⟨rfl, h₃⟩
    | true =>
      exact wpAny_bind (wpAny_bind (wpAny_mono h₃ (fun x s₄ h₄ => wpAny_bind (wpAny_standAt (wpAny_bind (wpAny_mono h₄ (fun _ s₅ h₅ => wpAny_pure (wpAny_pure ⟨rfl, h₅⟩)) fun _ _ h' => h')))) fun _ _ h' => h'))

theorem compStart_set {elt target iter ifs rest scope pos it acc env}
    (h0 : codeAny (model prog w) A (.compLoop (.SetComp elt (⟨target, iter, ifs, 0⟩ :: rest) scope pos) 0 it acc env) R s)
    (h : wpAny (model prog w) A (pyIter it) (fun it' s' => codeAny (model prog w) A (.compLoop (.SetComp elt (⟨target, iter, ifs, 0⟩ :: rest) scope pos) 0 it' acc env) R s')
      (notedBy (model prog w) A env fun x s' => R (.error x) s') s) :
    codeAny (model prog w) A (.compStart (.SetComp elt (⟨target, iter, ifs, 0⟩ :: rest) scope pos) 0 it acc env) R s := by
  refine codeAny_of_tree ?_
  show wpAny _ A ((compStart (.SetComp elt (⟨target, iter, ifs, 0⟩ :: rest) scope pos) 0 it acc env).onRaise (fun x => do noteFrame x env; standAt theWindowsPlace)) _ _ s
  refine wpAny_notedAt ?_
  unfold compStart
  show wpAny _ A (ask >>= _) _ _ s
  refine wpAny_bind (wpAny_askSetting (wpAny_ite ?_))
  split
  · first
      | exact wpAny_bind (wpAny_pure (wpAny_pure (And.intro rfl h0)))
      | exact wpAny_pure (And.intro rfl h0)
  · first
      | exact wpAny_bind (wpAny_rule (wpAny_bind (wpAny_standAt (wpAny_bind (wpAny_mono h (fun it' s' h' => wpAny_pure (And.intro rfl h')) fun _ _ x => x)))))
      | (refine wpAny_bind (wpAny_rule ?_); show wpAny _ _ (standAt iter.pos >>= _) _ _ s; exact wpAny_bind (wpAny_standAt (wpAny_bind (wpAny_mono h (fun it' s' h' => wpAny_pure (And.intro rfl h')) fun _ _ x => x))))

/-- the numbers that are drawn from the iterator -/
abbrev Nums (ord : List Nat) (i : Nat) (v : Value) : Prop := ∃ (k : Nat) (tk : Tok), ord[i]? = some k ∧ v = .int k tk
abbrev gather (p : Nat → Bool) (f : Nat → Nat) (l : List Nat) : List Nat := ((l.filter p).map f).foldl ins []

theorem compLoop_nums {elt iter : Expr} {x : Str} {px : Pos} {ifs : List Expr} {scope : Scope} {pos : Pos} {I D : Addr} {fp wr : List Addr} {ord : List Nat} {St : Nat → Heap → Prop} {led : Bool}
    {cenv : Env} {m : Str → Option Value} (W : Walks prog w A I fp wr ord.length (Nums ord) St) (p : Nat → Bool) (f : Nat → Nat) (hf : ∀ k ∈ ord, f k < 18)
    (hx : cenv.kindOf x = some .local) (hp : (cenv.scope.kind == .class || (cenv.scope.kind == .module && cenv.locals != cenv.globals)) = false)
    (hDC : D ≠ cenv.locals) (hDf : D ∉ fp) (hCf : cenv.locals ∉ fp)
    (hst : St 0 s.heap) (hacc : SetI s.heap D led []) (hn : s.heap.Ns cenv.locals m)
    (htests : ∀ (k : Nat) (tk : Tok) s₂ m₂, k ∈ ord → s₂.heap.Ns cenv.locals m₂ → m₂ x = some (.int k tk) → (∀ b o, b ≠ cenv.locals → b ∉ wr → b ≠ D → s.heap.get? b = some o → s₂.heap.get? b = some o) →
      wpAny (model prog w) A (forIn ifs true fun c r => if r = true then do let ok ← isTrue c cenv (eval c cenv); pure (ForInStep.yield ok) else pure (ForInStep.yield r))
        (fun ok s₃ => ok = p k ∧ Keeps s₂ s₃) (notedBy (model prog w) A cenv fun e s' => R (.error e) s') s₂)
    (helt : ∀ (k : Nat) (tk : Tok) s₂ m₂, k ∈ ord → s₂.heap.Ns cenv.locals m₂ → m₂ x = some (.int k tk) → (∀ b o, b ≠ cenv.locals → b ∉ wr → b ≠ D → s.heap.get? b = some o → s₂.heap.get? b = some o) →
      wpAny (model prog w) A (eval elt cenv) (fun y s₃ => (∃ tk' : Tok, y = .int (f k : Nat) tk') ∧ Keeps s₂ s₃) (notedBy (model prog w) A cenv fun e s' => R (.error e) s') s₂)
    (hR : ∀ h' tk m', h'.Ns cenv.locals m' → SetI h' D led (gather p f ord) →
      (∀ b o, b ≠ cenv.locals → b ∉ wr → b ≠ D → s.heap.get? b = some o → h'.get? b = some o) → R (.ok .next) { s with heap := h', toks := tk }) :
    codeAny (model prog w) A (.compLoop (.SetComp elt [⟨.Name x px, iter, ifs, 0⟩] scope pos) 0 (.ref I) (.ref D) cenv) R s := by
  refine compLoop_set
    (fun k s' => ∃ h' tk m' i, s' = { s with heap := h', toks := tk } ∧ St i h' ∧ SetI h' D led (gather p f (ord.take i)) ∧ h'.Ns cenv.locals m' ∧ i ≤ ord.length ∧ k = ord.length + 1 - i ∧
      (∀ b o, b ≠ cenv.locals → b ∉ wr → b ≠ D → s.heap.get? b = some o → h'.get? b = some o)) ?_ (ord.length + 1)
    ⟨s.heap, s.toks, m, 0, rfl, hst, hacc, hn, Nat.zero_le _, rfl, fun _ _ _ _ _ e => e⟩
  rintro k s' ⟨H, tk, m', i, rfl, hst', hacc', hn', hi, rfl, hk⟩
  have hCw : cenv.locals ∉ wr := fun h => hCf (W.sub _ h)
  have hDw : D ∉ wr := fun h => hDf (W.sub _ h)
  by_cases hlt : i < ord.length
  · refine W.item i _ _ _ hlt hst' fun v h₁ tk₁ hPv hst₁ hk₁ => ?_
    obtain ⟨a, ta, ha, rfl⟩ := hPv
    have hmem : a ∈ ord := List.mem_of_getElem? ha
    refine wpAny_assign_Name (wpAny_storeName_local hx (hn'.at' fun o e => hk₁ _ o hCw e) (fun h₂ hn₂ hs₂ => ?_) hp)
    have up₂ : ∀ b o, b ≠ cenv.locals → b ∉ wr → H.get? b = some o → h₂.get? b = some o := fun b o hbC hbf e => hs₂.extBut b o hbC (hk₁ b o hbf e)
    have hst₂ : St (i + 1) h₂ := W.frame _ _ _ hst₁ fun b hb o e => hs₂.extBut b o (fun h => hCf (h ▸ hb)) e
    refine wpAny_mono (htests a ta _ _ hmem hn₂ (by simp) fun b o hbC hbf hbD e => up₂ b o hbC hbf (hk b o hbC hbf hbD e)) (fun ok s₃ h₃ => ?_) fun _ _ e => e
    obtain ⟨rfl, h₃, tk₃, rfl, hk₃⟩ := h₃
    have hst₃ : St (i + 1) h₃ := W.frame _ _ _ hst₂ fun b _ o e => hk₃ b o e
    have hacc₃ : SetI h₃ D led (gather p f (ord.take i)) := hacc'.at fun o e => hk₃ _ o (up₂ D o hDC hDw e)
    have hn₃ := hn₂.keeps hk₃
    have ht : gather p f (ord.take (i + 1)) = if p a = true then ins (gather p f (ord.take i)) (f a) else gather p f (ord.take i) := by
      unfold gather
      rw [take_snoc ha, List.filter_append, List.map_append, List.foldl_append]
      cases hpa : p a <;> simp [hpa]
    cases hpv : p a with
    | false =>
      rw [hpv] at ht
      simp only [Bool.false_eq_true, if_false] at ht ⊢
      exact ⟨ord.length + 1 - (i + 1), by omega, h₃, tk₃, _, i + 1, rfl, hst₃, by rw [ht]; exact hacc₃, hn₃, hlt, rfl, fun b o hbC hbf hbD e => hk₃ b o (up₂ b o hbC hbf (hk b o hbC hbf hbD e))⟩
    | true =>
      rw [hpv] at ht
      simp only [if_true] at ht ⊢
      refine wpAny_mono (helt a ta _ _ hmem hn₃ (by simp) fun b o hbC hbf hbD e => hk₃ b o (up₂ b o hbC hbf (hk b o hbC hbf hbD e))) (fun y s₄ h₄ => ?_) fun _ _ e => e
      obtain ⟨⟨ty, rfl⟩, h₄, tk₄, rfl, hk₄⟩ := h₄
      refine add_setI (hf a hmem) (hacc₃.at fun o e => hk₄ _ o e) fun h₅ hs₅ hS₅ => ?_
      refine ⟨ord.length + 1 - (i + 1), by omega, h₅, _, _, i + 1, rfl, ?_, by rw [ht]; exact hS₅, (hn₃.keeps hk₄).sameBut hs₅ (Ne.symm hDC), hlt, rfl,
        fun b o hbC hbf hbD e => hs₅.extBut b o hbD (hk₄ b o (hk₃ b o (up₂ b o hbC hbf (hk b o hbC hbf hbD e))))⟩
      exact W.frame _ _ h₅ hst₃ fun b hb o e => hs₅.extBut b o (fun h => hDf (h ▸ hb)) (hk₄ b o e)
  · have hin : i = ord.length := by omega
    subst hin
    refine W.done _ _ _ hst' fun h₁ tk₁ hk₁ => ?_
    rw [List.take_of_length_le (Nat.le_refl _)] at hacc'
    exact hR h₁ tk₁ m' (hn'.at' fun o e => hk₁ _ o hCw e) (hacc'.at fun o e => hk₁ _ o hDw e) fun b o hbC hbf hbD e => hk₁ b o hbf (hk b o hbC hbf hbD e)

structure QuietN (prog : Program) (w : World) (A : Around) (env : Env) (scope : Scope) (cl : List (Str × Addr)) (x : Str) (ifs : List Expr) (elt : Expr) (wr : List Addr) (ord : List Nat) (p : Nat → Bool) (f : Nat → Nat) (h₂ : Heap) : Prop where
  tests : ∀ C (k : Nat) (tk : Tok) s₃ m₃ E', k ∈ ord → s₃.heap.Ns C m₃ → m₃ x = some (.int k tk) → (∀ b o, b ∉ wr → h₂.get? b = some o → s₃.heap.get? b = some o) →
    wpAny (model prog w) A (forIn ifs true fun c r => if r = true then do let ok ← isTrue c (compEnvC scope cl C env) (eval c (compEnvC scope cl C env)); pure (ForInStep.yield ok) else pure (ForInStep.yield r))
      (fun ok s₄ => ok = p k ∧ Keeps s₃ s₄) E' s₃
  elt : ∀ C (k : Nat) (tk : Tok) s₃ m₃ E', k ∈ ord → s₃.heap.Ns C m₃ → m₃ x = some (.int k tk) → (∀ b o, b ∉ wr → h₂.get? b = some o → s₃.heap.get? b = some o) →
    wpAny (model prog w) A (eval elt (compEnvC scope cl C env)) (fun y s₄ => (∃ tk' : Tok, y = .int (f k : Nat) tk') ∧ Keeps s₃ s₄) E' s₃

theorem comp_block_set {elt iter : Expr} {x : Str} {px : Pos} {ifs : List Expr} {scope : Scope} {cl : List (Str × Addr)} {pos : Pos} {s₂ : Shared} {I : Addr} {fp wr : List Addr} {ord : List Nat} {St : Nat → Heap → Prop}
    (W : Walks prog w A I fp wr ord.length (Nums ord) St) (p : Nat → Bool) (f : Nat → Nat) (hf : ∀ k ∈ ord, f k < 18) {RR : Value → Addr → Result → Shared → Prop}
    (hcell : ∀ y ∈ scope.names, y.2 ≠ .cell) (hkind : scope.kind = .function) (hx : scope.names.lookup x = some .local) (hst : St 0 s₂.heap) (hfp : ∀ b ∈ fp, b < s₂.heap.objs.size)
    (hq : QuietN prog w A env scope cl x ifs elt wr ord p f s₂.heap)
    (hRR : ∀ D C h' tk m', s₂.heap.get? D = none → s₂.heap.get? C = none → D ≠ C → h'.Ns C m' → SetI h' D (!byText w) (gather p f ord) →
      (∀ b o, b ∉ wr → s₂.heap.get? b = some o → h'.get? b = some o) → RR (.ref D) C (.ok .next) { s₂ with heap := h', toks := tk }) :
    wpAny (model prog w) A (newSet (.type "set")) (fun acc s₃ => wpAny (model prog w) A (newFunctionEnv scope env.globals cl [] env.qual none .none (some env)) (fun cenv s₄ =>
      codeAny (model prog w) A (.compStart (.SetComp elt [⟨.Name x px, iter, ifs, 0⟩] scope pos) 0 (.ref I) acc { cenv with scope := relabel scope env }) (RR acc cenv.locals) s₄) E s₃) E s₂ := by
  refine new_setI (!byText w) rfl fun oS hnew => ?_
  refine wpAny_newFunctionEnv hcell (by intro y hy; simp at hy) (fun h₁ hns₁ hsb₁ => ?_) hkind
  dsimp only at hns₁ hsb₁ ⊢
  generalize hH2 : s₂.heap.push oS = H2 at hns₁ hsb₁ hnew ⊢
  have hC : H2.objs.size = s₂.heap.objs.size + 1 := by rw [← hH2, Heap.size_push]
  have hDC : s₂.heap.objs.size ≠ H2.objs.size := by rw [hC]; exact Nat.ne_of_lt (Nat.lt_succ_self _)
  have below : ∀ b, b < s₂.heap.objs.size → b ≠ H2.objs.size ∧ b ≠ s₂.heap.objs.size := fun b hb => ⟨by rw [hC]; exact Nat.ne_of_lt (Nat.lt_succ_of_lt hb), Nat.ne_of_lt hb⟩
  have hDf : s₂.heap.objs.size ∉ fp := fun hm => Nat.lt_irrefl _ (hfp _ hm)
  have hCf : H2.objs.size ∉ fp := fun hm => by have := hfp _ hm; rw [hC] at this; exact Nat.lt_irrefl _ (Nat.lt_of_succ_lt this)
  have old : ∀ b o, s₂.heap.get? b = some o → h₁.get? b = some o := fun b o e => hsb₁.extBut b o (below b (Heap.lt_size e)).1 (Heap.get?_push_of_some _ (hH2 ▸ Heap.get?_push_of_some _ e))
  have hacc : SetI h₁ s₂.heap.objs.size (!byText w) [] := hnew.at fun o e => hsb₁.extBut _ _ hDC (Heap.get?_push_of_some _ e)
  have hst₁ : St 0 h₁ := W.frame _ _ _ hst fun b _ o e => old b o e
  have fresh : ∀ a, s₂.heap.objs.size ≤ a → s₂.heap.get? a = none := fun a ha => by
    cases e : s₂.heap.get? a with
    | none => rfl
    | some o' => exact absurd (Heap.lt_size e) (Nat.not_lt.mpr ha)
  have loop : ∀ s₃ : Shared, s₃ = { s₂ with heap := h₁, toks := s₂.toks + ([] : List (Str × Value)).length } →
      codeAny (model prog w) A (.compLoop (.SetComp elt [⟨.Name x px, iter, ifs, 0⟩] scope pos) 0 (.ref I) (.ref s₂.heap.objs.size) (compEnvC scope cl H2.objs.size env))
        (RR (.ref s₂.heap.objs.size) H2.objs.size) s₃ := by
    rintro s₃ rfl
    refine compLoop_nums (cenv := compEnvC scope cl H2.objs.size env) W p f hf (lookup_relabel_local hx) (by simp [compEnvC, relabel, hkind]) hDC hDf hCf hst₁ hacc hns₁
      (fun k tk s₃ m₃ hv hn hm hk => hq.tests _ k tk s₃ m₃ _ hv hn hm fun b o hbf e => hk b o (below b (Heap.lt_size e)).1 hbf (below b (Heap.lt_size e)).2 (old b o e))
      (fun k tk s₃ m₃ hv hn hm hk => hq.elt _ k tk s₃ m₃ _ hv hn hm fun b o hbf e => hk b o (below b (Heap.lt_size e)).1 hbf (below b (Heap.lt_size e)).2 (old b o e)) fun h' tk m' hn ha hk => ?_
    exact hRR _ _ h' tk m' (fresh _ (Nat.le_refl _)) (fresh _ (by rw [hC]; exact Nat.le_succ _)) hDC hn ha fun b o hbf e =>
      hk b o (below b (Heap.lt_size e)).1 hbf (below b (Heap.lt_size e)).2 (old b o e)
  exact compStart_set (loop _ rfl) (W.self 0 _ _ _ hst₁ (loop _ rfl))

theorem setComp {elt iter : Expr} {x : Str} {px : Pos} {ifs : List Expr} {scope : Scope} {cl : List (Str × Addr)} {pos : Pos} {Q : Value → Shared → Prop} (p : Nat → Bool) (f : Nat → Nat)
    (hclos : closureFor scope env = pure cl) (hcell : (scope.names.all fun y => decide (y.2 ≠ .cell)) = true) (hkind : scope.kind = .function)
    (hnames : (scope.names.all fun y => decide (y.2 = .local → scope.names.lookup y.1 = some .local)) = true) (hx : scope.names.lookup x = some .local)
    (h : wpAny (model prog w) A (eval iter env) (fun xv s₁ => wpAny (model prog w) A (pyIter xv) (fun it s₂ => ∃ I fp wr ord St, it = .ref I ∧ Walks prog w A I fp wr ord.length (Nums ord) St ∧ (∀ k ∈ ord, f k < 18) ∧ St 0 s₂.heap ∧ (∀ b ∈ fp, b < s₂.heap.objs.size) ∧
      QuietN prog w A env scope cl x ifs elt wr ord p f s₂.heap ∧
      (∀ D h' tk, s₂.heap.get? D = none → SetI h' D (!byText w) (gather p f ord) → (∀ b o, b ∉ wr → s₂.heap.get? b = some o → h'.get? b = some o) → Q (.ref D) { s₂ with heap := h', toks := tk })) E s₁) E s)
    (hs : ∀ x, foldedSetIterable iter env x = pure x := by intro _; rfl) :
    wpAny (model prog w) A (eval (.SetComp elt [⟨.Name x px, iter, ifs, 0⟩] scope pos) env) Q E s := by
  rw [arm_eval_SetComp]
  refine wpAny_comprehension_free (use := none) rfl hs hclos hkind (fun y hy => of_decide_eq_true (List.all_eq_true.mp hnames y hy)) (wpAny_mono h (fun xv s₁ h₁ => wpAny_mono h₁ (fun it s₂ h₂ => ?_) fun _ _ e => e) fun _ _ e => e)
  obtain ⟨I, fp, wr, ord, St, rfl, W, hf, hst, hfp, hq, hQ⟩ := h₂
  refine comp_block_set (RR := fun acc C => compPost (model prog w) A E none Q acc C) W p f hf (fun y hy => of_decide_eq_true (List.all_eq_true.mp hcell y hy)) hkind hx hst hfp hq ?_
  intro D C h' tk m' hD hC hDC hn hl hk
  exact ⟨m', hn, fun h'' hs'' => hQ D h'' tk hD (hl.at fun o e => hs''.extBut _ o hDC e) fun b o hbf e => hs''.extBut b o (by rintro rfl; rw [hC] at e; cases e) (hk b o hbf e)⟩
end
end Mine
end

section
open PySem PySem.W PyProof.Rows PySem.Calls PySem.SeqAt
set_option maxRecDepth 100000
namespace Mine
theorem Walks_imp {prog : Program} {w : World} {A : Around} {I : Addr} {fp wr : List Addr} {n : Nat} {P P' : Nat → Value → Prop} {St : Nat → Heap → Prop} (W : Walks prog w A I fp wr n P St) (h : ∀ i v, i < n → P i v → P' i v) : Walks prog w A I fp wr n P' St where
  sub := W.sub
  frame := W.frame
  item := fun i s Q E hi st hQ => W.item i s Q E hi st fun v h' tk hP => hQ v h' tk (h i v hi hP)
  done := W.done
  self := W.self

/-- the list's values are these small numbers -/
structure NumsOf (vs : List Value) (ks : List Nat) : Prop where
  len : vs.length = ks.length
  get : ∀ (i : Nat) v, vs[i]? = some v → ∃ (k : Nat) (tk : Tok), ks[i]? = some k ∧ v = .int k tk

def TurnW (s₁ : Shared) (fp : List Addr) (J : Heap → Prop) (Q : Flow → Shared → Prop) (f : Flow) (s₃ : Shared) : Prop := match f with
  | .next | .cont => (∃ g tk, s₃ = { s₁ with heap := g, toks := tk }) ∧ (∀ b ∈ fp, ∀ o, s₁.heap.get? b = some o → s₃.heap.get? b = some o) ∧ J s₃.heap
  | .brk => False
  | .ret v => Q (.ret v) s₃

section
variable {prog : Program} {w : World} {A : Around} {s : Shared} {E : Value → Shared → Prop} {env : Env} {sc : Scope} {mg mb : Str → Option Value}

theorem for_walk {x : Str} {px : Pos} {iter : Expr} {body : List Stmt} {pos : Pos} {Q : Flow → Shared → Prop}
    (h : wpAny (model prog w) A (eval iter env) (fun xv s₁ => wpAny (model prog w) A (pyIter xv) (fun it s₂ => ∃ I fp wr n P St, it = .ref I ∧ Walks prog w A I fp wr n P St ∧ St 0 s₂.heap ∧ ∃ J : Nat → Heap → Prop,
      (∀ i h h', J i h → St i h → (∀ b o, b ∉ wr → h.get? b = some o → h'.get? b = some o) → J i h') ∧ J 0 s₂.heap ∧
      (∀ i v s₃, (∃ g tk, s₃ = { s₂ with heap := g, toks := tk }) → i < n → P i v → J i s₃.heap → St (i + 1) s₃.heap →
        wpAny (model prog w) A (assign (.Name x px) env v) (fun _ s₄ => wpAny (model prog w) A (execs body env) (TurnW s₃ fp (J (i + 1)) Q) (fun _ _ => False) s₄) (fun _ _ => False) s₃) ∧
      (∀ h' tk, J n h' → Q .next { s₂ with heap := h', toks := tk })) E s₁) E s)
    (hs : ∀ x, foldedSetIterable iter env x = pure x := by intro _; rfl) :
    wpAny (model prog w) A (exec (.For (.Name x px) iter body [] pos) env) Q E s := by
  refine wpAny_For (wpAny_mono h (fun xv s₁ h₁ => wpAny_mono h₁ (fun it s₂ h₂ => ?_) fun _ _ e => e) fun _ _ e => e) hs
  obtain ⟨I, fp, wr, n, P, St, rfl, W, hst, J, hJ, h0, turn, done⟩ := h₂
  refine codeAny_forLoop (fun k s' => ∃ i g tk, s' = { s₂ with heap := g, toks := tk } ∧ k = n + 1 - i ∧ i ≤ n ∧ St i g ∧ J i g) ?_ (n + 1)
    ⟨0, _, s₂.toks, rfl, rfl, Nat.zero_le _, hst, h0⟩
  rintro k s' ⟨i, g, tk, rfl, rfl, hi, hsti, hJi⟩
  by_cases hlt : i < n
  · refine W.item i _ _ _ hlt hsti fun v h' tk' hP hst' hk => ?_
    refine wpAny_mono (turn i v _ ⟨h', tk', rfl⟩ hlt hP (hJ i g h' hJi hsti hk) hst') (fun _ s₄ h₄ => wpAny_mono h₄ (fun f s₅ h₅ => ?_) fun _ _ x => x.elim) fun _ _ x => x.elim
    have fin : (∃ g' tk'', s₅ = { s₂ with heap := g', toks := tk'' }) ∧ (∀ b ∈ fp, ∀ o, h'.get? b = some o → s₅.heap.get? b = some o) ∧ J (i + 1) s₅.heap → ∃ m, m < n + 1 - i ∧ ∃ i g tk, s₅ = { s₂ with heap := g, toks := tk } ∧ m = n + 1 - i ∧ i ≤ n ∧ St i g ∧ J i g := by
      rintro ⟨⟨g', tk'', rfl⟩, hf, hj⟩
      exact ⟨n + 1 - (i + 1), by omega, i + 1, g', tk'', rfl, rfl, hlt, W.frame _ _ _ hst' hf, hj⟩
    cases f with
    | next => exact fin h₅
    | cont => exact fin h₅
    | brk => exact h₅.elim
    | ret v => exact h₅
  · have : i = n := by omega
    subst this
    refine W.done _ _ _ hsti fun h' tk' hk => wpAny_execs_nil ?_
    exact done h' tk' (hJ _ g h' hJi hsti hk)

theorem iter_range3 {rp rpos cp : Pos} {K : Value → Shared → Prop} (FE : FEnv env sc) (hx : sc.names.lookup (Str.ofString "range") = some .globalImplicit) (G : GR w.params mg mb s.heap) (eg : nsIn (hd.heap_39 w.params) mainGlobals (Str.ofString "range") = some none)
    (h : ∀ I g tk, Ext s.heap g → s.heap.get? I = none → IsRangeIter g I (0 + ((0 : Nat) : Int) * 1) (((3 : Nat) : Int) - ((0 : Nat) : Int)) 1 → K (.ref I) { s with heap := g, toks := tk }) :
    WP (model prog w) A (eval (.Call (.Name (Str.ofString "range") rp) [.Constant (.int 3) 0 cp] [] rpos) env) (fun xv s₁ => wpAny (model prog w) A (pyIter xv) K E s₁) E s := by
  refine ⟨?_⟩
  refine Call_Name1 ?_
  refine bName FE hx G eg boot_range ?_
  refine PySem.callWith_type rfl (Calls.evalArgs_plain (Calls.spliced_cons ?_))
  refine wpAny_Constant_int (Calls.spliced_nil ?_)
  refine call_range_1 ?_
  refine wpAny_pyIter_range (IsRange.new ..) (small_one (by decide) (by decide) (by decide) (by decide)) ?_
  refine h _ _ _ (fun b o e => push_keeps _ _ b o (push_keeps _ _ b o e)) ?_ (Heap.get?_push_size _ rfl)
  dsimp only
  rw [Heap.size_push]
  cases q : s.heap.get? (s.heap.objs.size + 1) with
  | none => rfl
  | some o => exact absurd (Heap.lt_size q) (Nat.not_lt.mpr (Nat.le_succ _))

theorem assign_setComp {elt iter : Expr} {x y : Str} {px py : Pos} {ifs : List Expr} {scope : Scope} {cl : List (Str × Addr)} {pos spos : Pos} {Q : Flow → Shared → Prop} {m : Str → Option Value} (p : Nat → Bool) (f : Nat → Nat) (FE : FEnv env sc)
    (hsw : swapsWith (.SetComp elt [⟨.Name x px, iter, ifs, 0⟩] scope pos) (some (.Name y py)) spos.line env = pure true) (hy : sc.names.lookup y = some .local)
    (hclos : closureFor scope env = pure cl) (hcell : (scope.names.all fun y => decide (y.2 ≠ .cell)) = true) (hkind : scope.kind = .function)
    (hnames : (scope.names.all fun y => decide (y.2 = .local → scope.names.lookup y.1 = some .local)) = true) (hx : scope.names.lookup x = some .local)
    (h : wpAny (model prog w) A (eval iter env) (fun xv s₁ => wpAny (model prog w) A (pyIter xv) (fun it s₂ => ∃ I fp wr ord St, it = .ref I ∧ Walks prog w A I fp wr ord.length (Nums ord) St ∧ (∀ k ∈ ord, f k < 18) ∧ St 0 s₂.heap ∧ (∀ b ∈ fp, b < s₂.heap.objs.size) ∧
      s₂.heap.Ns env.locals m ∧ env.locals ∉ wr ∧ QuietN prog w A env scope cl x ifs elt wr ord p f s₂.heap ∧
      (∀ D h' tk, s₂.heap.get? D = none → D ≠ env.locals → h'.Ns env.locals (fun z => if z = y then some (.ref D) else m z) → SetI h' D (!byText w) (gather p f ord) → (∀ b o, b ∉ wr → b ≠ env.locals → s₂.heap.get? b = some o → h'.get? b = some o) → Q .next { s₂ with heap := h', toks := tk })) E s₁) E s)
    (hs : ∀ x, foldedSetIterable iter env x = pure x := by intro _; rfl) :
    wpAny (model prog w) A (exec (.Assign [.Name y py] (.SetComp elt [⟨.Name x px, iter, ifs, 0⟩] scope pos) spos) env) Q E s := by
  rw [exec_Assign_Name_used _ _ _ _ hsw]
  refine wpAny_bind (wpAny_standAt (wpAny_bind ?_))
  show wpAny _ A (do let _ ← comprehension (.SetComp elt [⟨.Name x px, iter, ifs, 0⟩] scope pos) scope env _ (newSet (.type "set")) false (eval iter env) (some (assign (.Name y py) env))) _ _ s
  refine wpAny_bind (wpAny_mono (wpAny_comprehension_free (use := some (assign (.Name y py) env)) (Q := fun _ s' => Q .next s') rfl hs hclos hkind (fun y hy => of_decide_eq_true (List.all_eq_true.mp hnames y hy))
    (wpAny_mono h (fun xv s₁ h₁ => wpAny_mono h₁ (fun it s₂ h₂ => ?_) fun _ _ e => e) fun _ _ e => e)) (fun _ s' hq => wpAny_pure (wpAny_pure hq)) fun _ _ e => e)
  obtain ⟨I, fp, wr, ord, St, rfl, W, hf, hst, hfp, hns, hLw, hq, hQ⟩ := h₂
  refine comp_block_set (RR := fun acc C => compPost (model prog w) A E (some (assign (.Name y py) env)) (fun _ s' => Q .next s') acc C) W p f hf (fun y hy => of_decide_eq_true (List.all_eq_true.mp hcell y hy)) hkind hx hst hfp hq ?_
  intro D C h' tk m' hD hC hDC hnC hl hk
  have hLs : ∃ o, s₂.heap.get? env.locals = some o := by obtain ⟨o, _, _, ho, _⟩ := hns; exact ⟨o, ho⟩
  have hLC : env.locals ≠ C := by rintro q; obtain ⟨o, ho⟩ := hLs; rw [q, hC] at ho; cases ho
  have hLD : env.locals ≠ D := by rintro q; obtain ⟨o, ho⟩ := hLs; rw [q, hD] at ho; cases ho
  have ns' : h'.Ns env.locals m := hns.at' fun o e => hk _ o hLw e
  show wpAny _ A (assign (.Name y py) env (.ref D)) _ _ _
  refine wpAny_assign_Name (stN FE hy ns' fun h₂ ns₂ hs₂ => ?_)
  refine ⟨m', hnC.sameBut hs₂ (Ne.symm hLC), fun h₃ hs₃ => ?_⟩
  refine hQ D h₃ _ hD (Ne.symm hLD) (ns₂.sameBut hs₃ hLC) ((hl.at fun o e => hs₂.extBut _ o (Ne.symm hLD) e).at fun o e => hs₃.extBut _ o hDC e) fun b o hb hbL e => ?_
  exact hs₃.extBut b o (by rintro rfl; rw [hC] at e; cases e) (hs₂.extBut b o hbL (hk b o hb e))
end
end Mine
end

section
open PySem PySem.W PyProof.Rows PySem.Calls PySem.SeqAt
set_option maxRecDepth 100000
namespace Mine
theorem mem_ins {σ : List Nat} {n k : Nat} : k ∈ ins σ n ↔ k ∈ σ ∨ k = n := by
  unfold ins
  split
  · rename_i h
    exact ⟨.inl, fun q => q.elim id fun e => e ▸ h⟩
  · simp
theorem nodup_ins {σ : List Nat} {n : Nat} (h : σ.Nodup) : (ins σ n).Nodup := by
  unfold ins
  split
  · exact h
  · rename_i hn
    rw [List.nodup_append]
    refine ⟨h, by simp, fun a ha b hb => ?_⟩
    rw [List.mem_singleton.mp hb]; rintro rfl; exact hn ha
theorem mem_foldIns : ∀ (l σ : List Nat) (k : Nat), k ∈ l.foldl ins σ ↔ k ∈ σ ∨ k ∈ l
  | [], σ, k => by simp
  | a :: l, σ, k => by rw [List.foldl_cons, mem_foldIns l, mem_ins]; simp [or_assoc]
theorem nodup_foldIns : ∀ (l σ : List Nat), σ.Nodup → (l.foldl ins σ).Nodup
  | [], _, h => h
  | a :: l, _, h => nodup_foldIns l _ (nodup_ins h)
theorem mem_gather {p : Nat → Bool} {f : Nat → Nat} {l : List Nat} {k : Nat} : k ∈ gather p f l ↔ ∃ x ∈ l, p x = true ∧ f x = k := by
  unfold gather
  rw [mem_foldIns]
  simp [List.mem_map, List.mem_filter, and_assoc]
theorem nodup_gather {p : Nat → Bool} {f : Nat → Nat} {l : List Nat} : (gather p f l).Nodup := nodup_foldIns _ _ List.nodup_nil
theorem len_gather {p : Nat → Bool} {f : Nat → Nat} {l l' : List Nat} (h : ∀ k, k ∈ l ↔ k ∈ l') : (gather p f l).length = (gather p f l').length := by
  have h1 : ∀ k, k ∈ gather p f l ↔ k ∈ gather p f l' := fun k => by rw [mem_gather, mem_gather]; exact ⟨fun ⟨x, a, b⟩ => ⟨x, (h x).mp a, b⟩, fun ⟨x, a, b⟩ => ⟨x, (h x).mpr a, b⟩⟩
  exact Nat.le_antisymm (len_le_of_sub nodup_gather fun k hk => (h1 k).mp hk) (len_le_of_sub nodup_gather fun k hk => (h1 k).mpr hk)
theorem sgn_lt {x c : Nat} (h : x < 18) : sgn x c < 3 := by unfold sgn; split <;> omega

section
variable {prog : Program} {w : World} {A : Around} {s : Shared} {E : Value → Shared → Prop} {env : Env} {sc : Scope} {mg mb : Str → Option Value}

theorem sign_expr {nm : Str} {k c : Nat} {tk tc : Tok} {cc : Addr} {m : Str → Option Value} {p1 p2 p3 p4 : Pos} (FE : FEnv env sc) (hx : sc.names.lookup (Str.ofString "x") = some .local) (hg : sc.names.lookup (Str.ofString "_law_sign") = some .globalImplicit)
    (hc : sc.names.lookup nm = some .cell) (hcl : env.cells.lookup nm = some cc) (hd : (nm == ("__debug__" : Str)) = false) (G : GR w.params mg mb s.heap) (hdp : A.depth < recursionLimit) (hc3 : c < 3) (hns : s.heap.Ns env.locals m) (hm : m (Str.ofString "x") = some (.int k tk))
    (hv : s.heap.IsCell cc (some (.int c tc))) :
    WP (model prog w) A (eval (.Call (.Name (Str.ofString "_law_sign") p1) [.Name (Str.ofString "x") p2, .Name nm p3] [] p4) env) (fun y s₄ => (∃ tk' : Tok, y = .int (sgn k c : Nat) tk') ∧ Keeps s s₄) E s := by
  refine ⟨?_⟩
  refine callN2 (a := 50) FE hg G (by kernel_rfl) (by kernel_rfl) ?_
  refine nmL FE hx hns hm ?_
  refine nmC FE hc hcl hv ?_ hd
  refine ⟨G, ?_⟩
  refine sign_call G hdp hc3 fun h' tk1 tk2 hk => ?_
  exact ⟨⟨tk1, rfl⟩, h', tk2, rfl, hk⟩

/-- the walk over a set of small numbers -/
theorem set_walk {R : Addr} {ρ : List Nat} {K : Value → Shared → Prop} (hh : A.handled = none) (S : SetI s.heap R (!byText w) ρ)
    (h : ∀ I g ord St, Ext s.heap g → s.heap.get? I = none → ord.Perm ρ → Walks prog w A I [I, R] [I] ord.length (Nums ord) St → St 0 g → I < g.objs.size → R < g.objs.size → K (.ref I) { s with heap := g }) :
    wpAny (model prog w) A (pyIter (.ref R)) K E s := by
  obtain ⟨o, es, ep, t, ho, hex, hd, T, hv, hp⟩ := S
  refine iter_setI ho hex hd T ?_
  have hlt : R < s.heap.objs.size := Heap.lt_size ho
  have k1 := push_keeps s.heap ({ cls := .type "set_iterator", data := .fields #[.int 0 0, .int 0 0, .ref R, .int es.size 0, .int ep 0] } : Obj)
  have hsz : ((ordE w R ep es).toList.map fun e => e.1.toNat).length = es.size := by rw [List.length_map, Array.length_toList, ordE_size]
  have W := walks_set (prog := prog) (w := w) (A := A) hh s.heap.objs.size R (Nat.ne_of_lt hlt) hd T
  have W' := Walks_imp (P' := Nums ((ordE w R ep es).toList.map fun e => e.1.toNat)) W fun i v hi hP => by
    cases he : (ordE w R ep es)[i]? with
    | none => rw [he] at hP; cases hP
    | some e =>
      rw [he] at hP
      have hm : e ∈ es.toList := (ordE_perm w R ep es).mem_iff.mp (by have := Array.mem_of_getElem? he; simpa using this)
      obtain ⟨n, tk, rfl⟩ := hv e hm
      cases hP
      refine ⟨n, tk, ?_, rfl⟩
      rw [List.getElem?_map, Array.getElem?_toList, he]
      simp
  rw [← hsz] at W'
  refine h _ _ _ _ k1 (none_at_end _) (((ordE_perm w R ep es).map _).trans hp) W' ?_ ?_ ?_
  · exact ⟨⟨_, Heap.get?_push_size _ rfl, rfl, rfl⟩, k1 _ _ ho⟩
  · rw [Heap.size_push]; exact Nat.lt_succ_self _
  · rw [Heap.size_push]; exact Nat.lt_succ_of_lt hlt

/-- the walk over a list of small numbers -/
theorem list_walk {l : Addr} {vs : List Value} {ks : List Nat} {K : Value → Shared → Prop} (hh : A.handled = none) (hl : s.heap.IsList l vs.toArray) (hN : NumsOf vs ks)
    (h : ∀ I g St, Ext s.heap g → s.heap.get? I = none → Walks prog w A I [I, l] [I] ks.length (Nums ks) St → St 0 g → I < g.objs.size → l < g.objs.size → K (.ref I) { s with heap := g }) :
    wpAny (model prog w) A (pyIter (.ref l)) K E s := by
  have hlt : l < s.heap.objs.size := by obtain ⟨_, e, _⟩ := hl; exact Heap.lt_size e
  refine wpAny_pyIter_list hl ?_
  have k1 := push_keeps s.heap ({ cls := .type "list_iterator", data := .fields #[.ref l, .int 0 0] } : Obj)
  have W := Walks_imp (P' := Nums ks) (Walks.list (prog := prog) (w := w) (A := A) hh s.heap.objs.size l (Nat.ne_of_lt hlt) vs.toArray) fun i v hi hP => hN.get i v (by simpa using hP)
  have hsz : vs.toArray.size = ks.length := by rw [List.size_toArray]; exact hN.len
  rw [hsz] at W
  refine h _ _ _ k1 (none_at_end _) W ?_ ?_ ?_
  · exact ⟨⟨_, Heap.get?_push_size _ rfl, rfl, rfl⟩, hl.push _⟩
  · rw [Heap.size_push]; exact Nat.lt_succ_self _
  · rw [Heap.size_push]; exact Nat.lt_succ_of_lt hlt

theorem up_of {h g h' : Heap} {I : Addr} (k : Ext h g) (hI : h.get? I = none) (hk : ∀ b o, b ∉ [I] → g.get? b = some o → h'.get? b = some o) : Ext h h' := fun b o e => hk b o (fun hm => by rw [List.mem_singleton.mp hm, hI] at e; cases e) (k b o e)

/-- len of the set of the signs beside -/
theorem lenComp {nm : Str} {R : Addr} {ρ : List Nat} {o : Nat} {t₂ : Tok} {c₂ : Addr} {m : Str → Option Value} {p1 p2 p3 p4 p5 p6 p7 p8 pos : Pos} {Q : Value → Shared → Prop} (hh : A.handled = none) (FE : FEnv env sc)
    (hkl : sc.names.lookup (Str.ofString "len") = some .globalImplicit) (egl : nsIn (hd.heap_39 w.params) mainGlobals (Str.ofString "len") = some none)
    (hk₂ : sc.names.lookup nm = some .cell) (hkr : sc.names.lookup (Str.ofString "rows") = some .local) (hm : m (Str.ofString "rows") = some (.ref R)) (hns : s.heap.Ns env.locals m) (G : GR w.params mg mb s.heap) (hdp : A.depth < recursionLimit)
    (hl₂ : env.cells.lookup nm = some c₂) (hn1 : (nm == Str.ofString ".0") = false) (hn2 : (nm == Str.ofString "x") = false) (hn3 : (nm == Str.ofString "_law_sign") = false) (hn4 : (nm == ("__debug__" : Str)) = false)
    (hv₂ : s.heap.IsCell c₂ (some (.int o t₂))) (ho3 : o < 3) (S : SetI s.heap R (!byText w) ρ) (hρ : ∀ k ∈ ρ, k < 18)
    (h : ∀ h' tk tk', Ext s.heap h' → Q (.int ((gather (fun _ => true) (sgn · o) ρ).length : Nat) tk') { s with heap := h', toks := tk }) :
    WP (model prog w) A (eval (.Call (.Name (Str.ofString "len") p7) [.SetComp (.Call (.Name (Str.ofString "_law_sign") p1) [.Name (Str.ofString "x") p2, .Name nm p3] [] p4) [⟨.Name (Str.ofString "x") p5, .Name (Str.ofString "rows") p6, [], 0⟩]
      { kind := .function, names := [(Str.ofString ".0", .local), (Str.ofString "x", .local), (Str.ofString "_law_sign", .globalImplicit), (nm, .free)], isGenerator := false, isCoroutine := false } pos] [] p8) env) Q E s := by
  have hclos : closureFor { kind := .function, names := [(Str.ofString ".0", .local), (Str.ofString "x", .local), (Str.ofString "_law_sign", .globalImplicit), (nm, .free)], isGenerator := false, isCoroutine := false } env = pure [(nm, c₂)] := by
    simp [closureFor, cellOf, hl₂]
  have hfree : List.lookup nm ([(Str.ofString ".0", NameKind.local), (Str.ofString "x", .local), (Str.ofString "_law_sign", .globalImplicit), (nm, .free)]) = some .free := by
    simp [List.lookup_cons, hn1, hn2, hn3]
  refine ⟨?_⟩
  refine Call_Name1 ?_
  refine bName FE hkl G egl boot_len ?_
  refine Calls.callWith_builtin rfl (evalArgs_plain (spliced_cons ?_))
  refine setComp (fun _ => true) (sgn · o) hclos rfl rfl ?_ rfl ?_
  · simp [List.lookup_cons]
    cases (Str.ofString "x" == Str.ofString ".0") <;> rfl
  refine nmL FE hkr hns hm ?_
  refine set_walk hh S fun I g ord St kg hI hperm W hst hIlt hRlt => ?_
  refine ⟨I, [I, R], [I], ord, St, rfl, W, fun k hk => Nat.lt_of_lt_of_le (sgn_lt (hρ k (hperm.mem_iff.mp hk))) (by omega), hst, ?_, ⟨?_, ?_⟩, ?_⟩
  · intro b hb
    simp only [List.mem_cons, List.not_mem_nil, or_false] at hb
    rcases hb with rfl | rfl
    · exact hIlt
    · exact hRlt
  · intro C k tk s₃ m₃ E' _ _ _ _
    exact wpAny_tests_nil ⟨rfl, s₃.heap, s₃.toks, rfl, fun _ _ e => e⟩
  · intro C k tk s₃ m₃ E' _ hn₃ hm₃ hk₃
    have e3 := up_of kg hI hk₃
    refine WP.go ?_
    refine sign_expr (feC FE rfl) (lookup_relabel_local rfl) (relabel_glob rfl) (relabel_cell hfree FE.k (FE.kd _ hk₂)) ?_ hn4 (G.keeps e3) hdp ho3 hn₃ hm₃ (hv₂.keeps e3)
    show List.lookup nm [(nm, c₂)] = some c₂
    simp [List.lookup_cons]
  · intro D h' tk hD S' hk'
    have e' := up_of kg hI hk'
    refine spliced_nil ?_
    refine len_setI S' ?_
    rw [len_gather fun k => hperm.mem_iff]
    exact h h' _ _ e'

/-- rows = {x for x in table if _law_sign(x, column) == sign} -/
theorem rowsSet {l : Addr} {vs : List Value} {ks : List Nat} {c sg : Nat} {t₁ t₄ : Tok} {c₁ c₄ : Addr} {m : Str → Option Value} {p0 p1 p2 p3 p4 p5 p6 p7 p8 p9 pos spos : Pos} {Q : Flow → Shared → Prop} (hh : A.handled = none) (FE : FEnv env sc)
    (hk₁ : sc.names.lookup (Str.ofString "column") = some .cell) (hk₄ : sc.names.lookup (Str.ofString "sign") = some .cell) (hkt : sc.names.lookup (Str.ofString "table") = some .local) (hkr : sc.names.lookup (Str.ofString "rows") = some .local)
    (hm : m (Str.ofString "table") = some (.ref l)) (hns : s.heap.Ns env.locals m) (G : GR w.params mg mb s.heap) (hdp : A.depth < recursionLimit) (hline : (p0.line == pos.line) = true)
    (hl₁ : env.cells.lookup (Str.ofString "column") = some c₁) (hl₄ : env.cells.lookup (Str.ofString "sign") = some c₄)
    (hv₁ : s.heap.IsCell c₁ (some (.int c t₁))) (hv₄ : s.heap.IsCell c₄ (some (.int sg t₄))) (hc3 : c < 3) (hl : s.heap.IsList l vs.toArray) (hN : NumsOf vs ks) (hks : ∀ k ∈ ks, k < 18)
    (h : ∀ D h' tk, s.heap.get? D = none → D ≠ env.locals → h'.Ns env.locals (fun z => if z = Str.ofString "rows" then some (.ref D) else m z) → SetI h' D (!byText w) (gather (fun x => sgn x c == sg) id ks) → (∀ b o, b ≠ env.locals → s.heap.get? b = some o → h'.get? b = some o) → Q .next { s with heap := h', toks := tk }) :
    WP (model prog w) A (exec (.Assign [.Name (Str.ofString "rows") p0] (.SetComp (.Name (Str.ofString "x") p1) [⟨.Name (Str.ofString "x") p2, .Name (Str.ofString "table") p3, [.Compare (.Call (.Name (Str.ofString "_law_sign") p4) [.Name (Str.ofString "x") p5, .Name (Str.ofString "column") p6] [] p7) [.Eq] [.Name (Str.ofString "sign") p8] p9], 0⟩]
      { kind := .function, names := [(Str.ofString ".0", .local), (Str.ofString "x", .local), (Str.ofString "_law_sign", .globalImplicit), (Str.ofString "column", .free), (Str.ofString "sign", .free)], isGenerator := false, isCoroutine := false } pos) spos) env) Q E s := by
  have hclos : closureFor { kind := .function, names := [(Str.ofString ".0", .local), (Str.ofString "x", .local), (Str.ofString "_law_sign", .globalImplicit), (Str.ofString "column", .free), (Str.ofString "sign", .free)], isGenerator := false, isCoroutine := false } env = pure [(Str.ofString "sign", c₄), (Str.ofString "column", c₁)] := by
    simp [closureFor, cellOf, hl₁, hl₄]
  refine ⟨?_⟩
  refine assign_setComp (m := m) (fun x => sgn x c == sg) id FE ?_ hkr hclos rfl rfl (by kernel_rfl) rfl ?_
  · have h1 : env.blockKind = .function := by unfold Env.blockKind; rw [FE.k]; rfl
    unfold swapsWith
    simp only [h1, FE.kd _ hkr]
    show (pure (_ && _ && (p0.line == pos.line) && _) : Sem Bool) = pure true
    rw [hline]
    kernel_rfl
  refine nmL FE hkt hns hm ?_
  refine list_walk hh hl hN fun I g St kg hI W hst hIlt hllt => ?_
  have hLI : env.locals ∉ [I] := fun q => by
    rw [List.mem_singleton] at q
    obtain ⟨o, _, _, ho, _⟩ := hns
    rw [q, hI] at ho; cases ho
  refine ⟨I, [I, l], [I], ks, St, rfl, W, hks, hst, ?_, hns.keeps kg, hLI, ⟨?_, ?_⟩, ?_⟩
  · intro b hb
    simp only [List.mem_cons, List.not_mem_nil, or_false] at hb
    rcases hb with rfl | rfl
    · exact hIlt
    · exact hllt
  · intro C k tk s₃ m₃ E' _ hn₃ hm₃ hk₃
    have e3 := up_of kg hI hk₃
    refine wpAny_tests_one ?_
    refine wpAny_isTrue_Compare1 ?_
    refine wpAny_mono (Q := fun y s₄ => (∃ tk' : Tok, y = .int (sgn k c : Nat) tk') ∧ Keeps s₃ s₄) (WP.go ?_) (fun y s₄ hy => ?_) fun _ _ e => e
    · refine sign_expr (feC FE rfl) (lookup_relabel_local rfl) (relabel_glob rfl) (relabel_cell rfl FE.k (FE.kd _ hk₁)) ?_ (by decide) (G.keeps e3) hdp hc3 hn₃ hm₃ (hv₁.keeps e3)
      rfl
    · obtain ⟨⟨ty, rfl⟩, h₄, tk₄, rfl, hkk⟩ := hy
      refine nmC (feC FE rfl) (relabel_cell rfl FE.k (FE.kd _ hk₄)) (c := c₄) ?_ ((hv₄.keeps e3).keeps hkk) ?_
      · rfl
      refine eq_int (wpAny_truthy_bool ⟨?_, h₄, tk₄, rfl, hkk⟩)
      by_cases hq : sgn k c = sg
      · rw [hq]; simp
      · have h1 : (((sgn k c : Nat) : Int) == (sg : Nat)) = false := by rw [beq_eq_false_iff_ne]; omega
        have h2 : (sgn k c == sg) = false := by rw [beq_eq_false_iff_ne]; exact hq
        exact h1.trans h2.symm
  · intro C k tk s₃ m₃ E' _ hn₃ hm₃ hk₃
    refine nmL (feC FE rfl) (lookup_relabel_local rfl) hn₃ hm₃ ?_
    exact ⟨⟨tk, rfl⟩, s₃.heap, s₃.toks, rfl, fun _ _ e => e⟩
  · intro D h' tk hD hDL hns' S' hk'
    refine h D h' tk ?_ hDL hns' S' fun b o hbL e => hk' b o (fun hm => by rw [List.mem_singleton.mp hm, hI] at e; cases e) hbL (kg b o e)
    cases q : s.heap.get? D with
    | none => rfl
    | some o => have := kg _ o q; rw [hD] at this; cases this
end
end Mine
end

section
open PySem PySem.W PyProof.Rows PySem.Calls PySem.SeqAt
set_option maxRecDepth 100000
namespace Mine
abbrev rhoOf (ks : List Nat) (c sg : Nat) : List Nat := gather (fun x => sgn x c == sg) id ks
def wh1 (ks : List Nat) (c sg : Nat) : Bool := (gather (fun _ => true) (sgn · (on1 c)) (rhoOf ks c sg)).length * (gather (fun _ => true) (sgn · (on2 c)) (rhoOf ks c sg)).length == (rhoOf ks c sg).length
def wh (ks : List Nat) (c : Nat) : Bool := (List.range 3).all (wh1 ks c)

theorem gather_le {p : Nat → Bool} {f : Nat → Nat} {l : List Nat} {n : Nat} (h : ∀ k ∈ l, p k = true → f k < n) : (gather p f l).length ≤ n := by
  have := len_le_of_sub (nodup_gather (p := p) (f := f) (l := l)) (m := List.range n) fun k hk => by
    obtain ⟨x, hx, hp, rfl⟩ := mem_gather.mp hk
    exact List.mem_range.mpr (h x hx hp)
  rwa [List.length_range] at this
theorem rho_lt {ks : List Nat} {c sg : Nat} (hks : ∀ k ∈ ks, k < 18) : ∀ k ∈ rhoOf ks c sg, k < 18 := fun k hk => by
  obtain ⟨x, hx, _, rfl⟩ := mem_gather.mp hk
  exact hks x hx

section
variable {prog : Program} {w : World} {A : Around} {s : Shared} {E : Value → Shared → Prop} {env : Env} {mg mb : Str → Option Value}

theorem whole_test {ks : List Nat} {c sg R : Nat} {t₁ t₂ : Tok} {c₂ c₃ : Addr} {m : Str → Option Value} {p1 p2 p3 p4 p5 p6 p7 p8 p9 q1 q2 q3 q4 q5 q6 q7 q8 q9 r1 r2 r3 r4 : Pos} {whole : Sem Value} {Q : Bool → Shared → Prop} (hh : A.handled = none) (FE : FEnv env (scAt 67 w.params))
    (hm : m (Str.ofString "rows") = some (.ref R)) (hns : s.heap.Ns env.locals m) (G : GR w.params mg mb s.heap) (hdp : A.depth < recursionLimit) (hc : c < 3)
    (hl₂ : env.cells.lookup (Str.ofString "one") = some c₂) (hl₃ : env.cells.lookup (Str.ofString "other") = some c₃) (hv₂ : s.heap.IsCell c₂ (some (.int (on1 c) t₁))) (hv₃ : s.heap.IsCell c₃ (some (.int (on2 c) t₂)))
    (S : SetI s.heap R (!byText w) (rhoOf ks c sg)) (hks : ∀ k ∈ ks, k < 18)
    (h : ∀ h' tk, Ext s.heap h' → Q (!wh1 ks c sg) { s with heap := h', toks := tk }) :
    WP (model prog w) A (isTrue (.Compare (.BinOp (.Call (.Name (Str.ofString "len") p7) [.SetComp (.Call (.Name (Str.ofString "_law_sign") p1) [.Name (Str.ofString "x") p2, .Name (Str.ofString "one") p3] [] p4) [⟨.Name (Str.ofString "x") p5, .Name (Str.ofString "rows") p6, [], 0⟩]
      { kind := .function, names := [(Str.ofString ".0", .local), (Str.ofString "x", .local), (Str.ofString "_law_sign", .globalImplicit), (Str.ofString "one", .free)], isGenerator := false, isCoroutine := false } p9] [] p8) .Mult
      (.Call (.Name (Str.ofString "len") q7) [.SetComp (.Call (.Name (Str.ofString "_law_sign") q1) [.Name (Str.ofString "x") q2, .Name (Str.ofString "other") q3] [] q4) [⟨.Name (Str.ofString "x") q5, .Name (Str.ofString "rows") q6, [], 0⟩]
      { kind := .function, names := [(Str.ofString ".0", .local), (Str.ofString "x", .local), (Str.ofString "_law_sign", .globalImplicit), (Str.ofString "other", .free)], isGenerator := false, isCoroutine := false } q9] [] q8) r1) [.NotEq]
      [.Call (.Name (Str.ofString "len") r2) [.Name (Str.ofString "rows") r3] [] r4] pos) env whole) Q E s := by
  have hon1 : on1 c < 3 := by unfold on1; split <;> omega
  have hon2 : on2 c < 3 := by unfold on2; split <;> omega
  have hρ := rho_lt (c := c) (sg := sg) hks
  refine ⟨?_⟩
  refine wpAny_isTrue_Compare1 ?_
  refine wpAny_BinOp ?_
  refine WP.go ?_
  refine lenComp hh FE (by kernel_rfl) (by kernel_rfl) (by kernel_rfl) (by kernel_rfl) hm hns G hdp hl₂ (by decide) (by decide) (by decide) (by decide) hv₂ hon1 S hρ fun g₁ tk₁ u₁ k₁ => ?_
  refine WP.go ?_
  refine lenComp hh FE (by kernel_rfl) (by kernel_rfl) (by kernel_rfl) (by kernel_rfl) hm (hns.keeps k₁) (G.keeps k₁) hdp hl₃ (by decide) (by decide) (by decide) (by decide) (hv₃.keeps k₁) hon2 (S.at fun o e => k₁ _ o e) hρ fun g₂ tk₂ u₂ k₂ => ?_
  have b1 : (gather (fun _ => true) (sgn · (on1 c)) (rhoOf ks c sg)).length ≤ 18 := gather_le fun k hk _ => Nat.lt_of_lt_of_le (sgn_lt (hρ k hk)) (by omega)
  refine mul_int ?_ (IntMulOk.of_left (intBits_le_64 (by omega) (by omega)))
  have k12 : Ext s.heap g₂ := fun b o e => k₂ b o (k₁ b o e)
  refine Call_Name1 ?_
  refine bName FE (by kernel_rfl) (G.keeps k12) (by kernel_rfl) boot_len ?_
  refine Calls.callWith_builtin rfl (evalArgs_plain (spliced_cons ?_))
  refine nmL FE (by kernel_rfl) (hns.keeps k12) hm ?_
  refine spliced_nil ?_
  refine len_setI (S.at fun o e => k12 _ o e) ?_
  refine ne_int (wpAny_truthy_bool ?_)
  have e : ((((gather (fun _ => true) (sgn · (on1 c)) (rhoOf ks c sg)).length : Nat) : Int) * ((gather (fun _ => true) (sgn · (on2 c)) (rhoOf ks c sg)).length : Nat) != ((rhoOf ks c sg).length : Nat)) = !wh1 ks c sg := by
    unfold wh1
    rw [← Int.natCast_mul]
    generalize (gather (fun _ => true) (sgn · (on1 c)) (rhoOf ks c sg)).length * (gather (fun _ => true) (sgn · (on2 c)) (rhoOf ks c sg)).length = a
    generalize (rhoOf ks c sg).length = b
    by_cases h : a = b
    · subst h; simp
    · have h1 : ((a : Int) != (b : Int)) = true := by simp only [bne_iff_ne]; omega
      have h2 : (a == b) = false := by rw [beq_eq_false_iff_ne]; exact h
      rw [h1, h2]; rfl
  rw [e]
  exact h g₂ _ k12
end
end Mine
end

section
open PySem PySem.W PyProof.Rows PySem.Calls PySem.SeqAt
set_option maxRecDepth 100000
namespace Mine
section
variable {prog : Program} {w : World} {A : Around} {s : Shared} {E : Value → Shared → Prop} {env : Env} {mg mb : Str → Option Value}

theorem cell_at {h h' : Heap} {c : Addr} {v : Option Value} (x : h.IsCell c v) (k : ∀ o, h.get? c = some o → h'.get? c = some o) : h'.IsCell c v := let ⟨o, ho, r⟩ := x; ⟨o, k o ho, r⟩
theorem cell_lt {h : Heap} {c : Addr} {v : Option Value} (x : h.IsCell c v) : ∃ o, h.get? c = some o := let ⟨o, ho, _⟩ := x; ⟨o, ho⟩

theorem whole_body {h₀ : Heap} {l : Addr} {vs : List Value} {ks : List Nat} {c : Nat} {t : Tok} {c₁ c₂ c₃ c₄ : Addr} {m : Str → Option Value} {Q : Flow → Shared → Prop}
    (FE : FEnv env (scAt 67 w.params)) (G : GR w.params mg mb h₀) (hdp : A.depth < recursionLimit) (hh : A.handled = none) (hc : c < 3)
    (hl₁ : env.cells.lookup (Str.ofString "column") = some c₁) (hl₂ : env.cells.lookup (Str.ofString "one") = some c₂) (hl₃ : env.cells.lookup (Str.ofString "other") = some c₃) (hl₄ : env.cells.lookup (Str.ofString "sign") = some c₄)
    (h12 : c₁ ≠ c₂) (h13 : c₁ ≠ c₃) (h23 : c₂ ≠ c₃) (h14 : c₁ ≠ c₄) (h24 : c₂ ≠ c₄) (h34 : c₃ ≠ c₄) (hL1 : c₁ ≠ env.locals) (hL2 : c₂ ≠ env.locals) (hL3 : c₃ ≠ env.locals) (hL4 : c₄ ≠ env.locals)
    (n2 : h₀.get? c₂ = none) (n3 : h₀.get? c₃ = none) (n4 : h₀.get? c₄ = none) (nL : h₀.get? env.locals = none)
    (hv₁ : s.heap.IsCell c₁ (some (.int c t))) (hv₂ : s.heap.IsCell c₂ none) (hv₃ : s.heap.IsCell c₃ none) (hv₄ : s.heap.IsCell c₄ none)
    (hl : h₀.IsList l vs.toArray) (hN : NumsOf vs ks) (hks : ∀ k ∈ ks, k < 18) (hm : m (Str.ofString "table") = some (.ref l)) (hns : s.heap.Ns env.locals m) (hext : Ext h₀ s.heap)
    (h : ∀ h' tk, Ext h₀ h' → Q (.ret (.bool (wh ks c))) { s with heap := h', toks := tk }) :
    WP (model prog w) A (execs (bodyAt 67 w.params) env) Q (fun _ _ => False) s := by
  refine ⟨?_⟩
  refine wpAny_execs_cons ?_
  refine WP.go ?_
  refine oneOther hh FE hc (by kernel_rfl) (by kernel_rfl) (by kernel_rfl) hl₁ hl₂ hl₃ h23 hv₁ hv₂ hv₃ fun g₁ tk₁ t₁ t₂ st₁ cv₂ cv₃ => ?_
  have ext1 : Ext h₀ g₁ := fun b o e => st₁ b o (by simp only [List.mem_cons, List.not_mem_nil, or_false, not_or]; exact ⟨(fun q => by rw [q, n2] at e; cases e), (fun q => by rw [q, n3] at e; cases e)⟩) (hext b o e)
  have cv₁ : g₁.IsCell c₁ (some (.int c t)) := cell_at hv₁ fun o e => st₁ c₁ o (by simp [h12, h13]) e
  have cv₄ : g₁.IsCell c₄ none := cell_at hv₄ fun o e => st₁ c₄ o (by simp [Ne.symm h24, Ne.symm h34]) e
  have ns1 : g₁.Ns env.locals m := hns.at' fun o e => st₁ _ o (by simp [Ne.symm hL2, Ne.symm hL3]) e
  dsimp only
  refine wpAny_execs_cons ?_
  refine for_walk ?_
  refine WP.go ?_
  refine iter_range3 FE (by kernel_rfl) (G.keeps ext1) (by kernel_rfl) fun I g₂ tk₂ k₂ hI hr => ?_
  have notI : ∀ {b : Addr} {o : Obj}, g₁.get? b = some o → b ≠ I := fun e q => by rw [q, hI] at e; cases e
  have hLI : env.locals ≠ I := by obtain ⟨o, _, _, ho, _⟩ := ns1; exact notI ho
  have hI1 : c₁ ≠ I := by obtain ⟨o, e⟩ := cell_lt cv₁; exact notI e
  have hI2 : c₂ ≠ I := by obtain ⟨o, e⟩ := cell_lt cv₂; exact notI e
  have hI3 : c₃ ≠ I := by obtain ⟨o, e⟩ := cell_lt cv₃; exact notI e
  have hI4 : c₄ ≠ I := by obtain ⟨o, e⟩ := cell_lt cv₄; exact notI e
  refine ⟨I, [I], [I], 3, _, _, rfl, Walks.range hh I 0 1 3, hr, fun i h => Ext h₀ h ∧ (∃ m', h.Ns env.locals m' ∧ m' (Str.ofString "table") = some (.ref l)) ∧ h.IsCell c₁ (some (.int c t)) ∧ h.IsCell c₂ (some (.int (on1 c) t₁)) ∧ h.IsCell c₃ (some (.int (on2 c) t₂)) ∧ (∃ u, h.IsCell c₄ u) ∧ ∀ j < i, wh1 ks c j = true, ?_, ?_, ?_, ?_⟩
  · rintro i ha hb ⟨a1, ⟨m', a2, a2'⟩, a3, a4, a5, ⟨u, a6⟩, a7⟩ _ hk
    have up : ∀ {b : Addr} {o : Obj}, b ≠ I → ha.get? b = some o → hb.get? b = some o := fun hq e => hk _ _ (by simpa using hq) e
    exact ⟨fun b o e => up (notI (ext1 b o e)) (a1 b o e), ⟨m', a2.at' fun o e => up hLI e, a2'⟩, cell_at a3 fun o e => up hI1 e, cell_at a4 fun o e => up hI2 e, cell_at a5 fun o e => up hI3 e, ⟨u, cell_at a6 fun o e => up hI4 e⟩, a7⟩
  · exact ⟨fun b o e => k₂ b o (ext1 b o e), ⟨m, ns1.keeps k₂, hm⟩, cv₁.keeps k₂, cv₂.keeps k₂, cv₃.keeps k₂, ⟨_, cv₄.keeps k₂⟩, fun j hj => absurd hj (Nat.not_lt_zero _)⟩
  · rintro i v s₃ ⟨g₃, tk₃, rfl⟩ hi ⟨tv, hv⟩ ⟨a1, ⟨m', a2, a2'⟩, a3, a4, a5, ⟨u, a6⟩, a7⟩ hri
    have hv' : v = .int (i : Nat) tv := by rw [hv]; congr 1; omega
    subst hv'
    dsimp only at a1 a2 a3 a4 a5 a6 hri ⊢
    refine wpAny_assign_Name (stCc FE (by kernel_rfl) hl₄ a6 fun g₄ c4 s4 => ?_)
    dsimp only at c4 s4 ⊢
    have ext4 : Ext h₀ g₄ := fun b o e => s4.extBut b o (fun q => by rw [q, n4] at e; cases e) (a1 b o e)
    have ns4 := a2.sameBut s4 (Ne.symm hL4)
    have d1 := a3.sameBut s4 h14
    have d2 := a4.sameBut s4 h24
    have d3 := a5.sameBut s4 h34
    refine wpAny_execs_cons ?_
    refine WP.go ?_
    refine rowsSet hh FE (by kernel_rfl) (by kernel_rfl) (by kernel_rfl) (by kernel_rfl) a2' ns4 (G.keeps ext4) hdp (by rfl) hl₁ hl₄ d1 c4 hc (hl.at fun o e => ext4 l o e) hN hks fun D g₅ tk₅ hD hDL ns5 S5 k5 => ?_
    dsimp only at hD ns5 S5 k5 ⊢
    have ext5 : Ext h₀ g₅ := fun b o e => k5 b o (fun q => by rw [q, nL] at e; cases e) (ext4 b o e)
    have f1 := cell_at d1 fun o e => k5 c₁ o hL1 e
    have f2 := cell_at d2 fun o e => k5 c₂ o hL2 e
    have f3 := cell_at d3 fun o e => k5 c₃ o hL3 e
    have f4 := cell_at c4 fun o e => k5 c₄ o hL4 e
    refine wpAny_execs_cons ?_
    refine wpAny_If ?_
    refine WP.go ?_
    refine whole_test (ks := ks) (c := c) (sg := i) hh FE (R := D) rfl ns5 (G.keeps ext5) hdp hc hl₂ hl₃ f2 f3 S5 hks fun g₆ tk₆ k6 => ?_
    have ext6 : Ext h₀ g₆ := fun b o e => k6 b o (ext5 b o e)
    cases hw : wh1 ks c i with
    | false =>
      simp only [Bool.not_false, if_true]
      refine wpAny_execs_cons (wpAny_Return_some ?_)
      refine wpAny_Constant_bool ?_
      show Q _ _
      have : wh ks c = false := by
        unfold wh
        rw [List.all_eq_false]
        exact ⟨i, List.mem_range.mpr hi, by simp [hw]⟩
      rw [← this]
      exact h g₆ _ ext6
    | true =>
      simp only [Bool.not_true, Bool.false_eq_true, if_false]
      refine wpAny_execs_nil ?_
      refine wpAny_execs_nil ?_
      refine ⟨⟨g₆, _, rfl⟩, ?_, ext6, ⟨_, ns5.keeps k6, a2'⟩, f1.keeps k6, f2.keeps k6, f3.keeps k6, ⟨_, f4.keeps k6⟩, ?_⟩
      · intro b hb o e
        rw [List.mem_singleton] at hb
        subst hb
        exact k6 _ o (k5 _ o (Ne.symm hLI) (s4.extBut _ o (Ne.symm hI4) e))
      · intro j hj
        rcases Nat.lt_or_ge j i with q | q
        · exact a7 j q
        · have : j = i := by omega
          subst this; exact hw
  · rintro h' tk' ⟨a1, ⟨m', a2, a2'⟩, a3, a4, a5, ⟨u, a6⟩, a7⟩
    refine wpAny_execs_cons (wpAny_Return_some ?_)
    refine wpAny_Constant_bool ?_
    have : wh ks c = true := by
      unfold wh
      rw [List.all_eq_true]
      intro j hj
      exact a7 j (List.mem_range.mp hj)
    rw [← this]
    exact h h' _ a1
end
end Mine
end

section
open PySem PySem.W PyProof.Rows PySem.Calls PySem.SeqAt
set_option maxRecDepth 100000
namespace Mine
section
variable {prog : Program} {w : World} {A : Around} {s : Shared} {E : Value → Shared → Prop} {mg mb : Str → Option Value}
set_option maxHeartbeats 1000000 in
theorem whole_call {l : Addr} {vs : List Value} {ks : List Nat} {c : Nat} {t : Tok} {Q : Value → Shared → Prop} (G : GR w.params mg mb s.heap) (hdp : A.depth + 1 < recursionLimit) (hh : A.handled = none) (hc : c < 3)
    (hl : s.heap.IsList l vs.toArray) (hN : NumsOf vs ks) (hks : ∀ k ∈ ks, k < 18)
    (h : ∀ h' tk, Ext s.heap h' → Q (.bool (wh ks c)) { s with heap := h', toks := tk }) :
    wpAny (model prog w) A (call (.ref 67) [.ref l, .int c t]) Q E s := by
  refine wpAny_call ?_
  refine callAtC (body := bodyAt 67 w.params) (binds := [(Str.ofString "table", .ref l), (Str.ofString "column", .int c t)]) G (by omega) rfl (by kernel_rfl) (by kernel_rfl) (by kernel_rfl) (by kernel_rfl) (by kernel_rfl) (by kernel_rfl) (by kernel_rfl) (by kernel_rfl) (by kernel_rfl) (by kernel_rfl) (by kernel_rfl) fun env s₁ FE hL hf hcells x => ?_
  have hfresh : ∀ a, s.heap.objs.size ≤ a → s.heap.get? a = none := fun a ha => by
    cases e : s.heap.get? a with
    | none => rfl
    | some o => exact absurd (Heap.lt_size e) (Nat.not_lt.mpr ha)
  have e1 : env.cells.lookup (Str.ofString "column") = some (s.heap.objs.size + 1) := by rw [hcells]; kernel_rfl
  have e2 : env.cells.lookup (Str.ofString "one") = some (s.heap.objs.size + 1 + 1) := by rw [hcells]; kernel_rfl
  have e3 : env.cells.lookup (Str.ofString "other") = some (s.heap.objs.size + 1 + 1 + 1) := by rw [hcells]; kernel_rfl
  have e4 : env.cells.lookup (Str.ofString "sign") = some (s.heap.objs.size + 1 + 1 + 1 + 1) := by rw [hcells]; kernel_rfl
  have kl : env.kindOf = fun y => List.lookup y (scAt 67 w.params).names := by funext y; rw [Env.kindOf, FE.scope]
  have hmr : bindL env.kindOf [(Str.ofString "table", .ref l), (Str.ofString "column", .int c t)] (fun _ => none) (Str.ofString "table") = some (.ref l) := by rw [kl]; kernel_rfl
  have v1 := x.cell _ _ e1
  have v2 := x.cell _ _ e2
  have v3 := x.cell _ _ e3
  have v4 := x.cell _ _ e4
  have c1 : bindC env.kindOf [(Str.ofString "table", .ref l), (Str.ofString "column", .int c t)] (fun _ => none) (Str.ofString "column") = some (.int c t) := by rw [kl]; kernel_rfl
  have c2 : bindC env.kindOf [(Str.ofString "table", .ref l), (Str.ofString "column", .int c t)] (fun _ => none) (Str.ofString "one") = none := by rw [kl]; kernel_rfl
  have c3 : bindC env.kindOf [(Str.ofString "table", .ref l), (Str.ofString "column", .int c t)] (fun _ => none) (Str.ofString "other") = none := by rw [kl]; kernel_rfl
  have c4 : bindC env.kindOf [(Str.ofString "table", .ref l), (Str.ofString "column", .int c t)] (fun _ => none) (Str.ofString "sign") = none := by rw [kl]; kernel_rfl
  rw [c1] at v1
  rw [c2] at v2
  rw [c3] at v3
  rw [c4] at v4
  have ns := x.toInCall.ns
  have kp := x.toInCall.keep
  obtain ⟨h₁, tk₁, rfl⟩ := x.toInCall.same
  have d12 : (s.heap.objs.size + 1 : Nat) ≠ s.heap.objs.size + 1 + 1 := by omega
  have d13 : (s.heap.objs.size + 1 : Nat) ≠ s.heap.objs.size + 1 + 1 + 1 := by omega
  have d23 : (s.heap.objs.size + 1 + 1 : Nat) ≠ s.heap.objs.size + 1 + 1 + 1 := by omega
  have d14 : (s.heap.objs.size + 1 : Nat) ≠ s.heap.objs.size + 1 + 1 + 1 + 1 := by omega
  have d24 : (s.heap.objs.size + 1 + 1 : Nat) ≠ s.heap.objs.size + 1 + 1 + 1 + 1 := by omega
  have d34 : (s.heap.objs.size + 1 + 1 + 1 : Nat) ≠ s.heap.objs.size + 1 + 1 + 1 + 1 := by omega
  have dL1 : (s.heap.objs.size + 1 : Nat) ≠ env.locals := by rw [hL]; exact Nat.succ_ne_self _
  have dL2 : (s.heap.objs.size + 1 + 1 : Nat) ≠ env.locals := by rw [hL]; exact Nat.ne_of_gt (by omega)
  have dL3 : (s.heap.objs.size + 1 + 1 + 1 : Nat) ≠ env.locals := by rw [hL]; exact Nat.ne_of_gt (by omega)
  have dL4 : (s.heap.objs.size + 1 + 1 + 1 + 1 : Nat) ≠ env.locals := by rw [hL]; exact Nat.ne_of_gt (by omega)
  have q2 : s.heap.objs.size ≤ (s.heap.objs.size + 1 + 1 : Nat) := by omega
  have q3 : s.heap.objs.size ≤ (s.heap.objs.size + 1 + 1 + 1 : Nat) := by omega
  have q4 : s.heap.objs.size ≤ (s.heap.objs.size + 1 + 1 + 1 + 1 : Nat) := by omega
  refine wpAny_noRaise ?_
  refine WP.go ?_
  refine whole_body (h₀ := s.heap) FE G (by show A.depth + 1 < recursionLimit; exact hdp) hh hc e1 e2 e3 e4 d12 d13 d23 d14 d24 d34 dL1 dL2 dL3 dL4 (hfresh _ q2) (hfresh _ q3) (hfresh _ q4) (hfresh _ (Nat.le_of_eq hL.symm)) v1 v2 v3 v4 hl hN hks hmr ns kp ?_
  intro h' tk k1
  exact h h' tk k1
end
end Mine
end

section
open PySem PySem.W PyProof.Rows PySem.Calls PySem.SeqAt
set_option maxRecDepth 100000
namespace Mine
/-- a TypeError that was made anew, with the context c -/
structure NewX (h h' : Heap) (e : Addr) (c : Value) : Prop where
  keeps : Ext h h'
  new : h.get? e = none
  there : ∃ ob vs, h'.get? e = some ob ∧ ob.cls = .type "TypeError" ∧ ob.data = .fields vs ∧ vs[1]? = some .none ∧ vs[2]? = some c
theorem NewX.exc {h h' : Heap} {e : Addr} {c : Value} {fs : List Addr} (x : NewX h h' e c) : ExcAt fs h h' e "TypeError" c none := by
  obtain ⟨ob, vs, h1, h2, h3, h4, h5⟩ := x.there
  exact ⟨.of_keeps x.keeps, x.new, ob, vs, h1, h2, h3, h5, h4⟩

theorem typeCall_dict_0 : checkTypeCall "dict" ⟨[], []⟩ = pure () := by kernel_rfl
theorem newCall_dict_0 : checkBuiltinCall "dict.__new__" ⟨[.type "dict"], []⟩ = pure () := by kernel_rfl
theorem hash_of_list : typeLookup (.type "list") "__hash__" = pure (some .none) := by rw [typeLookup_type, builtinLookup_eq_fast]; kernel_rfl
def bound : Obj := { cls := .type "builtin_function_or_method", data := .fields #[.builtin "dict.fromkeys", .type "dict"] }
theorem type_fk : typeOf (.builtin "dict.fromkeys") = pure (.type "classmethod_descriptor") := by show builtinType _ = _; rw [builtinType_eq_fast]; kernel_rfl
theorem entry_fk : entryFor table "dict.fromkeys" = some Builtin.«dict.fromkeys» := entryFor_of_tree (by kernel_rfl)
theorem entry_fkl : entryFor table "dict.fromkeys.loop" = some Builtin.«dict.fromkeys.loop» := entryFor_of_tree (by kernel_rfl)
theorem plain_fk : plainId "dict.fromkeys" = true := by decide +kernel
theorem plain_fkl : plainId "dict.fromkeys.loop" = true := by decide +kernel
theorem type_dict : isType (.type "dict") = pure true := by first | rfl | kernel_rfl | (unfold isType; rw [isSubtype_type]; kernel_rfl)
theorem check_fk (a : Value) : checkBoundCall "dict.fromkeys" ⟨[.type "dict", a], []⟩ = pure () := by first | kernel_rfl | rfl
theorem owner_fk : (kfb_private% "ownerAndName") "dict.fromkeys" = ("dict", "fromkeys") := by first | decide +kernel | kernel_rfl

section
variable {prog : Program} {w : World} {A : Around} {s : Shared} {E : Value → Shared → Prop}

theorem dict0 {Q : Value → Shared → Prop} (h : Q (.ref s.heap.objs.size) { s with heap := s.heap.push { cls := .type "dict", data := .dict #[] } }) :
    wpAny (model prog w) A (call (.type "dict") []) Q E s := by
  refine callType_codes (Q₁ := fun obj s₁ => obj = .ref s.heap.objs.size ∧ s₁ = { s with heap := s.heap.push { cls := .type "dict", data := .dict #[] } }) F.kt_called_dict typeCall_dict_0 F.entry_dict_init ?_ ?_
  · refine codeAny_call_builtin F.kt_plain_dict_new F.kt_entry_dict_new (wpAny_of_eq newCall_dict_0 ?_)
    have hsub := F.kt_sub_dict
    have hmro := F.kt_mro_dict
    obtain ⟨hp, g, d, tk, os⟩ := s
    unfold Builtin.«dict.__new__»
    wp_walk
    exact ⟨rfl, rfl⟩
  · rintro obj s₁ ⟨rfl, rfl⟩
    have hT : ({ s with heap := s.heap.push { cls := .type "dict", data := .dict #[] } } : Shared).TypeIs (.ref s.heap.objs.size) "dict" := ⟨_, Heap.get?_push_size _ rfl, rfl⟩
    refine ⟨hT, F.args_dict_init_1 _, ?_⟩
    unfold Builtin.«dict.__init__»
    refine wpAny_bind ?_
    unfold Builtin.Dict.selfAndRest
    refine wpAny_bind (wpAny_notOrdered_dict hT ?_)
    show wpAny _ _ (pure (s.heap.objs.size, ([] : List Value))) _ _ _
    refine wpAny_pure ?_
    show wpAny _ _ (Builtin.Dict.addKeywords s.heap.objs.size [] >>= _) _ _ _
    exact wpAny_bind (wpAny_pure (wpAny_pure ⟨rfl, h⟩))

theorem raiseMadeH {α : Type} {msg : String} {Q : α → Shared → Prop} {as : List Addr} (hc : HChain s.heap A.handled as) (hm : (msg : Str).length ≤ sizeLine)
    (h : ∀ h' tk e, NewX s.heap h' e (A.handled.getD .none) → E (.ref e) { s with heap := h', toks := tk }) :
    wpAny (model prog w) A (raiseErrorMade "TypeError" msg : Sem α) Q E s := by
  unfold raiseErrorMade
  refine wpAny_bind (wpAny_mkStr (wpAny_bind ?_) hm)
  unfold newExc newTuple
  refine wpAny_bind (wpAny_newObj_type ?_)
  refine wpAny_bind (m := firstArgMember _ _) (wpAny_of_eq (a := Value.none) (by simp only [firstArgMember, plainExc_TypeError.first]; rfl) ?_)
  rw [plainExc_TypeError.own]
  refine wpAny_newObj_type ?_
  have k1 := push_keeps s.heap ({ cls := .type "tuple", data := .seq [Value.str (msg : Str) s.toks].toArray } : Obj)
  generalize hg : s.heap.push ({ cls := .type "tuple", data := .seq [Value.str (msg : Str) s.toks].toArray } : Obj) = g at *
  have k2 := push_keeps g ({ cls := .type "TypeError", data := .fields (#[.ref s.heap.objs.size, .none, .none, .none, .bool false, .none] ++ #[]) } : Obj)
  have new : s.heap.get? g.objs.size = none := by
    cases q : s.heap.get? g.objs.size with
    | none => rfl
    | some o => exact absurd (Heap.lt_size (k1 _ o q)) (Nat.lt_irrefl _)
  refine wpAny_raiseNewH (as := as) (hc.at fun b hb o e => k2 b o (k1 b o e)) (Heap.get?_push_size _ rfl) rfl (by simp) (fun hm => ?_) fun h' hs' hthere => ?_
  · obtain ⟨o, e⟩ := hc.there _ hm
    rw [new] at e; cases e
  · obtain ⟨o₂, vs₂, c₂, q1, q2, q3, q4, q5, q6, q7, q8⟩ := hthere
    refine h h' _ _ ⟨fun b o e => hs'.extBut b o (fun q => by rw [q, new] at e; cases e) (k2 b o (k1 b o e)), new, o₂, vs₂, q1, q2, q3, ?_, ?_⟩
    · rw [q5 1 (by decide)]; rfl
    · cases hA : A.handled with
      | none => rw [q7 hA]; rfl
      | some v => rw [q6, q8 v hA]; rfl

theorem hash_list {a : Addr} {its : Array Value} {Q : Int → Shared → Prop} {as : List Addr} (hl : s.heap.IsList a its) (hc : HChain s.heap A.handled as) (hu : A.units < cLine)
    (h : ∀ h' tk e, NewX s.heap h' e (A.handled.getD .none) → E (.ref e) { s with heap := h', toks := tk }) :
    wpAny (model prog w) A (pyHash (.ref a)) Q E s := by
  show wpAny _ _ (pyHashByItsType (.ref a)) _ _ _
  unfold pyHashByItsType
  refine wpAny_bind (wpAny_cRoomFor hu ?_)
  refine wpAny_bind (wpAny_specialOf hl.typeIs hash_of_list ?_)
  rw [if_pos (by decide)]
  refine wpAny_bind (wpAny_rule ?_)
  refine wpAny_bind (wpAny_typeNameOf' hl.typeIs (by decide) ?_)
  refine wpAny_bind ?_
  exact raiseMadeH hc (by rw [PySem.ofString_length, sizeLine_eq]; decide +kernel) h
end
end Mine
end

section
open PySem PySem.W PyProof.Rows PySem.Calls PySem.SeqAt
set_option maxRecDepth 100000
namespace Mine
section
variable {prog : Program} {w : World} {A : Around} {s : Shared} {E : Value → Shared → Prop}

theorem fk_loop {d I l a : Addr} {vs : List Value} {its : Array Value} {R : Result → Shared → Prop} {as : List Addr} (hd : s.TypeIs (.ref d) "dict") (hit : s.heap.IsListIter I l 0) (hl : s.heap.IsList l (.ref a :: vs).toArray) (ha : s.heap.IsList a its)
    (hc : HChain s.heap A.handled as) (hI : I ∉ as) (hId : I ≠ d) (hIa : I ≠ a) (hu : A.units + 10 < cLine)
    (h : ∀ h' tk e, (∀ b o, b ≠ I → s.heap.get? b = some o → h'.get? b = some o) → (∀ b, s.heap.get? b = none → b ≠ e → h'.get? b = none ∨ True) → s.heap.get? e = none → (∃ ob vs, h'.get? e = some ob ∧ ob.cls = .type "TypeError" ∧ ob.data = .fields vs ∧ vs[1]? = some .none ∧ vs[2]? = some (A.handled.getD .none)) → R (.error (.ref e)) { s with heap := h', toks := tk }) :
    codeAny (model prog w) A (.builtin "dict.fromkeys.loop" ⟨[.ref d, .ref I, .none], []⟩) R s := by
  refine codeAny_builtin entry_fkl ?_
  rw [Around.under_plainId plain_fkl]
  unfold Builtin.«dict.fromkeys.loop»
  refine wpAny_bind (wpAny_pyNext_list_item hit hl (x := .ref a) rfl fun h₁ hit₁ hs₁ => ?_)
  have hd₁ : ({ s with heap := h₁ } : Shared).TypeIs (.ref d) "dict" := by obtain ⟨o, ho, hcl⟩ := hd; exact ⟨o, hs₁.extBut d o (Ne.symm hId) ho, hcl⟩
  refine wpAny_bind (wpAny_typeOf hd₁ ?_)
  rw [if_pos (by decide)]
  unfold Builtin.Dict.addrOf dictSet
  refine wpAny_bind (wpAny_pure ?_)
  refine wpAny_bind ?_
  refine wpAny_holding ?_
  refine wpAny_holding ?_
  refine wpAny_bind ?_
  refine hash_list (s := { s with heap := h₁ }) (ha.extBut hs₁.extBut (Ne.symm hIa)) (as := as) (hc.at fun b hb o e => hs₁.extBut b o (fun q => hI (q ▸ hb)) e) (by show A.units + 1 < cLine; omega) fun h' tk e x => ?_
  refine h h' tk e (fun b o hb q => x.keeps b o (hs₁.extBut b o hb q)) (fun _ _ _ => .inr trivial) ?_ x.there
  cases q : s.heap.get? e with
  | none => rfl
  | some o =>
    by_cases hq : e = I
    · obtain ⟨oi, hoi, _⟩ := hit₁
      have := x.new
      rw [hq, hoi] at this; cases this
    · have := hs₁.extBut e o hq q
      rw [x.new] at this; cases this

theorem fk_body {l a : Addr} {vs : List Value} {its : Array Value} {R : Result → Shared → Prop} {as : List Addr} (hl : s.heap.IsList l (.ref a :: vs).toArray) (ha : s.heap.IsList a its)
    (hc : HChain s.heap A.handled as) (hu : A.units + 20 < cLine)
    (h : ∀ h' tk e, NewX s.heap h' e (A.handled.getD .none) → R (.error (.ref e)) { s with heap := h', toks := tk }) :
    codeAny (model prog w) A (.builtin "dict.fromkeys" ⟨[.type "dict", .ref l], []⟩) R s := by
  refine codeAny_builtin entry_fk ?_
  rw [Around.under_plainId plain_fk]
  unfold Builtin.«dict.fromkeys»
  dsimp only
  refine wpAny_bind (wpAny_of_eq (a := true) type_dict ?_)
  refine KFB.if_not rfl ?_
  refine wpAny_bind (wpAny_of_eq (a := true) F.kt_sub_dict ?_)
  refine KFB.if_not rfl ?_
  refine KFB.if_not rfl ?_
  refine wpAny_bind ?_
  refine wpAny_bind (wpAny_rule ?_)
  refine wpAny_pure ?_
  try dsimp only
  refine wpAny_bind (wpAny_pure ?_)
  try dsimp only
  refine wpAny_bind (dict0 ?_)
  refine wpAny_holding ?_
  have k1 := push_keeps s.heap ({ cls := .type "dict", data := .dict #[] } : Obj)
  have hg1 := Heap.get?_push_size s.heap (o := ({ cls := .type "dict", data := .dict #[] } : Obj)) rfl
  have hlt : l < s.heap.objs.size := by obtain ⟨_, e, _⟩ := hl; exact Heap.lt_size e
  have halt : a < s.heap.objs.size := by obtain ⟨_, e, _⟩ := ha; exact Heap.lt_size e
  generalize hg : s.heap.push ({ cls := .type "dict", data := .dict #[] } : Obj) = g at *
  have hsz : g.objs.size = s.heap.objs.size + 1 := by rw [← hg, Heap.size_push]
  have hl₁ : g.IsList l (.ref a :: vs).toArray := hl.at fun o e => k1 l o e
  have ha₁ : g.IsList a its := ha.at fun o e => k1 a o e
  have hT1 : ({ s with heap := g } : Shared).TypeIs (.ref l) "list" := Heap.IsList.typeIs (s := { s with heap := g }) hl₁
  have hTd : ({ s with heap := g } : Shared).TypeIs (.ref s.heap.objs.size) "dict" := ⟨_, hg1, rfl⟩
  refine wpAny_bind (wpAny_typeOf hT1 ?_)
  refine wpAny_bind (wpAny_typeOf hTd ?_)
  refine KFB.if_not (by decide) ?_
  refine wpAny_bind (wpAny_typeOf hTd ?_)
  refine KFB.if_not (by decide) ?_
  refine wpAny_bind (wpAny_pyIter_list hl₁ ?_)
  have k2 := push_keeps g ({ cls := .type "list_iterator", data := .fields #[.ref l, .int 0 0] } : Obj)
  refine wpAny_pure ⟨plainId_quiet plain_fkl _, ?_⟩
  have hnI : s.heap.get? g.objs.size = none := by
    cases q : s.heap.get? g.objs.size with
    | none => rfl
    | some o => exact absurd (Heap.lt_size (k1 _ o q)) (Nat.lt_irrefl _)
  refine fk_loop (a := a) (its := its) (as := as) ⟨_, k2 _ _ hg1, rfl⟩ ⟨_, Heap.get?_push_size _ rfl, rfl, rfl⟩ (hl₁.push _) (ha₁.push _) (hc.at fun b hb o e => k2 b o (k1 b o e)) (fun hm => ?_) ?_ ?_ (by omega) fun h' tk e hk _ hne hth => ?_
  · obtain ⟨o, e⟩ := hc.there _ hm
    rw [hnI] at e; cases e
  · rw [hsz]; exact Nat.succ_ne_self _
  · intro q
    have q' : a < a := Nat.lt_of_lt_of_le halt (by rw [← q, hsz]; exact Nat.le_succ _)
    exact Nat.lt_irrefl _ q'
  · have up : Ext s.heap h' := fun b o q => hk b o (fun hb => by rw [hb, hnI] at q; cases q) (k2 b o (k1 b o q))
    refine h h' tk e ⟨up, ?_, hth⟩
    cases q : s.heap.get? e with
    | none => rfl
    | some o => have := k2 e o (k1 e o q); rw [hne] at this; cases this

/-- the call of the bound method -/
theorem fk_call {x l a : Addr} {vs : List Value} {its : Array Value} {Q : Value → Shared → Prop} {as : List Addr} (hx : s.heap.get? x = some bound) (hl : s.heap.IsList l (.ref a :: vs).toArray) (ha : s.heap.IsList a its)
    (hc : HChain s.heap A.handled as) (hu : A.units + 20 < cLine)
    (h : ∀ h' tk e, NewX s.heap h' e (A.handled.getD .none) → E (.ref e) { s with heap := h', toks := tk }) :
    wpAny (model prog w) A (call (.ref x) [.ref l]) Q E s := by
  refine wpAny_call (codeAny_of_tree ?_)
  show wpAny _ A.in1 (callAny (.ref x) ⟨[.ref l], []⟩) _ _ s
  simp only [callAny]
  refine wpAny_bind (wpAny_load hx ?_)
  simp only [bound, show (Value.type "builtin_function_or_method" == Value.type "method" || Value.type "builtin_function_or_method" == Value.type "builtin_function_or_method" || Value.type "builtin_function_or_method" == Value.type "method-wrapper") = true by decide, if_true]
  refine KFB.if_so (by decide) ?_
  refine wpAny_bind (wpAny_of_eq (a := ()) (check_fk _) ?_)
  refine wpAny_bind (wpAny_pure (wpAny_pure ?_))
  exact ⟨plainId_quiet plain_fk _, fk_body hl ha hc hu h⟩
end
end Mine
end

section
open PySem PySem.W PyProof.Rows PySem.Calls PySem.SeqAt
set_option maxRecDepth 100000
namespace Mine
section
variable {prog : Program} {w : World} {A : Around} {s : Shared} {E : Value → Shared → Prop} {env : Env} {sc : Scope} {mg mb : Str → Option Value}

theorem run_get {M : Model} {P : Fin → Shared → Prop} (h : P (.done (.ret (.ref s.heap.objs.size))) { s with heap := s.heap.push bound }) :
    wpAny M A (Builtin.«classmethod_descriptor.__get__» ⟨[.builtin "dict.fromkeys", .none, .type "dict"], []⟩) P E s := by
  unfold Builtin.«classmethod_descriptor.__get__»
  refine wpAny_bind (wpAny_of_eq (a := (.builtin "dict.fromkeys", none, some (.type "dict"))) (by first | rfl | kernel_rfl) ?_)
  simp only [owner_fk]
  refine wpAny_bind (wpAny_of_eq (a := .type "dict") rfl ?_)
  refine wpAny_bind (wpAny_of_eq (a := true) type_dict ?_)
  refine KFB.if_not rfl ?_
  refine wpAny_bind (wpAny_of_eq (a := true) F.kt_sub_dict ?_)
  refine KFB.if_not rfl ?_
  exact wpAny_bind (wpAny_newObj_type (wpAny_pure h))

theorem find_fk (P : Params) : findCls (hd.heap_39 P) (.type "dict") (.type "type") (Str.ofString "fromkeys") = some (.get (.builtin "classmethod_descriptor.__get__") (.builtin "dict.fromkeys") .none (.type "dict")) := by kernel_rfl

theorem getm_fk {pl : Sem Bool} {Q : Value × List Value → Shared → Prop} (X : (hd.heap_39 w.params).In s.heap)
    (h : Q (.ref s.heap.objs.size, []) { s with heap := s.heap.push bound, toks := s.toks + 1 }) :
    wpAny (model prog w) A (getMethod (.type "dict") (Str.ofString "fromkeys") pl) Q E s := by
  have hstub : opaqueClassAbove (.type "dict") = pure none := by unfold opaqueClassAbove; dsimp only; rw [show Manifest.isStub "dict" = false by decide +kernel]; rfl
  have ht : typeOf (.type "dict") = pure (.type "type") := by first | rfl | kernel_rfl
  have L0 : Looks (model prog w) s.heap (typeOf (.type "dict")) (.type "type") := Looks.of_pure ht
  have hg : findIn (hd.heap_39 w.params) (.type "type") "__getattribute__" = some (some (.builtin "type.__getattribute__")) := type_tga
  unfold getMethod specialOf
  refine wpAny_bind (wpAny_bind (L0.here ((looks_findIn X hg).here ?_)))
  dsimp only
  rw [if_pos canon_tga]
  refine wpAny_bind (wpAny_mono (Q := fun v => Q (v, [])) (E := E) ?_ (fun _ _ z => wpAny_pure z) fun _ _ z => z)
  have LO : Looks (model prog w) s.heap (opaqueClassAbove (.type "dict")) none := Looks.of_pure hstub
  refine cls_open X LO L0 hg (looks_hook X (r := none) (by rfl)) (by show subIn _ _ _ = _; rfl) (find_fk _) ?_
  show wpAny _ _ (holding [.builtin "dict.fromkeys"] (call (.builtin "classmethod_descriptor.__get__") [.builtin "dict.fromkeys", .none, .type "dict"]) >>= fun v => ret v) _ _ _
  exact wpAny_bind (wpAny_holding (wpAny_call_entry KFB.slot_get type_fk KFB.entry_get (run_get ⟨_, rfl, wpAny_pure (wpAny_pure h)⟩) (KFB.args_get _ _ _)))

theorem callWith_bound {M : Model} {pos : Pos} {u : Addr} {args : List (Bool × Sem Value)} {Q : Value → Shared → Prop} (hplain : args.any (·.1) = false)
    (h : wpAny M A (evalArgs (.ref u) true args []) (fun x s₁ => s₁.heap.get? u = some bound ∧ wpAny M A (call (.ref u) ([] ++ x.pos) x.kw) Q E s₁) E s) : wpAny M A (callWith pos (.ref u) [] args []) Q E s := by
  unfold callWith
  refine wpAny_bind (wpAny_holding (wpAny_mono h (fun x s₁ h₁ => wpAny_bind (wpAny_standAt ?_)) fun _ _ x => x))
  obtain ⟨ho, hcall⟩ := h₁
  simp only [hplain, List.any_nil, Bool.or_false]
  refine wpAny_bind (m := keeperOf (.ref u)) ?_
  unfold keeperOf
  refine wpAny_bind (wpAny_load ho ?_)
  simp only [bound, show (Value.type "builtin_function_or_method" != Value.type "method") = true by decide, show (Value.type "builtin_function_or_method" == Value.type "builtin_function_or_method" || Value.type "builtin_function_or_method" == Value.type "method-wrapper") = true by decide, if_true]
  refine wpAny_pure ?_
  exact wpAny_bind (wpAny_mono hcall (fun r s₂ hr => wpAny_bind (wpAny_holding (wpAny_point (wpAny_pure hr)))) fun _ _ x => x)

theorem fk_expr {l a : Addr} {vs : List Value} {its : Array Value} {m : Str → Option Value} {p1 p2 ap pos : Pos} {Q : Value → Shared → Prop} {as : List Addr} (FE : FEnv env sc) (hkd : sc.names.lookup (Str.ofString "dict") = some .globalImplicit) (hkp : sc.names.lookup (Str.ofString "params") = some .local)
    (egd : nsIn (hd.heap_39 w.params) mainGlobals (Str.ofString "dict") = some none) (G : GR w.params mg mb s.heap) (hns : s.heap.Ns env.locals m) (hm : m (Str.ofString "params") = some (.ref l)) (hline : (ap.endLine == pos.line) = true)
    (hl : s.heap.IsList l (.ref a :: vs).toArray) (ha : s.heap.IsList a its) (hc : HChain s.heap A.handled as) (hu : A.units + 20 < cLine)
    (h : ∀ h' tk e, NewX s.heap h' e (A.handled.getD .none) → E (.ref e) { s with heap := h', toks := tk }) :
    WP (model prog w) A (eval (.Call (.Attribute (.Name (Str.ofString "dict") p1) (Str.ofString "fromkeys") ap) [.Name (Str.ofString "params") p2] [] pos) env) Q E s := by
  have hb : attributeBase (.Name (Str.ofString "dict") p1) (Str.ofString "fromkeys") env (eval (.Name (Str.ofString "dict") p1) env) = eval (.Name (Str.ofString "dict") p1) env := rfl
  have hform : methodCallForm (([Expr.Name (Str.ofString "params") p2]).length + ([] : List Keyword).length) (backTo pos (starEach [.Name (Str.ofString "params") p2] env)) (backToKw pos (keywordEach [] env)) = true := rfl
  have hpos : methodCallPos true (.Name (Str.ofString "dict") p1) env ap pos = pure pos := by unfold methodCallPos; simp [hline]
  refine ⟨?_⟩
  rw [arm_eval_Call, hb]
  refine wpAny_bind ?_
  refine bName FE hkd G egd (v := .type "dict") (by decide +kernel) ?_
  refine wpAny_bind (wpAny_standAt ?_)
  unfold methodCall
  rw [hform]
  refine wpAny_bind (wpAny_holding ?_)
  refine getm_fk G.X ?_
  refine wpAny_bind (wpAny_of_eq hpos ?_)
  have k1 := push_keeps s.heap bound
  have hx := Heap.get?_push_size s.heap (o := bound) rfl
  show wpAny _ _ (callWith pos (.ref s.heap.objs.size) [] [(false, eval (.Name (Str.ofString "params") p2) env)] []) _ _ _
  refine callWith_bound rfl ?_
  refine evalArgs_plain (spliced_cons ?_)
  refine nmL FE hkp (hns.keeps k1) hm ?_
  refine spliced_nil ⟨hx, ?_⟩
  refine fk_call hx (hl.push _) (ha.push _) (hc.at fun b hb o e => k1 b o e) hu fun h' tk e x => ?_
  refine h h' tk e ⟨fun b o q => x.keeps b o (k1 b o q), ?_, x.there⟩
  cases q : s.heap.get? e with
  | none => rfl
  | some o => have := k1 e o q; rw [x.new] at this; cases this
end
end Mine
end

section
open PySem PySem.W PyProof.Rows PySem.Calls PySem.SeqAt
set_option maxRecDepth 100000
namespace Mine
theorem Kf.isList {fs : List Addr} {h h' : Heap} (k : Kf fs h h') {l : Addr} {its : Array Value} (x : h.IsList l its) : h'.IsList l its := by
  obtain ⟨o, ho, hc, n, hd⟩ := x
  obtain ⟨sl, e⟩ := k.slots l o ho (fun vs q => by rw [hd] at q; cases q)
  exact ⟨_, e, hc, n, hd⟩
theorem Kf.isCell {fs : List Addr} {h h' : Heap} (k : Kf fs h h') {c : Addr} {v : Option Value} (x : h.IsCell c v) : h'.IsCell c v := by
  obtain ⟨o, ho, hd⟩ := x
  obtain ⟨sl, e⟩ := k.slots c o ho (fun vs q => by rw [hd] at q; cases q)
  exact ⟨_, e, hd⟩
theorem reads_kf {fs : List Addr} {h h' : Heap} (k : Kf fs h h') {v : Value} {r : List Str} {bs : List Addr} (x : Reads h v (row2d r) bs) : ∃ bs', Reads h' v (row2d r) bs' := by
  cases x with
  | list ho hc hd hr =>
    obtain ⟨hs, _⟩ := readsAll_strsAre hr
    obtain ⟨sl, e⟩ := k.slots _ _ ho (fun vs q => by rw [hd] at q; cases q)
    exact ⟨_, .list e hc hd (CarriedAll.reads h' hs.carried)⟩
theorem readsAll_kf {fs : List Addr} {h h' : Heap} (k : Kf fs h h') : ∀ {vs : List Value} {rs : List (List Str)} {as : List Addr}, ReadsAll h vs (rs.map row2d) as → ∃ bs, ReadsAll h' vs (rs.map row2d) bs
  | _, [], _, x => by cases x; exact ⟨_, .nil⟩
  | _, r :: rs, _, x => by
    cases x with
    | cons a b =>
      obtain ⟨_, a'⟩ := reads_kf k a
      obtain ⟨_, b'⟩ := readsAll_kf k b
      exact ⟨_, .cons a' b'⟩
theorem RowsAt.kf {fs : List Addr} {h h' : Heap} {vs : List Value} {rs : List (List Str)} (x : RowsAt h vs rs) (k : Kf fs h h') : RowsAt h' vs rs := by
  obtain ⟨ok, as, r⟩ := x
  obtain ⟨bs, r'⟩ := readsAll_kf k r
  exact ⟨ok, bs, r'⟩
theorem fsOf_cons {env : Env} {outer : List Env} {L : Addr} (hf : env.frame = some L) : fsOf (env :: outer) = L :: fsOf outer := by simp [fsOf, hf]
theorem Kf.down {env : Env} {outer : List Env} {L : Addr} {h₀ h₁ h : Heap} (hf : env.frame = some L) (x : Kf (fsOf (env :: outer)) h₁ h) (k : Ext h₀ h₁) (hL : h₀.get? L = none) : Kf (fsOf outer) h₀ h where
  keep := fun b o hb e => x.keep b o (fun hm => by
    rw [fsOf_cons hf] at hm
    rcases List.mem_cons.mp hm with q | hm
    · rw [q, hL] at e; cases e
    · exact hb hm) (k b o e)
  slots := fun b o e hn => x.slots b o (k b o e) hn
theorem none_of_ext {h₀ h₁ : Heap} {a : Addr} (k : Ext h₀ h₁) (h : h₁.get? a = none) : h₀.get? a = none := by
  cases q : h₀.get? a with
  | none => rfl
  | some o => have := k a o q; rw [h] at this; cases this
theorem ExcAt.down {env : Env} {outer : List Env} {L e : Addr} {X : String} {c : Value} {fl : Option Value} {h₀ h₁ h : Heap} (hf : env.frame = some L) (x : ExcAt (fsOf (env :: outer)) h₁ h e X c fl) (k : Ext h₀ h₁) (hL : h₀.get? L = none) : ExcAt (fsOf outer) h₀ h e X c fl := by
  obtain ⟨kf, new, ob, vs, h1, h2, h3, h4, h5⟩ := x
  refine ⟨kf.down hf k hL, none_of_ext k new, ob, vs, h1, h2, h3, h4, ?_⟩
  cases fl with
  | none => exact h5
  | some f => obtain ⟨T, oT, ts, a1, a2, a3⟩ := h5; exact ⟨T, oT, ts, a1, none_of_ext k a2, a3⟩

section
variable {prog : Program} {w : World} {A : Around} {s : Shared} {E : Value → Shared → Prop} {env : Env} {sc : Scope} {mg mb : Str → Option Value} {fs : List Addr} {h₁ : Heap} {e : Addr} {X : String} {c : Value} {L : Addr}

theorem raise_bare {pos : Pos} {Q : Flow → Shared → Prop} (hh : A.handled = some (.ref e)) (hf : env.frame = some L) (x : ExcAt fs h₁ s.heap e X c (some .none))
    (h : ∀ h', ExcAt fs h₁ h' e X c (some (rawInt L)) → E (.ref e) { s with heap := h' }) :
    wpAny (model prog w) A (exec (.Raise none none pos) env) Q E s := by
  rw [arm_exec_Raise]
  refine wpAny_bind (wpAny_standAt ?_)
  show wpAny _ _ (raiseStmt env none none) _ _ _
  unfold raiseStmt
  refine wpAny_bind (wpAny_handled ?_)
  rw [hh]
  refine wpAny_bind (wpAny_rule ?_)
  obtain ⟨kf, new, ob, vs, he, hcls, hd, h2, T, oT, ts, h1, hr⟩ := id x
  refine wpAny_bind (wpAny_field he hd h1 ?_)
  rw [if_neg (by simp)]
  rw [hf]
  refine wpAny_bind (set_flight x fun h' x' => ?_)
  exact wpAny_throw (h h' x')

theorem came_back {Q : Flow → Shared → Prop} (hf : env.frame = some L) (x : ExcAt fs h₁ s.heap e X c (some (rawInt L)))
    (h : ∀ h', ExcAt fs h₁ h' e X c (some (rawInt L)) → E (.ref e) { s with heap := h' }) : cameBackBy (model prog w) A env E (.ref e) s := by
  unfold cameBackBy
  obtain ⟨kf, new, ob, vs, he, hcls, hd, h2, T, oT, ts, h1, hr⟩ := id x
  refine wpAny_bind (wpAny_field he hd h1 ?_)
  rw [if_neg (by simp), hf]
  exact set_flight x fun h' x' => h h' x'

theorem leave {Q : Unit → Shared → Prop} (hf : env.frame = some L) (x : ExcAt fs h₁ s.heap e X c (some (rawInt L)))
    (h : ∀ h', ExcAt fs h₁ h' e X c (some .none) → Q () { s with heap := h' }) : wpAny (model prog w) A (leaving env (.ref e)) Q E s := by
  unfold leaving
  refine wpAny_bind (note_again hf x ?_)
  exact set_flight x fun h' x' => h h' x'
end
end Mine
end

section
open PySem PySem.W PyProof.Rows PySem.Calls PySem.SeqAt
set_option maxRecDepth 100000
namespace Mine
/-- nothing is handled, or one exception without a context -/
def One (h : Heap) (v : Option Value) : Prop := v = none ∨ ∃ a o vs, v = some (.ref a) ∧ h.get? a = some o ∧ o.data = .fields vs ∧ vs[2]? = some .none
theorem One.chain {h : Heap} {v : Option Value} (x : One h v) : ∃ as, HChain h v as := by
  rcases x with rfl | ⟨a, o, vs, rfl, h1, h2, h3⟩
  · exact ⟨[], rfl⟩
  · exact ⟨[a], .inl ⟨a, o, vs, rfl, rfl, h1, h2, h3⟩⟩
theorem One.ext {h h' : Heap} {v : Option Value} (x : One h v) (k : Ext h h') : One h' v := by
  rcases x with rfl | ⟨a, o, vs, rfl, h1, h2, h3⟩
  · exact .inl rfl
  · exact .inr ⟨a, o, vs, rfl, k a o h1, h2, h3⟩
theorem One.next {h h' : Heap} {v : Option Value} {fs : List Addr} {e : Addr} {l : List Env} (x : One h v) (hF : Frames h l) (hfs : fs = fsOf l) (z : ExcAt fs h h' e "TypeError" (v.getD .none) (some .none)) : ∃ as, HChain h' (some (.ref e)) as := by
  obtain ⟨kf, new, ob, vs, he, hcls, hd, h2, hr⟩ := z
  rcases x with rfl | ⟨a, o, vs', rfl, h1, h3, h4⟩
  · exact ⟨[e], .inl ⟨e, ob, vs, rfl, rfl, he, hd, h2⟩⟩
  · refine ⟨[e, a], .inr ⟨e, ob, vs, a, o, vs', rfl, rfl, he, hd, h2, ?_, kf.keep a o (fun hm => ?_) h1, h3, h4⟩⟩
    · rintro rfl; rw [new] at h1; cases h1
    · rw [hfs] at hm
      obtain ⟨o', e', hn⟩ := hF.mem a hm
      rw [h1] at e'; cases e'
      exact hn _ h3

section
variable {prog : Program} {w : World} {A : Around} {s : Shared} {E : Value → Shared → Prop} {env : Env} {mg mb : Str → Option Value}

theorem dd_body {ht h₀ : Heap} {outer : List Env} {l : Addr} {v : Value} {vs : List Value} {rs : List (List Str)} {b : Bool} {m : Str → Option Value} {Q : Flow → Shared → Prop}
    (FE : FEnv env (scAt 22 w.params)) (Gt : GR w.params mg mb ht) (kt : Ext ht h₀) (hot : ∀ b ∈ fsOf outer, ht.get? b = none) (hfr : A.frames = some (env :: outer)) (hFo : Frames h₀ outer) (hfe : env.frame = some env.locals)
    (hdp : A.depth < recursionLimit) (hu : A.units + 90 < cLine) (hone : One h₀ A.handled)
    (hl : h₀.IsList l (v :: vs).toArray) (hr : RowsAt h₀ (v :: vs) rs) (hsz : (v :: vs).length ≤ 4096)
    (hm₁ : m (Str.ofString "params") = some (.ref l)) (hm₂ : m (Str.ofString "unhashable_fallback") = some (.bool b)) (F : Fr h₀ env.locals s.heap m)
    (hE : b = false → ∀ h' tk e, ExcAt (fsOf (env :: outer)) s.heap h' e "TypeError" (A.handled.getD .none) (some (rawInt env.locals)) → E (.ref e) { s with heap := h', toks := tk })
    (hQ : b = true → ∀ D vs' h' tk, Kf (fsOf (env :: outer)) s.heap h' → s.heap.get? D = none → h'.IsList D (List.toArray vs') → RowsAt h' vs' (dd rs) → vs'.length ≤ 4096 → Q (.ret (.ref D)) { s with heap := h', toks := tk }) :
    WP (model prog w) A (execs (bodyAt 22 w.params) env) Q E s := by
  refine ⟨?_⟩
  have G := (Gt.keeps kt).keeps F.keep
  have hone' : One s.heap A.handled := hone.ext F.keep
  obtain ⟨as, hc⟩ := hone'.chain
  obtain ⟨r, bs, _, hok, hrd⟩ := hr.get (i := 0) (v := v) rfl
  obtain ⟨a, its, rfl, ha, _⟩ := row_list hrd
  have hFr : Frames s.heap (env :: outer) := ⟨by rw [FE.k]; decide, (by obtain ⟨o, es, ep, ho, hdt, _⟩ := F.ns; exact ⟨_, o, hfe, ho, fun vs q => by rw [hdt] at q; cases q⟩), hFo.kf (Kf.of_keeps (fs := []) F.keep)⟩
  have hLt : ht.get? env.locals = none := by
    cases hq : ht.get? env.locals with
    | none => rfl
    | some o => exact absurd (Nat.lt_of_lt_of_le (Heap.lt_size (kt _ o hq)) F.above) (Nat.lt_irrefl _)
  have htop : ∀ (h' : Heap), Kf (fsOf (env :: outer)) s.heap h' → GR w.params mg mb h' := fun h' kf => Gt.keeps fun b o e => kf.keep b o (fun hm => by
    rw [fsOf_cons hfe] at hm
    rcases List.mem_cons.mp hm with q | hm
    · rw [q, hLt] at e; cases e
    · rw [hot b hm] at e; cases e) (F.keep b o (kt b o e))
  refine wpAny_execs_cons ?_
  refine wpAny_Try_except ?_
  refine wpAny_execs_cons ?_
  refine wpAny_Return_some ?_
  refine WP.go ?_
  refine fk_expr FE (by kernel_rfl) (by kernel_rfl) (by kernel_rfl) G F.ns hm₁ (by rfl) (hl.at fun o e => F.keep l o e) (ha.at fun o e => F.keep a o e) hc (by omega) fun h₂ tk₂ e x => ?_
  refine caught (s := { s with heap := h₂, toks := tk₂ }) hfr hFr rfl hfe (.inl x.exc) (T := "TypeError") (by rw [isSubtype_type]; kernel_rfl) (by rw [isSubtype_type]; kernel_rfl) (by rw [isSubtype_type]; kernel_rfl) (fun s₃ Q' E' kf hq => bName FE (by kernel_rfl) (htop _ kf) (by kernel_rfl) (by decide +kernel) hq) fun h₃ x₃ => ?_
  have ns3 : h₃.Ns env.locals m := x₃.kf.ns F.ns
  have hmk : (A.mark (some (.ref e))).handled = some (.ref e) := rfl
  refine wpAny_execs_cons ?_
  refine wpAny_If ?_
  refine wpAny_isTrue_Not ?_
  refine wpAny_isTrue_value ?_ (by rfl)
  refine nmL FE (by kernel_rfl) ns3 hm₂ ?_
  refine wpAny_truthy_bool ?_
  cases b with
  | false =>
    simp only [Bool.not_false, if_true]
    refine wpAny_execs_cons ?_
    refine raise_bare hmk hfe x₃ fun h₄ x₄ => ?_
    refine note_again hfe x₄ ?_
    refine came_back (Q := Q) hfe x₄ fun h₅ x₅ => ?_
    exact hE rfl h₅ _ e x₅
  | true =>
    simp only [Bool.not_true, Bool.false_eq_true, if_false]
    refine wpAny_execs_nil ?_
    refine wpAny_execs_cons ?_
    refine wpAny_Return_some ?_
    obtain ⟨as', hc'⟩ := hone'.next hFr rfl x₃
    refine callN1 (a := 29) FE (by kernel_rfl) (htop _ x₃.kf) (by kernel_rfl) (by kernel_rfl) ?_
    refine nmL FE (by kernel_rfl) ns3 hm₁ ?_
    refine ⟨htop _ x₃.kf, ?_⟩
    have hl3 : h₃.IsList l (.ref a :: vs).toArray := x₃.kf.isList (hl.at fun o e => F.keep l o e)
    have hr3 : RowsAt h₃ (.ref a :: vs) rs := (hr.keeps F.keep).kf x₃.kf
    refine dedup_call (htop _ x₃.kf) (by exact hdp) (by show A.units + 80 < cLine; omega) (hcs := as') hc' hl3 hr3 hsz fun D vs' n h₄ tk₄ k₄ new₄ hD₄ rw₄ len₄ => ?_
    refine hQ rfl D vs' h₄ tk₄ (x₃.kf.trans (.of_keeps k₄)) ?_ ⟨_, hD₄, rfl, _, rfl⟩ (rw₄ h₄ (hr3.keeps k₄)) (by omega)
    cases q : s.heap.get? D with
    | none => rfl
    | some o =>
      exfalso
      by_cases hD : D ∈ fsOf (env :: outer)
      · obtain ⟨o', e', hn⟩ := hFr.mem D hD
        rw [q] at e'; cases e'
        obtain ⟨sl, z⟩ := x₃.kf.slots D o q hn
        rw [new₄] at z; cases z
      · have := x₃.kf.keep D o hD q
        rw [new₄] at this; cases this
end
end Mine
end

section
open PySem PySem.W PyProof.Rows PySem.Calls PySem.SeqAt
set_option maxRecDepth 100000
namespace Mine
section
variable {prog : Program} {w : World} {A : Around} {s : Shared} {E : Value → Shared → Prop} {mg mb : Str → Option Value}

theorem dd_raise {ht : Heap} {outer : List Env} {l : Addr} {v : Value} {vs : List Value} {rs : List (List Str)} {Q : Value → Shared → Prop}
    (Gt : GR w.params mg mb ht) (kt : Ext ht s.heap) (hot : ∀ b ∈ fsOf outer, ht.get? b = none) (hfr : A.frames = some outer) (hFo : Frames s.heap outer)
    (hdp : A.depth + 1 < recursionLimit) (hu : A.units + 100 < cLine) (hh : A.handled = none)
    (hl : s.heap.IsList l (v :: vs).toArray) (hr : RowsAt s.heap (v :: vs) rs) (hsz : (v :: vs).length ≤ 4096)
    (hE : ∀ h' tk e, ExcAt (fsOf outer) s.heap h' e "TypeError" .none (some .none) → E (.ref e) { s with heap := h', toks := tk }) :
    wpAny (model prog w) A (call (.ref 22) [.ref l]) Q E s := by
  have G := Gt.keeps kt
  refine wpAny_call ?_
  refine callAt (body := bodyAt 22 w.params) (binds := [(Str.ofString "params", .ref l), (Str.ofString "unhashable_fallback", .bool false)]) G (by omega) rfl rfl rfl rfl (kp_binds G.X fun S => by kernel_rfl) (by kernel_rfl) (locs (by kernel_rfl)) rfl rfl rfl rfl rfl fun env h₁ FE hL hf F => ?_
  have hfe : env.frame = some env.locals := by rw [hf, hL]
  refine WP.go ?_
  refine dd_body (b := false) (outer := outer) FE Gt kt hot (by show A.frames.map _ = _; rw [hfr]; rfl) hFo hfe (by show A.depth + 1 < recursionLimit; exact hdp) (by show A.units + 3 + 90 < cLine; omega) (.inl hh) hl hr hsz rfl rfl F (fun _ h' tk e x => ?_) (fun hb => by cases hb)
  have x' : ExcAt (fsOf (env :: outer)) h₁ h' e "TypeError" .none (some (rawInt env.locals)) := by
    have := x
    rw [show (A.deeper env).handled = none from hh] at this
    exact this
  refine leave hfe x' fun h'' x'' => ?_
  exact hE h'' tk e (x''.down hfe F.keep (by rw [hL]; exact none_at_end _))

theorem dd_list {ht : Heap} {outer : List Env} {l : Addr} {v : Value} {vs : List Value} {rs : List (List Str)} {Q : Value → Shared → Prop}
    (Gt : GR w.params mg mb ht) (kt : Ext ht s.heap) (hot : ∀ b ∈ fsOf outer, ht.get? b = none) (hfr : A.frames = some outer) (hFo : Frames s.heap outer)
    (hdp : A.depth + 1 < recursionLimit) (hu : A.units + 100 < cLine) (hone : One s.heap A.handled)
    (hl : s.heap.IsList l (v :: vs).toArray) (hr : RowsAt s.heap (v :: vs) rs) (hsz : (v :: vs).length ≤ 4096)
    (hQ : ∀ D vs' h' tk, Kf (fsOf outer) s.heap h' → s.heap.get? D = none → h'.IsList D (List.toArray vs') → RowsAt h' vs' (dd rs) → vs'.length ≤ 4096 → Q (.ref D) { s with heap := h', toks := tk }) :
    wpAny (model prog w) A (call (.ref 22) [.ref l] [(Str.ofString "unhashable_fallback", .bool true)]) Q E s := by
  have G := Gt.keeps kt
  refine wpAny_call ?_
  refine callAt (body := bodyAt 22 w.params) (binds := [(Str.ofString "params", .ref l), (Str.ofString "unhashable_fallback", .bool true)]) G (by omega) rfl rfl rfl rfl (kp_binds G.X fun S => by kernel_rfl) (by kernel_rfl) (locs (by kernel_rfl)) rfl rfl rfl rfl rfl fun env h₁ FE hL hf F => ?_
  have hfe : env.frame = some env.locals := by rw [hf, hL]
  refine wpAny_noRaise ?_
  refine WP.go ?_
  refine dd_body (b := true) (outer := outer) FE Gt kt hot (by show A.frames.map _ = _; rw [hfr]; rfl) hFo hfe (by show A.depth + 1 < recursionLimit; exact hdp) (by show A.units + 3 + 90 < cLine; omega) hone hl hr hsz rfl rfl F (fun hb => by cases hb) (fun _ D vs' h' tk k1 k2 k3 k4 k5 => ?_)
  exact hQ D vs' h' tk (k1.down hfe F.keep (by rw [hL]; exact none_at_end _)) (none_of_ext F.keep k2) k3 k4 k5
end
end Mine
end

section
open PySem PySem.W PyProof.Rows PySem.Calls PySem.SeqAt
set_option maxRecDepth 100000
namespace Mine
/-- every value of the list is an int -/
def AllInts (vs : List Value) : Prop := ∀ v ∈ vs, ∃ (x : Int) (t : Tok), v = .int x t
theorem allInts_of {vs : List Value} {ns : List Int} (h : IntsAre vs ns) : AllInts vs := by
  induction h with
  | nil => intro v hv; cases hv
  | cons n t _ ih =>
    intro v hv
    rcases List.mem_cons.mp hv with rfl | hv
    · exact ⟨n, t, rfl⟩
    · exact ih v hv
def r18 (v : Value) : Nat := match v with
  | .int x _ => (x.fmod 18).toNat
  | _ => 0
theorem r18_lt (v : Value) : r18 v < 18 := by
  unfold r18
  split
  · rename_i x t
    have h1 := Int.fmod_lt_of_pos x (show (0 : Int) < 18 by decide)
    have h2 := Int.fmod_nonneg_of_pos x (show (0 : Int) < 18 by decide)
    omega
  · omega
theorem r18_int (x : Int) (t : Tok) : ((r18 (.int x t) : Nat) : Int) = x.fmod 18 := by
  show (((x.fmod 18).toNat : Nat) : Int) = _
  have h2 := Int.fmod_nonneg_of_pos x (show (0 : Int) < 18 by decide)
  omega
theorem nums_of_paired : ∀ {vs ys : List Value}, Paired (fun v y => ∃ tk : Tok, y = .int (r18 v : Nat) tk) vs ys → NumsOf ys (vs.map r18)
  | _, _, .nil => ⟨rfl, fun i v h => by simp at h⟩
  | _, _, .cons a b => by
    obtain ⟨tk, rfl⟩ := a
    have ih := nums_of_paired b
    refine ⟨by simpa using ih.len, fun i v h => ?_⟩
    cases i with
    | zero => simp at h; exact ⟨_, tk, rfl, h.symm⟩
    | succ i => simp at h; obtain ⟨k, t, h1, h2⟩ := ih.get i v h; exact ⟨k, t, by simpa using h1, h2⟩
abbrev mod18 (a b c : Pos) : Expr := .BinOp (.Name (Str.ofString "x") a) .Mod (.Constant (.int 18) 0 b) c

section
variable {prog : Program} {w : World} {A : Around} {s : Shared} {E : Value → Shared → Prop} {env : Env} {sc : Scope} {mg mb : Str → Option Value}

theorem tableComp {l : Addr} {vs : List Value} {m : Str → Option Value} {a1 a2 a3 px b1 b2 b3 b4 b5 c1 c2 c3 c4 c5 pos : Pos} {Q : Value → Shared → Prop} (hh : A.handled = none) (FE : FEnv env sc) (hks : sc.names.lookup (Str.ofString "script") = some .local)
    (hns : s.heap.Ns env.locals m) (hm : m (Str.ofString "script") = some (.ref l)) (hl : s.heap.IsList l vs.toArray) (hI : AllInts vs) (hsz : vs.length ≤ 100)
    (h : ∀ D ys n tl h' tk, s.heap.get? D = none → Ext s.heap h' → h'.get? D = some (W.listOf (List.toArray ys) n) → NumsOf ys (0 :: 7 :: 7 :: 6 :: tl) → (∀ k ∈ tl, k < 18) → tl.length ≤ 9 → Q (.ref D) { s with heap := h', toks := tk }) :
    WP (model prog w) A (eval (.ListComp (mod18 a1 a2 a3) [⟨.Name (Str.ofString "x") px, .BinOp (.List [.Constant (.int 0) 0 b1, .Constant (.int 7) 0 b2, .Constant (.int 7) 0 b3, .Constant (.int 6) 0 b4] b5) .Add (.Subscript (.Name (Str.ofString "script") c1) (.Slice none (some (.Constant (.int 9) 0 c2)) none c3) c4) c5, [], 0⟩]
      { kind := .function, names := [(Str.ofString ".0", .local), (Str.ofString "x", .local)], isGenerator := false, isCoroutine := false } pos) env) Q E s := by
  refine ⟨?_⟩
  refine wpAny_ListComp_free (cl := []) (fun _ => true) (fun v y => ∃ tk : Tok, y = .int (r18 v : Nat) tk) rfl (by decide) rfl (by decide) rfl ?_
  refine wpAny_BinOp ?_
  refine wpAny_List ?_
  refine spl_cons ?_
  refine wpAny_Constant_int ?_
  refine spl_cons ?_
  refine wpAny_Constant_int ?_
  refine spl_cons ?_
  refine wpAny_Constant_int ?_
  refine spl_cons ?_
  refine wpAny_Constant_int ?_
  refine spl_nil ⟨by simp [sizeLine_eq], ?_⟩
  have k1 := push_keeps s.heap (W.listOf ([Value.int 0 s.toks, Value.int 7 (s.toks + 1), Value.int 7 (s.toks + 1 + 1), Value.int 6 (s.toks + 1 + 1 + 1)] : List Value).toArray 0)
  have hg1 := Heap.get?_push_size s.heap (o := W.listOf ([Value.int 0 s.toks, Value.int 7 (s.toks + 1), Value.int 7 (s.toks + 1 + 1), Value.int 6 (s.toks + 1 + 1 + 1)] : List Value).toArray 0) rfl
  refine wpAny_Subscript_list_slice ?_
  refine nmL FE hks (hns.keeps k1) hm ?_
  rw [evalPart_none, evalPart_some]
  refine wpAny_pure ?_
  refine wpAny_Constant_int ?_
  refine ⟨l, vs.toArray, none, some 9, rfl, hl.at fun o e => k1 l o e, by rw [List.size_toArray, sizeLine_eq]; omega, .none, .int _ _, ?_⟩
  have e9 : slicePick vs.toArray none (some 9) none = (vs.take 9).toArray := by
    have := slicePick_upto' vs.toArray 9
    simpa using this
  rw [e9]
  generalize hgA : s.heap.push (W.listOf ([Value.int 0 s.toks, Value.int 7 (s.toks + 1), Value.int 7 (s.toks + 1 + 1), Value.int 6 (s.toks + 1 + 1 + 1)] : List Value).toArray 0) = gA at *
  have k2 := push_keeps gA ({ cls := .type "slice", data := .fields #[.none, .int 9 (s.toks + 1 + 1 + 1 + 1), .none] } : Obj)
  generalize hgB : gA.push ({ cls := .type "slice", data := .fields #[.none, .int 9 (s.toks + 1 + 1 + 1 + 1), .none] } : Obj) = gB at *
  have hBsz : gB.objs.size = gA.objs.size + 1 := by rw [← hgB, Heap.size_push]
  have k3 := push_keeps gB (W.listOf (vs.take 9).toArray 0)
  have hg3 := Heap.get?_push_size gB (o := W.listOf (vs.take 9).toArray 0) rfl
  rw [hBsz] at hg3
  refine PySem.P.add_list (n := 0) (n2 := 0) (items := ([Value.int 0 s.toks, Value.int 7 (s.toks + 1), Value.int 7 (s.toks + 1 + 1), Value.int 6 (s.toks + 1 + 1 + 1)] : List Value).toArray) (items2 := (vs.take 9).toArray) (k3 _ _ (k2 _ _ hg1)) hg3 ?_ (by simp [sizeLine_eq]; omega)
  generalize hgC : gB.push (W.listOf (vs.take 9).toArray 0) = gC at *
  have hit : (gC.push { cls := .type "list", data := .seq (([Value.int 0 s.toks, Value.int 7 (s.toks + 1), Value.int 7 (s.toks + 1 + 1), Value.int 6 (s.toks + 1 + 1 + 1)] : List Value).toArray ++ (vs.take 9).toArray) }).IsList gC.objs.size ((Value.int 0 s.toks :: Value.int 7 (s.toks + 1) :: Value.int 7 (s.toks + 1 + 1) :: Value.int 6 (s.toks + 1 + 1 + 1) :: vs.take 9) : List Value).toArray := ⟨_, Heap.get?_push_size _ rfl, rfl, 0, by simp⟩
  have k4 := push_keeps gC ({ cls := .type "list", data := .seq (([Value.int 0 s.toks, Value.int 7 (s.toks + 1), Value.int 7 (s.toks + 1 + 1), Value.int 6 (s.toks + 1 + 1 + 1)] : List Value).toArray ++ (vs.take 9).toArray) } : Obj)
  generalize hgD : gC.push { cls := .type "list", data := .seq (([Value.int 0 s.toks, Value.int 7 (s.toks + 1), Value.int 7 (s.toks + 1 + 1), Value.int 6 (s.toks + 1 + 1 + 1)] : List Value).toArray ++ (vs.take 9).toArray) } = gD at *
  have kk : Ext s.heap gD := fun b o e => k4 b o (k3 b o (k2 b o (k1 b o e)))
  generalize hws : ((Value.int 0 s.toks :: Value.int 7 (s.toks + 1) :: Value.int 7 (s.toks + 1 + 1) :: Value.int 6 (s.toks + 1 + 1 + 1) :: vs.take 9) : List Value) = ws at *
  have hwlen : ws.length ≤ 13 := by rw [← hws]; simp; omega
  have hwI : AllInts ws := by
    rw [← hws]
    intro v hv
    simp only [List.mem_cons] at hv
    rcases hv with rfl | rfl | rfl | rfl | hv
    · exact ⟨_, _, rfl⟩
    · exact ⟨_, _, rfl⟩
    · exact ⟨_, _, rfl⟩
    · exact ⟨_, _, rfl⟩
    · exact hI v (List.mem_of_mem_take hv)
  have hwm : ws.map r18 = 0 :: 7 :: 7 :: 6 :: (vs.take 9).map r18 := by rw [← hws]; rfl
  have hlt : gC.objs.size < gD.objs.size := by obtain ⟨_, e, _⟩ := hit; exact Heap.lt_size e
  refine wpAny_pyIter_list hit ?_
  have k5 := push_keeps gD ({ cls := .type "list_iterator", data := .fields #[.ref gC.objs.size, .int 0 0] } : Obj)
  refine ⟨gD.objs.size, [gD.objs.size, gC.objs.size], [gD.objs.size], ws.toArray.size, _, _, rfl, Walks.list hh _ _ (Nat.ne_of_lt hlt) ws.toArray, (by rw [List.size_toArray, sizeLine_eq]; omega), ⟨⟨_, Heap.get?_push_size _ rfl, rfl, rfl⟩, hit.push _⟩, ?_, ⟨?_, ?_⟩, ?_⟩
  · intro b hb
    show b < (gD.push _).objs.size
    rw [Heap.size_push]
    rcases List.mem_cons.mp hb with rfl | hb
    · exact Nat.lt_succ_self _
    · rw [List.mem_singleton.mp hb]; exact Nat.lt_succ_of_lt hlt
  · intro C i v s₃ m₃ E' _ _ _ _ _ _
    exact wpAny_tests_nil ⟨rfl, s₃.heap, s₃.toks, rfl, fun _ _ e => e⟩
  · intro C i v s₃ m₃ E' _ hP _ hn₃ hm₃ _ _
    obtain ⟨x, t, rfl⟩ := hwI v (by have := Array.mem_of_getElem? hP; simpa using this)
    refine wpAny_BinOp ?_
    refine nmL (feC FE rfl) (lookup_relabel_local rfl) hn₃ hm₃ ?_
    refine wpAny_Constant_int ?_
    refine mod_int' (by decide) ?_
    rw [← r18_int x t]
    exact ⟨⟨_, rfl⟩, _, _, rfl, fun _ _ e => e⟩
  · intro D h' tk ys vs' hnew hlD hplD hlen hP hF hk
    have e : vs' = ws := by simpa using list_of_places hlen hP
    subst e
    rw [filter_tt] at hF
    obtain ⟨n, hD⟩ := hplD
    have up : Ext s.heap h' := fun b o q => hk b o (fun hb => by
      have q' := kk b o q
      rw [List.mem_singleton.mp hb, none_at_end] at q'; cases q') (k5 b o (kk b o q))
    have hN := nums_of_paired hF
    rw [hwm] at hN
    refine h D ys.toList n ((vs.take 9).map r18) h' tk (none_of_ext (fun b o q => k5 b o (kk b o q)) hnew) up (by simpa using hD) hN ?_ (by simp; omega)
    intro k hk'
    obtain ⟨v, _, rfl⟩ := List.mem_map.mp hk'
    exact r18_lt v
end
end Mine
end

section
open PySem PySem.W PyProof.Rows PySem.Calls PySem.SeqAt
set_option maxRecDepth 100000
namespace Mine
section
variable {prog : Program} {w : World} {A : Around} {s : Shared} {E : Value → Shared → Prop} {env : Env} {sc : Scope} {mg mb : Str → Option Value}

def MadeRow (s s₄ : Shared) (k : Nat) (y : Value) : Prop := (∃ T its, y = .ref T ∧ s.heap.get? T = none ∧ s₄.heap.IsList T its ∧ StrsAre its.toList (pcs k)) ∧ Keeps s s₄

theorem parts_expr {k : Nat} {tk : Tok} {m : Str → Option Value} {p1 p2 p4 : Pos} (FE : FEnv env sc) (hx : sc.names.lookup (Str.ofString "x") = some .local) (hg : sc.names.lookup (Str.ofString "_law_parts") = some .globalImplicit)
    (G : GR w.params mg mb s.heap) (hdp : A.depth < recursionLimit) (hk : k < 18) (hns : s.heap.Ns env.locals m) (hm : m (Str.ofString "x") = some (.int k tk)) :
    WP (model prog w) A (eval (.Call (.Name (Str.ofString "_law_parts") p1) [.Name (Str.ofString "x") p2] [] p4) env) (fun y s₄ => MadeRow s s₄ k y) E s := by
  refine ⟨?_⟩
  refine callN1 (a := 57) FE hg G (by kernel_rfl) (by kernel_rfl) ?_
  refine nmL FE hx hns hm ?_
  refine ⟨G, ?_⟩
  refine parts_call G hdp hk fun D h' tk' hk' hnew hr => ?_
  obtain ⟨its, h1, h2⟩ := hr.strs
  exact ⟨⟨D, its, rfl, hnew, h1, h2⟩, h', tk', rfl, hk'⟩

theorem decode_expr {k : Nat} {tk : Tok} {m : Str → Option Value} {p1 p2 p4 q1 q2 q3 q4 q5 : Pos} (FE : FEnv env sc) (hx : sc.names.lookup (Str.ofString "x") = some .local) (hg : sc.names.lookup (Str.ofString "_law_parts") = some .globalImplicit) (hgd : sc.names.lookup (Str.ofString "decode_rfc2231") = some .globalImplicit)
    (G : GR w.params mg mb s.heap) (hdp : A.depth < recursionLimit) (hk : k < 18) (hns : s.heap.Ns env.locals m) (hm : m (Str.ofString "x") = some (.int k tk)) (hline : (q3.endLine == q4.line) = true) :
    WP (model prog w) A (eval (.Call (.Name (Str.ofString "decode_rfc2231") q1) [.Call (.Attribute (.Constant (.str (Str.ofString "'")) 0 q2) (Str.ofString "join") q3) [.Call (.Name (Str.ofString "_law_parts") p1) [.Name (Str.ofString "x") p2] [] p4] [] q4] [] q5) env) (fun y s₄ => MadeRow s s₄ k y) E s := by
  refine ⟨?_⟩
  refine callN1 (a := 43) FE hgd G (by kernel_rfl) (by kernel_rfl) ?_
  refine wpAny_Call_method1_late rfl hline rfl ?_
  refine wpAny_Constant_str ?_
  refine ⟨"str", "str.join", PySem.F.plainAttrs_str, PySem.F.slot_str_join, PySem.F.type_str_join, typeIs_str _ _ _, (fun a ha => by cases ha), ?_⟩
  refine Calls.callWith_builtin rfl (evalArgs_plain (spliced_cons ?_))
  refine callN1 (a := 57) FE hg G (by kernel_rfl) (by kernel_rfl) ?_
  refine nmL FE hx hns hm ?_
  refine ⟨G, ?_⟩
  refine parts_call G hdp hk fun D h' tk' hk' hnew hr => ?_
  refine spliced_nil ?_
  obtain ⟨a, b, c, t1, t2, t3, n, hp, hD⟩ := hr
  refine SC.join (l := [(a, t1), (b, t2), (c, t3)]) (texts := pcs k) ⟨_, hD, rfl, _, rfl⟩ (by rw [hp]; rfl) (jn_ok k hk) fun t' kk => ?_
  refine ⟨G.keeps hk', ?_⟩
  refine decode_call (G.keeps hk') hdp hk fun D₂ h₂ tk₂ hk₂ hnew₂ hr₂ => ?_
  obtain ⟨its, h1, h2⟩ := hr₂.strs
  exact ⟨⟨D₂, its, rfl, none_of_ext hk' hnew₂, h1, h2⟩, h₂, tk₂, rfl, fun b o e => hk₂ b o (hk' b o e)⟩

abbrev RelP (v : Value) (r : List Str) : Prop := ∀ (k : Nat) (t : Tok), v = .int k t → r = pcs k
theorem rows_of_nums : ∀ {vs : List Value} {rs : List (List Str)} {ks : List Nat}, Paired RelP vs rs → NumsOf vs ks → rs = ks.map pcs
  | _, _, ks, .nil, hN => by
    have := hN.len
    cases ks with
    | nil => rfl
    | cons => simp at this
  | _, _, ks, .cons (a := v) (l₁ := vs) a b, hN => by
    obtain ⟨k, t, h1, h2⟩ := hN.get 0 v rfl
    cases ks with
    | nil => simp at h1
    | cons k' ks' =>
      simp at h1
      subst h1
      have hN' : NumsOf vs ks' := ⟨by have := hN.len; simpa using this, fun i u hu => by obtain ⟨k, t, q1, q2⟩ := hN.get (i + 1) u (by simpa using hu); exact ⟨k, t, by simpa using q1, q2⟩⟩
      rw [List.map_cons, ← rows_of_nums b hN', a _ t h2]

/-- the element of a comprehension over the table makes the row of x -/
theorem elt_of {scope : Scope} {cl : List (Str × Addr)} {elt : Expr} {vs : List Value} {ks : List Nat} {h₁ : Heap} (hN : NumsOf vs ks) (hks : ∀ k ∈ ks, k < 18)
    (he : ∀ (C : Addr) (k : Nat) (tk : Tok) (s₃ : Shared) (m₃ : Str → Option Value) (E' : Value → Shared → Prop), k < 18 → s₃.heap.Ns C m₃ → m₃ (Str.ofString "x") = some (.int k tk) → Ext h₁ s₃.heap →
      WP (model prog w) A (eval elt (compEnvC scope cl C env)) (fun y s₄ => MadeRow s₃ s₄ k y) E' s₃) :
    CompElt prog w A env scope cl (Str.ofString "x") elt vs RelP h₁ := by
  intro C i v s₃ m₃ E' hv hn hm hk
  obtain ⟨k, t, h1, rfl⟩ := hN.get i v hv
  have hlt := hks k (List.mem_of_getElem? h1)
  refine wpAny_mono (he C k t s₃ m₃ E' hlt hn hm hk).go (fun y s₄ hy => ?_) fun _ _ x => x
  obtain ⟨⟨T, its, rfl, q1, q2, q3⟩, q4⟩ := hy
  refine ⟨⟨T, its, pcs k, rfl, q1, q2, ?_, q3, pcs_ok k hlt⟩, q4⟩
  intro k' t' e
  injection e with e1 e2
  have : k = k' := by omega
  rw [this]
end
end Mine
end

section
open PySem PySem.W PyProof.Rows PySem.Calls PySem.SeqAt
set_option maxRecDepth 100000
namespace Mine
def rows2d (rs : List (List Str)) : PyData := .list (rs.map row2d)
theorem rows_eqvAll : ∀ a b : List (List Str), PyData.eqvAll (a.map row2d) (b.map row2d) = decide (a = b)
  | [], [] => by simp [PyData.eqvAll]
  | [], _ :: _ => by simp [PyData.eqvAll]
  | _ :: _, [] => by simp [PyData.eqvAll]
  | x :: a, y :: b => by
    simp only [List.map_cons, PyData.eqvAll, row_eqv, rows_eqvAll a b]
    by_cases h1 : x = y <;> by_cases h2 : a = b <;> simp [h1, h2]
theorem rows_eqv (a b : List (List Str)) : PyData.eqv (rows2d a) (rows2d b) = decide (a = b) := by simp [rows2d, PyData.eqv, rows_eqvAll]
theorem rows_depthAll : ∀ a : List (List Str), PyData.depthAll (a.map row2d) ≤ 2
  | [] => by simp [PyData.depthAll]
  | x :: a => by
    have h1 := row_depth x
    have h2 := rows_depthAll a
    simp only [List.map_cons, PyData.depthAll]; omega
theorem rows_depth (a : List (List Str)) : (rows2d a).depth ≤ 3 := by have := rows_depthAll a; simp [rows2d, PyData.depth]; omega
theorem rows_lay {rs : List (List Str)} (h : ∀ r ∈ rs, RowOk r) : (rows2d rs).canLay0 = true := by simp [rows2d, PyData.canLay0, rows_canLay rs h]
theorem RowsAt.reads {h : Heap} {l : Addr} {vs : List Value} {rs : List (List Str)} (x : RowsAt h vs rs) (hl : h.IsList l vs.toArray) : ∃ bs, Reads h (.ref l) (rows2d rs) bs := by
  obtain ⟨_, as, r⟩ := x
  obtain ⟨o, ho, hc, n, hd⟩ := hl
  exact ⟨_, reads_list_at ho hc hd (by simpa using r)⟩

section
variable {prog : Program} {w : World} {A : Around} {s : Shared} {E : Value → Shared → Prop} {env : Env} {sc : Scope} {mg mb : Str → Option Value}

theorem law_rows {h₀ : Heap} {T c : Addr} {vs : List Value} {ks : List Nat} {m : Str → Option Value} {p0 p1 p2 p4 q1 q2 q3 q4 q5 px pt pos spos : Pos} {Q : Flow → Shared → Prop} (hh : A.handled = none) (FE : FEnv env sc)
    (hkt : sc.names.lookup (Str.ofString "table") = some .cell) (hkr : sc.names.lookup (Str.ofString "rows") = some .local) (hct : env.cells.lookup (Str.ofString "table") = some c) (hv : s.heap.IsCell c (some (.ref T)))
    (hl : s.heap.IsList T vs.toArray) (hN : NumsOf vs ks) (hks : ∀ k ∈ ks, k < 18) (hsz : vs.length ≤ 100) (G : GR w.params mg mb s.heap) (hdp : A.depth < recursionLimit) (F : Fr h₀ env.locals s.heap m)
    (hl1 : (p0.line == pos.line) = true) (hl2 : (q3.endLine == q4.line) = true)
    (h : ∀ D ys n h' tk, s.heap.get? D = none → (∀ b o, b ≠ env.locals → s.heap.get? b = some o → h'.get? b = some o) → Fr h₀ env.locals h' (fun z => if z = Str.ofString "rows" then some (.ref D) else m z) → h'.get? D = some (W.listOf (List.toArray ys) n) → D ≠ env.locals → RowsAt h' ys (ks.map pcs) → Q .next { s with heap := h', toks := tk }) :
    WP (model prog w) A (exec (.Assign [.Name (Str.ofString "rows") p0] (.ListComp (.Call (.Name (Str.ofString "decode_rfc2231") q1) [.Call (.Attribute (.Constant (.str (Str.ofString "'")) 0 q2) (Str.ofString "join") q3) [.Call (.Name (Str.ofString "_law_parts") p1) [.Name (Str.ofString "x") p2] [] p4] [] q4] [] q5) [⟨.Name (Str.ofString "x") px, .Name (Str.ofString "table") pt, [], 0⟩]
      { kind := .function, names := [(Str.ofString ".0", .local), (Str.ofString "x", .local), (Str.ofString "decode_rfc2231", .globalImplicit), (Str.ofString "_law_parts", .globalImplicit)], isGenerator := false, isCoroutine := false } pos) spos) env) Q E s := by
  refine ⟨?_⟩
  refine assign_comp_rows (h₀ := h₀) (m := m) (cl := []) RelP hh FE ?_ hkr rfl rfl rfl (by kernel_rfl) rfl ?_
  · have h1 : env.blockKind = .function := by unfold Env.blockKind; rw [FE.k]; rfl
    unfold swapsWith
    simp only [h1, FE.kd _ hkr]
    show (pure (_ && _ && (p0.line == pos.line) && _) : Sem Bool) = pure true
    rw [hl1]
    kernel_rfl
  refine nmC FE hkt hct hv ?_
  refine ⟨T, vs, rfl, hl, by omega, F, ?_, ?_⟩
  · refine elt_of hN hks fun C k tk s₃ m₃ E' hk hn₃ hm₃ e3 => ?_
    exact decode_expr (feC FE rfl) (lookup_relabel_local rfl) (relabel_glob rfl) (relabel_glob rfl) (G.keeps e3) hdp hk hn₃ hm₃ hl2
  · intro D ys n rs h' tk hnew hk F' hD hDL hp hr
    have e := rows_of_nums hp hN
    subst e
    exact h D ys n h' tk hnew hk F' hD hDL hr

/-- [_law_parts(x) for x in table] -/
theorem partsComp {T c : Addr} {vs : List Value} {ks : List Nat} {p1 p2 p4 px pt pos : Pos} {Q : Value → Shared → Prop} (hh : A.handled = none) (FE : FEnv env sc)
    (hkt : sc.names.lookup (Str.ofString "table") = some .cell) (hct : env.cells.lookup (Str.ofString "table") = some c) (hv : s.heap.IsCell c (some (.ref T)))
    (hl : s.heap.IsList T vs.toArray) (hN : NumsOf vs ks) (hks : ∀ k ∈ ks, k < 18) (hsz : vs.length ≤ 100) (G : GR w.params mg mb s.heap) (hdp : A.depth < recursionLimit)
    (h : ∀ D ys n h' tk, s.heap.get? D = none → Ext s.heap h' → h'.get? D = some (W.listOf (List.toArray ys) n) → RowsAt h' ys (ks.map pcs) → Q (.ref D) { s with heap := h', toks := tk }) :
    WP (model prog w) A (eval (.ListComp (.Call (.Name (Str.ofString "_law_parts") p1) [.Name (Str.ofString "x") p2] [] p4) [⟨.Name (Str.ofString "x") px, .Name (Str.ofString "table") pt, [], 0⟩]
      { kind := .function, names := [(Str.ofString ".0", .local), (Str.ofString "x", .local), (Str.ofString "_law_parts", .globalImplicit)], isGenerator := false, isCoroutine := false } pos) env) Q E s := by
  refine ⟨?_⟩
  refine comp_rows (cl := []) RelP hh rfl rfl rfl (by kernel_rfl) rfl ?_
  refine nmC FE hkt hct hv ?_
  refine ⟨T, vs, rfl, hl, by omega, ?_, ?_⟩
  · refine elt_of hN hks fun C k tk s₃ m₃ E' hk hn₃ hm₃ e3 => ?_
    exact parts_expr (feC FE rfl) (lookup_relabel_local rfl) (relabel_glob rfl) (G.keeps e3) hdp hk hn₃ hm₃
  · intro D ys n rs h' tk hnew hk hD hp hr
    have e := rows_of_nums hp hN
    subst e
    exact h D ys n h' tk hnew hk hD hr
end
end Mine
end

section
open PySem PySem.W PyProof.Rows PySem.Calls PySem.SeqAt
set_option maxRecDepth 100000
namespace Mine
theorem strs_append {b : List Value} {q : List Str} : ∀ {a : List Value} {r : List Str}, StrsAre a r → StrsAre b q → StrsAre (a ++ b) (r ++ q)
  | _, _, .nil, y => y
  | _, _, .cons x t h, y => .cons x t (strs_append h y)
theorem strs_rev : ∀ {a : List Value} {r : List Str}, StrsAre a r → StrsAre a.reverse r.reverse
  | _, _, .nil => .nil
  | _, _, .cons x t h => by
    rw [List.reverse_cons, List.reverse_cons]
    exact strs_append (strs_rev h) (.cons x t .nil)
section
variable {prog : Program} {w : World} {A : Around} {s : Shared} {E : Value → Shared → Prop} {env : Env} {sc : Scope} {mg mb : Str → Option Value}

theorem revComp {l : Addr} {vs : List Value} {rs : List (List Str)} {m : Str → Option Value} {p1 p2 p3 p4 p5 px pt pos : Pos} {Q : Value → Shared → Prop} (hh : A.handled = none) (FE : FEnv env sc)
    (hkr : sc.names.lookup (Str.ofString "rows") = some .local) (hns : s.heap.Ns env.locals m) (hm : m (Str.ofString "rows") = some (.ref l)) (hl : s.heap.IsList l vs.toArray) (hr : RowsAt s.heap vs rs) (hsz : vs.length ≤ 4096) (hlen : ∀ r ∈ rs, r.length ≤ 100)
    (h : ∀ D ys n h' tk, s.heap.get? D = none → Ext s.heap h' → h'.get? D = some (W.listOf (List.toArray ys) n) → RowsAt h' ys (rs.map List.reverse) → Q (.ref D) { s with heap := h', toks := tk }) :
    WP (model prog w) A (eval (.ListComp (.Subscript (.Name (Str.ofString "row") p1) (.Slice none none (some (.UnaryOp .USub (.Constant (.int 1) 0 p2) p3)) p4) p5) [⟨.Name (Str.ofString "row") px, .Name (Str.ofString "rows") pt, [], 0⟩]
      { kind := .function, names := [(Str.ofString ".0", .local), (Str.ofString "row", .local)], isGenerator := false, isCoroutine := false } pos) env) Q E s := by
  refine ⟨?_⟩
  refine comp_rows (cl := []) (fun v r' => ∀ r bs, RowOk r → Reads s.heap v (row2d r) bs → r' = List.reverse r) hh rfl rfl rfl (by kernel_rfl) rfl ?_
  refine nmL FE hkr hns hm ?_
  refine ⟨l, vs, rfl, hl, hsz, ?_, ?_⟩
  · intro C i v s₃ m₃ E' hv hn hmx hk
    obtain ⟨r, bs, hri, hok, hrd⟩ := hr.get hv
    obtain ⟨bs₃, hrd₃⟩ := reads_sk (SK.of_ext hk) hrd
    obtain ⟨a, its, rfl, hla, hst⟩ := row_list hrd₃
    have hszr : its.size ≤ 100 := by
      have h1 := hlen r (List.mem_of_getElem? hri)
      have h2 := hst.length
      rw [Array.length_toList] at h2; omega
    refine wpAny_Subscript_Slice_step (T := "list") list_getitem_lookup ?_
    refine nmL (feC FE rfl) (lookup_relabel_local rfl) hn hmx ?_
    refine wpAny_Slice ?_
    rw [evalPart_none, evalPart_some]
    refine wpAny_pure ?_
    refine wpAny_pure ?_
    refine wpAny_UnaryOp ?_
    refine wpAny_Constant_int ?_
    refine neg_int ?_
    refine ⟨(hla.push _).typeIs, ?_⟩
    refine wpAny_getItem_list_slice (hla.push _) (Heap.IsSliceOf.new ..) .none .none (.int _ _) (by simp) ?_ (by rw [sizeLine_eq]; omega)
    rw [krv_pick]
    refine ⟨⟨_, _, r.reverse, rfl, ?_, ⟨_, Heap.get?_push_size _ rfl, rfl, 0, rfl⟩, ?_, ?_, fun x hx => hok x (List.mem_reverse.mp hx)⟩, _, _, rfl, fun b o e => push_keeps _ _ b o (push_keeps _ _ b o e)⟩
    · exact none_of_ext (push_keeps _ _) (none_at_end _)
    · intro r₂ bs₂ ok₂ hrd₂
      have := SeqAt.Reads.unique _ _ _ _ _ (row_canLay hok) hrd hrd₂
      have h2 := row_eqv r r₂
      rw [← this, row_eqv] at h2
      have : r = r₂ := by simpa using h2
      rw [this]
    · simpa using strs_rev hst
  · intro D ys n rs' h' tk hnew hext hD hp hrows
    have e := paired_map (h₀ := s.heap) (f := List.reverse) hp hr
    subst e
    exact h D ys n h' tk hnew hext hD hrows
end
end Mine
end

section
open PySem PySem.W PyProof.Rows PySem.Calls PySem.SeqAt
set_option maxRecDepth 100000
namespace Mine
theorem gone_st {h h' : Heap} {X : List Addr} (k : St X h h') : Ext (TI.gone h X) (TI.gone h' X) := fun b o e => by
  obtain ⟨hb, e'⟩ := TI.gone_some e
  rw [TI.gone_get hb]; exact k b o hb e'
theorem ints_of_nums : ∀ {vs : List Value} {ks : List Nat}, NumsOf vs ks → IntsAre vs (ks.map fun (k : Nat) => (k : Int))
  | [], ks, h => by
    have := h.len
    cases ks with
    | nil => exact .nil
    | cons => simp at this
  | v :: vs, ks, h => by
    obtain ⟨k, t, h1, rfl⟩ := h.get 0 v rfl
    cases ks with
    | nil => simp at h1
    | cons k' ks' =>
      simp at h1; subst h1
      exact .cons _ _ (ints_of_nums ⟨by have := h.len; simpa using this, fun i u hu => by obtain ⟨k, t, q1, q2⟩ := h.get (i + 1) u (by simpa using hu); exact ⟨k, t, by simpa using q1, q2⟩⟩)
theorem NumsOf.take {vs : List Value} {ks : List Nat} (h : NumsOf vs ks) (i : Nat) : NumsOf (vs.take i) (ks.take i) := by
  refine ⟨by rw [List.length_take, List.length_take, h.len], fun j v hv => ?_⟩
  rw [List.getElem?_take] at hv
  split at hv
  · rename_i hj
    obtain ⟨k, t, q1, q2⟩ := h.get j v hv
    exact ⟨k, t, by rw [List.getElem?_take, if_pos hj]; exact q1, q2⟩
  · cases hv
section
variable {prog : Program} {w : World} {A : Around} {s : Shared} {E : Value → Shared → Prop} {R : Result → Shared → Prop} {env : Env} {sc : Scope} {mg mb : Str → Option Value}

abbrev firstsScope : Scope := { kind := .function, names := [(Str.ofString ".0", .local), (Str.ofString "place", .local), (Str.ofString "x", .local), (Str.ofString "_law_parts", .globalImplicit), (Str.ofString "table", .free)], isGenerator := false, isCoroutine := false }

theorem firsts_loop {T c C e it D : Addr} {vs : List Value} {ks : List Nat} {m : Str → Option Value} {iter : Expr} {kk : Nat} {p1 p2 p4 a1 a2 a3 b1 b2 b3 b4 b5 b6 pos : Pos} (hh : A.handled = none) (FE : FEnv env sc)
    (hkt : sc.names.lookup (Str.ofString "table") = some .cell) (hN : NumsOf vs ks) (hks : ∀ k ∈ ks, k < 18) (hsz : vs.length ≤ 100) (hdp : A.depth < recursionLimit)
    {h₀ : Heap} (G : GR w.params mg mb h₀) (hv : h₀.IsCell c (some (.ref T))) (hl : h₀.IsList T vs.toArray) (k₀ : St [C, e, it, D] h₀ s.heap) (f₀ : ∀ b ∈ [C, e, it, D], h₀.get? b = none)
    (hei : e ≠ it) (heT : T ≠ e) (hiT : T ≠ it) (hCe : C ≠ e) (hCi : C ≠ it) (hDe : D ≠ e) (hDi : D ≠ it) (hDC : D ≠ C)
    (hst : (∃ old, IsEnum s.heap e it 0 old) ∧ s.heap.IsListIter it T 0) (hacc : s.heap.get? D = some (W.listOf ([] : List Value).toArray 0)) (hn : s.heap.Ns C m)
    (hR : ∀ h' tk m' ys n, h'.Ns C m' → h'.get? D = some (W.listOf (List.toArray ys) n) → RowsAt (TI.gone h' [C, e, it, D]) ys ((dd ks).map pcs) → St [C, e, it, D] h₀ h' → R (.ok .next) { s with heap := h', toks := tk }) :
    codeAny (model prog w) A (.compLoop (.ListComp (.Call (.Name (Str.ofString "_law_parts") p1) [.Name (Str.ofString "x") p2] [] p4) [⟨.Tuple [.Name (Str.ofString "place") a1, .Name (Str.ofString "x") a2] kk a3, iter,
      [.Compare (.Name (Str.ofString "x") b1) [.NotIn] [.Subscript (.Name (Str.ofString "table") b2) (.Slice none (some (.Name (Str.ofString "place") b3)) none b4) b5] b6], 0⟩] firstsScope pos) 0 (.ref e) (.ref D) (compEnvC firstsScope [(Str.ofString "table", c)] C env)) R s := by
  have FC : FEnv (compEnvC firstsScope [(Str.ofString "table", c)] C env) (relabel firstsScope env) := feC FE rfl
  have WT := WalksT.enumerate (prog := prog) (w := w) (A := A) hh e it T hei heT hiT vs.toArray
  have hT0 : ∀ {h' : Heap}, St [C, e, it, D] h₀ h' → h'.IsList T vs.toArray := fun st => hl.at fun o q => st T o (fun hm => by have := f₀ T hm; rw [this] at q; cases q) q
  have hG : ∀ {h' : Heap}, St [C, e, it, D] h₀ h' → Ext h₀ h' := fun st b o q => st b o (fun hm => by have := f₀ b hm; rw [this] at q; cases q) q
  refine kct_loop (fun k s' => ∃ h' tk m' ys n i, s' = { s with heap := h', toks := tk } ∧ ((∃ old, IsEnum h' e it (i : Nat) old) ∧ h'.IsListIter it T i ∧ h'.IsList T vs.toArray) ∧ h'.Ns C m' ∧ h'.get? D = some (W.listOf (List.toArray ys) n) ∧ RowsAt (TI.gone h' [C, e, it, D]) ys ((dd (ks.take i)).map pcs) ∧ ys.length ≤ i ∧
      i ≤ vs.length ∧ k = vs.length + 1 - i ∧ St [C, e, it, D] h₀ h') ?_ (vs.length + 1)
    ⟨s.heap, s.toks, m, [], 0, 0, rfl, ⟨hst.1, hst.2, hT0 k₀⟩, hn, hacc, RowsAt.nil, Nat.le_refl _, Nat.zero_le _, rfl, k₀⟩
  rintro k s' ⟨H, tk, m', ys, n, i, rfl, hst', hn', hD', hrows, hlen, hi, rfl, hk⟩
  by_cases hlt : i < vs.length
  · refine WT.item i _ _ _ (by simpa using hlt) hst' fun Tp vals h₁ tk₁ hP hTn hTup hMid hk₁ => ?_
    obtain ⟨t, v, hvi, rfl⟩ := hP
    have hvi' : vs[i]? = some v := by simpa using hvi
    obtain ⟨x, tx, hki, rfl⟩ := hN.get i v hvi'
    have hx18 := hks x (List.mem_of_getElem? hki)
    have hTw := WT.apart i Tp h₁ hMid
    refine WT.go _ _ _ i Tp _ _ _ hMid fun h₂ hst₂ hk₂ => ?_
    have hTup₂ : IsTup h₂ Tp #[.int (i : Nat) t, .int x tx] := by obtain ⟨o, ho, hc, q⟩ := hTup; exact ⟨o, hk₂ Tp o hTw ho, hc, q⟩
    dsimp only at hk₁ hk₂ hst₂ ⊢
    have hCw : C ∉ [e, it] := by simp [hCe, hCi]
    have hDw : D ∉ [e, it] := by simp [hDe, hDi]
    have k02 : ∀ b o, b ∉ [e, it] → H.get? b = some o → h₂.get? b = some o := fun b o hb q => hk₂ b o hb (hk₁ b o hb q)
    refine assign_pair hh (.inl hTup₂) rfl fun h₃ k₃ => ?_
    have n3 : h₃.Ns C m' := (hn'.at' fun o q => k02 C o hCw q).keeps k₃
    refine wpAny_assign_Name (stN FC (lookup_relabel_local rfl) n3 fun h₄ n4 s4 => ?_)
    refine wpAny_assign_Name (stN FC (lookup_relabel_local rfl) n4 fun h₅ n5 s5 => ?_)
    dsimp only at n4 n5 s4 s5 ⊢
    have s4' : Heap.SameBut C h₃ h₄ := s4
    have s5' : Heap.SameBut C h₄ h₅ := s5
    have k25 : ∀ b o, b ≠ C → h₂.get? b = some o → h₅.get? b = some o := fun b o hb q => s5'.extBut b o hb (s4'.extBut b o hb (k₃ b o q))
    have st05 : St [C, e, it, D] H h₅ := fun b o hb q => by
      simp only [List.mem_cons, List.not_mem_nil, or_false, not_or] at hb
      exact k25 b o hb.1 (k02 b o (by simp [hb.2.1, hb.2.2.1]) q)
    have hst₅ := WT.frame _ _ h₅ hst₂ fun b hb o q => k25 b o (by
      simp only [List.mem_cons, List.not_mem_nil, or_false] at hb
      rcases hb with rfl | rfl | rfl
      · exact Ne.symm hCe
      · exact Ne.symm hCi
      · rintro rfl
        obtain ⟨oL, es, ep, ho, hd, _⟩ := hn'
        obtain ⟨o', q', _, n', h2⟩ := hst'.2.2
        rw [ho] at q'; cases q'; rw [hd] at h2; cases h2) q
    have st5 : St [C, e, it, D] h₀ h₅ := hk.trans st05
    have hD5 : h₅.get? D = some (W.listOf (List.toArray ys) n) := k25 D _ hDC (k02 D _ hDw hD')
    have hcell5 : h₅.IsCell c (some (.ref T)) := cell_at hv fun o q => hG st5 c o q
    refine wpAny_isTrue_Compare1 ?_
    refine nmL FC (lookup_relabel_local rfl) n5 (v := .int x tx) rfl ?_
    refine wpAny_Subscript_list_slice ?_
    refine nmC FC (relabel_cell rfl FE.k (FE.kd _ hkt)) (c := c) rfl hcell5 ?_
    rw [evalPart_none, evalPart_some]
    refine wpAny_pure ?_
    refine nmL FC (lookup_relabel_local rfl) n5 (v := .int (i : Nat) t) rfl ?_
    refine ⟨T, vs.toArray, none, some (i : Nat), rfl, hst₅.2.2, by rw [List.size_toArray, sizeLine_eq]; omega, .none, .int _ _, ?_⟩
    rw [slicePick_upto']
    have ka := push_keeps h₅ ({ cls := .type "slice", data := .fields #[.none, .int (i : Nat) t, .none] } : Obj)
    generalize hga : h₅.push ({ cls := .type "slice", data := .fields #[.none, .int (i : Nat) t, .none] } : Obj) = ga at *
    have hgas : ga.objs.size = h₅.objs.size + 1 := by rw [← hga, Heap.size_push]
    have kb := push_keeps ga ({ cls := .type "list", data := .seq (vs.toArray.toList.take i).toArray } : Obj)
    have hgb := Heap.get?_push_size ga (o := ({ cls := .type "list", data := .seq (vs.toArray.toList.take i).toArray } : Obj)) rfl
    rw [hgas] at hgb
    refine notin_list_ints (vs := vs.take i) (ns := (ks.take i).map fun (k : Nat) => (k : Int)) ⟨_, hgb, rfl, 0, by simp⟩ (ints_of_nums (hN.take i)) ?_
    refine wpAny_truthy_bool ?_
    have k5b : Ext h₅ (ga.push ({ cls := .type "list", data := .seq (vs.toArray.toList.take i).toArray } : Obj)) := fun b o q => kb b o (ka b o q)
    have hany : ((ks.take i).map fun (k : Nat) => (k : Int)).any (· == (x : Int)) = decide (x ∈ dd (ks.take i)) := by
      rw [List.any_map]
      by_cases hin : x ∈ ks.take i
      · rw [decide_eq_true (mem_dd.mpr hin)]
        exact List.any_eq_true.mpr ⟨x, hin, by simp⟩
      · rw [decide_eq_false fun q => hin (mem_dd.mp q)]
        refine List.any_eq_false.mpr fun y hy => ?_
        have : y ≠ x := fun q => hin (q ▸ hy)
        simp only [Function.comp, beq_iff_eq]; omega
    rw [hany]
    have htk : ks.take (i + 1) = ks.take i ++ [x] := take_snoc hki
    generalize hgc : ga.push ({ cls := .type "list", data := .seq (vs.toArray.toList.take i).toArray } : Obj) = gc at *
    have st0c : St [C, e, it, D] H gc := st05.trans fun b o _ q => k5b b o q
    have hstc := WT.frame _ _ gc hst₅ fun b _ o q => k5b b o q
    have rowsc := hrows.keeps (gone_st st0c)
    by_cases hin : x ∈ dd (ks.take i)
    · simp only [hin, decide_true, Bool.not_true, Bool.false_eq_true, if_false]
      refine ⟨vs.length + 1 - (i + 1), by omega, gc, _, _, ys, n, i + 1, rfl, hstc, n5.keeps k5b, k5b D _ hD5, ?_, by omega, hlt, rfl, hk.trans st0c⟩
      rw [htk, dd_snoc, if_pos hin]; exact rowsc
    · simp only [hin, decide_false, Bool.not_false, if_true]
      refine wpAny_mono (Q := fun y s₄ => MadeRow _ s₄ x y) (WP.go (parts_expr FC (lookup_relabel_local rfl) (relabel_glob rfl) (G.keeps (hG (hk.trans st0c))) hdp hx18 (n5.keeps k5b) rfl)) (fun y s₄ hy => ?_) fun _ _ z => z
      obtain ⟨⟨Tn, its, rfl, hTnew, hTl, hTs⟩, h₆, tk₆, rfl, hk₆⟩ := hy
      dsimp only at hTnew hTl hk₆ ⊢
      have hD6 := hk₆ D _ (k5b D _ hD5)
      refine append_at hD6 (hsz := by show ys.toArray.size ≤ sizeLine; rw [List.size_toArray, sizeLine_eq]; omega) fun h₇ hs₇ hD₇ => ?_
      have hTD : Tn ≠ D := fun q => by rw [q, k5b D _ hD5] at hTnew; cases hTnew
      have hTX : Tn ∉ [C, e, it, D] := by
        simp only [List.mem_cons, List.not_mem_nil, or_false, not_or]
        refine ⟨fun q => ?_, fun q => ?_, fun q => ?_, hTD⟩
        · obtain ⟨oL, es, ep, ho, _⟩ := n5.keeps k5b; rw [q] at hTnew; rw [show (compEnvC firstsScope [(Str.ofString "table", c)] C env).locals = C from rfl] at ho; rw [ho] at hTnew; cases hTnew
        · obtain ⟨old, ho⟩ := hstc.1; rw [q, ho] at hTnew; cases hTnew
        · obtain ⟨o, ho, _⟩ := hstc.2.1; rw [q, ho] at hTnew; cases hTnew
      have st07 : St [C, e, it, D] gc h₇ := fun b o hb q => hs₇.extBut b o (fun z => hb (by simp [z])) (hk₆ b o q)
      refine ⟨vs.length + 1 - (i + 1), by omega, h₇, _, _, ys ++ [.ref Tn], n + 1, i + 1, rfl, ?_, (((n5.keeps k5b).keeps hk₆).sameBut hs₇ (Ne.symm hDC)), by simpa using hD₇, ?_, by simp; omega, hlt, rfl, (hk.trans st0c).trans st07⟩
      · exact WT.frame _ _ h₇ hstc fun b hb o q => hs₇.extBut b o (fun z => by
          simp only [List.mem_cons, List.not_mem_nil, or_false] at hb
          rcases hb with rfl | rfl | rfl
          · exact hDe z.symm
          · exact hDi z.symm
          · obtain ⟨o', q', hc', n', h2⟩ := hstc.2.2
            have := f₀ D (by simp)
            obtain ⟨oT, hoT, _⟩ := hl
            rw [z, this] at hoT; cases hoT) (hk₆ b o q)
      · rw [htk, dd_snoc, if_neg hin, List.map_append]
        have hT7 : (TI.gone h₇ [C, e, it, D]).IsList Tn its := by
          obtain ⟨o, ho, q⟩ := hTl
          exact ⟨o, by rw [TI.gone_get hTX]; exact hs₇.extBut _ _ hTD ho, q⟩
        obtain ⟨bs, hrd⟩ := strs_reads hT7 hTs
        exact RowsAt.append (rowsc.keeps (gone_st st07)) (RowsAt.one (pcs_ok x hx18) hrd)
  · have hin : i = vs.length := by omega
    subst hin
    refine WT.done _ _ _ (by simpa using hst') fun h₁ tk₁ hk₁ => ?_
    have st01 : St [C, e, it, D] H h₁ := fun b o hb q => hk₁ b o (fun z => hb (by
      simp only [List.mem_cons, List.not_mem_nil, or_false] at z ⊢
      rcases z with rfl | rfl
      · exact .inr (.inl rfl)
      · exact .inr (.inr (.inl rfl)))) q
    have hfull : ks.take vs.length = ks := List.take_of_length_le (by rw [hN.len]; exact Nat.le_refl _)
    rw [hfull] at hrows
    exact hR h₁ tk₁ m' ys n (hn'.at' fun o q => hk₁ C o (by simp [hCe, hCi]) q) (hk₁ D _ (by simp [hDe, hDi]) hD') (hrows.keeps (gone_st st01)) (hk.trans st01)
end
end Mine
end

section
open PySem PySem.W PyProof.Rows PySem.Calls PySem.SeqAt
set_option maxRecDepth 100000
namespace Mine
section
variable {prog : Program} {w : World} {A : Around} {s : Shared} {E : Value → Shared → Prop} {env : Env} {sc : Scope} {mg mb : Str → Option Value}

theorem law_firsts {T c : Addr} {vs : List Value} {ks : List Nat} {m : Str → Option Value} {kk : Nat} {p0 p1 p2 p4 a1 a2 a3 b1 b2 b3 b4 b5 e1 e2 e3 pos spos : Pos} {Q : Flow → Shared → Prop} (hh : A.handled = none) (FE : FEnv env sc)
    (hkt : sc.names.lookup (Str.ofString "table") = some .cell) (hkf : sc.names.lookup (Str.ofString "firsts") = some .local) (hke : sc.names.lookup (Str.ofString "enumerate") = some .globalImplicit) (ege : nsIn (hd.heap_39 w.params) mainGlobals (Str.ofString "enumerate") = some none)
    (hct : env.cells.lookup (Str.ofString "table") = some c) (hv : s.heap.IsCell c (some (.ref T))) (hl : s.heap.IsList T vs.toArray) (hN : NumsOf vs ks) (hks : ∀ k ∈ ks, k < 18) (hsz : vs.length ≤ 100) (G : GR w.params mg mb s.heap) (hdp : A.depth < recursionLimit)
    (hns : s.heap.Ns env.locals m) (hl1 : (p0.line == pos.line) = true)
    (h : ∀ D ys h' tk, s.heap.get? D = none → (∀ b o, b ≠ env.locals → s.heap.get? b = some o → h'.get? b = some o) → h'.Ns env.locals (fun z => if z = Str.ofString "firsts" then some (.ref D) else m z) → h'.IsList D (List.toArray ys) → D ≠ env.locals → RowsAt h' ys ((dd ks).map pcs) → Q .next { s with heap := h', toks := tk }) :
    WP (model prog w) A (exec (.Assign [.Name (Str.ofString "firsts") p0] (.ListComp (.Call (.Name (Str.ofString "_law_parts") p1) [.Name (Str.ofString "x") p2] [] p4) [⟨.Tuple [.Name (Str.ofString "place") a1, .Name (Str.ofString "x") a2] kk a3, .Call (.Name (Str.ofString "enumerate") e1) [.Name (Str.ofString "table") e2] [] e3,
      [.Compare (.Name (Str.ofString "x") b1) [.NotIn] [.Subscript (.Name (Str.ofString "table") b2) (.Slice none (some (.Name (Str.ofString "place") b3)) none b4) b5] q], 0⟩] firstsScope pos) spos) env) Q E s := by
  have hclos : closureFor firstsScope env = pure [(Str.ofString "table", c)] := by simp [firstsScope, closureFor, cellOf, hct]
  have hsw : swapsWith (.ListComp (.Call (.Name (Str.ofString "_law_parts") p1) [.Name (Str.ofString "x") p2] [] p4) [⟨.Tuple [.Name (Str.ofString "place") a1, .Name (Str.ofString "x") a2] kk a3, .Call (.Name (Str.ofString "enumerate") e1) [.Name (Str.ofString "table") e2] [] e3,
      [.Compare (.Name (Str.ofString "x") b1) [.NotIn] [.Subscript (.Name (Str.ofString "table") b2) (.Slice none (some (.Name (Str.ofString "place") b3)) none b4) b5] q], 0⟩] firstsScope pos) (some (.Name (Str.ofString "firsts") p0)) spos.line env = pure true := by
    have h1 : env.blockKind = .function := by unfold Env.blockKind; rw [FE.k]; rfl
    unfold swapsWith
    simp only [h1, FE.kd _ hkf]
    show (pure (_ && _ && (p0.line == pos.line) && _) : Sem Bool) = pure true
    rw [hl1]
    kernel_rfl
  refine ⟨?_⟩
  rw [exec_Assign_Name_used _ _ _ _ hsw]
  refine wpAny_bind (wpAny_standAt (wpAny_bind ?_))
  show wpAny _ A (do let _ ← comprehension _ firstsScope env _ (newList []) false (eval (.Call (.Name (Str.ofString "enumerate") e1) [.Name (Str.ofString "table") e2] [] e3) env) (some (assign (.Name (Str.ofString "firsts") p0) env))) _ _ s
  refine wpAny_bind (wpAny_mono (wpAny_comprehension_free (use := some (assign (.Name (Str.ofString "firsts") p0) env)) (Q := fun _ s' => Q .next s') rfl (by intro _; rfl) hclos rfl (by decide) ?_) (fun _ s' hq => wpAny_pure (wpAny_pure hq)) fun _ _ e => e)
  refine Call_Name1 ?_
  refine bName FE hke G ege (v := .type "enumerate") (by decide +kernel) ?_
  refine PySem.callWith_type rfl (Calls.evalArgs_plain (Calls.spliced_cons ?_))
  refine nmC FE hkt hct hv ?_
  refine Calls.spliced_nil ?_
  refine call_enumerate_list hl fun g₁ he hit hsz₁ k₁ => ?_
  refine wpAny_pyIter_enum he ?_
  have hTlt : T < s.heap.objs.size := by obtain ⟨_, e, _⟩ := hl; exact Heap.lt_size e
  refine wpAny_newObj_type (wpAny_newFunctionEnv (by decide) (by intro y hy; simp at hy) (fun h₁ hns₁ hsb₁ => ?_) rfl)
  dsimp only at hns₁ hsb₁ ⊢
  generalize hH2 : g₁.push { cls := .type "list", dict := none, data := .seq ([] : List Value).toArray } = H2 at hns₁ hsb₁ ⊢
  have hC : H2.objs.size = g₁.objs.size + 1 := by rw [← hH2, Heap.size_push]
  have below : ∀ b, b < g₁.objs.size → b ≠ H2.objs.size ∧ b ≠ g₁.objs.size := fun b hb => ⟨by rw [hC]; exact Nat.ne_of_lt (Nat.lt_succ_of_lt hb), Nat.ne_of_lt hb⟩
  have hDC : g₁.objs.size ≠ H2.objs.size := by rw [hC]; exact Nat.ne_of_lt (Nat.lt_succ_self _)
  have old : Ext g₁ h₁ := fun b o e => hsb₁.extBut b o (below b (Heap.lt_size e)).1 (Heap.get?_push_of_some _ (hH2 ▸ Heap.get?_push_of_some _ e))
  have hacc : h₁.get? g₁.objs.size = some (W.listOf ([] : List Value).toArray 0) := hsb₁.extBut _ _ hDC (Heap.get?_push_of_some _ (hH2 ▸ Heap.get?_push_size _ rfl))
  have fresh : ∀ a, s.heap.objs.size ≤ a → s.heap.get? a = none := fun a ha => by
    cases e : s.heap.get? a with
    | none => rfl
    | some o' => exact absurd (Heap.lt_size e) (Nat.not_lt.mpr ha)
  have le1 : s.heap.objs.size ≤ g₁.objs.size := by rw [hsz₁]; exact Nat.le_add_right _ _
  have le2 : s.heap.objs.size ≤ H2.objs.size := by rw [hC]; exact Nat.le_succ_of_le le1
  have hLs : ∃ o, s.heap.get? env.locals = some o := by obtain ⟨o, _, _, ho, _⟩ := hns; exact ⟨o, ho⟩
  have hLC : env.locals ≠ H2.objs.size := fun z => by obtain ⟨o, ho⟩ := hLs; rw [z, fresh _ le2] at ho; cases ho
  have hLD : env.locals ≠ g₁.objs.size := fun z => by obtain ⟨o, ho⟩ := hLs; rw [z, fresh _ le1] at ho; cases ho
  have f₀ : ∀ b ∈ [H2.objs.size, s.heap.objs.size + 1, s.heap.objs.size, g₁.objs.size], s.heap.get? b = none := fun b hb => by
    simp only [List.mem_cons, List.not_mem_nil, or_false] at hb
    rcases hb with rfl | rfl | rfl | rfl
    · exact fresh _ le2
    · exact fresh _ (Nat.le_succ _)
    · exact fresh _ (Nat.le_refl _)
    · exact fresh _ le1
  have loop : ∀ s₃ : Shared, s₃ = { s with heap := h₁, toks := s.toks + ([] : List (Str × Value)).length } →
      codeAny (model prog w) A (.compLoop (.ListComp (.Call (.Name (Str.ofString "_law_parts") p1) [.Name (Str.ofString "x") p2] [] p4) [⟨.Tuple [.Name (Str.ofString "place") a1, .Name (Str.ofString "x") a2] kk a3, .Call (.Name (Str.ofString "enumerate") e1) [.Name (Str.ofString "table") e2] [] e3,
      [.Compare (.Name (Str.ofString "x") b1) [.NotIn] [.Subscript (.Name (Str.ofString "table") b2) (.Slice none (some (.Name (Str.ofString "place") b3)) none b4) b5] q], 0⟩] firstsScope pos) 0 (.ref (s.heap.objs.size + 1)) (.ref g₁.objs.size) (compEnvC firstsScope [(Str.ofString "table", c)] H2.objs.size env))
        (compPost (model prog w) A E (some (assign (.Name (Str.ofString "firsts") p0) env)) (fun _ s' => Q .next s') (.ref g₁.objs.size) H2.objs.size) s₃ := by
    rintro s₃ rfl
    refine firsts_loop (s := { s with heap := h₁, toks := s.toks + ([] : List (Str × Value)).length }) hh FE hkt hN hks hsz hdp G hv hl (fun b o _ e => old b o (k₁ b o e)) f₀ (Nat.succ_ne_self _) (Nat.ne_of_lt (Nat.lt_succ_of_lt hTlt)) (Nat.ne_of_lt hTlt) ?_ ?_ ?_ ?_ hDC ⟨⟨_, old _ _ he⟩, hit.at fun o e => old _ o e⟩ hacc hns₁ fun h' tk m' ys n hnC hD hrows st => ?_
    · rw [hC, hsz₁]; exact Nat.ne_of_gt (by omega)
    · rw [hC, hsz₁]; exact Nat.ne_of_gt (by omega)
    · rw [hsz₁]; exact Nat.ne_of_gt (by omega)
    · rw [hsz₁]; exact Nat.ne_of_gt (by omega)
    · have up : Ext s.heap h' := fun b o e => st b o (fun hm => by rw [f₀ b hm] at e; cases e) e
      have ns' : h'.Ns env.locals m := hns.keeps up
      show wpAny _ A (assign (.Name (Str.ofString "firsts") p0) env (.ref g₁.objs.size)) _ _ _
      refine wpAny_assign_Name (stN FE hkf ns' fun h₂ ns₂ hs₂ => ?_)
      refine ⟨m', hnC.sameBut hs₂ (Ne.symm hLC), fun h₃ hs₃ => ?_⟩
      refine h g₁.objs.size ys h₃ _ (fresh _ le1) (fun b o hb e => ?_) (ns₂.sameBut hs₃ hLC) ⟨_, hs₃.extBut _ _ hDC (hs₂.extBut _ _ (Ne.symm hLD) hD), rfl, _, rfl⟩ (Ne.symm hLD) ?_
      · exact hs₃.extBut b o (fun z => by rw [z, fresh _ le2] at e; cases e) (hs₂.extBut b o hb (up b o e))
      · refine hrows.sk fun b o its n' hc hd e => ?_
        obtain ⟨hb, e'⟩ := TI.gone_some e
        simp only [List.mem_cons, List.not_mem_nil, or_false, not_or] at hb
        refine hs₃.extBut b o hb.1 (hs₂.extBut b o (fun z => ?_) e')
        obtain ⟨oL, es, ep, ho, hdL, _⟩ := ns'
        rw [z, ho] at e'; cases e'; rw [hdL] at hd; cases hd
  have he₁ : IsEnum h₁ (s.heap.objs.size + 1) s.heap.objs.size 0 .none := old _ _ he
  exact codeAny_compStart_list (loop _ rfl) (wpAny_pyIter_enum (s := { s with heap := h₁, toks := s.toks + ([] : List (Str × Value)).length }) he₁ (loop _ rfl))
end
end Mine
end

section
open PySem PySem.W PyProof.Rows PySem.Calls PySem.SeqAt
set_option maxRecDepth 100000
namespace Mine
theorem jl1_len (c : Nat) (p : List Str) (R : List (List Str)) : (jl1 c p R).length ≤ R.length := by
  unfold jl1; rw [List.length_map]; exact List.length_filter_le _ _
theorem jl_len (c : Nat) : ∀ (L R : List (List Str)), (jl c L R).length ≤ L.length * R.length
  | [], R => by simp [jl]
  | p :: L, R => by
    have h1 := jl1_len c p R
    have h2 := jl_len c L R
    have e : jl c (p :: L) R = jl1 c p R ++ jl c L R := by simp [jl]
    rw [e, List.length_append, List.length_cons, Nat.succ_mul]; omega
theorem dd_len_go {α : Type} [DecidableEq α] : ∀ (l acc : List α), (l.foldl (fun acc r => if r ∈ acc then acc else acc ++ [r]) acc).length ≤ acc.length + l.length
  | [], acc => by simp
  | a :: l, acc => by
    rw [List.foldl_cons]
    have := dd_len_go l (if a ∈ acc then acc else acc ++ [a])
    have h : (if a ∈ acc then acc else acc ++ [a]).length ≤ acc.length + 1 := by split <;> simp
    simp only [List.length_cons]; omega
theorem dd_len {α : Type} [DecidableEq α] (l : List α) : (dd l).length ≤ l.length := by have := dd_len_go l []; simpa [dd] using this
abbrev joinedOf (c : Nat) (rs : List (List Str)) : List (List Str) := jl c (dd (rs.map fun r => pr r c (on1 c))) (dd (rs.map fun r => pr r c (on2 c)))
theorem joined_len (c : Nat) (rs : List (List Str)) (h : rs.length ≤ 30) : (joinedOf c rs).length ≤ 900 := by
  have h1 := jl_len c (dd (rs.map fun r => pr r c (on1 c))) (dd (rs.map fun r => pr r c (on2 c)))
  have h2 : (dd (rs.map fun r => pr r c (on1 c))).length ≤ 30 := Nat.le_trans (dd_len _) (by simpa using h)
  have h3 : (dd (rs.map fun r => pr r c (on2 c))).length ≤ 30 := Nat.le_trans (dd_len _) (by simpa using h)
  have h4 := Nat.mul_le_mul h2 h3
  exact Nat.le_trans h1 h4

section
variable {prog : Program} {w : World} {A : Around} {s : Shared} {E : Value → Shared → Prop} {env : Env} {sc : Scope} {mg mb : Str → Option Value}
theorem frames_of {m : Str → Option Value} {h : Heap} (FE : FEnv env sc) (hfe : env.frame = some env.locals) (hns : h.Ns env.locals m) : Frames h [env] :=
  ⟨by rw [FE.k]; decide, (by obtain ⟨o, es, ep, ho, hdt, _⟩ := hns; exact ⟨_, o, hfe, ho, fun vs q => by rw [hdt] at q; cases q⟩), trivial⟩
theorem fs_one (hfe : env.frame = some env.locals) : fsOf [env] = [env.locals] := by simp [fsOf, hfe]
theorem isNot_bool {a b : Bool} {Q : Value → Shared → Prop} (h : Q (.bool (!(a == b))) s) : wpAny (model prog w) A (compareOp .IsNot (.bool a) (.bool b)) Q E s := by
  refine wpAny_isNot_plain rfl ?_
  have : (Value.bool a == Value.bool b) = (a == b) := by cases a <;> cases b <;> rfl
  rw [this]; exact h
end
end Mine
end

section
open PySem PySem.W PyProof.Rows PySem.Calls PySem.SeqAt
set_option maxRecDepth 100000
namespace Mine
section
variable {prog : Program} {w : World} {A : Around} {s : Shared} {E : Value → Shared → Prop} {env : Env} {mg mb : Str → Option Value}

/-- the two tests of a turn, after joined and due -/
theorem law_tests {ht : Heap} {R J : Addr} {ys js : List Value} {n : Nat} {rs jr : List (List Str)} {b : Bool} {m : Str → Option Value} {p1 p2 p3 p4 p5 p6 p7 p8 q1 q2 q3 q4 q5 q6 q7 q8 r1 : Pos} {whole : Sem Value} {Q : Bool → Shared → Prop}
    (FE : FEnv env (scAt 72 w.params)) (hfe : env.frame = some env.locals) (hfr : A.frames = some [env]) (hh : A.handled = none) (hdp : A.depth + 1 < recursionLimit) (hu : A.units + 100 < cLine)
    (Gt : GR w.params mg mb ht) (htL : ht.get? env.locals = none) (kt : Ext ht s.heap) (hns : s.heap.Ns env.locals m) (hmr : m (Str.ofString "rows") = some (.ref R)) (hmj : m (Str.ofString "joined") = some (.ref J)) (hmd : m (Str.ofString "due") = some (.bool b))
    (hR : s.heap.get? R = some (W.listOf ys.toArray n)) (hRL : R ≠ env.locals) (hr : RowsAt s.heap ys rs) (hsz : ys.length ≤ 30) (hJ : s.heap.IsList J js.toArray) (hjr : RowsAt s.heap js jr) (hjs : js.length ≤ 4096)
    (h1 : cmp jr (rs ++ rs) = b) (h2 : cmp (rs ++ rs) jr = b)
    (h : ∀ h' tk, St [env.locals] s.heap h' → Kf [env.locals] s.heap h' → Q false { s with heap := h', toks := tk }) :
    WP (model prog w) A (isTrue (.BoolOp .Or [.Compare (.Call (.Name (Str.ofString "_compare_args_orderless") p1) [.Name (Str.ofString "joined") p2, .BinOp (.Name (Str.ofString "rows") p3) .Add (.Name (Str.ofString "rows") p4) p5] [] p6) [.IsNot] [.Name (Str.ofString "due") p7] p8,
      .Compare (.Call (.Name (Str.ofString "_compare_args_orderless") q1) [.BinOp (.Name (Str.ofString "rows") q2) .Add (.Name (Str.ofString "rows") q3) q4, .Name (Str.ofString "joined") q5] [] q6) [.IsNot] [.Name (Str.ofString "due") q7] q8] r1) env whole) Q E s := by
  have hot : ∀ b ∈ fsOf [env], ht.get? b = none := fun b hb => by rw [fs_one hfe, List.mem_singleton] at hb; rw [hb]; exact htL
  have hlen2 : (ys ++ ys).length ≤ 4096 := by rw [List.length_append]; omega
  refine ⟨?_⟩
  refine isTrue_or ?_
  refine wpAny_isTrue_Compare1 ?_
  refine callN2 (a := 36) FE (by kernel_rfl) (Gt.keeps kt) (by kernel_rfl) (by kernel_rfl) ?_
  refine nmL FE (by kernel_rfl) hns hmj ?_
  refine wpAny_BinOp ?_
  refine nmL FE (by kernel_rfl) hns hmr ?_
  refine nmL FE (by kernel_rfl) hns hmr ?_
  refine PySem.P.add_list hR hR ?_ (by simp [sizeLine_eq]; omega)
  have k1 := push_keeps s.heap ({ cls := .type "list", data := .seq (ys.toArray ++ ys.toArray) } : Obj)
  have hg1 := Heap.get?_push_size s.heap (o := ({ cls := .type "list", data := .seq (ys.toArray ++ ys.toArray) } : Obj)) rfl
  refine ⟨(Gt.keeps kt).keeps k1, ?_⟩
  refine cmp_call (outer := [env]) Gt (fun b o e => k1 b o (kt b o e)) hot hfr (frames_of FE hfe (hns.keeps k1)) hdp hu hh (hJ.at fun o e => k1 J o e) (hjr.keeps k1) hjs ⟨_, hg1, rfl, 0, by simp⟩ (RowsAt.append (hr.keeps k1) (hr.keeps k1)) hlen2 fun h₂ tk₂ kf₂ => ?_
  rw [fs_one hfe] at kf₂
  rw [h1]
  have ns2 := kf₂.ns (hns.keeps k1)
  refine nmL FE (by kernel_rfl) ns2 hmd ?_
  refine isNot_bool (wpAny_truthy_bool ?_)
  simp only [beq_self_eq_true, Bool.not_true, Bool.false_eq_true, if_false]
  have kt2 : Ext ht h₂ := fun b o e => kf₂.keep b o (fun hm => by rw [List.mem_singleton.mp hm, htL] at e; cases e) (k1 b o (kt b o e))
  have hR2 : h₂.get? R = some (W.listOf ys.toArray n) := kf₂.keep R _ (by simpa using hRL) (k1 R _ hR)
  refine isTrue_or ?_
  refine wpAny_isTrue_Compare1 ?_
  refine callN2 (a := 36) FE (by kernel_rfl) (Gt.keeps kt2) (by kernel_rfl) (by kernel_rfl) ?_
  refine wpAny_BinOp ?_
  refine nmL FE (by kernel_rfl) ns2 hmr ?_
  refine nmL FE (by kernel_rfl) ns2 hmr ?_
  refine PySem.P.add_list (s := { s with heap := h₂, toks := tk₂ }) hR2 hR2 ?_ (by simp [sizeLine_eq]; omega)
  have k3 := push_keeps h₂ ({ cls := .type "list", data := .seq (ys.toArray ++ ys.toArray) } : Obj)
  have hg3 := Heap.get?_push_size h₂ (o := ({ cls := .type "list", data := .seq (ys.toArray ++ ys.toArray) } : Obj)) rfl
  refine nmL FE (by kernel_rfl) (ns2.keeps k3) hmj ?_
  refine ⟨(Gt.keeps kt2).keeps k3, ?_⟩
  have hr2 : RowsAt h₂ ys rs := (hr.keeps k1).kf kf₂
  have hjr2 : RowsAt h₂ js jr := (hjr.keeps k1).kf kf₂
  have hJ2 : h₂.IsList J js.toArray := kf₂.isList (hJ.at fun o e => k1 J o e)
  refine cmp_call (outer := [env]) Gt (fun b o e => k3 b o (kt2 b o e)) hot hfr (frames_of FE hfe (ns2.keeps k3)) hdp hu hh ⟨_, hg3, rfl, 0, by simp⟩ (RowsAt.append (hr2.keeps k3) (hr2.keeps k3)) hlen2 (hJ2.at fun o e => k3 J o e) (hjr2.keeps k3) hjs fun h₄ tk₄ kf₄ => ?_
  rw [fs_one hfe] at kf₄
  rw [h2]
  refine nmL FE (by kernel_rfl) (kf₄.ns (ns2.keeps k3)) hmd ?_
  refine isNot_bool (wpAny_truthy_bool ?_)
  simp only [beq_self_eq_true, Bool.not_true, Bool.false_eq_true, if_false]
  refine isTrue_or_nil ?_
  have kfa : Kf [env.locals] s.heap h₄ := ((Kf.of_keeps k1).trans kf₂).trans ((Kf.of_keeps k3).trans kf₄)
  exact h h₄ _ (fun b o hb e => kfa.keep b o hb e) kfa
end
end Mine
end

section
open PySem PySem.W PyProof.Rows PySem.Calls PySem.SeqAt
set_option maxRecDepth 100000
namespace Mine
section
variable {prog : Program} {w : World} {A : Around} {s : Shared} {E : Value → Shared → Prop} {env : Env} {mg mb : Str → Option Value}

theorem law_turn {ht : Heap} {R T c : Addr} {ys vs : List Value} {n i : Nat} {ti : Tok} {rs : List (List Str)} {ks : List Nat} {m : Str → Option Value} {a1 a2 a3 a4 a5 a6 b1 b2 b3 b4 b5 b6 p1 p2 p3 p4 p5 p6 p7 p8 q1 q2 q3 q4 q5 q6 q7 q8 r1 r2 r3 r4 : Pos} {Q : Flow → Shared → Prop}
    (FE : FEnv env (scAt 72 w.params)) (hfe : env.frame = some env.locals) (hfr : A.frames = some [env]) (hh : A.handled = none) (hdp : A.depth + 1 < recursionLimit) (hu : A.units + 100 < cLine)
    (Gt : GR w.params mg mb ht) (htL : ht.get? env.locals = none) (kt : Ext ht s.heap) (hns : s.heap.Ns env.locals m) (hmr : m (Str.ofString "rows") = some (.ref R)) (hmc : m (Str.ofString "column") = some (.int i ti)) (hi : i < 3)
    (hct : env.cells.lookup (Str.ofString "table") = some c) (hv : s.heap.IsCell c (some (.ref T))) (hcL : c ≠ env.locals) (hl : s.heap.IsList T vs.toArray) (hN : NumsOf vs ks) (hks : ∀ k ∈ ks, k < 18)
    (hR : s.heap.get? R = some (W.listOf ys.toArray n)) (hRL : R ≠ env.locals) (hr : RowsAt s.heap ys rs) (hsz : ys.length ≤ 30) (hlen : ∀ r ∈ rs, r.length = 3)
    (h1 : cmp (joinedOf i rs) (rs ++ rs) = wh ks i) (h2 : cmp (rs ++ rs) (joinedOf i rs) = wh ks i)
    (h : ∀ h' tk m', St [env.locals] s.heap h' → h'.Ns env.locals m' → m' (Str.ofString "rows") = some (.ref R) → Q .next { s with heap := h', toks := tk }) :
    WP (model prog w) A (execs [.Assign [.Name (Str.ofString "joined") a1] (.Call (.Name (Str.ofString "_law_joined") a2) [.Name (Str.ofString "rows") a3, .Name (Str.ofString "column") a4] [] a5) a6,
      .Assign [.Name (Str.ofString "due") b1] (.Call (.Name (Str.ofString "_law_whole") b2) [.Name (Str.ofString "table") b3, .Name (Str.ofString "column") b4] [] b5) b6,
      .If (.BoolOp .Or [.Compare (.Call (.Name (Str.ofString "_compare_args_orderless") p1) [.Name (Str.ofString "joined") p2, .BinOp (.Name (Str.ofString "rows") p3) .Add (.Name (Str.ofString "rows") p4) p5] [] p6) [.IsNot] [.Name (Str.ofString "due") p7] p8,
        .Compare (.Call (.Name (Str.ofString "_compare_args_orderless") q1) [.BinOp (.Name (Str.ofString "rows") q2) .Add (.Name (Str.ofString "rows") q3) q4, .Name (Str.ofString "joined") q5] [] q6) [.IsNot] [.Name (Str.ofString "due") q7] q8] r1) [.Return (some (.Constant (.bool false) 0 r2)) r3] [] r4] env) Q (fun _ _ => False) s := by
  refine ⟨?_⟩
  refine wpAny_execs_cons (wpAny_Assign_Name ?_)
  refine callN2 (a := 62) FE (by kernel_rfl) (Gt.keeps kt) (by kernel_rfl) (by kernel_rfl) ?_
  refine nmL FE (by kernel_rfl) hns hmr ?_
  refine nmL FE (by kernel_rfl) hns hmc ?_
  refine ⟨Gt.keeps kt, ?_⟩
  refine joined_call (Gt.keeps kt) hdp hu hh hi ⟨_, hR, rfl, _, rfl⟩ hr (by omega) hlen fun J js nj g₁ tk₁ k₁ new₁ hJ₁ _ rows₁ => ?_
  have ns1 := hns.keeps k₁
  refine stN FE (by kernel_rfl) ns1 fun g₂ ns2 sb2 => ?_
  dsimp only at ns2 sb2 ⊢
  have sk2 : SK g₁ g₂ := SK.of_ns ns1 fun b o hb e => sb2.extBut b o hb e
  have st2 : St [env.locals] s.heap g₂ := fun b o hb e => sb2.extBut b o (by simpa using hb) (k₁ b o e)
  have kt2 : Ext ht g₂ := fun b o e => st2 b o (fun hm => by rw [List.mem_singleton.mp hm, htL] at e; cases e) (kt b o e)
  have hv2 : g₂.IsCell c (some (.ref T)) := cell_at hv fun o e => st2 c o (by simpa using hcL) e
  have hl2 : g₂.IsList T vs.toArray := isList_sk (hl.at fun o e => k₁ T o e) sk2
  have hjlen : js.length ≤ 900 := by
    have e1 := rows₁.length
    have e2 := joined_len i rs (by have := hr.length; omega)
    have e3 : js.length = (joinedOf i rs).length := e1
    omega
  refine wpAny_execs_cons (wpAny_Assign_Name ?_)
  refine callN2 (a := 67) FE (by kernel_rfl) (Gt.keeps kt2) (by kernel_rfl) (by kernel_rfl) ?_
  refine nmC FE (by kernel_rfl) hct hv2 ?_
  refine nmL FE (by kernel_rfl) ns2 (v := .int i ti) hmc ?_
  refine ⟨Gt.keeps kt2, ?_⟩
  refine whole_call (Gt.keeps kt2) hdp hh hi hl2 hN hks fun g₃ tk₃ k₃ => ?_
  have ns3 := ns2.keeps k₃
  refine stN FE (by kernel_rfl) ns3 fun g₄ ns4 sb4 => ?_
  dsimp only at ns4 sb4 ⊢
  have sk4 : SK g₃ g₄ := SK.of_ns ns3 fun b o hb e => sb4.extBut b o hb e
  have st4 : St [env.locals] g₂ g₄ := fun b o hb e => sb4.extBut b o (by simpa using hb) (k₃ b o e)
  have st04 : St [env.locals] s.heap g₄ := st2.trans st4
  have kt4 : Ext ht g₄ := fun b o e => st04 b o (fun hm => by rw [List.mem_singleton.mp hm, htL] at e; cases e) (kt b o e)
  have hR4 : g₄.get? R = some (W.listOf ys.toArray n) := st04 R _ (by simpa using hRL) hR
  have sk04 : SK s.heap g₄ := ((SK.of_ext k₁).trans sk2).trans ((SK.of_ext k₃).trans sk4)
  have sk14 : SK g₁ g₄ := sk2.trans ((SK.of_ext k₃).trans sk4)
  refine wpAny_execs_cons ?_
  refine wpAny_If ?_
  refine WP.go ?_
  refine law_tests (R := R) (J := J) (ys := ys) (js := js) (n := n) (rs := rs) (jr := joinedOf i rs) (b := wh ks i) FE hfe hfr hh hdp hu Gt htL kt4 ns4 hmr rfl rfl hR4 hRL (hr.sk sk04) hsz (isList_sk ⟨_, hJ₁, rfl, _, rfl⟩ sk14) (rows₁.sk sk14) (by omega) h1 h2 fun h' tk st kf => ?_
  simp only [Bool.false_eq_true, if_false]
  refine wpAny_execs_nil ?_
  refine wpAny_execs_nil ?_
  have ns' := kf.ns ns4
  exact h h' tk _ (st04.trans st) ns' hmr
end
end Mine
end

section
open PySem PySem.W PyProof.Rows PySem.Calls PySem.SeqAt
set_option maxRecDepth 100000
namespace Mine
section
variable {prog : Program} {w : World} {A : Around} {s : Shared} {E : Value → Shared → Prop} {env : Env} {mg mb : Str → Option Value}

theorem kwCall {K : Frag} {h₀ : Heap} {fn x : Str} {p1 p2 p3 p4 pos : Pos} {f : Value} {b : Bool} {Q : Value → Shared → Prop} (X : K.In h₀) (hk : keepIn K f = true)
    (h : wpAny (model prog w) A (eval (.Name fn p1) env) (fun f' s₁ => f' = f ∧ wpAny (model prog w) A (eval (.Name x p2) env) (fun v s₂ => K.In s₂.heap ∧ wpAny (model prog w) A (call f [v] [(Str.ofString "unhashable_fallback", .bool b)]) Q E s₂) E s₁) E s) :
    WP (model prog w) A (eval (.Call (.Name fn p1) [.Name x p2] [⟨some (Str.ofString "unhashable_fallback"), .Constant (.bool b) 0 p3, p4⟩] pos) env) Q E s := by
  refine ⟨?_⟩
  show wpAny _ A (do callWith pos (← eval (.Name fn p1) env) [] (backTo pos (starEach [.Name x p2] env)) (backToKw pos (keywordEach [⟨some (Str.ofString "unhashable_fallback"), .Constant (.bool b) 0 p3, p4⟩] env))) _ _ s
  refine wpAny_bind (wpAny_mono h (fun f' s₁ h₁ => ?_) fun _ _ e => e)
  obtain ⟨rfl, h₁⟩ := h₁
  refine callWith_KW X hk rfl ?_
  refine spliced_cons ?_
  refine wpAny_mono h₁ (fun v s₂ h₂ => ?_) fun _ _ e => e
  refine spliced_nil ?_
  refine kwAll_cons ?_
  refine wpAny_Constant_bool ?_
  refine kwAll_nil ?_
  exact h₂
end
end Mine
end

section
open PySem PySem.W PyProof.Rows PySem.Calls PySem.SeqAt
set_option maxRecDepth 100000
namespace Mine
section
variable {prog : Program} {w : World} {A : Around} {s : Shared} {E : Value → Shared → Prop} {env : Env} {mg mb : Str → Option Value}

theorem law_end {ht : Heap} {R F : Addr} {v : Value} {ys zs : List Value} {rs fr : List (List Str)} {m : Str → Option Value} {p1 p2 p3 p4 t1 a1 a2 a3 a4 a5 c1 c2 d1 d2 r1 r2 : Pos} {Q : Flow → Shared → Prop}
    (FE : FEnv env (scAt 72 w.params)) (hfe : env.frame = some env.locals) (hfr : A.frames = some [env]) (hh : A.handled = none) (hdp : A.depth + 1 < recursionLimit) (hu : A.units + 100 < cLine)
    (Gt : GR w.params mg mb ht) (htL : ht.get? env.locals = none) (kt : Ext ht s.heap) (hns : s.heap.Ns env.locals m) (hmr : m (Str.ofString "rows") = some (.ref R)) (hmf : m (Str.ofString "firsts") = some (.ref F))
    (hR : s.heap.IsList R (v :: ys).toArray) (hr : RowsAt s.heap (v :: ys) rs) (hsz : (v :: ys).length ≤ 4096) (hF : s.heap.IsList F zs.toArray) (hz : RowsAt s.heap zs fr) (hd : dd rs = fr)
    (h : ∀ h' tk, Ext ht h' → Q (.ret (.bool true)) { s with heap := h', toks := tk }) :
    WP (model prog w) A (execs [.Try [.Expr (.Call (.Name (Str.ofString "_deduplicate") p1) [.Name (Str.ofString "rows") p2] [] p3) p4] [.ExceptHandler (some (.Name (Str.ofString "TypeError") t1)) none
        [.Return (some (.Compare (.Call (.Name (Str.ofString "_deduplicate") a1) [.Name (Str.ofString "rows") a2] [⟨some (Str.ofString "unhashable_fallback"), .Constant (.bool true) 0 a3, a4⟩] a5) [.Eq] [.Name (Str.ofString "firsts") c1] c2)) d1] d2] [] [] r1,
      .Return (some (.Constant (.bool false) 0 r2)) r3] env) Q E s := by
  have hot : ∀ b ∈ fsOf [env], ht.get? b = none := fun b hb => by rw [fs_one hfe, List.mem_singleton] at hb; rw [hb]; exact htL
  have hFr := frames_of FE hfe hns
  have htop : ∀ (h' : Heap), Kf (fsOf [env]) s.heap h' → Ext ht h' := fun h' kf b o e => kf.keep b o (fun hm => by rw [hot b hm] at e; cases e) (kt b o e)
  have hin : interactive env = false := by unfold interactive; rw [FE.k]; rfl
  refine ⟨?_⟩
  refine wpAny_execs_cons ?_
  refine wpAny_Try_except ?_
  refine wpAny_execs_cons ?_
  refine wpAny_Expr_any ?_ hin rfl
  refine callN1 (a := 22) FE (by kernel_rfl) (Gt.keeps kt) (by kernel_rfl) (by kernel_rfl) ?_
  refine nmL FE (by kernel_rfl) hns hmr ?_
  refine ⟨Gt.keeps kt, ?_⟩
  refine dd_raise (outer := [env]) Gt kt hot hfr hFr hdp hu hh hR hr hsz fun h₁ tk₁ e x₁ => ?_
  refine caught (s := { s with heap := h₁, toks := tk₁ }) hfr hFr rfl hfe (.inr x₁) (T := "TypeError") (by rw [isSubtype_type]; kernel_rfl) (by rw [isSubtype_type]; kernel_rfl) (by rw [isSubtype_type]; kernel_rfl) (fun s₃ Q' E' kf hq => bName FE (by kernel_rfl) (Gt.keeps (htop _ kf)) (by kernel_rfl) (by decide +kernel) hq) fun h₂ x₂ => ?_
  have ns2 : h₂.Ns env.locals m := x₂.kf.ns hns
  have kt2 := htop _ x₂.kf
  refine wpAny_execs_cons ?_
  refine wpAny_Return_some ?_
  refine wpAny_Compare1 ?_
  refine WP.go ?_
  refine kwCall (K := Mine.hd.heap_39 w.params) (f := .ref 22) (Gt.keeps kt2).X (by kernel_rfl) ?_
  refine gName (v := .ref 22) FE (by kernel_rfl) (Gt.keeps kt2) (by kernel_rfl) ?_
  refine ⟨rfl, ?_⟩
  refine nmL FE (by kernel_rfl) ns2 hmr ?_
  refine ⟨(Gt.keeps kt2).X, ?_⟩
  have hone : One h₂ (A.mark (some (.ref e))).handled := by
    obtain ⟨kf, new, ob, vs, he, hcls, hdt, h2, _⟩ := x₂
    exact .inr ⟨e, ob, vs, rfl, he, hdt, h2⟩
  refine dd_list (s := { s with heap := h₂, toks := tk₁ }) (outer := [env]) Gt kt2 hot hfr (hFr.kf x₂.kf) hdp hu hone (x₂.kf.isList hR) (hr.kf x₂.kf) hsz fun D ds h₃ tk₃ kf₃ new₃ hD hrd hlen => ?_
  refine nmL FE (by kernel_rfl) (kf₃.ns ns2) hmf ?_
  obtain ⟨b1, rd1⟩ := hrd.reads hD
  obtain ⟨b2, rd2⟩ := ((hz.kf x₂.kf).kf kf₃).reads (kf₃.isList (x₂.kf.isList hF))
  refine compareEq_reads rd1 rd2 (rows_lay hrd.1) (rows_lay hz.1) (by have := rows_depth (dd rs); show A.units + _ < cLine; omega) ?_
  rw [rows_eqv, hd]
  simp only [decide_true]
  exact h h₃ _ fun b o q => kf₃.keep b o (fun hm => by rw [hot b hm] at q; cases q) (kt2 b o q)
end
end Mine
end

section
namespace Mine
open PySem
theorem rmv_iff {α : Type} [DecidableEq α] : ∀ (L T : List α), L.Nodup → T.Nodup → ((match rmv T L with | none => false | some t => t.isEmpty) = true ↔ ∀ x, x ∈ L ↔ x ∈ T)
  | [], T, _, _ => by
    unfold rmv
    cases T with
    | nil => simp
    | cons a T =>
      simp only [List.isEmpty_cons, Bool.false_eq_true, false_iff]
      intro h
      have := (h a).mpr (by simp)
      cases this
  | a :: L, T, hL, hT => by
    have h1 := List.nodup_cons.mp hL
    by_cases ha : a ∈ T
    · rw [rmv_hit ha]
      rw [rmv_iff L (ers T a) h1.2 (hT.erase a)]
      unfold ers
      constructor
      · intro h x
        by_cases hx : x = a
        · subst hx; simp [ha]
        · have := h x
          rw [hT.mem_erase_iff] at this
          simp only [List.mem_cons, hx, false_or]
          exact ⟨fun q => (this.mp q).2, fun q => this.mpr ⟨hx, q⟩⟩
      · intro h x
        rw [hT.mem_erase_iff]
        have := h x
        simp only [List.mem_cons] at this
        constructor
        · intro q
          exact ⟨fun z => h1.1 (z ▸ q), this.mp (.inr q)⟩
        · rintro ⟨hx, q⟩
          exact (this.mpr q).resolve_left hx
    · rw [rmv_miss ha]
      simp only [Bool.false_eq_true, false_iff]
      intro h
      exact ha ((h a).mp (by simp))
theorem nodup_dd_go {α : Type} [DecidableEq α] : ∀ (l acc : List α), acc.Nodup → (l.foldl (fun acc r => if r ∈ acc then acc else acc ++ [r]) acc).Nodup
  | [], acc, h => h
  | a :: l, acc, h => by
    rw [List.foldl_cons]
    refine nodup_dd_go l _ ?_
    split
    · exact h
    · rename_i hn
      rw [List.nodup_append]
      refine ⟨h, by simp, fun x hx y hy => ?_⟩
      rw [List.mem_singleton.mp hy]; rintro rfl; exact hn hx
theorem nodup_dd {α : Type} [DecidableEq α] (l : List α) : (dd l).Nodup := nodup_dd_go l [] List.nodup_nil
theorem cmp_iff {α : Type} [DecidableEq α] (a b : List α) : cmp a b = true ↔ ∀ x, x ∈ a ↔ x ∈ b := by
  have h := rmv_iff (dd a) (dd b) (nodup_dd a) (nodup_dd b)
  simp only [mem_dd] at h
  exact h
end Mine
end

section
namespace Mine
open PySem
/-- the number that is put together of p (column c and the one) and q (the other) -/
def cmb (c p q : Nat) : Nat := match c with
  | 0 => sgn p 0 + 3 * sgn p 1 + 6 * sgn q 2
  | 1 => sgn p 0 + 3 * sgn p 1 + 6 * sgn q 2
  | _ => sgn p 0 + 3 * sgn q 1 + 6 * sgn p 2
abbrev co (x j : Nat) : Str := (pcs x).getD j (Str.ofString "")
theorem co_iff : ∀ x < 18, ∀ y < 18, ∀ j < 3, (co x j == co y j) = (sgn x j == sgn y j) := by decide +kernel
theorem mk_cmb : ∀ c < 3, ∀ p < 18, ∀ q < 18, (mk c (co p c) (co p (on1 c)) (co q (on2 c)) == pcs (cmb c p q)) = true := by decide +kernel
theorem cmb_sgn : ∀ c < 3, ∀ p < 18, ∀ q < 18, (cmb c p q < 18 ∧ sgn (cmb c p q) c = sgn p c) ∧ sgn (cmb c p q) (on1 c) = sgn p (on1 c) ∧ sgn (cmb c p q) (on2 c) = sgn q (on2 c) := by decide +kernel
theorem sgn_inj : ∀ c < 3, ∀ x < 18, ∀ y < 18, (sgn x c = sgn y c ∧ sgn x (on1 c) = sgn y (on1 c) ∧ sgn x (on2 c) = sgn y (on2 c)) → x = y := by decide +kernel
theorem pcs_inj {x y : Nat} (hx : x < 18) (hy : y < 18) (h : pcs x = pcs y) : x = y := by
  have e : ∀ j < 3, sgn x j = sgn y j := fun j hj => by
    have := co_iff x hx y hy j hj
    unfold co at this
    rw [h] at this
    simpa using this.symm
  exact sgn_inj 0 (by omega) x hx y hy ⟨e 0 (by omega), e _ (by decide), e _ (by decide)⟩
end Mine
end

section
namespace Mine
open PySem
theorem mem_joined {c : Nat} (hc : c < 3) {ks : List Nat} (hks : ∀ k ∈ ks, k < 18) (x : List Str) :
    x ∈ joinedOf c (ks.map pcs) ↔ ∃ p ∈ ks, ∃ q ∈ ks, sgn p c = sgn q c ∧ x = pcs (cmb c p q) := by
  have key : ∀ p ∈ ks, ∀ q ∈ ks, (co p c = co q c ↔ sgn p c = sgn q c) ∧ mk c (co p c) (co p (on1 c)) (co q (on2 c)) = pcs (cmb c p q) := fun p hp q hq => by
    refine ⟨?_, beq_iff_eq.mp (mk_cmb c hc p (hks p hp) q (hks q hq))⟩
    have := co_iff p (hks p hp) q (hks q hq) c hc
    constructor
    · intro h; rw [beq_iff_eq.mpr h] at this; exact beq_iff_eq.mp this.symm
    · intro h; rw [beq_iff_eq.mpr h] at this; exact beq_iff_eq.mp this
  unfold joinedOf jl jl1
  rw [List.mem_flatMap]
  constructor
  · rintro ⟨a, ha, hx⟩
    obtain ⟨b, hb, rfl⟩ := List.mem_map.mp hx
    obtain ⟨hb2, he⟩ := List.mem_filter.mp hb
    have ha := mem_dd.mp ha
    have hb2 := mem_dd.mp hb2
    obtain ⟨r, hr, rfl⟩ := List.mem_map.mp ha
    obtain ⟨t, ht, rfl⟩ := List.mem_map.mp hb2
    obtain ⟨p, hp, rfl⟩ := List.mem_map.mp hr
    obtain ⟨q, hq, rfl⟩ := List.mem_map.mp ht
    have he : co p c = co q c := of_decide_eq_true he
    exact ⟨p, hp, q, hq, (key p hp q hq).1.mp he, (key p hp q hq).2⟩
  · rintro ⟨p, hp, q, hq, he, rfl⟩
    refine ⟨pr (pcs p) c (on1 c), mem_dd.mpr (List.mem_map.mpr ⟨pcs p, List.mem_map.mpr ⟨p, hp, rfl⟩, rfl⟩), ?_⟩
    refine List.mem_map.mpr ⟨pr (pcs q) c (on2 c), List.mem_filter.mpr ⟨mem_dd.mpr (List.mem_map.mpr ⟨pcs q, List.mem_map.mpr ⟨q, hq, rfl⟩, rfl⟩), ?_⟩, (key p hp q hq).2⟩
    exact decide_eq_true ((key p hp q hq).1.mpr he)

def Cl (ks : List Nat) (c : Nat) : Prop := ∀ p ∈ ks, ∀ q ∈ ks, sgn p c = sgn q c → cmb c p q ∈ ks

theorem cmb_self {c : Nat} (hc : c < 3) {p : Nat} (hp : p < 18) : cmb c p p = p := by
  obtain ⟨⟨h0, h1⟩, h2, h3⟩ := cmb_sgn c hc p hp p hp
  exact sgn_inj c hc _ h0 p hp ⟨h1, h2, h3⟩
theorem joined_iff {c : Nat} (hc : c < 3) {ks : List Nat} (hks : ∀ k ∈ ks, k < 18) :
    (∀ x, x ∈ joinedOf c (ks.map pcs) ↔ x ∈ ks.map pcs ++ ks.map pcs) ↔ Cl ks c := by
  simp only [mem_joined hc hks, List.mem_append, or_self]
  constructor
  · intro h p hp q hq e
    obtain ⟨y, hy, e2⟩ := List.mem_map.mp ((h _).mp ⟨p, hp, q, hq, e, rfl⟩)
    rwa [pcs_inj (hks y hy) (cmb_sgn c hc p (hks p hp) q (hks q hq)).1.1 e2] at hy
  · intro h x
    constructor
    · rintro ⟨p, hp, q, hq, e, rfl⟩
      exact List.mem_map.mpr ⟨_, h p hp q hq e, rfl⟩
    · intro hx
      obtain ⟨p, hp, rfl⟩ := List.mem_map.mp hx
      exact ⟨p, hp, p, hp, rfl, by rw [cmb_self hc (hks p hp)]⟩

def prod (A B : List Nat) : List (Nat × Nat) := A.flatMap fun a => B.map fun b => (a, b)
theorem mem_prod {A B : List Nat} {p : Nat × Nat} : p ∈ prod A B ↔ p.1 ∈ A ∧ p.2 ∈ B := by
  unfold prod
  rw [List.mem_flatMap]
  constructor
  · rintro ⟨a, ha, h⟩
    obtain ⟨b, hb, rfl⟩ := List.mem_map.mp h
    exact ⟨ha, hb⟩
  · rintro ⟨h1, h2⟩
    exact ⟨p.1, h1, List.mem_map.mpr ⟨p.2, h2, rfl⟩⟩
theorem len_prod : ∀ A B : List Nat, (prod A B).length = A.length * B.length
  | [], B => by simp [prod]
  | a :: A, B => by
    have e : prod (a :: A) B = (B.map fun b => (a, b)) ++ prod A B := by simp [prod]
    rw [e, List.length_append, List.length_map, len_prod A B, List.length_cons, Nat.succ_mul]; omega
theorem nodup_map {α β : Type} {f : α → β} : ∀ {l : List α}, l.Nodup → (∀ x ∈ l, ∀ y ∈ l, f x = f y → x = y) → (l.map f).Nodup
  | [], _, _ => List.nodup_nil
  | a :: l, hn, hf => by
    obtain ⟨h1, h2⟩ := List.nodup_cons.mp hn
    rw [List.map_cons, List.nodup_cons]
    refine ⟨fun hm => ?_, nodup_map h2 fun x hx y hy => hf x (.tail _ hx) y (.tail _ hy)⟩
    obtain ⟨b, hb, e⟩ := List.mem_map.mp hm
    exact h1 (hf b (.tail _ hb) a (.head _) e ▸ hb)
theorem nodup_prod : ∀ {A B : List Nat}, A.Nodup → B.Nodup → (prod A B).Nodup
  | [], B, _, _ => List.nodup_nil
  | a :: A, B, hA, hB => by
    have e : prod (a :: A) B = (B.map fun b => (a, b)) ++ prod A B := by simp [prod]
    obtain ⟨h1, h2⟩ := List.nodup_cons.mp hA
    rw [e, List.nodup_append]
    refine ⟨nodup_map hB fun x _ y _ q => by cases q; rfl, nodup_prod h2 hB, fun x hx y hy q => ?_⟩
    subst q
    obtain ⟨b, _, rfl⟩ := List.mem_map.mp hx
    exact h1 (mem_prod.mp hy).1

theorem wh1_iff {c sg : Nat} (hc : c < 3) {ks : List Nat} (hks : ∀ k ∈ ks, k < 18) :
    wh1 ks c sg = true ↔ ∀ p ∈ ks, ∀ q ∈ ks, sgn p c = sg → sgn q c = sg → cmb c p q ∈ ks := by
  have hm : ∀ x, x ∈ rhoOf ks c sg ↔ x ∈ ks ∧ sgn x c = sg := fun x => by
    rw [mem_gather]
    constructor
    · rintro ⟨y, h1, h2, rfl⟩; exact ⟨h1, beq_iff_eq.mp h2⟩
    · rintro ⟨h1, h2⟩; exact ⟨x, h1, beq_iff_eq.mpr h2, rfl⟩
  have hnd : (rhoOf ks c sg).Nodup := nodup_gather
  have hA : ∀ j a, a ∈ gather (fun _ => true) (sgn · j) (rhoOf ks c sg) ↔ ∃ x ∈ rhoOf ks c sg, sgn x j = a := fun j a => by
    rw [mem_gather]; simp
  have hnA : ∀ j, (gather (fun _ => true) (sgn · j) (rhoOf ks c sg)).Nodup := fun j => nodup_gather
  unfold wh1
  rw [beq_iff_eq]
  generalize rhoOf ks c sg = ρ at *
  have hI : (ρ.map fun x => (sgn x (on1 c), sgn x (on2 c))).Nodup := nodup_map hnd fun x hx y hy e => by
    obtain ⟨hx1, hx2⟩ := (hm x).mp hx
    obtain ⟨hy1, hy2⟩ := (hm y).mp hy
    obtain ⟨e1, e2⟩ := Prod.mk.inj e
    exact sgn_inj c hc x (hks x hx1) y (hks y hy1) ⟨hx2.trans hy2.symm, e1, e2⟩
  have hP := nodup_prod (hnA (on1 c)) (hnA (on2 c))
  have hlen := len_prod (gather (fun _ => true) (sgn · (on1 c)) ρ) (gather (fun _ => true) (sgn · (on2 c)) ρ)
  have hsub : ∀ z ∈ (ρ.map fun x => (sgn x (on1 c), sgn x (on2 c))), z ∈ prod (gather (fun _ => true) (sgn · (on1 c)) ρ) (gather (fun _ => true) (sgn · (on2 c)) ρ) := fun z hz => by
    obtain ⟨x, hx, rfl⟩ := List.mem_map.mp hz
    exact mem_prod.mpr ⟨(hA _ _).mpr ⟨x, hx, rfl⟩, (hA _ _).mpr ⟨x, hx, rfl⟩⟩
  rw [← hlen]
  generalize hg : prod (gather (fun _ => true) (sgn · (on1 c)) ρ) (gather (fun _ => true) (sgn · (on2 c)) ρ) = PR at *
  have hle := len_le_of_sub hI hsub
  rw [List.length_map] at hle
  constructor
  · intro he p hp q hq ep eq
    have hz : (sgn p (on1 c), sgn q (on2 c)) ∈ PR := by
      rw [← hg]
      exact mem_prod.mpr ⟨(hA _ _).mpr ⟨p, (hm p).mpr ⟨hp, ep⟩, rfl⟩, (hA _ _).mpr ⟨q, (hm q).mpr ⟨hq, eq⟩, rfl⟩⟩
    by_cases hin : (sgn p (on1 c), sgn q (on2 c)) ∈ ρ.map fun x => (sgn x (on1 c), sgn x (on2 c))
    · obtain ⟨x, hx, e⟩ := List.mem_map.mp hin
      obtain ⟨hx1, hx2⟩ := (hm x).mp hx
      obtain ⟨e1, e2⟩ := Prod.mk.inj e
      obtain ⟨⟨h0, h1⟩, h2, h3⟩ := cmb_sgn c hc p (hks p hp) q (hks q hq)
      rwa [← sgn_inj c hc x (hks x hx1) _ h0 ⟨hx2.trans (h1.trans ep).symm, e1.trans h2.symm, e2.trans h3.symm⟩]
    · have := len_le_of_sub (List.nodup_cons.mpr ⟨hin, hI⟩) (m := PR) fun z hz' => by
        rcases List.mem_cons.mp hz' with rfl | hz'
        · exact hz
        · exact hsub z hz'
      rw [List.length_cons, List.length_map] at this
      omega
  · intro h
    refine Nat.le_antisymm ?_ hle
    have := len_le_of_sub hP (m := ρ.map fun x => (sgn x (on1 c), sgn x (on2 c))) fun z hz => by
      rw [← hg] at hz
      obtain ⟨h1, h2⟩ := mem_prod.mp hz
      obtain ⟨p, hp, e1⟩ := (hA _ _).mp h1
      obtain ⟨q, hq, e2⟩ := (hA _ _).mp h2
      obtain ⟨hp1, hp2⟩ := (hm p).mp hp
      obtain ⟨hq1, hq2⟩ := (hm q).mp hq
      obtain ⟨⟨h0, h1⟩, h2, h3⟩ := cmb_sgn c hc p (hks p hp1) q (hks q hq1)
      refine List.mem_map.mpr ⟨cmb c p q, (hm _).mpr ⟨h p hp1 q hq1 hp2 hq2, h1.trans hp2⟩, ?_⟩
      exact Prod.ext (h2.trans e1) (h3.trans e2)
    rwa [List.length_map] at this

theorem wh_iff {c : Nat} (hc : c < 3) {ks : List Nat} (hks : ∀ k ∈ ks, k < 18) : wh ks c = true ↔ Cl ks c := by
  unfold wh
  rw [List.all_eq_true]
  constructor
  · intro h p hp q hq e
    exact (wh1_iff hc hks).mp (h (sgn p c) (List.mem_range.mpr (sgn_lt (hks p hp)))) p hp q hq rfl e.symm
  · intro h sg _
    exact (wh1_iff hc hks).mpr fun p hp q hq ep eq => h p hp q hq (ep.trans eq.symm)
theorem plain1 {c : Nat} (hc : c < 3) {ks : List Nat} (hks : ∀ k ∈ ks, k < 18) : cmp (joinedOf c (ks.map pcs)) (ks.map pcs ++ ks.map pcs) = wh ks c := by
  rw [Bool.eq_iff_iff, cmp_iff, wh_iff hc hks, joined_iff hc hks]
theorem plain2 {c : Nat} (hc : c < 3) {ks : List Nat} (hks : ∀ k ∈ ks, k < 18) : cmp (ks.map pcs ++ ks.map pcs) (joinedOf c (ks.map pcs)) = wh ks c := by
  rw [Bool.eq_iff_iff, cmp_iff, wh_iff hc hks, ← joined_iff hc hks]
  exact forall_congr' fun x => Iff.comm
theorem rev_ne : ∀ x < 18, (pcs x == (pcs 0).reverse) = false := by decide +kernel
theorem plain3 {ks : List Nat} (hks : ∀ k ∈ ks, k < 18) (h0 : 0 ∈ ks) : cmp (ks.map pcs) ((ks.map pcs).map List.reverse) = false := by
  rw [Bool.eq_false_iff]
  intro h
  have h := (cmp_iff _ _).mp h ((pcs 0).reverse)
  obtain ⟨x, hx, e⟩ := List.mem_map.mp (h.mpr (List.mem_map.mpr ⟨_, List.mem_map.mpr ⟨0, h0, rfl⟩, rfl⟩))
  have := rev_ne x (hks x hx)
  rw [beq_eq_false_iff_ne] at this
  exact this e
theorem dd_map_go {α β : Type} [DecidableEq α] [DecidableEq β] {f : α → β} (P : α → Prop) (hf : ∀ x y, P x → P y → f x = f y → x = y) : ∀ (l acc : List α), (∀ x ∈ l, P x) → (∀ x ∈ acc, P x) →
    (l.map f).foldl (fun acc r => if r ∈ acc then acc else acc ++ [r]) (acc.map f) = (l.foldl (fun acc r => if r ∈ acc then acc else acc ++ [r]) acc).map f
  | [], acc, _, _ => rfl
  | a :: l, acc, hl, ha => by
    rw [List.map_cons, List.foldl_cons, List.foldl_cons]
    by_cases h : a ∈ acc
    · rw [if_pos h, if_pos (List.mem_map.mpr ⟨a, h, rfl⟩)]
      exact dd_map_go P hf l acc (fun x hx => hl x (.tail _ hx)) ha
    · have h' : f a ∉ acc.map f := fun q => by
        obtain ⟨b, hb, e⟩ := List.mem_map.mp q
        exact h (hf b a (ha b hb) (hl a (.head _)) e ▸ hb)
      rw [if_neg h, if_neg h']
      have := dd_map_go P hf l (acc ++ [a]) (fun x hx => hl x (.tail _ hx)) (fun x hx => by
        rcases List.mem_append.mp hx with hx | hx
        · exact ha x hx
        · rw [List.mem_singleton.mp hx]; exact hl a (.head _))
      rw [List.map_append] at this
      exact this
theorem plain4 {ks : List Nat} (hks : ∀ k ∈ ks, k < 18) : dd (ks.map pcs) = (dd ks).map pcs :=
  dd_map_go (f := pcs) (· < 18) (fun _ _ hx hy e => pcs_inj hx hy e) ks [] hks (fun _ h => nomatch h)
end Mine
end

section
open PySem PySem.W PyProof.Rows PySem.Calls PySem.SeqAt
set_option maxRecDepth 100000
namespace Mine
theorem SK.of_range {h h' : Heap} {I : Addr} {a n c : Int} (hI : IsRangeIter h I a n c) (k : ∀ b o, b ≠ I → h.get? b = some o → h'.get? b = some o) : SK h h' := fun b o vs n h1 _ e => k b o (fun q => by
  have hI' : h.get? I = some _ := hI
  rw [q, hI'] at e
  cases e
  injection h1 with h1
  exact absurd h1 (by decide)) e
theorem SK.of_cell {h h' : Heap} {c : Addr} {v : Option Value} (hc : h.IsCell c v) (k : ∀ b o, b ≠ c → h.get? b = some o → h'.get? b = some o) : SK h h' := fun b o vs n _ h2 e => k b o (fun q => by
  obtain ⟨oc, ho, hd⟩ := hc
  rw [q, ho] at e
  cases e
  rw [hd] at h2
  cases h2) e

/-- what holds between the law's statements once table and rows are made -/
structure Mid (h₀ : Heap) (env : Env) (c T R : Addr) (vs ys : List Value) (n : Nat) (rs : List (List Str)) (h : Heap) : Prop where
  ext : Ext h₀ h
  ns : ∃ m, h.Ns env.locals m ∧ m (Str.ofString "rows") = some (.ref R)
  cell : h.IsCell c (some (.ref T))
  table : h.IsList T vs.toArray
  row : h.get? R = some (W.listOf ys.toArray n)
  rows : RowsAt h ys rs

section
variable {prog : Program} {w : World} {A : Around} {s : Shared} {E : Value → Shared → Prop} {env : Env} {mg mb : Str → Option Value}

theorem swaps_cell {sc : Scope} {x : Str} {px pos : Pos} {e : Expr} {gs : List Comprehension} {scope : Scope} {line : Nat} (FE : FEnv env sc) (hk : sc.names.lookup x = some .cell) :
    swapsWith (.ListComp e gs scope pos) (some (.Name x px)) line env = pure false := by
  unfold swapsWith
  simp only [FE.kd _ hk]
  show (pure (_ && _ && _ && _) : Sem Bool) = pure false
  have : (some NameKind.cell == some NameKind.local) = false := by decide
  rw [this, Bool.and_false, Bool.false_and, Bool.false_and]

/-- the loop over the columns -/
theorem law_loop {h₀ : Heap} {c T R : Addr} {vs ys : List Value} {n : Nat} {ks : List Nat} {px cp rp rpos pos a1 a2 a3 a4 a5 a6 b1 b2 b3 b4 b5 b6 p1 p2 p3 p4 p5 p6 p7 p8 q1 q2 q3 q4 q5 q6 q7 q8 r1 r2 r3 r4 : Pos} {Q : Flow → Shared → Prop}
    (FE : FEnv env (scAt 72 w.params)) (hfe : env.frame = some env.locals) (hfr : A.frames = some [env]) (hh : A.handled = none) (hdp : A.depth + 1 < recursionLimit) (hu : A.units + 100 < cLine)
    (G : GR w.params mg mb h₀) (hL : h₀.get? env.locals = none) (hct : env.cells.lookup (Str.ofString "table") = some c) (hcL : c ≠ env.locals) (hRL : R ≠ env.locals) (hN : NumsOf vs ks) (hks : ∀ k ∈ ks, k < 18) (hsz : ys.length ≤ 30)
    (M : Mid h₀ env c T R vs ys n (ks.map pcs) s.heap)
    (h : ∀ h' tk, Mid h₀ env c T R vs ys n (ks.map pcs) h' → Q .next { s with heap := h', toks := tk }) :
    WP (model prog w) A (exec (.For (.Name (Str.ofString "column") px) (.Call (.Name (Str.ofString "range") rp) [.Constant (.int 3) 0 cp] [] rpos)
      [.Assign [.Name (Str.ofString "joined") a1] (.Call (.Name (Str.ofString "_law_joined") a2) [.Name (Str.ofString "rows") a3, .Name (Str.ofString "column") a4] [] a5) a6,
      .Assign [.Name (Str.ofString "due") b1] (.Call (.Name (Str.ofString "_law_whole") b2) [.Name (Str.ofString "table") b3, .Name (Str.ofString "column") b4] [] b5) b6,
      .If (.BoolOp .Or [.Compare (.Call (.Name (Str.ofString "_compare_args_orderless") p1) [.Name (Str.ofString "joined") p2, .BinOp (.Name (Str.ofString "rows") p3) .Add (.Name (Str.ofString "rows") p4) p5] [] p6) [.IsNot] [.Name (Str.ofString "due") p7] p8,
        .Compare (.Call (.Name (Str.ofString "_compare_args_orderless") q1) [.BinOp (.Name (Str.ofString "rows") q2) .Add (.Name (Str.ofString "rows") q3) q4, .Name (Str.ofString "joined") q5] [] q6) [.IsNot] [.Name (Str.ofString "due") q7] q8] r1) [.Return (some (.Constant (.bool false) 0 r2)) r3] [] r4] [] pos) env) Q E s := by
  have hl3 : ∀ r ∈ ks.map pcs, r.length = 3 := fun r hr => by obtain ⟨k, _, rfl⟩ := List.mem_map.mp hr; rfl
  refine ⟨?_⟩
  refine for_walk ?_
  refine WP.go ?_
  refine iter_range3 FE (by kernel_rfl) (G.keeps M.ext) (by kernel_rfl) fun I g₂ tk₂ k₂ hI hr => ?_
  have notI : ∀ {b : Addr} {o : Obj}, s.heap.get? b = some o → b ≠ I := fun e q => by rw [q, hI] at e; cases e
  have hLI : env.locals ≠ I := by obtain ⟨_, ⟨o, _, _, ho, _⟩, _⟩ := M.ns; exact notI ho
  have hcI : c ≠ I := by obtain ⟨o, e⟩ := cell_lt M.cell; exact notI e
  have hRI : R ≠ I := notI M.row
  refine ⟨I, [I], [I], 3, _, _, rfl, Walks.range hh I 0 1 3, hr, fun i h => Mid h₀ env c T R vs ys n (ks.map pcs) h, ?_, ?_, ?_, ?_⟩
  · rintro i ha hb M₁ st hk
    have up : ∀ b o, b ≠ I → ha.get? b = some o → hb.get? b = some o := fun b o hq e => hk b o (by simpa using hq) e
    have sk := SK.of_range st up
    obtain ⟨m, ns, hm⟩ := M₁.ns
    exact ⟨fun b o e => up b o (notI (M.ext b o e)) (M₁.ext b o e), ⟨m, ns.at' fun o e => up _ o hLI e, hm⟩, cell_at M₁.cell fun o e => up c o hcI e, isList_sk M₁.table sk, up R _ hRI M₁.row, M₁.rows.sk sk⟩
  · obtain ⟨m, ns, hm⟩ := M.ns
    exact ⟨fun b o e => k₂ b o (M.ext b o e), ⟨m, ns.keeps k₂, hm⟩, M.cell.keeps k₂, M.table.at fun o e => k₂ T o e, k₂ R _ M.row, M.rows.keeps k₂⟩
  · rintro i v s₃ ⟨g₃, tk₃, rfl⟩ hi ⟨tv, hv⟩ M₁ hri
    have hv' : v = .int (i : Nat) tv := by rw [hv]; congr 1; omega
    subst hv'
    obtain ⟨m, ns, hm⟩ := M₁.ns
    have ns₀ := ns
    refine wpAny_assign_Name (stN FE (by kernel_rfl) ns fun g₄ ns4 sb4 => ?_)
    dsimp only at M₁ ns ns4 sb4 hri ⊢
    have up : ∀ b o, b ≠ env.locals → g₃.get? b = some o → g₄.get? b = some o := fun b o hq e => sb4.extBut b o hq e
    have sk := SK.of_ns ns up
    have ext4 : Ext h₀ g₄ := fun b o e => up b o (fun q => by rw [q, hL] at e; cases e) (M₁.ext b o e)
    refine WP.go ?_
    refine law_turn (R := R) (T := T) (i := i) (ks := ks) (rs := ks.map pcs) FE hfe hfr hh hdp hu G hL ext4 ns4 hm rfl hi hct (cell_at M₁.cell fun o e => up c o hcL e) hcL (isList_sk M₁.table sk) hN hks (up R _ hRL M₁.row) hRL (M₁.rows.sk sk) hsz hl3 (plain1 hi hks) (plain2 hi hks) fun g₅ tk₅ m₅ st5 ns5 hm5 => ?_
    have up5 : ∀ b o, b ≠ env.locals → g₄.get? b = some o → g₅.get? b = some o := fun b o hq e => st5 b o (by simpa using hq) e
    have sk5 := sk.trans (SK.of_ns ns4 up5)
    refine ⟨⟨g₅, _, rfl⟩, ?_, fun b o e => up5 b o (fun q => by rw [q, hL] at e; cases e) (ext4 b o e), ⟨m₅, ns5, hm5⟩, cell_at M₁.cell fun o e => up5 c o hcL (up c o hcL e), isList_sk M₁.table sk5, up5 R _ hRL (up R _ hRL M₁.row), M₁.rows.sk sk5⟩
    intro b hb o e
    rw [List.mem_singleton] at hb
    subst hb
    exact up5 _ o (Ne.symm hLI) (up _ o (Ne.symm hLI) e)
  · exact fun h' tk' M₁ => h h' tk' M₁
end
end Mine
end

section
open PySem PySem.W PyProof.Rows PySem.Calls PySem.SeqAt
set_option maxRecDepth 100000
namespace Mine
section
variable {prog : Program} {w : World} {A : Around} {s : Shared} {E : Value → Shared → Prop} {env : Env} {mg mb : Str → Option Value}

theorem law_body {h₀ : Heap} {l c : Addr} {u : Option Value} {vs : List Value} {m : Str → Option Value} {Q : Flow → Shared → Prop}
    (FE : FEnv env (scAt 72 w.params)) (hfe : env.frame = some env.locals) (hfr : A.frames = some [env]) (hh : A.handled = none) (hdp : A.depth + 1 < recursionLimit) (hu : A.units + 100 < cLine)
    (G : GR w.params mg mb h₀) (hc0 : h₀.get? c = none) (hct : env.cells.lookup (Str.ofString "table") = some c) (hcL : c ≠ env.locals)
    (F : Fr h₀ env.locals s.heap m) (hcell : s.heap.IsCell c u) (hm : m (Str.ofString "script") = some (.ref l)) (hl : h₀.IsList l vs.toArray) (hI : AllInts vs) (hsz : vs.length ≤ 100)
    (h : ∀ h' tk, Ext h₀ h' → Q (.ret (.bool true)) { s with heap := h', toks := tk }) :
    WP (model prog w) A (execs (bodyAt 72 w.params) env) Q (fun _ _ => False) s := by
  have hL : h₀.get? env.locals = none := by
    cases e : h₀.get? env.locals with
    | none => rfl
    | some o => exact absurd (Heap.lt_size e) (Nat.not_lt.mpr F.above)
  have hdp0 : A.depth < recursionLimit := by omega
  have hot : ∀ b ∈ fsOf [env], h₀.get? b = none := fun b hb => by rw [fs_one hfe, List.mem_singleton] at hb; rw [hb]; exact hL
  refine ⟨?_⟩
  -- table
  refine wpAny_execs_cons (wpAny_Assign_Name ?_ (swaps_cell FE (by kernel_rfl)))
  refine WP.go ?_
  refine tableComp hh FE (by kernel_rfl) F.ns hm (hl.at fun o e => F.keep l o e) hI hsz fun T ts nt tl g₁ tk₁ newT k₁ hT hN htl htl9 => ?_
  generalize hks0 : (0 :: 7 :: 7 :: 6 :: tl : List Nat) = ks at hN
  have hks : ∀ k ∈ ks, k < 18 := fun k hk => by
    rw [← hks0] at hk
    simp only [List.mem_cons] at hk
    rcases hk with rfl | rfl | rfl | rfl | hk
    · omega
    · omega
    · omega
    · omega
    · exact htl k hk
  have hkl : ts.length ≤ 13 := by rw [hN.len, ← hks0]; simp; omega
  refine stCc FE (by kernel_rfl) hct (hcell.keeps k₁) fun g₂ c2 sb2 => ?_
  have F1 : Fr h₀ env.locals g₁ m := F.keeps k₁
  have F2 : Fr h₀ env.locals g₂ m := F1.change sb2 hcL hc0
  have hT2 : g₂.IsList T ts.toArray := isList_sk ⟨_, hT, rfl, _, rfl⟩ (SK.of_cell (hcell.keeps k₁) fun b o hb e => sb2.extBut b o hb e)
  -- rows
  refine wpAny_execs_cons ?_
  refine WP.go ?_
  refine law_rows (T := T) (ks := ks) hh FE (by kernel_rfl) (by kernel_rfl) hct c2 hT2 hN hks (by omega) (G.keeps F2.keep) hdp0 F2 (by kernel_rfl) (by kernel_rfl) fun R ys n g₃ tk₃ newR k₃ F3 hR hRL hrows => ?_
  have sk3 : SK g₂ g₃ := SK.of_ns F2.ns k₃
  have hyl : ys.length ≤ 30 := by
    have h1 := hrows.length
    have h2 := hN.len
    rw [List.length_map] at h1; omega
  have c3 : g₃.IsCell c (some (.ref T)) := cell_at c2 fun o e => k₃ c o hcL e
  -- if rows != [...]
  refine wpAny_execs_cons ?_
  refine wpAny_If ?_
  refine wpAny_isTrue_Compare1 ?_
  refine nmL FE (by kernel_rfl) F3.ns (v := .ref R) rfl ?_
  refine WP.go ?_
  refine partsComp (T := T) (ks := ks) hh FE (by kernel_rfl) hct c3 (isList_sk hT2 sk3) hN hks (by omega) (G.keeps F3.keep) hdp0 fun D ds nd g₄ tk₄ newD k₄ hD hdrows => ?_
  have hrows4 : RowsAt g₄ ys (ks.map pcs) := hrows.keeps k₄
  have hR4 := k₄ R _ hR
  obtain ⟨b1, rd1⟩ := hrows4.reads ⟨_, hR4, rfl, _, rfl⟩
  obtain ⟨b2, rd2⟩ := hdrows.reads ⟨_, hD, rfl, _, rfl⟩
  refine compareNe_reads rd1 rd2 (rows_lay hrows.1) (rows_lay hdrows.1) (by have := rows_depth (ks.map pcs); omega) ?_
  rw [rows_eqv]
  refine wpAny_truthy_bool ?_
  simp only [decide_true, Bool.not_true, Bool.false_eq_true, if_false]
  refine wpAny_execs_nil ?_
  have M4 : Mid h₀ env c T R ts ys n (ks.map pcs) g₄ := ⟨fun b o e => k₄ b o (F3.keep b o e), ⟨_, F3.ns.keeps k₄, rfl⟩, c3.keeps k₄, (isList_sk hT2 sk3).at fun o e => k₄ T o e, hR4, hrows4⟩
  -- for column in range(3)
  refine wpAny_execs_cons ?_
  refine WP.go ?_
  refine law_loop (T := T) (R := R) (ks := ks) FE hfe hfr hh hdp hu G hL hct hcL hRL hN hks hyl M4 fun g₅ tk₅ M5 => ?_
  obtain ⟨m5, ns5, hm5⟩ := M5.ns
  -- if the rows and the turned ones are not unlike
  refine wpAny_execs_cons ?_
  refine wpAny_If ?_
  refine wpAny_isTrue_Compare1 ?_
  refine callN2 (a := 36) FE (by kernel_rfl) (G.keeps M5.ext) (by kernel_rfl) (by kernel_rfl) ?_
  refine nmL FE (by kernel_rfl) ns5 hm5 ?_
  refine WP.go ?_
  refine revComp (l := R) (rs := ks.map pcs) hh FE (by kernel_rfl) ns5 hm5 ⟨_, M5.row, rfl, _, rfl⟩ M5.rows (by omega) (fun r hr => by obtain ⟨k, _, rfl⟩ := List.mem_map.mp hr; show 3 ≤ 100; omega) fun V ws nv g₆ tk₆ newV k₆ hV hvrows => ?_
  refine ⟨G.keeps fun b o e => k₆ b o (M5.ext b o e), ?_⟩
  refine cmp_call (outer := [env]) G (fun b o e => k₆ b o (M5.ext b o e)) hot hfr (frames_of FE hfe (ns5.keeps k₆)) hdp hu hh ⟨_, k₆ R _ M5.row, rfl, _, rfl⟩ (M5.rows.keeps k₆) (by omega) ⟨_, hV, rfl, _, rfl⟩ hvrows (by have h1 := hvrows.length; have h2 := M5.rows.length; rw [List.length_map] at h1; omega) fun g₇ tk₇ kf₇ => ?_
  rw [fs_one hfe] at kf₇
  rw [plain3 hks (by rw [← hks0]; exact .head _)]
  refine wpAny_Constant_bool ?_
  refine isNot_bool (wpAny_truthy_bool ?_)
  simp only [beq_self_eq_true, Bool.not_true, Bool.false_eq_true, if_false]
  refine wpAny_execs_nil ?_
  have kfa : Kf [env.locals] g₅ g₇ := (Kf.of_keeps k₆).trans kf₇
  have ns7 : g₇.Ns env.locals m5 := kfa.ns ns5
  have ext7 : Ext h₀ g₇ := fun b o e => kfa.keep b o (fun q => by rw [List.mem_singleton.mp q, hL] at e; cases e) (M5.ext b o e)
  have hR7 : g₇.IsList R ys.toArray := kfa.isList ⟨_, M5.row, rfl, _, rfl⟩
  have hrows7 : RowsAt g₇ ys (ks.map pcs) := M5.rows.kf kfa
  have c7 : g₇.IsCell c (some (.ref T)) := cell_at M5.cell fun o e => kfa.keep c o (by simpa using hcL) e
  have hT7 : g₇.IsList T ts.toArray := kfa.isList M5.table
  -- firsts
  refine wpAny_execs_cons ?_
  refine WP.go ?_
  refine law_firsts (T := T) (ks := ks) hh FE (by kernel_rfl) (by kernel_rfl) (by kernel_rfl) (by kernel_rfl) hct c7 hT7 hN hks (by omega) (G.keeps ext7) hdp0 ns7 (by kernel_rfl) fun Z zs g₈ tk₈ newZ k₈ ns8 hZ hZL hzrows => ?_
  have sk8 : SK g₇ g₈ := SK.of_ns ns7 k₈
  have ext8 : Ext h₀ g₈ := fun b o e => k₈ b o (fun q => by rw [q, hL] at e; cases e) (ext7 b o e)
  have hy : ∃ v ys', ys = v :: ys' := by
    cases ys with
    | nil => have := hrows.length; rw [← hks0] at this; simp at this
    | cons v ys' => exact ⟨v, ys', rfl⟩
  obtain ⟨v, ys', rfl⟩ := hy
  -- the try and the end
  refine WP.go ?_
  refine law_end (R := R) (F := Z) FE hfe hfr hh hdp hu G hL ext8 ns8 hm5 rfl (isList_sk hR7 sk8) (hrows7.sk sk8) (by omega) hZ hzrows (plain4 hks) fun g₉ tk₉ ext9 => ?_
  exact h g₉ tk₉ ext9
end
end Mine
end

section
open PySem PySem.W PyProof.Rows PySem.Calls PySem.SeqAt
set_option maxRecDepth 100000
namespace Mine
section
variable {prog : Program} {w : World} {A : Around} {s : Shared} {E : Value → Shared → Prop} {env : Env} {mg mb : Str → Option Value}

/-- the law's call, as the head leaves it -/
theorem law_join {h₀ h₁ : Heap} {tk : Nat} {body : List Stmt} {l L : Addr} {o : Obj} {x : Option Value} {vs : List Value} {ns : List Int} {m : Str → Option Value} {Q : Flow → Shared → Prop}
    (hb : body = bodyAt 72 w.params) (hsc : env.scope = scAt 72 w.params) (hk : (scAt 72 w.params).kind = .function) (hgl : env.globals = mainGlobals) (hbl : env.builtins = builtinsNs) (hf : env.frame = some L) (hLe : env.locals = L)
    (hct : env.cells.lookup (Str.ofString "table") = some (L + 1)) (hfr : A.frames = some [env]) (hh : A.handled = none) (hdp : A.depth + 1 < recursionLimit) (hu : A.units + 100 < cLine)
    (X : (hd.heap_39 w.params).In h₀) (g : h₀.Ns mainGlobals mg) (b : h₀.Ns builtinsNs mb) (lim : h₀.NoLimit) (bm : ∀ x : Str, x ≠ "__name__" → mb x = bootBuiltins x)
    (F : Fr h₀ L h₁ m) (N : News h₀ L h₁ [(L + 1, o)]) (ho : o.data = .cell x) (hm : m (Str.ofString "script") = some (.ref l)) (hl : h₀.IsList l vs.toArray) (hI : IntsAre vs ns) (hsz : ¬ ((63 : Int) < (ns.length : Int)))
    (h : ∀ h' tk, Ext h₀ h' → Q (.ret (.bool true)) { s with heap := h', toks := tk }) :
    WP (model prog w) A (execs body env) Q E { s with heap := h₁, toks := tk } := by
  subst hb
  subst hLe
  have hN := N _ (List.mem_singleton.mpr rfl)
  refine ⟨?_⟩
  refine wpAny_noRaise ?_
  refine WP.go ?_
  refine law_body (s := { s with heap := h₁, toks := tk }) (h₀ := h₀) (u := x) ⟨hsc, hk, hgl, hbl⟩ hf hfr hh hdp hu ⟨X, g, b, lim, bm⟩ hN.2.2 hct hN.2.1 F ⟨o, hN.1, ho⟩ hm hl (allInts_of hI) (by have := hI.length; omega) h
end
end Mine
end

open PySem PySem.W PyProof.Rows
set_option maxRecDepth 100000 in
set_option maxHeartbeats 8000000 in
theorem PySem.Challenge.cw_ny0016_01_holds : PySem.Challenge.rw_ny0016_01.Holds := by
  refine Mine.hd ?_
  k_go0
  rename_i w s₀ s₁ mg mb G Y fa o pm doc ho hg KX X V GL T B TE TW w10 w9 M w8 w7 hcd ns hs hlay0 hL1 hr1 hl2 w5 w4 l vs w1 hL ra wl r0 hI hr hcond1 hcond K0 hD h₁ tk₁ F wo right N0 X0
  refine Mine.WP.go ?_
  refine Mine.law_join (s := s₁) (h₀ := s₁.heap) (h₁ := h₁) (tk := tk₁) (L := s₁.heap.objs.size) (l := l) (vs := vs) (ns := ns) (by kernel_rfl) (by kernel_rfl) (by kernel_rfl) rfl rfl rfl rfl (by kernel_rfl) rfl rfl (by show (1 + 300 + 1 + 1 : Nat) < 1000; decide) (by show (4 + 3 + 100 : Nat) < 9900; decide) KX GL.g GL.b GL.nolimit GL.builtins F N0 right (by kernel_rfl) hL hI hcond1 fun h' tk ext => ?_
  refine ⟨.inl ⟨.bool true, .bool true, [], rfl, fun _ => rfl, .bool true, ?_, unshared_nil⟩, ext, rfl, hg⟩
  kernel_rfl
