import PyProof.Rows.All
import Wide.All
import OpenK.AllK
import Wide.FinOn
import PySem.Challenge.RW_pe0228_02
set_option Elab.async false
set_option maxRecDepth 100000
set_option linter.unusedVariables false
open PySem PySem.W PyProof.Rows PySem.Calls PySem.Spec
namespace Mine
-- B0
section

/-- the frame at hand and its ledger -/
structure Lg (h₀ : Heap) (L : Addr) (h : Heap) (m : Str → Option Value) (news : List (Addr × Obj)) : Prop where
  F : Fr h₀ L h m
  N : News h₀ L h news
  nd : (news.map (·.1)).Nodup

/-- the standing facts of a frame: n calls may still be opened -/
structure Cx (K : Frag) (pr : Program) (loose : List Str) (mean : ExcName → Option Value) (mg mb : Str → Option Value)
    (n : Nat) (A : Around) (env : Env) (L : Addr) (h₀ : Heap) : Prop where
  B : ∃ A₀ base outer, Below A₀ base outer h₀ ∧ A.frames = some (env :: outer)
  ef : env.frame = some L
  el : env.locals = L
  ek : env.scope.kind = .function
  X : K.In h₀
  T : Top pr loose mean mg mb h₀
  dp : A.depth + 4 * n < 1000
  un : A.units + 40 * n < 9900
  hn : A.handled = none

theorem Lg.perm {h₀ h : Heap} {L : Addr} {m : Str → Option Value} {a b : List (Addr × Obj)} (G : Lg h₀ L h m a) (p : a.Perm b) : Lg h₀ L h m b :=
  ⟨G.F, fun q hq => G.N q (p.mem_iff.mpr hq), (p.map _).nodup_iff.mp G.nd⟩
theorem Lg.sub {h₀ h : Heap} {L : Addr} {m : Str → Option Value} {a b : List (Addr × Obj)} (G : Lg h₀ L h m a) (p : b.Sublist a) : Lg h₀ L h m b :=
  ⟨G.F, fun q hq => G.N q (p.subset hq), (p.map _).nodup G.nd⟩

theorem Lg.set {h₀ h h' : Heap} {L D : Addr} {m : Str → Option Value} {news : List (Addr × Obj)} {o o' : Obj} (G : Lg h₀ L h m news) (i : Nat) (hi : news[i]? = some (D, o))
    (hs : Heap.SameBut D h h') (ho : h'.get? D = some o') : Lg h₀ L h' m (news.set i (D, o')) := by
  have hm := G.N _ (List.mem_of_getElem? hi)
  have e : (news.set i (D, o')).map (·.1) = news.map (·.1) := by
    rw [List.map_set]
    obtain ⟨hl, he⟩ := List.getElem?_eq_some_iff.mp hi
    apply List.ext_getElem?
    intro j
    by_cases hj : i = j
    · subst hj; rw [List.getElem?_set_self (by simpa using hl), List.getElem?_map, hi]; rfl
    · rw [List.getElem?_set_ne hj]
  refine ⟨G.F.change hs hm.2.1 hm.2.2, fun p hp => ?_, by rw [e]; exact G.nd⟩
  rcases List.mem_or_eq_of_mem_set hp with hp' | rfl
  · by_cases hd : p.1 = D
    · -- the same address: then it stands at place i, and has been replaced
      obtain ⟨j, hl, hj⟩ := List.getElem_of_mem hp
      rw [List.length_set] at hl
      by_cases hij : i = j
      · subst hij
        have : p = (D, o') := by rw [← hj]; simp
        subst this
        exact ⟨ho, hm.2⟩
      · exfalso
        have hj2 : news[j] = p := by rw [← hj, List.getElem_set_ne hij]
        obtain ⟨hli, hei⟩ := List.getElem?_eq_some_iff.mp hi
        have nd := List.pairwise_iff_getElem.mp G.nd
        rcases Nat.lt_or_gt_of_ne hij with q | q
        · exact nd i j (by simpa using hli) (by simpa using hl) q (by simp only [List.getElem_map, hei, hj2, hd])
        · exact nd j i (by simpa using hl) (by simpa using hli) q (by simp only [List.getElem_map, hei, hj2, hd])
    · have z := G.N p hp'
      exact ⟨(hs.2 _ hd).trans z.1, z.2⟩
  · exact ⟨ho, hm.2⟩

theorem Lg.cons {h₀ h h' : Heap} {L : Addr} {m : Str → Option Value} {news : List (Addr × Obj)} {a : Addr} {o : Obj} (G : Lg h₀ L h m news) (F' : Fr h₀ L h' m) (N' : News h₀ L h' ((a, o) :: news))
    (hl : ∀ p ∈ news, p.1 < a) : Lg h₀ L h' m ((a, o) :: news) :=
  ⟨F', N', by
    rw [List.map_cons, List.nodup_cons]
    refine ⟨fun hm => ?_, G.nd⟩
    obtain ⟨p, hp, e⟩ := List.mem_map.mp hm
    exact absurd (hl p hp) (by rw [e]; exact Nat.lt_irrefl _)⟩

theorem Lg.push {h₀ h : Heap} {L : Addr} {m : Str → Option Value} {news : List (Addr × Obj)} (G : Lg h₀ L h m news) (o : Obj) (hf : o.isFreed = false := by rfl) :
    Lg h₀ L (h.push o) m ((h.objs.size, o) :: news) :=
  G.cons (G.F.push o) (G.N.push G.F o hf) fun p hp => Heap.lt_size (G.N p hp).1

section
variable {K : Frag} {pr : Program} {loose : List Str} {mean : ExcName → Option Value} {mg mb : Str → Option Value} {prog : Program} {w : World} {n : Nat} {A : Around} {env : Env} {L : Addr} {h₀ : Heap}
  {m : Str → Option Value} {news : List (Addr × Obj)} {s : Shared} {E : Value → Shared → Prop}

/-- what a frame hands back -/
def Back (h₀ : Heap) (L : Addr) (m : Str → Option Value) (g : Heap) (L' : Addr) (Q : Value → Shared → Prop) (v : Value) (s' : Shared) : Prop :=
  ∃ m' news', Lg g L' s'.heap m' news' ∧ (Lg h₀ L s'.heap m news' → Q v s')

def rv : Flow → Value
  | .ret v => v
  | _ => .none

/-- what a call's end has to meet -/
abbrev RQ (Q E : Value → Shared → Prop) : Result → Shared → Prop := fun r s' => match r with | .ok (.ret v) => Q v s' | .ok _ => False | .error e => E e s'

theorem enterC {Q : Value → Shared → Prop} {name qual : Str} {params : Arguments} {body : List Stmt} {scope : Scope} {dV kV doc pm cdv ct oc : Value} {an od : Option Addr} {osl : Array (Option Value)} {f : Addr}
    {args : List Value} {kw : List (Str × Value)} {binds : List (Str × Value)}
    (C : Cx K pr loose mean mg mb (n + 1) A env L h₀) (G : Lg h₀ L s.heap m news)
    (ho : K.lookup f = some ⟨oc, od, .func (fnOf name qual params body scope dV kV doc pm an cdv ct), osl⟩) (hcd : codeIn K cdv qual = true)
    (hbind : BindsTo s (fnOf name qual params body scope dV kV doc pm an cdv ct) ⟨args, kw⟩ binds) (hloc : ∀ y ∈ binds, scope.names.lookup y.1 = some .local)
    (hco : scope.isCoroutine = false) (hgen : scope.isGenerator = false) (hk : scope.kind = .function) (hcell : ∀ x ∈ scope.names, x.2 ≠ .cell)
    (h : ∀ g L' h₁, Cx K pr loose mean mg mb n (A.deeper (envOf qual scope L' f cdv)) (envOf qual scope L' f cdv) L' g → h₀.StaysIn g →
      Lg g L' h₁ (fun y => binds.reverse.lookup y) news →
      wpAny (model prog w) (A.deeper (envOf qual scope L' f cdv)) (execs body (envOf qual scope L' f cdv)) (fun fl s' => Back h₀ L m g L' Q (rv fl) s') (fun _ _ => False)
        { s with heap := h₁, toks := s.toks + binds.length }) :
    codeAny (model prog w) A (.call (.ref f) ⟨args, kw⟩) (RQ Q E) s := by
  obtain ⟨A₀, base, outer, B, hA⟩ := C.B
  have hr : A.depth < recursionLimit := by have := C.dp; show A.depth < 1000; omega
  refine (callX_plain (cl := []) B G.F G.N C.T.nolimit hA C.ef C.ek ((C.X.keeps G.F.keep) _ _ ho) rfl (codeRec_of (C.X.keeps G.F.keep) hcd) hr hbind hloc ?_ hcell hco hgen hk)
  intro g L' h₁ FG F' N' B' st lt
  have C' : Cx K pr loose mean mg mb n (A.deeper (envOf qual scope L' f cdv)) (envOf qual scope L' f cdv) L' g := by
    refine ⟨⟨A, base, env :: outer, B', Around.frames_deeper hA⟩, rfl, rfl, hk, C.X.keeps st, C.T.keeps st, ?_, ?_, C.hn⟩
    · have := C.dp; show A.depth + 1 + 4 * n < 1000; omega
    · have := C.un; show A.units + 3 + 40 * n < 9900; omega
  refine wpAny_mono (h g L' h₁ C' st ⟨F', N', G.nd⟩) (fun fl s' hb => ?_) fun _ _ x => x.elim
  obtain ⟨m', news', G', k⟩ := hb
  refine ⟨L', m', news', G'.F, G'.N, fun F₂ N₂ => ?_⟩
  have := k ⟨F₂, N₂, G'.nd⟩
  cases fl <;> exact this

theorem enter {Q : Value → Shared → Prop} {name qual : Str} {params : Arguments} {body : List Stmt} {scope : Scope} {dV kV doc pm cdv ct oc : Value} {an od : Option Addr} {osl : Array (Option Value)} {f : Addr}
    {args : List Value} {kw : List (Str × Value)} {binds : List (Str × Value)}
    (C : Cx K pr loose mean mg mb (n + 1) A env L h₀) (G : Lg h₀ L s.heap m news)
    (ho : K.lookup f = some ⟨oc, od, .func (fnOf name qual params body scope dV kV doc pm an cdv ct), osl⟩) (hcd : codeIn K cdv qual = true)
    (hbind : BindsTo s (fnOf name qual params body scope dV kV doc pm an cdv ct) ⟨args, kw⟩ binds) (hloc : ∀ y ∈ binds, scope.names.lookup y.1 = some .local)
    (hco : scope.isCoroutine = false) (hgen : scope.isGenerator = false) (hk : scope.kind = .function) (hcell : ∀ x ∈ scope.names, x.2 ≠ .cell)
    (h : ∀ g L' h₁, Cx K pr loose mean mg mb n (A.deeper (envOf qual scope L' f cdv)) (envOf qual scope L' f cdv) L' g → h₀.StaysIn g →
      Lg g L' h₁ (fun y => binds.reverse.lookup y) news →
      wpAny (model prog w) (A.deeper (envOf qual scope L' f cdv)) (execs body (envOf qual scope L' f cdv)) (fun fl s' => Back h₀ L m g L' Q (rv fl) s') (fun _ _ => False)
        { s with heap := h₁, toks := s.toks + binds.length }) :
    wpAny (model prog w) A (call (.ref f) args kw) Q E s := wpAny_call (enterC C G ho hcd hbind hloc hco hgen hk hcell h)

theorem Cx.in1 (C : Cx K pr loose mean mg mb (n + 1) A env L h₀) : Cx K pr loose mean mg mb n A.in1 env L h₀ := by
  obtain ⟨B, ef, el, ek, X, T, dp, un, hn⟩ := C
  exact ⟨B, ef, el, ek, X, T, by show A.depth + _ < _; omega, by show A.units + 1 + _ < _; omega, hn⟩
theorem Cx.less (C : Cx K pr loose mean mg mb (n + 1) A env L h₀) : Cx K pr loose mean mg mb n A env L h₀ := by
  obtain ⟨B, ef, el, ek, X, T, dp, un, hn⟩ := C
  exact ⟨B, ef, el, ek, X, T, by omega, by omega, hn⟩
end
end
-- B1
section

section
variable {K : Frag} {pr : Program} {loose : List Str} {mean : ExcName → Option Value} {mg mb : Str → Option Value} {prog : Program} {w : World} {n : Nat} {A : Around} {env : Env} {L : Addr} {h₀ : Heap}
  {m : Str → Option Value} {news : List (Addr × Obj)} {s : Shared} {E : Value → Shared → Prop} {M : Model}

theorem Lg.mem {a : Addr} {o : Obj} {h : Heap} (G : Lg h₀ L h m news) (hm : (a, o) ∈ news) : h.get? a = some o := (G.N _ hm).1
theorem Lg.lst {a : Addr} {its : Array Value} {c : Nat} {h : Heap} (G : Lg h₀ L h m news) (hm : (a, listOf its c) ∈ news) : h.IsList a its := ⟨_, G.mem hm, rfl, c, rfl⟩
theorem Lg.of2 {h h' : Heap} {m' : Str → Option Value} (G : Lg h₀ L h m news) (F' : Fr h₀ L h' m') (N' : News h₀ L h' news) : Lg h₀ L h' m' news := ⟨F', N', G.nd⟩

/-- a local name stored -/
theorem r_store {cn : Str} {cs : Scope} {a : Addr} {ccd : Value} {cl : List (Str × Addr)} {x : Str} {v : Value} {Q : Unit → Shared → Prop} (G : Lg h₀ L s.heap m news)
    (h : ∀ h', Lg h₀ L h' (fun y => if y = x then some v else m y) news → Q () { s with heap := h', toks := s.toks + 1 })
    (hk : cs.kind = .function := by rfl) (hx : (envX cn cs L a ccd cl).kindOf x = some .local := by rfl) : wpAny M A (storeName (envX cn cs L a ccd cl) x v) Q E s :=
  storeX_L G.F G.N (fun h' F' N' => h h' ⟨F', N', G.nd⟩) hk hx

theorem r_item {value slice : PySem.Expr} {l : Addr} {its : Array Value} {c : Nat} {k : Int} {u : Tok} {v : Value} {Q : Value → Shared → Prop}
    (G : Lg h₀ L s.heap m news) (hm : (l, listOf its c) ∈ news) (h0 : 0 ≤ k) (hhi : k < 2 ^ 63) (hx : its[k.toNat]? = some v) (h : Q v s)
    (hs : subscripted slice false (.ref l) (.int k u) = operate [.ref l, .int k u] (getItem (.ref l) (.int k u)) := by with_unfolding_all rfl) :
    wpAny (model prog w) A (subscriptTail value slice (.ref l) (.int k u)) Q E s :=
  tail_any (G.lst hm).typeIs slot_list_getitem.lookup (wpAny_getItem_list (G.lst hm) h0 hhi hx h) hs

theorem r_setItem {l : Addr} {its : Array Value} {c i : Nat} {k : Int} {u : Tok} {v : Value} {Q : Unit → Shared → Prop}
    (G : Lg h₀ L s.heap m news) (hi : news[i]? = some (l, listOf its c)) (h0 : 0 ≤ k) (hhi : k < 2 ^ 63) (hn : k < its.size)
    (h : ∀ h', Lg h₀ L h' m (news.set i (l, listOf (its.setIfInBounds k.toNat v) c)) → Q () { s with heap := h' }) :
    wpAny (model prog w) A (setItem (.ref l) (.int k u) v) Q E s := by
  have ho := G.mem (List.mem_of_getElem? hi)
  refine ki_setAt ho h0 hhi hn (h _ ?_)
  have e : Obj.mapSeq (·.setIfInBounds k.toNat v) (listOf its c) = listOf (its.setIfInBounds k.toNat v) c := by simp [Obj.mapSeq]
  refine G.set i hi (Heap.SameBut.update ..) ?_
  rw [Heap.get?_update_self _ ho (by rw [e]; rfl), e]
end
end
-- F1
section
set_option maxHeartbeats 1000000
theorem fn_ga : typeLookup (.type "function") "__getattribute__" = pure (some (.builtin "object.__getattribute__")) := by rw [typeLookup_type, builtinLookup_eq_fast]; kernel_rfl
theorem fn_noGetattr : typeLookup (.type "function") "__getattr__" = pure none := by rw [typeLookup_type, builtinLookup_eq_fast]; kernel_rfl
theorem fn_read : typeLookup (.type "function") "read" = pure none := by rw [typeLookup_type, builtinLookup_eq_fast]; kernel_rfl
theorem slot_fn_ga : Slot "function" "__getattribute__" "object.__getattribute__" :=
  .of (owner := "object") (n := "__getattribute__") (by rw [typeLookup_type, builtinLookup_eq_fast]; kernel_rfl) (by decide +kernel) (by decide +kernel) (by decide +kernel)
    (by first | exact .inl (by decide +kernel) | exact .inr (by decide +kernel)) (by rw [isSubtype_type]; kernel_rfl)
theorem entry_oga : entryFor table "object.__getattribute__" = some Builtin.«object.__getattribute__» := entryFor_of_tree (by kernel_rfl)
theorem args_oga (a b : Value) : argsOk "object.__getattribute__" ⟨[a, b], []⟩ := by unfold argsOk; kernel_rfl

section
variable {prog : Program} {w : World} {A : Around} {s : Shared} {E : Value → Shared → Prop}
theorem oga_fn {st sd : Addr} {fd : FuncData} {sl : Array (Option Value)} {es : List DictEntry} {k : Nat} {v : Value} {name : Str} {u : Tok} {Q : Fin → Shared → Prop}
    (hst : s.heap.get? st = some ⟨.type "function", some sd, .func fd, sl⟩) (hsd : s.heap.get? sd = some (dictOf es k)) (hnone : typeLookup (.type "function") name = pure none)
    (hl : getL name es = some (some v)) (h : Q (.done (.ret v)) s) :
    wpAny (model prog w) A (Builtin.«object.__getattribute__» ⟨[.ref st, .str name u], []⟩) Q E s := by
  have hT : s.TypeIs (.ref st) "function" := ⟨_, hst, rfl⟩
  have hnl : nsLook name (dictOf es k) = pure (some v) := nsLook_of hl
  unfold Builtin.«object.__getattribute__»
  repeat (any_goals (first | assumption | wp_step))

theorem getAttr_fn {st sd : Addr} {fd : FuncData} {sl : Array (Option Value)} {es : List DictEntry} {k : Nat} {v : Value} {name : Str} {b : Bool} {Q : Value → Shared → Prop}
    (hst : s.heap.get? st = some ⟨.type "function", some sd, .func fd, sl⟩) (hsd : s.heap.get? sd = some (dictOf es k)) (hnone : typeLookup (.type "function") name = pure none)
    (hl : getL name es = some (some v)) (hv : handedIn v = true) (h : Q v { s with toks := s.toks + 1 }) :
    wpAny (model prog w) A (getAttr (.ref st) name b) Q E s := by
  have hT : ∀ tk, ({ s with toks := tk } : Shared).TypeIs (.ref st) "function" := fun _ => ⟨_, hst, rfl⟩
  unfold getAttr
  refine wpAny_bind (wpAny_mkText ?_)
  unfold getAttrBy
  refine wpAny_holding (wpAny_bind (wpAny_typeOf (hT _) ?_))
  refine wpAny_bind (wpAny_of_eq fn_ga ?_)
  show wpAny _ _ (getAttrByItsOwn _ _ _ _ _ _) _ _ _
  unfold getAttrByItsOwn
  refine wpAny_bind (wpAny_pure ?_)
  refine wpAny_bind (wpAny_attempt (wpAny_holding ?_))
  unfold callGetattribute
  rw [show (b && onTheHeap (Value.builtin "object.__getattribute__")) = false by cases b <;> rfl]
  show wpAny _ _ (boundAndCalled _ _ _) _ _ _
  unfold boundAndCalled
  refine wpAny_bind (wpAny_of_eq (slot_fn_ga.bind (.ref st)) ?_)
  refine wpAny_call_entry slot_fn_ga (hT _) entry_oga (oga_fn (s := { s with toks := s.toks + 1 }) hst hsd hnone hl ⟨v, rfl, ?_⟩) (args_oga _ _)
  show wpAny _ _ (handedOut v) _ _ _
  rw [handedOut_of hv]
  exact wpAny_pure h

theorem getMethod_fn {st sd : Addr} {fd : FuncData} {sl : Array (Option Value)} {es : List DictEntry} {k : Nat} {v : Value} {name : Str} {pl : Sem Bool} {Q : Value × List Value → Shared → Prop}
    (hst : s.heap.get? st = some ⟨.type "function", some sd, .func fd, sl⟩) (hsd : s.heap.get? sd = some (dictOf es k)) (hnone : typeLookup (.type "function") name = pure none)
    (hl : getL name es = some (some v)) (hv : handedIn v = true) (h : Q (v, []) { s with toks := s.toks + 1 }) :
    wpAny (model prog w) A (getMethod (.ref st) name pl) Q E s := by
  have hT : s.TypeIs (.ref st) "function" := ⟨_, hst, rfl⟩
  unfold getMethod
  refine wpAny_bind (wpAny_specialOf hT fn_ga ?_)
  show wpAny _ _ (if (Manifest.canonical "object.__getattribute__" != "object.__getattribute__") = true then _ else _) Q E s
  rw [PySem.F.canon_object_ga, if_neg Bool.false_ne_true]
  refine wpAny_bind (wpAny_specialOf hT fn_noGetattr ?_)
  refine wpAny_bind (wpAny_specialOf hT hnone ?_)
  exact wpAny_bind (getAttr_fn hst hsd hnone hl hv (wpAny_pure h))
end
end
-- Top_02
section
set_option maxHeartbeats 0
theorem said02 : PySem.Challenge.rw_pe0228_02.wellSaid = true := by kernel_rfl
/-- the opening and the top, walked with the library's quick twins of its own functions -/
noncomputable def openTw (p : Program) (w : World) (N : Nat) : Option Shared := (Fast.tw10274390034422433532 Fast.tw14364793385576792824 (opening p) w N (Fast.tw1435165496053646825 (opening p)).1 (Fast.tw1435165496053646825 (opening p)).2).bind (fenceModules? p)
theorem open_tw (p : Program) (w : World) (N : Nat) : fencedOpening treeTable p w N = openTw p w N := by
  unfold fencedOpening openTw
  rw [← Fast.te10274390034422433532, ← Fast.te14364793385576792824, ← Fast.te1435165496053646825]
noncomputable def stubTw (p : Program) : Thread := ⟨Fast.tw17154629097778926822 p.main >>= fun code => newBodyFrame code mainNs mainNs >>= fun frame => run (.body (behindTheImports p) { scope := p.main.scope, locals := mainNs, globals := mainNs, cells := [], code := code, frame := some frame }) >>= fun _ => ret Value.none, .builtin "claim.caller" {}, default, []⟩
theorem stub_tw (p : Program) : topStub p = stubTw p := by
  unfold topStub stubTw
  rw [← Fast.te17154629097778926822]
noncomputable def runTw (p : Program) (w : World) (N : Nat) (s₀ : Shared) : Option Shared := match s₀.heap.isNs mainGlobals && s₀.gens.size == 0 with
  | true => Fast.tw14082659384304107361 Fast.tw14364793385576792824 p w s₀.heap.objs.size (s₀.heap.nsMap mainGlobals "__annotations__") N s₀ (stubTw p)
  | false => none
noncomputable def fromTw (p : Program) (w : World) (N : Nat) (s₀ : Shared) : Option Shared := (runTw p w N s₀).bind fun s₁ => match staticsOk (importedModules p.main.body) s₀.heap s₁.heap && namesBound p s₁.heap && gensDone s₁ && laidKept s₀.heap s₁.heap with
  | true => some s₁
  | false => none
theorem from_tw (p : Program) (w : World) (N : Nat) (s₀ : Shared) : topFrom treeTable p w N s₀ = fromTw p w N s₀ := by
  unfold topFrom fromTw runTw
  rw [← Fast.te14082659384304107361, ← Fast.te14364793385576792824, ← stub_tw]
  cases s₀.heap.isNs mainGlobals && s₀.gens.size == 0 <;> rfl
theorem left_tw {p q : Program} {loose : List Str} {Xt : Shared → Bool} {α : Type} {Yf : Shared → α} {Ya : World → α} {N : Nat}
    (h : ∀ w, ((openTw p w N).bind (fromTw p w N)).map (fun s => (Fast.tw4187177175401517315 q loose (importedModules p.main.body) Xt true s, Yf s)) = some (openGood q loose, Ya w)) : LeftO p q loose Xt Yf Ya N := fun w => by
  have e := h w
  rw [← Fast.te4187177175401517315] at e
  unfold openEnds
  rw [open_tw, show topFrom treeTable p w N = fromTw p w N from funext (from_tw p w N)]
  exact e
/-- the program, its four compiled patterns left out -/
def view : Program := { PySem.Challenge.rw_pe0228_02.prog with main := { PySem.Challenge.rw_pe0228_02.prog.main with body := [0, 1, 3, 5, 6, 7, 8, 10, 11, 12, 14, 15, 16, 17, 18, 19].filterMap fun i => PySem.Challenge.rw_pe0228_02.prog.main.body[i]? } }
-- the head at once: the library's own road parts the top in pieces, whose compiled file is too large
local macro_rules | `(tactic| o_head $H) => do
  let hl := Lean.mkIdent `hl
  let hw := Lean.mkIdent `hw
  let hc := Lean.mkIdent `hc
  `(tactic| (refine holds_open (q := view) (loose := [Str.ofString "_twin_re_1", Str.ofString "_twin_re_2", Str.ofString "_name_disallowed_re", Str.ofString "_value_disallowed_re"]) (Xt := fun s => xlAt view [] s && recOk (RowW.records (OpenRow.toRowW PySem.Challenge.rw_pe0228_02.row)) s) (XP := XL view []) (Yf := Hook.obs $H) (Ya := Hook.val $H) (YP := Hook.says $H) (N := 3346) ?$hl (Hook.of $H) (Hook.keeps $H) (fun s e => xl_of s (Bool.and_eq_true_iff.mp e).1) XL.keeps (by rfl) (by rfl) (by rfl) (fun s e => recFacts_of (Bool.and_eq_true_iff.mp e).2) (by rfl) (by first | assumption | decide +kernel) (by decide +kernel) ⟨rfl, rfl, rfl, rfl, rfl, by decide +kernel⟩ ?$hw ?$hc; (case $hl:ident => (refine left_tw fun w => ?_; kernel_rfl))))
local macro_rules | `(tactic| o_law) => `(tactic| refine holds_law said02 fun said => ?_)
open_top hd for PySem.Challenge.rw_pe0228_02
end
-- M1
section
theorem fill : hd.heap_1 = hd.heap_1 ∧ PySem.Challenge.rw_pe0228_02 = PySem.Challenge.rw_pe0228_02 := by
  k_fill
  exact ⟨rfl, rfl⟩

/-- the body of the def at an address of the written part -/
def bodyAt (K : Frag) (a : Addr) : List Stmt := match K.lookup a with
  | some ⟨_, _, .func fd, _⟩ => (match fd.body with | .stmts b => b | _ => [])
  | _ => []
/-- the def that stands as the i-th statement of that body -/
def defIn (K : Frag) (a i : Nat) : Str × Arguments × List Stmt × Scope := match (bodyAt K a)[i]? with
  | some (.FunctionDef nm p b _ _ _ sc _ _ _) => (nm, p, b, sc)
  | _ => ("", ⟨[], [], none, [], [], none, []⟩, [], default)

theorem defIn_of {K : Frag} {a i : Nat} {name qual : Str} {params : Arguments} {body : List Stmt} {scope : Scope} {dV kV doc pm cdv ct oc : Value} {an od : Option Addr} {osl : Array (Option Value)}
    {nm : Str} {p : Arguments} {b : List Stmt} {ds : List PySem.Expr} {r : Option PySem.Expr} {tps : List TypeParam} {sc : Scope} {ts : Option Scope} {bind : Str} {pos : Pos}
    (ho : K.lookup a = some ⟨oc, od, .func (fnOf name qual params body scope dV kV doc pm an cdv ct), osl⟩) (hi : body[i]? = some (.FunctionDef nm p b ds r tps sc ts bind pos)) : defIn K a i = (nm, p, b, sc) := by
  unfold defIn bodyAt
  rw [ho]
  dsimp only
  rw [hi]

/-- the sign at a place of a text: one sign, or none behind its end -/
def sgn (x : Str) (p : Nat) : Str := ⟨((x.cps.toList.drop p).take 1).toArray⟩
theorem sgn_slice (x : Str) (p : Nat) (hp : p ≤ x.length) : Txt.slice x (some (p : Int)) (some ((p : Int) + 1)) = sgn x p := by
  have hl : x.cps.toList.length = x.length := by simp [Str.length]
  by_cases h : p + 1 ≤ x.length
  · have := beq_iff_eq.mp (slice_closes (x := x) (i := (p : Int)) (j := (p : Int) + 1) ⟨by omega, by omega, by rw [hl]; omega⟩)
    rw [this]
    unfold sgn
    rw [show ((p : Int) + 1 - p).toNat = 1 by omega, Int.toNat_natCast]
  · have e : p = x.length := by omega
    have h0 : ¬ ((x.length : Int) < 0) := by omega
    have h1 : ¬ ((x.length : Int) + 1 < 0) := by omega
    have hi : Builtin.Str.strSliceIndices (some (x.length : Int)) (some ((x.length : Int) + 1)) 1 x.length = [] := by
      simp only [Builtin.Str.strSliceIndices, h0, h1, if_false, show (1 : Int) > 0 by decide, if_true, sliceRange]
      rw [show max 0 (min (x.length : Int) x.length) = x.length by omega, show max 0 (min ((x.length : Int) + 1) x.length) = x.length by omega]
      simp
    subst e
    unfold Txt.slice sgn
    rw [hi]
    have hd : x.cps.toList.drop x.length = [] := by rw [← hl]; simp
    rw [hd]
    split
    · rename_i q
      have : x.length = 0 := by simpa using (eq_comm.mp (by simpa using q : (0 : Nat) = x.length))
      have hx : x.cps = #[] := Array.size_eq_zero_iff.mp this
      obtain ⟨c⟩ := x
      simp only at hx
      rw [hx]; rfl
    · rfl
theorem sgn_len (x : Str) (p : Nat) : (sgn x p).length ≤ 1 := by
  show ((x.cps.toList.drop p).take 1).toArray.size ≤ 1
  rw [List.size_toArray, List.length_take]; omega

section
variable {pr : Program} {loose : List Str} {mean : ExcName → Option Value} {mg mb : Str → Option Value} {prog : Program} {w : World} {n : Nat} {A : Around} {env : Env} {L : Addr} {h₀ : Heap}
  {m : Str → Option Value} {news : List (Addr × Obj)} {s : Shared} {E : Value → Shared → Prop}

theorem enterN {K : Frag} {Q : Value → Shared → Prop} {name qual : Str} {params : Arguments} {body : List Stmt} {scope : Scope} {cl : List (Str × Addr)} {doc pm ctv : Value} {c' f : Addr} {oc : Obj} {vs : Array Value} {tq : Tok}
    {args : List Value} {kw : List (Str × Value)} {binds : List (Str × Value)}
    (C : Cx K pr loose mean mg mb (n + 1) A env L h₀) (G : Lg h₀ L s.heap m news)
    (ho : (f, fnMade name qual params body scope cl doc pm c' ctv) ∈ news) (hoc : (c', oc) ∈ news) (hod : oc.data = .fields vs) (hov : vs[1]? = some (.str qual tq))
    (hbind : BindsTo s (fnX name qual params body scope cl .none .none doc pm none (.ref c') ctv) ⟨args, kw⟩ binds) (hloc : ∀ y ∈ binds, scope.names.lookup y.1 = some .local)
    (hco : scope.isCoroutine = false) (hgen : scope.isGenerator = false) (hk : scope.kind = .function) (hcell : ∀ x ∈ scope.names, x.2 ≠ .cell)
    (h : ∀ g L' h₁, Cx K pr loose mean mg mb n (A.deeper (envX qual scope L' f (.ref c') cl)) (envX qual scope L' f (.ref c') cl) L' g → h₀.StaysIn g →
      Lg g L' h₁ (fun y => binds.reverse.lookup y) news →
      wpAny (model prog w) (A.deeper (envX qual scope L' f (.ref c') cl)) (execs body (envX qual scope L' f (.ref c') cl)) (fun fl s' => Back h₀ L m g L' Q (rv fl) s') (fun _ _ => False)
        { s with heap := h₁, toks := s.toks + binds.length }) :
    wpAny (model prog w) A (call (.ref f) args kw) Q E s := by
  obtain ⟨A₀, base, outer, B, hA⟩ := C.B
  have hr : A.depth < recursionLimit := by have := C.dp; show A.depth < 1000; omega
  refine wpAny_call (callX_plain (cl := cl) B G.F G.N C.T.nolimit hA C.ef C.ek (G.mem ho) rfl (codeRec_news G.N hoc hod hov) hr hbind hloc ?_ hcell hco hgen hk)
  intro g L' h₁ FG F' N' B' st lt
  have C' : Cx K pr loose mean mg mb n (A.deeper (envX qual scope L' f (.ref c') cl)) (envX qual scope L' f (.ref c') cl) L' g := by
    refine ⟨⟨A, base, env :: outer, B', Around.frames_deeper hA⟩, rfl, rfl, hk, C.X.keeps st, C.T.keeps st, ?_, ?_, C.hn⟩
    · have := C.dp; show A.depth + 1 + 4 * n < 1000; omega
    · have := C.un; show A.units + 3 + 40 * n < 9900; omega
  refine wpAny_mono (h g L' h₁ C' st ⟨F', N', G.nd⟩) (fun fl s' hb => ?_) fun _ _ x => x.elim
  obtain ⟨m', news', G', k⟩ := hb
  refine ⟨L', m', news', G'.F, G'.N, fun F₂ N₂ => ?_⟩
  have := k ⟨F₂, N₂, G'.nd⟩
  cases fl <;> exact this

set_option maxHeartbeats 1000000
theorem read_on_spec {Q : Value → Shared → Prop} {rf c' ca cb T : Addr} {qual : Str} {doc pm ctv : Value} {oc oca ocb : Obj} {vs : Array Value} {tq : Tok} {text : Str} {tt tp ts : Tok} {p i c : Nat}
    (C : Cx (hd.heap_1 w.params) pr loose mean mg mb (n + 1) A env L h₀) (G : Lg h₀ L s.heap m news)
    (hr : (rf, fnMade (defIn (hd.heap_1 w.params) 241 1).1 qual (defIn (hd.heap_1 w.params) 241 1).2.1 (defIn (hd.heap_1 w.params) 241 1).2.2.1 (defIn (hd.heap_1 w.params) 241 1).2.2.2 [(Str.ofString "text", ca), (Str.ofString "at", cb)] doc pm c' ctv) ∈ news)
    (hoc : (c', oc) ∈ news) (hod : oc.data = .fields vs) (hov : vs[1]? = some (.str qual tq))
    (ha : (ca, oca) ∈ news) (had : oca.data = .cell (some (.str text tt))) (hb : (cb, ocb) ∈ news) (hbd : ocb.data = .cell (some (.ref T)))
    (hT : news[i]? = some (T, listOf #[.int (p : Int) tp] c)) (hp : p ≤ text.length) (hl : text.length ≤ 1000000)
    (h : ∀ h' t t1 t2, Lg h₀ L h' m (news.set i (T, listOf #[.int ((p : Int) + ((sgn text p).length : Int)) t1] c)) → Q (.str (sgn text p) t2) { s with heap := h', toks := t }) :
    wpAny (model prog w) A (call (.ref rf) [.int 1 ts]) Q E s := by
  rw [defIn_of (by k_is) (by rfl)] at hr
  refine enterN (binds := [(Str.ofString "size", .int 1 ts)]) C G hr hoc hod hov (BindsTo.of_eq rfl) (locs rfl) rfl rfl rfl (by decide) ?_
  intro g L' h₁ C G' 
  intro G
  refine wpAny_execs_cons (wpAny_Assign_Name ?_)
  refine Subscript_ ?_
  refine nameX_F G.N rfl ha had ?_
  refine wpAny_Slice ?_
  refine evalPart_some_step ?_
  refine Subscript_ ?_
  refine nameX_F G.N rfl hb hbd ?_
  refine wpAny_Constant_int ?_
  refine r_item G (List.mem_of_getElem? hT) (by decide) (by decide) rfl ?_
  refine evalPart_some_step ?_
  refine wpAny_BinOp ?_
  refine Subscript_ ?_
  refine nameX_F G.N rfl hb hbd ?_
  refine wpAny_Constant_int ?_
  refine r_item G (List.mem_of_getElem? hT) (by decide) (by decide) rfl ?_
  refine nameX_L G.F rfl ?_
  refine add_int ?_
  refine evalPart_none_step ?_
  refine slice_strN_ss (s := ⟨_, _, _, _, _⟩) (hsz := Nat.le_trans hl (by decide)) G.F G.N ?_
  intro h2 t2 k2 F2 N2
  have G := G.of2 F2 N2
  rw [sgn_slice _ _ hp]
  refine r_store G ?_
  intro h3 G
  dsimp only
  refine wpAny_execs_cons (wpAny_Assign_Subscript ?_)
  refine wpAny_BinOp ?_
  refine Subscript_ ?_
  refine nameX_F G.N rfl hb hbd ?_
  refine wpAny_Constant_int ?_
  refine r_item G (List.mem_of_getElem? hT) (by decide) (by decide) rfl ?_
  refine Call_ ?_
  refine nameX_B G.F C.X (topRead_of C.T) (by k_is) (by boot_fast) (by decide) ?_
  refine callWith_method1 ?_
  refine spliced_more ?_
  refine nameX_L G.F rfl ?_
  refine spliced_none ?_
  refine len_str (by have := sgn_len text p; omega) ?_
  refine add_int ?_
  refine nameX_F G.N rfl hb hbd ?_
  refine wpAny_Constant_int ?_
  refine r_setItem G hT (by decide) (by decide) (by show (0:Int) < 1; decide) ?_
  intro h4 G
  dsimp only
  refine wpAny_execs_cons (wpAny_Return_some ?_)
  refine nameX_L G.F rfl ?_
  exact ⟨_, _, G, fun G2 => h _ _ _ _ G2⟩
end
end
-- M2
section
theorem fill2 : hd.heap_1 = hd.heap_1 ∧ PySem.Challenge.rw_pe0228_02 = PySem.Challenge.rw_pe0228_02 := by
  k_fill
  exact ⟨rfl, rfl⟩

theorem upd_at {D : Addr} {o o' : Obj} : ∀ {news : List (Addr × Obj)} {i : Nat}, news[i]? = some (D, o) → (news.map (·.1)).Nodup → Upd D o o' news (news.set i (D, o'))
  | [], _, h, _ => by simp at h
  | p :: r, 0, h, nd => by
    simp only [List.getElem?_cons_zero, Option.some.injEq] at h
    subst h
    rw [List.map_cons, List.nodup_cons] at nd
    exact Upd.head fun q hq e => nd.1 (List.mem_map.mpr ⟨q, hq, e⟩)
  | p :: r, i + 1, h, nd => by
    rw [List.map_cons, List.nodup_cons] at nd
    have h' : r[i]? = some (D, o) := by simpa using h
    refine Upd.tail (fun e => nd.1 ?_) (upd_at h' nd.2)
    rw [e]
    exact List.mem_map.mpr ⟨(D, o), List.mem_of_getElem? h', rfl⟩

/-- the table of a reader's attributes -/
def mes (w : World) (k1 k2 k3 k4 : Tok) (ln : Int) (tl : Tok) (st : Addr) (tw : Tok) (P : Addr) : List DictEntry :=
  [⟨PyData.keyHash w.params "lineno", .str "lineno" k1, .int ln tl⟩, ⟨PyData.keyHash w.params "instream", .str "instream" k2, .ref st⟩,
   ⟨PyData.keyHash w.params "whitespace", .str "whitespace" k3, .str "\n\t\r " tw⟩, ⟨PyData.keyHash w.params "pushback", .str "pushback" k4, .ref P⟩]

/-- what of a reader stays as it is -/
structure Mach (w : World) (fz : List (Addr × Obj)) (x dx st T : Addr) (text : Str) : Prop where
  hx : (x, instObj 76 dx) ∈ fz
  hst : ∃ sd fd sl rf kr c' ca cb oc oca ocb vs qual tq tt doc pm ctv, (st, (⟨.type "function", some sd, .func fd, sl⟩ : Obj)) ∈ fz ∧
    (sd, dictOf [⟨PyData.keyHash w.params "read", .str "read" kr, .ref rf⟩] 1) ∈ fz ∧
    (rf, fnMade (defIn (hd.heap_1 w.params) 241 1).1 qual (defIn (hd.heap_1 w.params) 241 1).2.1 (defIn (hd.heap_1 w.params) 241 1).2.2.1 (defIn (hd.heap_1 w.params) 241 1).2.2.2
      [(Str.ofString "text", ca), (Str.ofString "at", cb)] doc pm c' ctv) ∈ fz ∧
    (c', oc) ∈ fz ∧ oc.data = .fields vs ∧ vs[1]? = some (.str qual tq) ∧ (ca, oca) ∈ fz ∧ oca.data = .cell (some (.str text tt)) ∧ (cb, ocb) ∈ fz ∧ ocb.data = .cell (some (.ref T))
  len : text.length ≤ 1000000

theorem Mach.mono {w : World} {fz fz' : List (Addr × Obj)} {x dx st T : Addr} {text : Str} (H : Mach w fz x dx st T text) (k : ∀ p ∈ fz, p ∈ fz') : Mach w fz' x dx st T text := by
  obtain ⟨hx, ⟨sd, fd, sl, rf, kr, c', ca, cb, oc, oca, ocb, vs, qual, tq, tt, doc, pm, ctv, a1, a2, a3, a4, a5, a6, a7, a8, a9, a10⟩, hl⟩ := H
  exact ⟨k _ hx, ⟨sd, fd, sl, rf, kr, c', ca, cb, oc, oca, ocb, vs, qual, tq, tt, doc, pm, ctv, k _ a1, k _ a2, k _ a3, k _ a4, a5, a6, k _ a7, a8, k _ a9, a10⟩, hl⟩

section
variable {pr : Program} {loose : List Str} {mean : ExcName → Option Value} {mg mb : Str → Option Value} {prog : Program} {w : World} {n : Nat} {A : Around} {env : Env} {L : Addr} {h₀ : Heap}
  {m : Str → Option Value} {news : List (Addr × Obj)} {s : Shared} {E : Value → Shared → Prop}

theorem r_setAttr {K : Frag} {Q : Unit → Shared → Prop} {x dx Cc : Addr} {i k k' : Nat} {es es' : List DictEntry} {name : Str} {v : Value}
    (C : Cx K pr loose mean mg mb n A env L h₀) (G : Lg h₀ L s.heap m news) (hx : (x, instObj Cc dx) ∈ news) (hi : news[i]? = some (dx, dictOf es k))
    (hs : findIn K (.ref Cc) "__setattr__" = some (some (.builtin "object.__setattr__"))) (hp : plainOver K Cc = true) (ht : takerIn K Cc name = some none) (hh : hasDictIn K Cc = true)
    (hl : (getL name es).isSome = true) (e : (putL name (PyData.keyHash w.params name) (.str name (s.toks + 1)) v es, putN name es k) = (es', k')) (hz : es'.length ≤ 1000)
    (h : ∀ h', Lg h₀ L h' m (news.set i (dx, dictOf es' k')) → Q () { s with heap := h', toks := s.toks + 2 }) :
    wpAny (model prog w) A (setAttr (.ref x) name v) Q E s :=
  set_dict G.F C.X G.N (InstAt.of_news G.N hx (List.mem_of_getElem? hi)) rfl hs hp ht hh hl e (upd_at hi G.nd) hz fun h' F' N' => h h' ⟨F', N', by
    rw [List.map_set]
    have : (news.map (·.1)).set i dx = news.map (·.1) := by
      apply List.ext_getElem?
      intro j
      by_cases hj : i = j
      · subst hj
        obtain ⟨hl, he⟩ := List.getElem?_eq_some_iff.mp hi
        rw [List.getElem?_set_self (by simpa using hl), List.getElem?_map, hi]; rfl
      · rw [List.getElem?_set_ne hj]
    rw [this]; exact G.nd⟩

set_option maxHeartbeats 1000000
theorem read_char_code {Q : Value → Shared → Prop} {x dx st T P : Addr} {text : Str} {k1 k2 k3 k4 tl tw tp : Tok} {ln : Int} {p c : Nat} {rest : List (Addr × Obj)}
    (C : Cx (hd.heap_1 w.params) pr loose mean mg mb (n + 2) A env L h₀)
    (G : Lg h₀ L s.heap m ((dx, dictOf (mes w k1 k2 k3 k4 ln tl st tw P) 4) :: (T, listOf #[.int (p : Int) tp] c) :: rest))
    (H : Mach w rest x dx st T text) (hp : p ≤ text.length)
    (h : ∀ h' t t1 t2 t3 ln', ln' = (if sgn text p = "\n" then ln + 1 else ln) → Lg h₀ L h' m ((dx, dictOf (mes w k1 k2 k3 k4 ln' t3 st tw P) 4) :: (T, listOf #[.int ((p : Int) + ((sgn text p).length : Int)) t1] c) :: rest) → Q (.str (sgn text p) t2) { s with heap := h', toks := t }) :
    codeAny (model prog w) A (.call (.ref 59) ⟨[.ref x], []⟩) (RQ Q E) s := by
  obtain ⟨hx, ⟨sd, fd, sl, rf, kr, c', ca, cb, oc, oca, ocb, vs, qual, tq, tt, doc, pm, ctv, a1, a2, a3, a4, a5, a6, a7, a8, a9, a10⟩, hl⟩ := H
  refine enterC (binds := [(Str.ofString "self", .ref x)]) C G (by k_is) (by k_is) (BindsTo.of_eq rfl) (locs rfl) rfl rfl rfl (by decide) ?_
  intro g L' h₁ C st' G
  refine wpAny_execs_cons (wpAny_Assign_Name ?_)
  refine MethodCall_ ?_
  refine Attribute_name ?_
  refine nameX_L G.F rfl ?_
  refine get_own G.F C.X (InstAt.of_news G.N (.tail _ (.tail _ hx)) (.head _)) (by k_is) (by k_is) (by k_is) (by k_is) (by rfl) rfl ?_
  refine getMethod_fn (G.mem (.tail _ (.tail _ a1))) (G.mem (.tail _ (.tail _ a2))) fn_read rfl rfl ?_
  refine callWith_F (FnAt.of G.N (.tail _ (.tail _ a3))) ?_
  refine spliced_more ?_
  refine wpAny_Constant_int ?_
  refine spliced_none ?_
  refine ⟨FnAt.of G.N (.tail _ (.tail _ a3)), ?_⟩
  refine read_on_spec (i := 1) C G (.tail _ (.tail _ a3)) (.tail _ (.tail _ a4)) a5 a6 (.tail _ (.tail _ a7)) a8 (.tail _ (.tail _ a9)) a10 rfl hp hl ?_
  intro h2 t u1 u2 G
  dsimp only [List.set_cons_succ, List.set_cons_zero] at G
  dsimp only
  refine r_store G ?_
  intro h3 G
  dsimp only
  refine wpAny_execs_cons (wpAny_If ?_)
  refine wpAny_isTrue_Compare1 ?_
  refine nameX_L G.F rfl ?_
  refine Calls.Constant_str ?_
  refine eq_str ?_
  refine wpAny_truthy_bool ?_
  by_cases hn : sgn text p = "\n"
  · refine ite_pos (by rw [hn]; exact beq_self_eq_true _) ?_
    refine wpAny_execs_cons (wpAny_AugAssign_AttributeAny ?_)
    refine nameX_L G.F rfl ?_
    refine get_own G.F C.X (InstAt.of_news G.N (.tail _ (.tail _ hx)) (.head _)) (by k_is) (by k_is) (by k_is) (by k_is) (by rfl) rfl ?_
    refine wpAny_Constant_int ?_
    refine iadd_int ?_
    refine r_setAttr (i := 0) C G (.tail _ (.tail _ hx)) rfl (by k_is) (by k_is) (by k_is) (by k_is) rfl rfl (by show (4 : Nat) ≤ 1000; decide) ?_
    intro h4 G
    refine wpAny_execs_nil ?_
    dsimp only
    refine wpAny_execs_cons (wpAny_Return_some ?_)
    refine nameX_L G.F rfl ?_
    exact ⟨_, _, G, fun G2 => h _ _ _ _ _ _ (by rw [if_pos hn]) G2⟩
  · refine ite_neg (fun e => hn (eq_of_beq e)) ?_
    refine wpAny_execs_nil ?_
    dsimp only
    refine wpAny_execs_cons (wpAny_Return_some ?_)
    refine nameX_L G.F rfl ?_
    exact ⟨_, _, G, fun G2 => h _ _ _ _ _ _ (by rw [if_neg hn]) G2⟩
end
end
-- F2
section
set_option maxHeartbeats 1000000
theorem slot_cit_next : Slot "callable_iterator" "__next__" "callable_iterator.__next__" :=
  .of (owner := "callable_iterator") (n := "__next__") (by rw [typeLookup_type, builtinLookup_eq_fast]; kernel_rfl) (by decide +kernel) (by decide +kernel) (by decide +kernel)
    (by first | exact .inl (by decide +kernel) | exact .inr (by decide +kernel)) (by rw [isSubtype_type]; kernel_rfl)
theorem slot_cit_iter : Slot "callable_iterator" "__iter__" "callable_iterator.__iter__" :=
  .of (owner := "callable_iterator") (n := "__iter__") (by rw [typeLookup_type, builtinLookup_eq_fast]; kernel_rfl) (by decide +kernel) (by decide +kernel) (by decide +kernel)
    (by first | exact .inl (by decide +kernel) | exact .inr (by decide +kernel)) (by rw [isSubtype_type]; kernel_rfl)
theorem entry_cit_next : entryFor table "callable_iterator.__next__" = some Builtin.«callable_iterator.__next__» := entryFor_of_tree (by kernel_rfl)
theorem args_cit_next (a : Value) : argsOk "callable_iterator.__next__" ⟨[a], []⟩ := by unfold argsOk; kernel_rfl
theorem args_cit_iter (a : Value) : argsOk "callable_iterator.__iter__" ⟨[a], []⟩ := by unfold argsOk; kernel_rfl

abbrev cit (f sen : Value) (b : Bool) : Obj := { cls := .type "callable_iterator", data := .fields #[f, sen, .bool b] }

section
variable {prog : Program} {w : World} {A : Around} {s : Shared} {E : Value → Shared → Prop}

theorem borrows_method {M : Model} {q f : Addr} {self : Value} {fo : Obj} {fd : FuncData} {Q : Bool → Shared → Prop} (hq : s.heap.get? q = some (methodObj (.ref f) self)) (hf : s.heap.get? f = some fo) (hd : fo.data = .func fd) (h : Q true s) :
    wpAny M A (borrowsExactly (.ref q)) Q E s := by
  unfold borrowsExactly
  refine wpAny_bind (wpAny_load hq ?_)
  show wpAny M A (load f >>= _) Q E s
  refine wpAny_bind (wpAny_load hf ?_)
  rw [hd]
  exact wpAny_pure h

theorem wpAny_callBorrowed {f : Value} {pos : List Value} {Q : Value → Shared → Prop}
    (hc : codeAny (model prog w) A (.call f ⟨pos, []⟩) (fun r s' => match r with | .ok (.ret v) => Q v s' | .ok _ => False | .error e => E e s') s) :
    wpAny (model prog w) A (callBorrowed f pos) Q E s := by
  unfold callBorrowed
  refine X.x_call (hd := none) (codeAny_mono hc ?_) (by intro x; cases x)
  intro r s' z
  rcases r with e | (v | _ | _ | _)
  · exact wpAny_throw z
  · exact z.elim
  · exact z.elim
  · exact z.elim
  · exact wpAny_pure z

theorem stop_it {α : Type} {Q : α → Shared → Prop} {E' : Value → Shared → Prop} (hh : A.handled = none)
    (hE : ∀ e h', s.heap.objs.size ≤ h'.objs.size → (∀ b o, s.heap.get? b = some o → h'.get? b = some o) → (∃ o, h'.get? e = some o ∧ o.cls = .type "StopIteration") → E' (.ref e) { s with heap := h' }) :
    wpAny (model prog w) A (Builtin.SmallTypes.stopIteration : Sem α) Q E' s := by
  unfold Builtin.SmallTypes.stopIteration
  refine wpAny_bind ?_
  simp only [newExc, newTuple]
  refine wpAny_bind (wpAny_newObj_type ?_ (by size_fits))
  refine wpAny_bind (m := firstArgMember _ _) (wpAny_of_eq (a := Value.none) (by first | rfl | (simp only [firstArgMember]; rfl)) ?_)
  refine wpAny_newObj_type ?_ (by size_fits)
  simp only [raiseNew]
  refine wpAny_bind (wpAny_handled ?_)
  rw [hh]
  refine wpAny_bind (wpAny_pure (wpAny_throw (hE _ _ ?_ ?_ ?_)))
  · rw [Heap.size_push, Heap.size_push]; omega
  · exact fun b o e => Heap.get?_push_of_some _ (Heap.get?_push_of_some _ e)
  · exact ⟨_, Heap.get?_push_size _ rfl, rfl⟩

/-- a walk over a callable up to a sentinel, ended before -/
theorem next_cit_over {it : Addr} {f sen : Value} {Q : Option Value → Shared → Prop} (hh : A.handled = none) (hit : s.heap.get? it = some (cit f sen true))
    (hQ : ∀ h', (∀ b o, s.heap.get? b = some o → h'.get? b = some o) → Q none { s with heap := h' }) : wpAny (model prog w) A (pyNext (.ref it)) Q E s := by
  have hT : s.TypeIs (.ref it) "callable_iterator" := ⟨_, hit, rfl⟩
  unfold pyNext
  refine wpAny_bind (wpAny_attempt (wpAny_callSpecial?_slot (name := Str.ofString "__next__") hT slot_cit_next
    (wpAny_call_entry slot_cit_next hT entry_cit_next ?_ (args_cit_next _))))
  show wpAny _ _ (field (.ref it) 2 >>= _) _ _ s
  refine wpAny_bind (wpAny_field hit rfl (x := .bool true) rfl ?_)
  rw [if_pos (by rfl)]
  refine wpAny_bind (wpAny_rule (wpAny_bind (stop_it (A := A.in1) hh ?_)))
  intro e h' _ hk ⟨o, ho, hc⟩
  refine wpAny_bind (wpAny_isInstance (T := "StopIteration") (b := true) ⟨_, ho, hc⟩ isSubtype_stop ?_)
  exact wpAny_pure (hQ _ hk)

/-- one more step of such a walk -/
theorem next_cit {it q f : Addr} {self : Value} {sen : Str} {ts : Tok} {fo : Obj} {fd : FuncData} {Q : Option Value → Shared → Prop} (hh : A.handled = none)
    (hit : s.heap.get? it = some (cit (.ref q) (.str sen ts) false)) (hq : s.heap.get? q = some (methodObj (.ref f) self)) (hf : s.heap.get? f = some fo) (hfd : fo.data = .func fd)
    (hc : codeAny (model prog w) A.in1 (.call (.ref f) ⟨[self], []⟩) (fun r s' => match r with
      | .ok (.ret v) => ∃ x t, v = .str x t ∧ s'.heap.get? it = some (cit (.ref q) (.str sen ts) false) ∧ s'.heap.get? q = some (methodObj (.ref f) self) ∧ s'.heap.get? f = some fo ∧
          (x ≠ sen → Q (some (.str x t)) s') ∧ (x = sen → ∀ h₁ h', Heap.SameBut it s'.heap h₁ → h₁.get? it = some (cit .none .none true) → (∀ b o, h₁.get? b = some o → h'.get? b = some o) → Q none { s' with heap := h' })
      | .ok _ => False
      | .error _ => False) s) : wpAny (model prog w) A (pyNext (.ref it)) Q E s := by
  have hT : s.TypeIs (.ref it) "callable_iterator" := ⟨_, hit, rfl⟩
  unfold pyNext
  refine wpAny_bind (wpAny_attempt (wpAny_callSpecial?_slot (name := Str.ofString "__next__") hT slot_cit_next
    (wpAny_call_entry slot_cit_next hT entry_cit_next ?_ (args_cit_next _))))
  show wpAny _ _ (field (.ref it) 2 >>= _) _ _ s
  refine wpAny_bind (wpAny_field hit rfl (x := .bool false) rfl ?_)
  rw [if_neg (by intro e; cases e)]
  show wpAny _ _ (field (.ref it) 0 >>= _) _ _ s
  refine wpAny_bind (wpAny_field hit rfl (x := .ref q) rfl ?_)
  refine wpAny_bind (wpAny_attempt ?_)
  unfold callOutOfASlot
  refine wpAny_bind (borrows_method hq hf hfd ?_)
  refine wpAny_callBorrowed (method_call hq (codeAny_mono hc ?_))
  intro r s' z
  rcases r with e | (_ | _ | _ | v)
  · exact z.elim
  · exact z.elim
  · exact z.elim
  · exact z.elim
  · obtain ⟨x, t, rfl, i1, i2, i3, z1, z2⟩ := z
    show wpAny _ _ (field (.ref it) 2 >>= _) _ _ s'
    refine wpAny_bind (wpAny_field i1 rfl (x := .bool false) rfl ?_)
    rw [if_neg (by intro e; cases e)]
    show wpAny _ _ (field (.ref it) 1 >>= _) _ _ s'
    refine wpAny_bind (wpAny_field i1 rfl (x := .str sen ts) rfl ?_)
    refine wpAny_bind (wpAny_holding (eqBool_str ?_))
    by_cases hx : x = sen
    · subst hx
      rw [if_neg (by simp)]
      refine wpAny_bind (wpAny_rule ?_)
      refine wpAny_bind ?_
      k_node
      refine wpAny_bind (wpAny_field i1 rfl (x := .ref q) rfl ?_)
      refine wpAny_bind ?_
      unfold slotLetsGo
      refine wpAny_bind (borrows_method i2 i3 hfd ?_)
      refine wpAny_pure ?_
      refine wpAny_bind (wpAny_setField i1 rfl (by simp) ?_)
      refine wpAny_bind (wpAny_setField (Heap.get?_update_self _ i1 rfl) rfl (by simp) ?_)
      refine wpAny_setField (Heap.get?_update_self _ (Heap.get?_update_self _ i1 rfl) rfl) rfl (by simp) ?_
      refine stop_it (A := A.in1) hh ?_
      intro e h' _ hk ⟨o, ho, hc⟩
      refine wpAny_bind (wpAny_isInstance (T := "StopIteration") (b := true) ⟨_, ho, hc⟩ isSubtype_stop ?_)
      refine wpAny_pure (z2 rfl _ _ ?_ ?_ hk)
      · exact ((Heap.SameBut.update ..).trans (Heap.SameBut.update ..)).trans (Heap.SameBut.update ..)
      · exact Heap.get?_update_self _ (Heap.get?_update_self _ (Heap.get?_update_self _ i1 rfl) rfl) rfl
    · rw [if_pos (by simpa using fun e => hx e.symm)]
      exact wpAny_bind (wpAny_pure (wpAny_pure ⟨_, rfl, wpAny_pure (z1 hx)⟩))
end
end
-- F3
section
set_option maxHeartbeats 1000000
theorem kind_iter : builtinKind "iter" = none := by decide +kernel
theorem plain_iter : plainId "iter" = true := by decide +kernel
theorem entry_iter : entryFor table "iter" = some Builtin.«iter» := entryFor_of_tree (by kernel_rfl)
theorem args_iter2 (a b : Value) : argsOk "iter" ⟨[a, b], []⟩ := by unfold argsOk; kernel_rfl
theorem meth_call : typeLookup (.type "method") "__call__" = pure (some (.builtin "method.__call__")) := by rw [typeLookup_type, builtinLookup_eq_fast]; kernel_rfl
theorem entry_cit_iter : entryFor table "callable_iterator.__iter__" = some Builtin.«dict_keyiterator.__iter__» :=
  entryFor_alias (id' := "dict_keyiterator.__iter__") (by kernel_rfl) rfl (by decide +kernel) (by kernel_rfl)
section
variable {prog : Program} {w : World} {A : Around} {s : Shared} {E : Value → Shared → Prop}
theorem r_iter2 {q : Addr} {f self sen : Value} {Q : Value → Shared → Prop} (hq : s.heap.get? q = some (methodObj f self))
    (h : Q (.ref s.heap.objs.size) { s with heap := s.heap.push (cit (.ref q) sen false) }) : wpAny (model prog w) A (call (.builtin "iter") [.ref q, sen]) Q E s := by
  have hT : s.TypeIs (.ref q) "method" := ⟨_, hq, rfl⟩
  refine Calls.call_function_entry kind_iter plain_iter entry_iter (args_iter2 _ _) ?_
  unfold Builtin.«iter»
  refine wpAny_bind (wpAny_of_eq (a := [.ref q, sen]) (by rfl) ?_)
  refine wpAny_bind (wpAny_specialOf hT meth_call ?_)
  refine wpAny_bind (wpAny_rule (wpAny_bind (wpAny_newObj_type (wpAny_pure ⟨_, rfl, h⟩))))
theorem iter_cit {it : Addr} {f sen : Value} {b : Bool} {Q : Value → Shared → Prop} (hit : s.heap.get? it = some (cit f sen b)) (h : Q (.ref it) s) :
    wpAny (model prog w) A (pyIter (.ref it)) Q E s := by
  have hT : s.TypeIs (.ref it) "callable_iterator" := ⟨_, hit, rfl⟩
  refine wpAny_pyIter_slot hT slot_cit_iter (wpAny_call_entry slot_cit_iter hT entry_cit_iter ?_ (args_cit_iter _))
  show wpAny _ _ (ret (.ref it)) _ _ s
  exact wpAny_pure ⟨_, rfl, "callable_iterator", _, hT, slot_cit_next.lookup, h⟩

/-- a for whose turns raise nothing -/
theorem forL {target : PySem.Expr} {it : Value} {body : List Stmt} {env : Env} {Q : Flow → Shared → Prop} (I : Nat → Shared → Prop)
    (turn : ∀ n s, I n s → wpAny (model prog w) A (pyNext it) (fun r s₁ => match r with
      | none => Q .next s₁
      | some v => wpAny (model prog w) A (assign target env v) (fun _ s₂ => wpAny (model prog w) A (execs body env) (fun f s₃ => match f with
          | .next | .cont => ∃ m, m < n ∧ I m s₃
          | .brk => Q .next s₃
          | .ret v => Q (.ret v) s₃) (fun _ _ => False) s₂) (fun _ _ => False) s₁) (fun _ _ => False) s)
    (n : Nat) (h : I n s) (ht : ∀ v, letOwnedTupleGo target it v = pure () := by intro _; rfl) :
    codeAny (model prog w) A (.forLoop target it body [] env) (fun r s' => match r with | .ok f => Q f s' | .error e => cameBackBy (model prog w) A env E e s') s := by
  refine codeAny_forLoop I (fun n s hI => wpAny_mono (turn n s hI) (fun r s₁ h₁ => ?_) fun _ _ x => x.elim) n h ht
  cases r with
  | none => exact wpAny_execs_nil h₁
  | some v => exact wpAny_mono h₁ (fun _ s₂ h₂ => wpAny_mono h₂ (fun f s₃ h₃ => by cases f <;> exact h₃) fun _ _ x => x.elim) fun _ _ x => x.elim

/-- the first item of a list taken off -/
theorem pop0_at {D : Addr} {its : Array Value} {c : Nat} {u : Tok} {v : Value} {Q : Value → Shared → Prop} (ho : s.heap.get? D = some (W.listOf its c)) (hv : its[0]? = some v) (hsz : its.size ≤ sizeLine)
    (h : ∀ h', Heap.SameBut D s.heap h' → (∃ c', h'.get? D = some (W.listOf (its.eraseIdxIfInBounds 0) c')) → Q v { s with heap := h' }) :
    wpAny (model prog w) A (call (.builtin "list.pop") [.ref D, .int 0 u]) Q E s := by
  refine call_meets PySem.F.slot_list_pop ⟨_, ho, rfl⟩ PySem.F.entry_list_pop (by unfold argsOk; kernel_rfl) (MeetsSeq.list_pop_at D its c 0 u 0 v (by decide +kernel) ?_ hv hsz) ⟨ho, ?_⟩
  · have : 0 < its.size := by
      rcases Nat.eq_zero_or_pos its.size with e | e
      · rw [Array.getElem?_eq_none (by omega)] at hv; cases hv
      · exact e
    simp [seqIndex?, this]
  · refine h _ (Heap.SameBut.update ..) ?_
    obtain ⟨n', hd'⟩ := Obj.data_mapSeq (o := W.listOf its c) rfl (fun xs => xs.eraseIdxIfInBounds 0)
    refine ⟨n', ?_⟩
    rw [Heap.get?_update_self _ ho (Obj.isFreed_of_seq hd')]
    rw [show Obj.mapSeq (fun xs => xs.eraseIdxIfInBounds 0) (W.listOf its c) = ⟨.type "list", none, (Obj.mapSeq (fun xs => xs.eraseIdxIfInBounds 0) (W.listOf its c)).data, #[]⟩ from by simp [Obj.mapSeq], hd']
end
end
-- L1
section
section
variable {K : Frag} {pr : Program} {loose : List Str} {mean : ExcName → Option Value} {mg mb : Str → Option Value} {prog : Program} {w : World} {n : Nat} {A : Around} {env : Env} {L : Addr} {h₀ : Heap}
  {m : Str → Option Value} {news : List (Addr × Obj)} {s : Shared} {E : Value → Shared → Prop}

/-- the end of a turn: the iterator lies where it lay, the invariant holds -/
def TurnEnd (h₀ : Heap) (L : Addr) (s : Shared) (I : Addr) (oI : Obj) (J : (Str → Option Value) → List (Addr × Obj) → Prop) (Q : Flow → Shared → Prop) (f : Flow) (s₃ : Shared) : Prop :=
  match f with
  | .next | .cont => ∃ h' t m' nw, s₃ = { s with heap := h', toks := t } ∧ Lg h₀ L h' m' ((I, oI) :: nw) ∧ J m' nw
  | .brk => Q .next s₃
  | .ret v => Q (.ret v) s₃

theorem lg_but {h h' : Heap} {I : Addr} (G : Lg h₀ L h m news) (hk : ∀ b o, b ∉ [I] → h.get? b = some o → h'.get? b = some o) (hL : L ≠ I) (hI : h₀.get? I = none) (off : ∀ p ∈ news, p.1 ≠ I) : Lg h₀ L h' m news :=
  ⟨LCg.fr_but G.F hk hL hI, LCg.news_but G.N hk off, G.nd⟩

theorem for_walk {target : PySem.Expr} {body : List Stmt} {I : Addr} {fp : List Addr} {N : Nat} {P : Nat → Value → Prop} {St : Nat → Heap → Prop} {S : List (Addr × Obj) → Prop} {Q : Flow → Shared → Prop}
    (W : Walks prog w A I fp [I] N P St)
    (hgo : ∀ i v (s : Shared) (Q : Unit → Shared → Prop) (E : Value → Shared → Prop), St i s.heap → Q () s → wpAny (model prog w) A (letOwnedTupleGo target (.ref I) v) Q E s)
    (hIo : ∀ i h, St i h → ∃ o, h.get? I = some o)
    (hSt : ∀ i h h' o nw, St i h → h.get? I = some o → h'.get? I = some o → (∀ b o, h₀.get? b = some o → h'.get? b = some o) → News h₀ L h' nw → S nw → St i h')
    (J : Nat → (Str → Option Value) → List (Addr × Obj) → Prop) (hJS : ∀ i m nw, J i m nw → S nw)
    (hI0 : h₀.get? I = none) (hIL : L ≠ I) (G : Lg h₀ L s.heap m news) (hoff : ∀ p ∈ news, p.1 ≠ I) (hst : St 0 s.heap) (h0 : J 0 m news)
    (turn : ∀ i v h' t m' nw oI, i < N → P i v → J i m' nw → Lg h₀ L h' m' ((I, oI) :: nw) →
      wpAny (model prog w) A (assign target env v) (fun _ s₂ => wpAny (model prog w) A (execs body env) (TurnEnd h₀ L s I oI (J (i + 1)) Q) (fun _ _ => False) s₂) (fun _ _ => False) { s with heap := h', toks := t })
    (hend : ∀ h' t m' nw, J N m' nw → Lg h₀ L h' m' nw → Q .next { s with heap := h', toks := t }) :
    codeAny (model prog w) A (.forLoop target (.ref I) body [] env) (fun r s' => match r with | .ok f => Q f s' | .error e => cameBackBy (model prog w) A env E e s') s := by
  refine codeAny_forLoop_any (fun k s' => ∃ i h' t m' nw, s' = { s with heap := h', toks := t } ∧ Lg h₀ L h' m' nw ∧ (∀ p ∈ nw, p.1 ≠ I) ∧ St i h' ∧ J i m' nw ∧ i ≤ N ∧ k = N - i) ?_ N ⟨0, _, _, m, news, rfl, G, hoff, hst, h0, Nat.zero_le _, rfl⟩
  rintro k s' ⟨i, h', t, m', nw, rfl, G', off, st, hJ, hi, rfl⟩
  by_cases hlt : i < N
  · refine W.item i _ _ _ hlt st fun v h₁ tk hP st₁ hk => ?_
    refine hgo (i + 1) v _ _ _ st₁ ?_
    obtain ⟨oI, hoI⟩ := hIo _ _ st₁
    have G₁ : Lg h₀ L h₁ m' nw := lg_but G' hk hIL hI0 off
    have G₂ : Lg h₀ L h₁ m' ((I, oI) :: nw) := by
      refine ⟨G₁.F, fun p hp => ?_, ?_⟩
      · rcases List.mem_cons.mp hp with rfl | hp
        · exact ⟨hoI, fun e => hIL e.symm, hI0⟩
        · exact G₁.N p hp
      · rw [List.map_cons, List.nodup_cons]
        refine ⟨fun hm => ?_, G₁.nd⟩
        obtain ⟨p, hp, e⟩ := List.mem_map.mp hm
        exact off p hp e
    refine wpAny_mono (turn i v h₁ tk m' nw oI hlt hP hJ G₂) (fun _ s₂ h₂ => wpAny_mono h₂ (fun f s₃ h₃ => ?_) fun _ _ x => x.elim) fun _ _ x => x.elim
    have go : (∃ h' t m' nw, s₃ = { s with heap := h', toks := t } ∧ Lg h₀ L h' m' ((I, oI) :: nw) ∧ J (i + 1) m' nw) → ∃ m, m < N - i ∧ ∃ i h' t m' nw, s₃ = { s with heap := h', toks := t } ∧ Lg h₀ L h' m' nw ∧ (∀ p ∈ nw, p.1 ≠ I) ∧ St i h' ∧ J i m' nw ∧ i ≤ N ∧ m = N - i := by
      rintro ⟨h'', t'', m'', nw', rfl, G₃, hJ₃⟩
      have nd := G₃.nd
      rw [List.map_cons, List.nodup_cons] at nd
      exact ⟨N - (i + 1), by omega, i + 1, h'', t'', m'', nw', rfl, G₃.sub (List.sublist_cons_self _ _), fun p hp e => nd.1 (List.mem_map.mpr ⟨p, hp, e⟩),
        hSt _ _ _ oI nw' st₁ hoI (G₃.mem (.head _)) G₃.F.keep (fun p hp => G₃.N p (.tail _ hp)) (hJS _ _ _ hJ₃), hJ₃, by omega, rfl⟩
    cases f with
    | next => exact go h₃
    | cont => exact go h₃
    | brk => exact h₃
    | ret v => exact h₃
  · have hin : i = N := by omega
    subst hin
    refine W.done _ _ _ st fun h₁ tk₁ hk₁ => wpAny_execs_nil ?_
    exact hend _ _ _ _ hJ (lg_but G' hk₁ hIL hI0 off)

/-- over a list of the ledger or of the heap that the frame found -/
theorem for_list {target : PySem.Expr} {body : List Stmt} {l : Addr} {its : Array Value} {Q : Flow → Shared → Prop} (hh : A.handled = none) (G : Lg h₀ L s.heap m news)
    (J : Nat → (Str → Option Value) → List (Addr × Obj) → Prop) (hJS : ∀ i m nw, J i m nw → LCg.SrcAt h₀ l its nw) (h0 : J 0 m news)
    (turn : ∀ I i v h' t m' nw oI, i < its.size → its[i]? = some v → J i m' nw → Lg h₀ L h' m' ((I, oI) :: nw) →
      wpAny (model prog w) A (assign target env v) (fun _ s₂ => wpAny (model prog w) A (execs body env) (TurnEnd h₀ L s I oI (J (i + 1)) Q) (fun _ _ => False) s₂) (fun _ _ => False) { s with heap := h', toks := t })
    (hend : ∀ h' t m' nw, J its.size m' nw → Lg h₀ L h' m' nw → Q .next { s with heap := h', toks := t }) :
    wpAny (model prog w) A (pyIter (.ref l)) (fun it s₂ => codeAny (model prog w) A (.forLoop target it body [] env) (fun r s' => match r with | .ok f => Q f s' | .error e => cameBackBy (model prog w) A env E e s') s₂) E s := by
  have hl := (hJS _ _ _ h0).list G.F.keep G.N
  have hlt : l < s.heap.objs.size := by obtain ⟨_, e, _⟩ := hl; exact Heap.lt_size e
  refine wpAny_pyIter_list hl ?_
  refine for_walk (S := LCg.SrcAt h₀ l its) (Walks.list hh s.heap.objs.size l (Nat.ne_of_lt hlt) its) (fun i v s Q E st q => letGo_listiter st.1 q) (fun i h st => by obtain ⟨o, e, _⟩ := st.1; exact ⟨o, e⟩) LCg.list_st J hJS
    (next_is_new G.F) (Nat.ne_of_lt G.F.ns.lt) (G.sub (List.Sublist.refl _) |> fun G => ⟨G.F.push _, G.N.grown fun _ _ e => Heap.get?_push_of_some _ e, G.nd⟩) (fun p hp => Nat.ne_of_lt (Heap.lt_size (G.N p hp).1)) ⟨⟨_, Heap.get?_push_size _ rfl, rfl, rfl⟩, hl.push _⟩ h0 ?_ ?_
  · intro i v h' t m' nw oI hi hv hJ G'
    exact turn _ i v h' t m' nw oI hi hv hJ G'
  · exact hend
end
end
-- L2
section
section
variable {K : Frag} {pr : Program} {loose : List Str} {mean : ExcName → Option Value} {mg mb : Str → Option Value} {prog : Program} {w : World} {n : Nat} {A : Around} {env : Env} {L : Addr} {h₀ : Heap}
  {m : Str → Option Value} {news : List (Addr × Obj)} {s : Shared} {E : Value → Shared → Prop}

theorem cells_apart : ∀ (names : List (Str × NameKind)) (k : Nat) (acc : List (Str × Addr)) (lo : Nat), (acc.map (·.2)).Nodup → (∀ p ∈ acc, lo ≤ p.2 ∧ p.2 < k) → lo ≤ k →
    ((cellsFrom k names acc).map (·.2)).Nodup ∧ ∀ p ∈ cellsFrom k names acc, lo ≤ p.2
  | [], _, _, _, h, hb, _ => ⟨h, fun p hp => (hb p hp).1⟩
  | (y, kd) :: r, k, acc, lo, h, hb, hl => by
    unfold cellsFrom
    split
    · refine cells_apart r (k + 1) _ lo ?_ ?_ (Nat.le_succ_of_le hl)
      · rw [List.map_cons, List.nodup_cons]
        refine ⟨fun hm => ?_, h⟩
        obtain ⟨p, hp, e⟩ := List.mem_map.mp hm
        have := (hb p hp).2
        exact absurd this (by rw [e]; exact Nat.lt_irrefl _)
      · intro p hp
        rcases List.mem_cons.mp hp with rfl | hp
        · exact ⟨hl, Nat.lt_succ_self _⟩
        · exact ⟨(hb p hp).1, Nat.lt_succ_of_lt (hb p hp).2⟩
    · exact cells_apart r k acc lo h hb hl
theorem cells_map {cm : Str → Option Value} : ∀ {cs : List (Str × Addr)} {cells : List (Addr × Obj)}, CellsAre cm cs cells → cells.map (·.1) = cs.map (·.2)
  | _, _, .nil => rfl
  | _, _, .cons _ r => by rw [List.map_cons, List.map_cons, cells_map r]

theorem enterLC {Q : Value → Shared → Prop} {name qual : Str} {params : Arguments} {body : List Stmt} {scope : Scope} {dV kV doc pm cdv ct oc : Value} {an od : Option Addr} {osl : Array (Option Value)} {f : Addr}
    {args : List Value} {kw : List (Str × Value)} {binds : List (Str × Value)}
    (C : Cx K pr loose mean mg mb (n + 1) A env L h₀) (G : Lg h₀ L s.heap m news)
    (ho : K.lookup f = some ⟨oc, od, .func (fnOf name qual params body scope dV kV doc pm an cdv ct), osl⟩) (hcd : codeIn K cdv qual = true)
    (hbind : BindsTo s (fnOf name qual params body scope dV kV doc pm an cdv ct) ⟨args, kw⟩ binds)
    (hkind : ∀ n, ∀ x ∈ binds, scope.names.lookup x.1 = some .local ∨ (scope.names.lookup x.1 = some .cell ∧ ((cellsFrom n scope.names []).lookup x.1).isSome = true))
    (hnd : ((cellsFrom 0 scope.names []).map (·.1)).Nodup)
    (hco : scope.isCoroutine = false) (hgen : scope.isGenerator = false) (hk : scope.kind = .function)
    (h : ∀ g L' h₁ tk cells, Cx K pr loose mean mg mb n (A.deeper (envX qual scope L' f cdv (cellsFrom (L' + 1) scope.names []))) (envX qual scope L' f cdv (cellsFrom (L' + 1) scope.names [])) L' g → h₀.StaysIn g →
      CellsAre (bindC (envX qual scope L' f cdv (cellsFrom (L' + 1) scope.names [])).kindOf binds fun _ => none) (cellsFrom (L' + 1) scope.names []) cells →
      Lg g L' h₁ (bindL (envX qual scope L' f cdv (cellsFrom (L' + 1) scope.names [])).kindOf binds fun _ => none) (cells ++ news) →
      wpAny (model prog w) (A.deeper (envX qual scope L' f cdv (cellsFrom (L' + 1) scope.names []))) (execs body (envX qual scope L' f cdv (cellsFrom (L' + 1) scope.names []))) (fun fl s' => Back h₀ L m g L' Q (rv fl) s') (fun _ _ => False)
        { s with heap := h₁, toks := tk }) :
    codeAny (model prog w) A (.call (.ref f) ⟨args, kw⟩) (RQ Q E) s := by
  obtain ⟨A₀, base, outer, B, hA⟩ := C.B
  have hr : A.depth < recursionLimit := by have := C.dp; show A.depth < 1000; omega
  refine (callX_cells B G.F G.N C.T.nolimit hA C.ef C.ek ((C.X.keeps G.F.keep) _ _ ho) rfl (codeRec_of (C.X.keeps G.F.keep) hcd) hr hbind hkind hnd ?_ hco hgen hk)
  intro g L' h₁ tk cells FG F' N' Y B' st lt
  have C' : Cx K pr loose mean mg mb n (A.deeper (envX qual scope L' f cdv (cellsFrom (L' + 1) scope.names []))) (envX qual scope L' f cdv (cellsFrom (L' + 1) scope.names [])) L' g := by
    refine ⟨⟨A, base, env :: outer, B', Around.frames_deeper hA⟩, rfl, rfl, hk, C.X.keeps st, C.T.keeps st, ?_, ?_, C.hn⟩
    · have := C.dp; show A.depth + 1 + 4 * n < 1000; omega
    · have := C.un; show A.units + 3 + 40 * n < 9900; omega
  have ap := cells_apart scope.names (L' + 1) [] (L' + 1) List.nodup_nil (fun _ h => nomatch h) (Nat.le_refl _)
  have nd : ((cells ++ news).map (·.1)).Nodup := by
    rw [List.map_append, List.nodup_append]
    refine ⟨by rw [cells_map Y]; exact ap.1, G.nd, ?_⟩
    intro a ha b hb e
    subst e
    rw [cells_map Y] at ha
    obtain ⟨p, hp, rfl⟩ := List.mem_map.mp ha
    obtain ⟨q, hq, e⟩ := List.mem_map.mp hb
    have h1 := ap.2 p hp
    have h2 := lt q hq
    rw [e] at h2
    exact absurd (Nat.lt_of_lt_of_le h2 (Nat.le_of_succ_le h1)) (Nat.lt_irrefl _)
  refine wpAny_mono (h g L' h₁ tk cells C' st Y ⟨F', N', nd⟩) (fun fl s' hb => ?_) fun _ _ x => x.elim
  obtain ⟨m', news', G', k⟩ := hb
  refine ⟨L', m', news', G'.F, G'.N, fun F₂ N₂ => ?_⟩
  have := k ⟨F₂, N₂, G'.nd⟩
  cases fl <;> exact this

theorem enterL {Q : Value → Shared → Prop} {name qual : Str} {params : Arguments} {body : List Stmt} {scope : Scope} {dV kV doc pm cdv ct oc : Value} {an od : Option Addr} {osl : Array (Option Value)} {f : Addr}
    {args : List Value} {kw : List (Str × Value)} {binds : List (Str × Value)}
    (C : Cx K pr loose mean mg mb (n + 1) A env L h₀) (G : Lg h₀ L s.heap m news)
    (ho : K.lookup f = some ⟨oc, od, .func (fnOf name qual params body scope dV kV doc pm an cdv ct), osl⟩) (hcd : codeIn K cdv qual = true)
    (hbind : BindsTo s (fnOf name qual params body scope dV kV doc pm an cdv ct) ⟨args, kw⟩ binds)
    (hkind : ∀ n, ∀ x ∈ binds, scope.names.lookup x.1 = some .local ∨ (scope.names.lookup x.1 = some .cell ∧ ((cellsFrom n scope.names []).lookup x.1).isSome = true))
    (hnd : ((cellsFrom 0 scope.names []).map (·.1)).Nodup)
    (hco : scope.isCoroutine = false) (hgen : scope.isGenerator = false) (hk : scope.kind = .function)
    (h : ∀ g L' h₁ tk cells, Cx K pr loose mean mg mb n (A.deeper (envX qual scope L' f cdv (cellsFrom (L' + 1) scope.names []))) (envX qual scope L' f cdv (cellsFrom (L' + 1) scope.names [])) L' g → h₀.StaysIn g →
      CellsAre (bindC (envX qual scope L' f cdv (cellsFrom (L' + 1) scope.names [])).kindOf binds fun _ => none) (cellsFrom (L' + 1) scope.names []) cells →
      Lg g L' h₁ (bindL (envX qual scope L' f cdv (cellsFrom (L' + 1) scope.names [])).kindOf binds fun _ => none) (cells ++ news) →
      wpAny (model prog w) (A.deeper (envX qual scope L' f cdv (cellsFrom (L' + 1) scope.names []))) (execs body (envX qual scope L' f cdv (cellsFrom (L' + 1) scope.names []))) (fun fl s' => Back h₀ L m g L' Q (rv fl) s') (fun _ _ => False)
        { s with heap := h₁, toks := tk }) :
    wpAny (model prog w) A (call (.ref f) args kw) Q E s := wpAny_call (enterLC C G ho hcd hbind hkind hnd hco hgen hk h)

/-- a cell's name stored -/
theorem r_storeC {cn : Str} {cs : Scope} {a : Addr} {ccd : Value} {cl : List (Str × Addr)} {x : Str} {v : Value} {v₀ : Option Value} {c : Addr} {o : Obj} {i : Nat} {M : Model} {Q : Unit → Shared → Prop} (G : Lg h₀ L s.heap m news)
    (hc : cl.lookup x = some c) (hi : news[i]? = some (c, o)) (hd : o.data = .cell v₀)
    (h : ∀ h' o', o'.data = .cell (some v) → Lg h₀ L h' m (news.set i (c, o')) → Q () { s with heap := h' })
    (hk : cs.kind = .function := by rfl) (hx : (envX cn cs L a ccd cl).kindOf x = some .cell := by rfl) : wpAny M A (storeName (envX cn cs L a ccd cl) x v) Q E s := by
  refine wpAny_storeName_cell hk hx hc ⟨o, G.mem (List.mem_of_getElem? hi), hd⟩ fun h' hv hs => ?_
  obtain ⟨o', ho', hd'⟩ := hv
  exact h h' o' hd' (G.set i hi hs ho')

theorem str_any {x : Str} {t : Tok} {Q : Value → Shared → Prop} (hh : A.handled = none)
    (hQ : ∀ (o : Obj) (ty : String), Walks prog w A s.heap.objs.size [s.heap.objs.size] [s.heap.objs.size] x.cps.size (SignAt x) (fun i h => h.IsStrIter s.heap.objs.size ty x t i) → (s.heap.push o).IsStrIter s.heap.objs.size ty x t 0 →
      (ty = "str_ascii_iterator" ∨ ty = "str_iterator") → Q (.ref s.heap.objs.size) { s with heap := s.heap.push o }) : wpAny (model prog w) A (pyIter (.str x t)) Q E s := by
  cases ha : x.cps.all (· < 128)
  · exact wpAny_pyIter_wide ha (hQ _ _ (Walks.strWide hh _ x t) ⟨_, Heap.get?_push_size _ rfl, rfl, rfl⟩ (.inr rfl))
  · exact wpAny_pyIter_ascii ha (hQ _ _ (Walks.strAscii hh _ x t) ⟨_, Heap.get?_push_size _ rfl, rfl, rfl⟩ (.inl rfl))

theorem Lg.more {h : Heap} (G : Lg h₀ L h m news) (o : Obj) : Lg h₀ L (h.push o) m news := ⟨G.F.push _, G.N.grown fun _ _ e => Heap.get?_push_of_some _ e, G.nd⟩

/-- over a text -/
theorem for_str {x : Str} {px : Pos} {y : Str} {t₀ : Tok} {body : List Stmt} {Q : Flow → Shared → Prop} (hh : A.handled = none) (G : Lg h₀ L s.heap m news)
    (J : Nat → (Str → Option Value) → List (Addr × Obj) → Prop) (h0 : J 0 m news)
    (turn : ∀ I i v h' t m' nw oI, i < x.cps.size → SignAt x i v → J i m' nw → Lg h₀ L h' m' ((I, oI) :: nw) →
      wpAny (model prog w) A (assign (.Name y px) env v) (fun _ s₂ => wpAny (model prog w) A (execs body env) (TurnEnd h₀ L s I oI (J (i + 1)) Q) (fun _ _ => False) s₂) (fun _ _ => False) { s with heap := h', toks := t })
    (hend : ∀ h' t m' nw, J x.cps.size m' nw → Lg h₀ L h' m' nw → Q .next { s with heap := h', toks := t }) :
    wpAny (model prog w) A (pyIter (.str x t₀)) (fun it s₂ => codeAny (model prog w) A (.forLoop (.Name y px) it body [] env) (fun r s' => match r with | .ok f => Q f s' | .error e => cameBackBy (model prog w) A env E e s') s₂) E s := by
  refine str_any hh fun o ty W st _ => ?_
  refine for_walk (S := fun _ => True) W (fun i v s Q E st q => wpAny_pure q) (fun i h st => by obtain ⟨o, e, _⟩ := st; exact ⟨o, e⟩) (fun i h h' o nw st e e' _ _ _ => by obtain ⟨o', q, r⟩ := st; rw [e] at q; cases q; exact ⟨o, e', r⟩) J (fun _ _ _ _ => trivial)
    (next_is_new G.F) (Nat.ne_of_lt G.F.ns.lt) (G.more _) (fun p hp => Nat.ne_of_lt (Heap.lt_size (G.N p hp).1)) st h0 ?_ ?_
  · intro i v h' t m' nw oI hi hv hJ G'
    exact turn _ i v h' t m' nw oI hi hv hJ G'
  · exact hend

/-- over a range from 0 -/
theorem for_range {r : Addr} {b : Int} {px : Pos} {y : Str} {t u v' : Tok} {N : Nat} {body : List Stmt} {Q : Flow → Shared → Prop} (hh : A.handled = none) (G : Lg h₀ L s.heap m news)
    (hr : IsRange s.heap r 0 b 1 t u v') (hb : b = (N : Int)) (hN : N < 2 ^ 62)
    (J : Nat → (Str → Option Value) → List (Addr × Obj) → Prop) (h0 : J 0 m news)
    (turn : ∀ I i tv h' t m' nw oI, i < N → J i m' nw → Lg h₀ L h' m' ((I, oI) :: nw) →
      wpAny (model prog w) A (assign (.Name y px) env (.int ((i : Nat) : Int) tv)) (fun _ s₂ => wpAny (model prog w) A (execs body env) (TurnEnd h₀ L s I oI (J (i + 1)) Q) (fun _ _ => False) s₂) (fun _ _ => False) { s with heap := h', toks := t })
    (hend : ∀ h' t m' nw, J N m' nw → Lg h₀ L h' m' nw → Q .next { s with heap := h', toks := t }) :
    wpAny (model prog w) A (pyIter (.ref r)) (fun it s₂ => codeAny (model prog w) A (.forLoop (.Name y px) it body [] env) (fun r s' => match r with | .ok f => Q f s' | .error e => cameBackBy (model prog w) A env E e s') s₂) E s := by
  subst hb
  have hs : Builtin.Range.rangeSize 0 (N : Int) 1 = (N : Int) := by rw [rangeSize_one]; split <;> omega
  refine wpAny_pyIter_range hr (small_one (by decide) (by decide) (by omega) (by omega)) ?_
  refine for_walk (S := fun _ => True) (LCg.range_walks hh 0 N) (fun i v s Q E st q => wpAny_pure q) (fun i h st => ⟨_, st⟩) LCg.range_st J (fun _ _ _ _ => trivial)
    (next_is_new G.F) (Nat.ne_of_lt G.F.ns.lt) (G.more _) (fun p hp => Nat.ne_of_lt (Heap.lt_size (G.N p hp).1)) (by show IsRangeIter _ _ _ _ _; rw [hs]; simpa using Heap.get?_push_size _ rfl) h0 ?_ ?_
  · rintro i v h' t m' nw oI hi ⟨tv, rfl⟩ hJ G'
    rw [Int.zero_add]
    exact turn _ i tv h' t m' nw oI hi hJ G'
  · exact hend
end
end
-- L3
section
section
variable {K : Frag} {pr : Program} {loose : List Str} {mean : ExcName → Option Value} {mg mb : Str → Option Value} {prog : Program} {w : World} {n : Nat} {A : Around} {env : Env} {L : Addr} {h₀ : Heap}
  {m : Str → Option Value} {news : List (Addr × Obj)} {s : Shared} {E : Value → Shared → Prop}
open LCg (NsObj lst Off3 Off1)

/-- the end of a turn of a block that makes a list -/
def CT (h₀ : Heap) (L : Addr) (m : Str → Option Value) (s : Shared) (I : Addr) (oI : Obj) (C : Addr) (oC : Obj) (D : Addr) (ys : List Value) (J : List (Addr × Obj) → Prop) (s' : Shared) : Prop :=
  ∃ h t nw, s' = { s with heap := h, toks := t } ∧ Lg h₀ L h m ((I, oI) :: (C, oC) :: (D, lst ys) :: nw) ∧ J nw

theorem lg_of3 {h : Heap} {I C D : Addr} {oI oC oD : Obj} {nw : List (Addr × Obj)} (F : Fr h₀ L h m) (N : News h₀ L h ((I, oI) :: (C, oC) :: (D, oD) :: nw)) (off : Off3 I C D nw) (hne : (@Ne Nat I C) ∧ (@Ne Nat I D) ∧ (@Ne Nat C D)) (nd : (nw.map (·.1)).Nodup) :
    Lg h₀ L h m ((I, oI) :: (C, oC) :: (D, oD) :: nw) := by
  refine ⟨F, N, ?_⟩
  have o := off.mem
  simp only [List.map_cons, List.nodup_cons, List.mem_cons, List.mem_map, not_or]
  refine ⟨⟨hne.1, hne.2.1, ?_⟩, ⟨hne.2.2, ?_⟩, ?_, nd⟩
  · rintro ⟨p, hp, e⟩; exact (o p hp).1 e
  · rintro ⟨p, hp, e⟩; exact (o p hp).2.1 e
  · rintro ⟨p, hp, e⟩; exact (o p hp).2.2 e
theorem off_of3 {h : Heap} {I C D : Addr} {oI oC oD : Obj} {nw : List (Addr × Obj)} (G : Lg h₀ L h m ((I, oI) :: (C, oC) :: (D, oD) :: nw)) : Off3 I C D nw ∧ (nw.map (·.1)).Nodup := by
  have nd := G.nd
  simp only [List.map_cons, List.nodup_cons, List.mem_cons, List.mem_map, not_or] at nd
  refine ⟨Off3.of fun p hp => ⟨fun e => nd.1.2.2 ⟨p, hp, e⟩, fun e => nd.2.1.2 ⟨p, hp, e⟩, fun e => nd.2.2.1 ⟨p, hp, e⟩⟩, nd.2.2.2⟩

/-- what a block's walk needs to know of its source -/
structure Src (prog : Program) (w : World) (A : Around) (h₀ : Heap) (L : Addr) (m : Str → Option Value) (I : Addr) (N : Nat) (P : Nat → Value → Prop) (S : List (Addr × Obj) → Prop) (news : List (Addr × Obj)) (s : Shared) : Prop where
  ex : ∃ fp St, Walks prog w A I fp [I] N P St ∧ (∀ i h, St i h → ∃ o, h.get? I = some o) ∧
    (∀ i h h' o nw, St i h → h.get? I = some o → h'.get? I = some o → (∀ b o, h₀.get? b = some o → h'.get? b = some o) → News h₀ L h' nw → S nw → St i h') ∧ St 0 s.heap ∧ ∀ b ∈ fp, b < s.heap.objs.size
  G : Lg h₀ L s.heap m news
  hL : L ≠ I
  hI : h₀.get? I = none
  off : ∀ p ∈ news, p.1 ≠ I

theorem src_list {l : Addr} {its : Array Value} {Q : Value → Shared → Prop} (hh : A.handled = none) (G : Lg h₀ L s.heap m news) (hS : LCg.SrcAt h₀ l its news)
    (h : ∀ I s₂, (∃ h', s₂ = { s with heap := h' }) → Src prog w A h₀ L m I its.size (fun i v => its[i]? = some v) (LCg.SrcAt h₀ l its) news s₂ → Q (.ref I) s₂) : wpAny (model prog w) A (pyIter (.ref l)) Q E s := by
  have hl := hS.list G.F.keep G.N
  have hlt : l < s.heap.objs.size := by obtain ⟨_, e, _⟩ := hl; exact Heap.lt_size e
  refine wpAny_pyIter_list hl (h _ _ ⟨_, rfl⟩ ⟨⟨_, _, Walks.list hh s.heap.objs.size l (Nat.ne_of_lt hlt) its, (fun i h st => by obtain ⟨o, e, _⟩ := st.1; exact ⟨o, e⟩), LCg.list_st, ⟨⟨_, Heap.get?_push_size _ rfl, rfl, rfl⟩, hl.push _⟩, fun b hb => ?_⟩, G.more _, Nat.ne_of_lt G.F.ns.lt, next_is_new G.F, fun p hp => Nat.ne_of_lt (Heap.lt_size (G.N p hp).1)⟩)
  show b < (s.heap.push _).objs.size
  rw [Heap.size_push]
  rcases List.mem_cons.mp hb with rfl | hb
  · exact Nat.lt_succ_self _
  · rw [List.mem_singleton.mp hb]; exact Nat.lt_succ_of_lt hlt
theorem src_range {r : Addr} {b : Int} {t u v' : Tok} {N : Nat} {Q : Value → Shared → Prop} (hh : A.handled = none) (G : Lg h₀ L s.heap m news) (hr : IsRange s.heap r 0 b 1 t u v') (hb : b = (N : Int)) (hN : N < 2 ^ 62)
    (h : ∀ I s₂, (∃ h', s₂ = { s with heap := h' }) → Src prog w A h₀ L m I N (fun i v => ∃ t, v = .int (0 + (i : Int)) t) (fun _ => True) news s₂ → Q (.ref I) s₂) : wpAny (model prog w) A (pyIter (.ref r)) Q E s := by
  subst hb
  have hs : Builtin.Range.rangeSize 0 (N : Int) 1 = (N : Int) := by rw [rangeSize_one]; split <;> omega
  refine wpAny_pyIter_range hr (small_one (by decide) (by decide) (by omega) (by omega)) (h _ _ ⟨_, rfl⟩ ⟨⟨_, _, LCg.range_walks hh 0 N, fun i h st => ⟨_, st⟩, LCg.range_st, ?_, fun b hb => ?_⟩, G.more _, Nat.ne_of_lt G.F.ns.lt, next_is_new G.F, fun p hp => Nat.ne_of_lt (Heap.lt_size (G.N p hp).1)⟩)
  · show IsRangeIter _ _ _ _ _; rw [hs]; simpa using Heap.get?_push_size _ rfl
  · rw [List.mem_singleton.mp hb]
    show s.heap.objs.size < (s.heap.push _).objs.size
    rw [Heap.size_push]; exact Nat.lt_succ_self _
theorem src_str {x : Str} {t : Tok} {Q : Value → Shared → Prop} (hh : A.handled = none) (G : Lg h₀ L s.heap m news)
    (h : ∀ I s₂, (∃ h', s₂ = { s with heap := h' }) → Src prog w A h₀ L m I x.cps.size (SignAt x) (fun _ => True) news s₂ → Q (.ref I) s₂) : wpAny (model prog w) A (pyIter (.str x t)) Q E s := by
  refine str_any hh fun o ty W st _ => h _ _ ⟨_, rfl⟩ ⟨⟨_, _, W, (fun i h st => by obtain ⟨o, e, _⟩ := st; exact ⟨o, e⟩), (fun i h h' o nw st e e' _ _ _ => by obtain ⟨o', q, r⟩ := st; rw [e] at q; cases q; exact ⟨o, e', r⟩), st, fun b hb => ?_⟩, G.more _, Nat.ne_of_lt G.F.ns.lt, next_is_new G.F, fun p hp => Nat.ne_of_lt (Heap.lt_size (G.N p hp).1)⟩
  rw [List.mem_singleton.mp hb]
  show s.heap.objs.size < (s.heap.push _).objs.size
  rw [Heap.size_push]; exact Nat.lt_succ_self _

theorem off1_mem {D : Addr} : ∀ {l : List (Addr × Obj)}, Off1 D l → ∀ p ∈ l, p.1 ≠ D
  | [], _, _, h => nomatch h
  | _ :: _, x, p, h => by
    rcases List.mem_cons.mp h with rfl | h
    · exact x.1
    · exact off1_mem x.2 p h

theorem comp_T {ct elt iter : PySem.Expr} {x : Str} {px : Pos} {scope : Scope} {cl : List (Str × Addr)} {pos : Pos} {Q : Value → Shared → Prop}
    {news₀ : List (Addr × Obj)} (_G₀ : Lg h₀ L s.heap m news₀) (hclos : closureFor scope env = pure cl) (hcell : ∀ y ∈ scope.names, y.2 ≠ .cell) (hkind : scope.kind = .function)
    (hnames : ∀ y ∈ scope.names, y.2 = .local → scope.names.lookup y.1 = some .local) (hx : scope.names.lookup x = some .local)
    (h : wpAny (model prog w) A (eval iter env) (fun xv s₁ => wpAny (model prog w) A (pyIter xv) (fun it s₂ => ∃ I N P S news, it = .ref I ∧ N ≤ sizeLine ∧ Src prog w A h₀ L m I N P S news s₂ ∧
      ∃ J : Nat → List Value → List (Addr × Obj) → Prop, (∀ i ys nw, J i ys nw → S nw) ∧ J 0 [] news ∧
        (∀ I i v ys h t nw oI C oC D m₂, i < N → P i v → NsObj oC m₂ → m₂ x = some v → J i ys nw → Lg h₀ L h m ((I, oI) :: (C, oC) :: (D, lst ys) :: nw) →
          wpAny (model prog w) A (isTrue ct (compEnvC scope cl C env) (eval ct (compEnvC scope cl C env))) (fun ok s' => if ok = true then
            wpAny (model prog w) A (eval elt (compEnvC scope cl C env)) (fun y s'' => CT h₀ L m s₂ I oI C oC D ys (J (i + 1) (ys ++ [y])) s'') (fun _ _ => False) s'
            else CT h₀ L m s₂ I oI C oC D ys (J (i + 1) ys) s') (fun _ _ => False) { s₂ with heap := h, toks := t }) ∧
        ∀ D h t ys nw, J N ys nw → Lg h₀ L h m ((D, lst ys) :: nw) → Q (.ref D) { s₂ with heap := h, toks := t }) E s₁) E s)
    (hs : ∀ x, foldedSetIterable iter env x = pure x := by intro _; rfl) :
    wpAny (model prog w) A (eval (.ListComp elt [⟨.Name x px, iter, [ct], 0⟩] scope pos) env) Q E s := by
  rw [eval_ListComp]
  refine wpAny_comprehension_free (use := none) rfl hs hclos hkind hnames (wpAny_mono h (fun xv s₁ h₁ => wpAny_mono h₁ (fun it s₂ h₂ => ?_) fun _ _ e => e) fun _ _ e => e)
  obtain ⟨I, N, P, S, news, rfl, hN, Z, J, hJS, h0, turn, fin⟩ := h₂
  obtain ⟨fp, St, W, hIo, hSt, st, hfp⟩ := Z.ex
  refine LCt.block_T (S := fun nw => S nw ∧ (nw.map (·.1)).Nodup) (Fin := fun ys nw => J N ys nw ∧ (nw.map (·.1)).Nodup) W hN hIo (fun i h h' o nw a b c d e f => hSt i h h' o nw a b c d e f.1) hcell hkind hx st hfp Z.G.F Z.G.N Z.hL Z.hI Z.off ⟨hJS _ _ _ h0, Z.G.nd⟩ ?_ ?_
  · have key : ∀ k i ys nw, i + k = N → J i ys nw → (nw.map (·.1)).Nodup → LCt.CompRestT prog w A h₀ L m env ct elt x scope cl s₂ (fun nw => S nw ∧ (nw.map (·.1)).Nodup) P (fun ys nw => J N ys nw ∧ (nw.map (·.1)).Nodup) k i ys nw := by
      intro k
      induction k with
      | zero => intro i ys nw hi hJ nd; have e : i = N := by omega
                subst e; exact ⟨hJ, nd⟩
      | succ k ih =>
        intro i ys nw hi hJ nd
        intro v I' oI C oC D m₂ h t E' hP hO hm F' N' off hne
        refine wpAny_mono (turn I' i v ys h t nw oI C oC D m₂ (by omega) hP hO hm hJ (lg_of3 F' N' off hne nd)) (fun ok s' hc => ?_) fun _ _ z => z.elim
        cases ok with
        | true =>
          refine wpAny_mono hc (fun y s'' hct => ?_) fun _ _ z => z.elim
          obtain ⟨h', t', nw', rfl, G', hJ'⟩ := hct
          obtain ⟨o3, nd'⟩ := off_of3 G'
          exact ⟨h', t', nw', rfl, G'.F, G'.N, o3, ⟨hJS _ _ _ hJ', nd'⟩, ih (i + 1) _ nw' (by omega) hJ' nd'⟩
        | false =>
          obtain ⟨h', t', nw', rfl, G', hJ'⟩ := hc
          obtain ⟨o3, nd'⟩ := off_of3 G'
          exact ⟨h', t', nw', rfl, G'.F, G'.N, o3, ⟨hJS _ _ _ hJ', nd'⟩, ih (i + 1) _ nw' (by omega) hJ' nd'⟩
    exact key N 0 [] news (by omega) h0 Z.G.nd
  · intro D C h tk m' ys news' F' N' o1 hn hC₀ hD₀ hCL hDL hCD offC hfin
    refine ⟨m', hn, fun h'' hs'' => fin D h'' tk ys news' hfin.1 ?_⟩
    have N'' : News h₀ L h'' ((D, lst ys) :: news') := fun p hp => by
      refine ⟨hs''.extBut _ _ ?_ (N' p hp).1, (N' p hp).2⟩
      rcases List.mem_cons.mp hp with rfl | hp
      · exact Ne.symm hCD
      · exact offC p hp
    refine ⟨F'.change hs'' hCL hC₀, N'', ?_⟩
    rw [List.map_cons, List.nodup_cons]
    refine ⟨fun hm => ?_, hfin.2⟩
    obtain ⟨p, hp, e⟩ := List.mem_map.mp hm
    exact off1_mem o1 p hp e

theorem comp_U {elt iter : PySem.Expr} {x : Str} {px : Pos} {scope : Scope} {cl : List (Str × Addr)} {pos : Pos} {Q : Value → Shared → Prop}
    {news₀ : List (Addr × Obj)} (_G₀ : Lg h₀ L s.heap m news₀) (hclos : closureFor scope env = pure cl) (hcell : ∀ y ∈ scope.names, y.2 ≠ .cell) (hkind : scope.kind = .function)
    (hnames : ∀ y ∈ scope.names, y.2 = .local → scope.names.lookup y.1 = some .local) (hx : scope.names.lookup x = some .local)
    (h : wpAny (model prog w) A (eval iter env) (fun xv s₁ => wpAny (model prog w) A (pyIter xv) (fun it s₂ => ∃ I N P S news, it = .ref I ∧ N ≤ sizeLine ∧ Src prog w A h₀ L m I N P S news s₂ ∧
      ∃ J : Nat → List Value → List (Addr × Obj) → Prop, (∀ i ys nw, J i ys nw → S nw) ∧ J 0 [] news ∧
        (∀ I i v ys h t nw oI C oC D m₂, i < N → P i v → NsObj oC m₂ → m₂ x = some v → J i ys nw → Lg h₀ L h m ((I, oI) :: (C, oC) :: (D, lst ys) :: nw) →
          wpAny (model prog w) A (eval elt (compEnvC scope cl C env)) (fun y s'' => CT h₀ L m s₂ I oI C oC D ys (J (i + 1) (ys ++ [y])) s'') (fun _ _ => False) { s₂ with heap := h, toks := t }) ∧
        ∀ D h t ys nw, J N ys nw → Lg h₀ L h m ((D, lst ys) :: nw) → Q (.ref D) { s₂ with heap := h, toks := t }) E s₁) E s)
    (hs : ∀ x, foldedSetIterable iter env x = pure x := by intro _; rfl) :
    wpAny (model prog w) A (eval (.ListComp elt [⟨.Name x px, iter, [], 0⟩] scope pos) env) Q E s := by
  rw [eval_ListComp]
  refine wpAny_comprehension_free (use := none) rfl hs hclos hkind hnames (wpAny_mono h (fun xv s₁ h₁ => wpAny_mono h₁ (fun it s₂ h₂ => ?_) fun _ _ e => e) fun _ _ e => e)
  obtain ⟨I, N, P, S, news, rfl, hN, Z, J, hJS, h0, turn, fin⟩ := h₂
  obtain ⟨fp, St, W, hIo, hSt, st, hfp⟩ := Z.ex
  refine LCg.block_U (S := fun nw => S nw ∧ (nw.map (·.1)).Nodup) (Fin := fun ys nw => J N ys nw ∧ (nw.map (·.1)).Nodup) W hN hIo (fun i h h' o nw a b c d e f => hSt i h h' o nw a b c d e f.1) hcell hkind hx st hfp Z.G.F Z.G.N Z.hL Z.hI Z.off ⟨hJS _ _ _ h0, Z.G.nd⟩ ?_ ?_
  · have key : ∀ k i ys nw, i + k = N → J i ys nw → (nw.map (·.1)).Nodup → LCg.CompRest prog w A h₀ L m env elt x scope cl s₂ (fun nw => S nw ∧ (nw.map (·.1)).Nodup) P (fun ys nw => J N ys nw ∧ (nw.map (·.1)).Nodup) k i ys nw := by
      intro k
      induction k with
      | zero => intro i ys nw hi hJ nd; have e : i = N := by omega
                subst e; exact ⟨hJ, nd⟩
      | succ k ih =>
        intro i ys nw hi hJ nd
        intro v I' oI C oC D m₂ h t E' hP hO hm F' N' off hne
        refine wpAny_mono (turn I' i v ys h t nw oI C oC D m₂ (by omega) hP hO hm hJ (lg_of3 F' N' off hne nd)) (fun y s'' hct => ?_) fun _ _ z => z.elim
        obtain ⟨h', t', nw', rfl, G', hJ'⟩ := hct
        obtain ⟨o3, nd'⟩ := off_of3 G'
        exact ⟨h', t', nw', rfl, G'.F, G'.N, o3, ⟨hJS _ _ _ hJ', nd'⟩, ih (i + 1) _ nw' (by omega) hJ' nd'⟩
    exact key N 0 [] news (by omega) h0 Z.G.nd
  · intro D C h tk m' ys news' F' N' o1 hn hC₀ hD₀ hCL hDL hCD offC hfin
    refine ⟨m', hn, fun h'' hs'' => fin D h'' tk ys news' hfin.1 ?_⟩
    have N'' : News h₀ L h'' ((D, lst ys) :: news') := fun p hp => by
      refine ⟨hs''.extBut _ _ ?_ (N' p hp).1, (N' p hp).2⟩
      rcases List.mem_cons.mp hp with rfl | hp
      · exact Ne.symm hCD
      · exact offC p hp
    refine ⟨F'.change hs'' hCL hC₀, N'', ?_⟩
    rw [List.map_cons, List.nodup_cons]
    refine ⟨fun hm => ?_, hfin.2⟩
    obtain ⟨p, hp, e⟩ := List.mem_map.mp hm
    exact off1_mem o1 p hp e
end
end
-- S1
section
set_option maxHeartbeats 1000000
theorem slot_fn_sa : Slot "function" "__setattr__" "object.__setattr__" :=
  .of (owner := "object") (n := "__setattr__") (by rw [typeLookup_type, builtinLookup_eq_fast]; kernel_rfl) (by decide +kernel) (by decide +kernel) (by decide +kernel)
    (by first | exact .inl (by decide +kernel) | exact .inr (by decide +kernel)) (by rw [isSubtype_type]; kernel_rfl)
theorem fn_mro : mroOf (.type "function") = pure [.type "function", .type "object"] := by kernel_rfl
theorem fn_ref (self : Value) : refuseLoop self "__setattr__" [.type "function", .type "object"] = pure () := by kernel_rfl
section
variable {prog : Program} {w : World} {A : Around} {s : Shared} {E : Value → Shared → Prop}
theorem osa_fn {st : Addr} {fd : FuncData} {v : Value} {name : Str} {u : Tok} {Q : PySem.Fin → Shared → Prop}
    (hst : s.heap.get? st = some ⟨.type "function", none, .func fd, #[]⟩) (hnone : typeLookup (.type "function") name = pure none)
    (h : ∀ h' k, (∀ b o, b ≠ st → s.heap.get? b = some o → h'.get? b = some o) → h'.get? st = some ⟨.type "function", some s.heap.objs.size, .func fd, #[]⟩ →
      h'.get? s.heap.objs.size = some (dictOf [⟨PyData.keyHash w.params name, .str name k, v⟩] 1) → Q (.done (.ret .none)) { s with heap := h', toks := s.toks + 1 }) :
    wpAny (model prog w) A (Builtin.«object.__setattr__» ⟨[.ref st, .str name u, v], []⟩) Q E s := by
  have hT : s.TypeIs (.ref st) "function" := ⟨_, hst, rfl⟩
  rw [osa_eq, refuse_eq]
  refine wpAny_bind (wpAny_bind (wpAny_typeOf hT (wpAny_bind ?_)))
  rw [fn_mro]
  refine wpAny_pure ?_
  try dsimp only
  rw [fn_ref]
  refine wpAny_pure (wpAny_bind (wpAny_typeOf hT ?_))
  rw [hnone]
  refine wpAny_bind (wpAny_pure (wpAny_bind (wpAny_pure ?_)))
  try dsimp only
  unfold Builtin.ObjectAttr.storeInOwnDict
  refine wpAny_bind (wpAny_pure ?_)
  rw [if_neg (by decide)]
  refine wpAny_bind ?_
  unfold Builtin.ObjectAttr.ownDictForStores instanceDict
  try dsimp only
  refine wpAny_bind (wpAny_loadPart hst ?_)
  try dsimp only
  rw [if_neg (by decide)]
  refine wpAny_bind (wpAny_alloc ?_)
  refine wpAny_bind (wpAny_update (o := ⟨.type "function", none, .func fd, #[]⟩) ?_ ?_)
  · show (s.heap.push _).get? st = _
    exact Heap.get?_push_of_some _ hst
  unfold dictMade
  dsimp only
  have hf : finalisedInACycleAlone "function" = false := by decide +kernel
  rw [hf, if_neg Bool.false_ne_true]
  refine wpAny_bind (wpAny_pure (wpAny_pure ?_))
  dsimp only
  have hlt : st < s.heap.objs.size := Heap.lt_size hst
  generalize hH : (s.heap.push ({ cls := .type "dict", data := .dict #[] } : Obj)).update st (fun o => { o with dict := some s.heap.objs.size }) = H
  have hD : H.get? s.heap.objs.size = some ({ cls := .type "dict", data := .dict #[] } : Obj) := by
    rw [← hH, Heap.get?_update_ne _ _ _ _ (Nat.ne_of_gt hlt)]
    exact Heap.get?_push_size _ rfl
  have hS : H.get? st = some ⟨.type "function", some s.heap.objs.size, .func fd, #[]⟩ := by
    rw [← hH]
    exact Heap.get?_update_self _ (Heap.get?_push_of_some _ hst) rfl
  have hK : ∀ b o, b ≠ st → s.heap.get? b = some o → H.get? b = some o := by
    intro b o hb e
    rw [← hH, Heap.get?_update_ne _ _ _ _ hb]
    exact Heap.get?_push_of_some _ e
  unfold Builtin.ObjectAttr.storeInDict
  refine wpAny_bind (wpAny_pure ?_)
  refine wpAny_bind ?_
  unfold nsSet
  refine wpAny_bind (wpAny_bind (wpAny_askSetting (wpAny_pure ?_)))
  refine wpAny_bind (wpAny_mkText ?_)
  refine wpAny_bind (wpAny_loadPart hD ?_)
  try dsimp only
  rw [show aRefKeyMayBeTheName name #[] = false from by rw [aRefKeyMayBeTheName_at]; simp, if_neg Bool.false_ne_true]
  refine wpAny_updatePart hD ?_
  dsimp only
  generalize hH2 : H.update s.heap.objs.size (Obj.putName name (if name.cps.isEmpty = true then 0 else reduceHash ((model prog w).w.params.strHash name.cps)) (.str name s.toks) v) = H2
  have hD2 : H2.get? s.heap.objs.size = some (dictOf [⟨PyData.keyHash w.params name, .str name s.toks, v⟩] 1) := by
    rw [← hH2, Heap.get?_update_self _ hD (by rw [show ({ cls := .type "dict", data := .dict #[] } : Obj) = dictOf [] 0 from rfl, putName_dict]; rfl)]
    rw [show ({ cls := .type "dict", data := .dict #[] } : Obj) = dictOf [] 0 from rfl, putName_dict]
    rfl
  have hne : st ≠ s.heap.objs.size := Nat.ne_of_lt hlt
  refine wpAny_bind ?_
  refine wpAny_lookBehind hD2 (pastItsLine_dict (by rw [sizeLine_eq]; show (1 : Nat) ≤ _; decide)) ?_
  refine wpAny_pure (h _ _ ?_ ?_ hD2)
  · intro b o hb e
    rw [← hH2, Heap.get?_update_ne _ _ _ _ (Nat.ne_of_lt (Heap.lt_size e))]
    exact hK b o hb e
  · rw [← hH2, Heap.get?_update_ne _ _ _ _ hne]
    exact hS

theorem setAttr_fn {st : Addr} {fd : FuncData} {v : Value} {name : Str} {Q : Unit → Shared → Prop}
    (hst : s.heap.get? st = some ⟨.type "function", none, .func fd, #[]⟩) (hnone : typeLookup (.type "function") name = pure none)
    (h : ∀ h' k t, (∀ b o, b ≠ st → s.heap.get? b = some o → h'.get? b = some o) → h'.get? st = some ⟨.type "function", some s.heap.objs.size, .func fd, #[]⟩ →
      h'.get? s.heap.objs.size = some (dictOf [⟨PyData.keyHash w.params name, .str name k, v⟩] 1) → Q () { s with heap := h', toks := t }) :
    wpAny (model prog w) A (setAttr (.ref st) name v) Q E s := by
  have hT : ({ s with toks := s.toks + 1 } : Shared).TypeIs (.ref st) "function" := ⟨_, hst, rfl⟩
  refine wpAny_bind (wpAny_mkText (wpAny_bind ?_))
  refine wpAny_callSpecial?_slot (name := Str.ofString "__setattr__") hT slot_fn_sa (wpAny_call_entry slot_fn_sa hT PySem.F.store_object.entry ?_ (PySem.F.store_object.args _ _ _))
  refine osa_fn (s := { s with toks := s.toks + 1 }) hst hnone ?_
  intro h' k a b c
  refine ⟨_, rfl, wpAny_pure (h _ _ _ a b c)⟩
end
section
variable {prog : Program} {w : World} {A : Around} {s : Shared} {E : Value → Shared → Prop} {L : Addr} {h₀ : Heap} {m : Str → Option Value} {news : List (Addr × Obj)}
theorem r_setFn {st : Addr} {fd : FuncData} {v : Value} {name : Str} {i : Nat} {Q : Unit → Shared → Prop} (G : Lg h₀ L s.heap m news)
    (hi : news[i]? = some (st, ⟨.type "function", none, .func fd, #[]⟩)) (hnone : typeLookup (.type "function") name = pure none)
    (h : ∀ D h' k t, Lg h₀ L h' m ((D, dictOf [⟨PyData.keyHash w.params name, .str name k, v⟩] 1) :: news.set i (st, ⟨.type "function", some D, .func fd, #[]⟩)) → Q () { s with heap := h', toks := t }) :
    wpAny (model prog w) A (setAttr (.ref st) name v) Q E s := by
  have hm := List.mem_of_getElem? hi
  have hst := (G.N _ hm).1
  refine setAttr_fn hst hnone fun h' k t a b c => h s.heap.objs.size h' k t ?_
  have hlt : st < s.heap.objs.size := Heap.lt_size hst
  have hn : h₀.get? s.heap.objs.size = none := next_is_new G.F
  have hL : L < s.heap.objs.size := G.F.ns.lt
  have key : ∀ p ∈ news.set i (st, (⟨.type "function", some s.heap.objs.size, .func fd, #[]⟩ : Obj)), h'.get? p.1 = some p.2 ∧ p.1 ≠ L ∧ h₀.get? p.1 = none := by
    intro p hp
    rcases List.mem_or_eq_of_mem_set hp with hp' | rfl
    · by_cases e : p.1 = st
      · -- the same address stands at place i alone
        obtain ⟨j, hl, hj⟩ := List.getElem_of_mem hp
        rw [List.length_set] at hl
        by_cases hij : i = j
        · subst hij
          have : p = (st, ⟨.type "function", some s.heap.objs.size, .func fd, #[]⟩) := by rw [← hj]; simp
          subst this
          exact ⟨b, (G.N _ hm).2⟩
        · exfalso
          have hj2 : news[j] = p := by rw [← hj, List.getElem_set_ne hij]
          obtain ⟨hli, hei⟩ := List.getElem?_eq_some_iff.mp hi
          have nd := List.pairwise_iff_getElem.mp G.nd
          rcases Nat.lt_or_gt_of_ne hij with q | q
          · exact nd i j (by simpa using hli) (by simpa using hl) q (by simp only [List.getElem_map, hei, hj2, e])
          · exact nd j i (by simpa using hl) (by simpa using hli) q (by simp only [List.getElem_map, hei, hj2, e])
      · exact ⟨a _ _ e (G.N p hp').1, (G.N p hp').2⟩
    · exact ⟨b, (G.N _ hm).2⟩
  have e : (news.set i (st, (⟨.type "function", some s.heap.objs.size, .func fd, #[]⟩ : Obj))).map (·.1) = news.map (·.1) := by
    rw [List.map_set]
    apply List.ext_getElem?
    intro j
    by_cases hj : i = j
    · subst hj
      obtain ⟨hl, he⟩ := List.getElem?_eq_some_iff.mp hi
      rw [List.getElem?_set_self (by simpa using hl), List.getElem?_map, hi]; rfl
    · rw [List.getElem?_set_ne hj]
  refine ⟨LCg.fr_but (I := st) G.F (fun b' o hb e' => a b' o (by simpa using hb) e') (G.N _ hm).2.1.symm (G.N _ hm).2.2, fun p hp => ?_, ?_⟩
  · rcases List.mem_cons.mp hp with rfl | hp
    · exact ⟨c, fun e => absurd hL (by rw [← e]; exact Nat.lt_irrefl _), hn⟩
    · exact key p hp
  · rw [List.map_cons, List.nodup_cons, e]
    refine ⟨fun hx => ?_, G.nd⟩
    obtain ⟨p, hp, e'⟩ := List.mem_map.mp hx
    have := Heap.lt_size (G.N p hp).1
    rw [e'] at this
    exact absurd this (Nat.lt_irrefl _)
end
end
-- R1
section
open PySem.Sre (M)

theorem run_done {m : M} (h : m.outcome.isSome = true) : ∀ n, M.runFor n m = m
  | 0 => rfl
  | n + 1 => by rw [M.runFor, if_pos h]
theorem run_add (a : Nat) : ∀ (b : Nat) (m : M), M.runFor (a + b) m = M.runFor b (M.runFor a m) := by
  induction a with
  | zero => intro b m; rw [Nat.zero_add]; rfl
  | succ a ih =>
    intro b m
    rw [Nat.succ_add, M.runFor, M.runFor]
    split
    · rename_i h; rw [run_done h]
    · exact ih b _
theorem run_to {m m' : M} {k : Nat} (h : M.runFor k m = m') (ho : m'.outcome.isSome = true) {j : Nat} (hj : k ≤ j) : M.runFor j m = m' := by
  obtain ⟨d, rfl⟩ := Nat.le.dest hj
  rw [run_add, h, run_done ho]

section
variable {Mo : Model} {A : Around} {s : Shared} {E : Value → Shared → Prop}
theorem wpAny_reDrive {Q : M → Shared → Prop} {m' : M} (ho : m'.outcome.isSome = true) (h : Q m' s) : ∀ (t k : Nat) (m : M), M.runFor k m = m' → k ≤ 4 * (t + 1) → wpAny Mo A (Builtin.Re.reDrive (t + 1) m) Q E s
  | t, k, m, hk, hle => by
    unfold Builtin.Re.reDrive
    by_cases h4 : (M.runFor Builtin.Re.reTurnSteps m).outcome.isSome = true
    · have e : M.runFor Builtin.Re.reTurnSteps m = m' := by
        have a := run_to (rfl : M.runFor 4 m = _) h4 (j := 4 + k) (by omega)
        have b := run_to hk ho (j := 4 + k) (by omega)
        exact (a.symm.trans b)
      dsimp only
      rw [if_pos h4, e]
      exact wpAny_pure h
    · dsimp only
      rw [if_neg h4]
      refine wpAny_bind (wpAny_rule ?_)
      have hk4 : 4 < k := by
        rcases Nat.lt_or_ge 4 k with q | q
        · exact q
        · exact absurd (by rw [show M.runFor Builtin.Re.reTurnSteps m = m' from run_to hk ho q]; exact ho) h4
      cases t with
      | zero => omega
      | succ t =>
        refine wpAny_reDrive ho h t (k - 4) _ ?_ (by omega)
        rw [← run_add]
        rw [show Builtin.Re.reTurnSteps + (k - 4) = k from by show 4 + (k - 4) = k; omega]
        exact hk

theorem wpAny_rules {α : Type} (f : α → PUnit → Sem (ForInStep PUnit)) (hf : ∀ x u, f x u = pure (.yield ⟨⟩) ∨ ∃ t, f x u = (rule t >>= fun _ => pure (.yield ⟨⟩))) {Q : PUnit → Shared → Prop} (h : Q ⟨⟩ s) (l : List α) :
    wpAny Mo A (forIn l ⟨⟩ f) Q E s := by
  refine wpAny_forIn_list f (fun _ _ s' => s' = s) Q (fun x rest b s' e => ?_) (fun b s' e => e ▸ h) l ⟨⟩ rfl
  subst e
  rcases hf x b with e | ⟨t, e⟩
  · rw [e]; exact wpAny_pure rfl
  · rw [e]; exact wpAny_bind (wpAny_rule (wpAny_pure rfl))

theorem wpAny_reRun {Q : Option M → Shared → Prop} {m m' : M} {k : Nat} (hk : M.runFor k m = m') (hle : k ≤ 2 ^ 60)
    (h : (m'.outcome = some .matched ∧ Q (some m') s) ∨ (m'.outcome = some .failed ∧ Q none s)) : wpAny Mo A (Builtin.Re.reRunToEnd m) Q E s := by
  unfold Builtin.Re.reRunToEnd
  have ho : m'.outcome.isSome = true := by rcases h with ⟨e, _⟩ | ⟨e, _⟩ <;> rw [e] <;> rfl
  refine wpAny_bind (wpAny_reDrive ho ?_ (2 ^ 64 - 1) k m hk (by omega))
  refine wpAny_bind (wpAny_rules _ (fun x u => ?_) ?_ _)
  · split
    · exact .inr ⟨_, rfl⟩
    · exact .inl rfl
  · rcases h with ⟨e, q⟩ | ⟨e, q⟩
    · rw [e]; exact wpAny_pure q
    · rw [e]; exact wpAny_pure q
end
end
-- R2
section
open PySem.Sre (M)

abbrev cName : Array Nat := #[14, 10, 4, 1, 1, 22, 0, 31, 16, 127, 0, 13, 7, 22, 0, 31, 16, 127, 0, 1]
abbrev cVal : Array Nat := #[14, 14, 4, 1, 1, 9, 4294966783, 0, 0, 2147483648, 0, 0, 0, 0, 0, 13, 11, 9, 4294966783, 0, 0, 2147483648, 0, 0, 0, 0, 0, 1]

/-- the machine at the start of a search -/
abbrev M0 (C text : Array Nat) (lim s p : Nat) (must : Bool) (sn : Sre.Seen) : M := { code := C, text := text, lim := lim, start := s, lastStart := lim, pc := p, pos := s, handed := s, marks := #[], mustAdvance := must, seen := sn }
def Starts (C : Array Nat) (p : Nat) : Prop := ∀ (text : Array Nat) (s lim : Nat) (must : Bool),
  (s < lim → ∃ sn, Sre.forSearch C text 0 s lim must = (M0 C text lim s p must sn).attemptFrom s true) ∧ (¬ s < lim → (M.runFor 1 (Sre.forSearch C text 0 s lim must)).outcome = some .failed)
/-- a pattern that is one set of signs -/
structure OneSet (C : Array Nat) (bad : Nat → Bool) (p w : Nat) : Prop where
  srch : Starts C p
  fst : C.getD 2 0 = 4
  inf : Sre.ops[C.getD 0 0]? = some .INFO
  set1 : ∀ c sn, ∃ sn', Sre.inSet C c C.size 5 true sn = .ok (bad c, sn')
  acc : ∀ c sn, ∃ sn', Sre.accepts C p c sn = .ok (bad c, sn')
  op0 : Sre.ops[C.getD p 0]? = some .IN
  wid : Sre.itemWidth C p = w
  op1 : Sre.ops[C.getD (p + w) 0]? = some .SUCCESS
  lt0 : p < C.size
  lt1 : p + w < C.size

def badName (c : Nat) : Bool := decide (c ≤ 31) || c == 127

theorem ex_ok {x : Except String (Bool × Sre.Seen)} {b b' : Bool} {sn : Sre.Seen} (h : x = .ok (b, sn)) (e : b = b') : ∃ sn', x = .ok (b', sn') := ⟨sn, by rw [h, e]⟩
theorem name_set5 (c : Nat) (sn : Sre.Seen) : ∃ sn', Sre.inSet cName c cName.size 5 true sn = .ok (badName c, sn') := by
  have e : Sre.inSet cName c cName.size 5 true sn = (if (decide (0 ≤ c) && decide (c ≤ 31)) = true then _ else if (c == 127) = true then _ else _) := rfl
  by_cases c1 : c ≤ 31
  · rw [if_pos (by simp [c1])] at e
    exact ex_ok e (by simp [badName, c1])
  · rw [if_neg (by simp [c1])] at e
    by_cases c2 : c = 127
    · rw [if_pos (by simp [c2])] at e
      exact ex_ok e (by simp [badName, c2])
    · rw [if_neg (by simp [c2])] at e
      exact ex_ok (e.trans rfl) (by simp [badName, c1, c2])
theorem name_set13 (c : Nat) (sn : Sre.Seen) : ∃ sn', Sre.inSet cName c cName.size 13 true sn = .ok (badName c, sn') := by
  have e : Sre.inSet cName c cName.size 13 true sn = (if (decide (0 ≤ c) && decide (c ≤ 31)) = true then _ else if (c == 127) = true then _ else _) := rfl
  by_cases c1 : c ≤ 31
  · rw [if_pos (by simp [c1])] at e
    exact ex_ok e (by simp [badName, c1])
  · rw [if_neg (by simp [c1])] at e
    by_cases c2 : c = 127
    · rw [if_pos (by simp [c2])] at e
      exact ex_ok e (by simp [badName, c2])
    · rw [if_neg (by simp [c2])] at e
      exact ex_ok (e.trans rfl) (by simp [badName, c1, c2])
theorem starts_name : Starts cName 11 := fun text s lim must => by
  have e : Sre.forSearch cName text 0 s lim must = (if (decide (s > lim) || decide (lim - s < 1)) = true then _ else (M0 cName text lim s 11 must _).attemptFrom s true) := rfl
  refine ⟨fun h => ?_, fun h => ?_⟩
  · rw [if_neg (by simp; omega)] at e
    exact ⟨_, e⟩
  · rw [if_pos (by simp; omega)] at e
    rw [e]; rfl
theorem oneName : OneSet cName badName 11 8 where
  srch := starts_name
  fst := rfl
  inf := rfl
  set1 := name_set5
  acc := fun c sn => name_set13 c sn
  op0 := rfl
  wid := rfl
  op1 := rfl
  lt0 := by decide
  lt1 := by decide

def badVal (c : Nat) : Bool := decide (c < 256) && (cVal.getD (6 + c / 32) 0).testBit (c % 32)
theorem val_w5 : ∀ k < 8, cVal.getD (5 + (1 + k)) 0 = cVal.getD (6 + k) 0 := by decide
theorem val_w17 : ∀ k < 8, cVal.getD (17 + (1 + k)) 0 = cVal.getD (6 + k) 0 := by decide
theorem val_set5 (c : Nat) (sn : Sre.Seen) : ∃ sn', Sre.inSet cVal c cVal.size 5 true sn = .ok (badVal c, sn') := by
  have e : (decide (c < 256) && (cVal.getD (5 + (1 + c / 32)) 0).testBit (c % 32)) = badVal c := by
    unfold badVal
    by_cases h : c < 256
    · rw [val_w5 (c / 32) (by omega)]
    · simp [h]
  have e1 : Sre.inSet cVal c cVal.size 5 true sn = (if (decide (c < 256) && (cVal.getD (5 + (1 + c / 32)) 0).testBit (c % 32)) = true then _ else _) := rfl
  rw [e] at e1
  by_cases h : badVal c = true
  · rw [if_pos h] at e1
    exact ex_ok e1 h.symm
  · rw [if_neg h] at e1
    exact ex_ok (e1.trans rfl) (by simpa using h)
theorem val_set17 (c : Nat) (sn : Sre.Seen) : ∃ sn', Sre.inSet cVal c cVal.size 17 true sn = .ok (badVal c, sn') := by
  have e : (decide (c < 256) && (cVal.getD (17 + (1 + c / 32)) 0).testBit (c % 32)) = badVal c := by
    unfold badVal
    by_cases h : c < 256
    · rw [val_w17 (c / 32) (by omega)]
    · simp [h]
  have e1 : Sre.inSet cVal c cVal.size 17 true sn = (if (decide (c < 256) && (cVal.getD (17 + (1 + c / 32)) 0).testBit (c % 32)) = true then _ else _) := rfl
  rw [e] at e1
  by_cases h : badVal c = true
  · rw [if_pos h] at e1
    exact ex_ok e1 h.symm
  · rw [if_neg h] at e1
    exact ex_ok (e1.trans rfl) (by simpa using h)
theorem starts_val : Starts cVal 15 := fun text s lim must => by
  have e : Sre.forSearch cVal text 0 s lim must = (if (decide (s > lim) || decide (lim - s < 1)) = true then _ else (M0 cVal text lim s 15 must _).attemptFrom s true) := rfl
  refine ⟨fun h => ?_, fun h => ?_⟩
  · rw [if_neg (by simp; omega)] at e
    exact ⟨_, e⟩
  · rw [if_pos (by simp; omega)] at e
    rw [e]; rfl
theorem oneVal : OneSet cVal badVal 15 12 where
  srch := starts_val
  fst := rfl
  inf := rfl
  set1 := val_set5
  acc := fun c sn => val_set17 c sn
  op0 := rfl
  wid := rfl
  op1 := rfl
  lt0 := by decide
  lt1 := by decide

section
variable {C : Array Nat} {bad : Nat → Bool} {p w : Nat} (O : OneSet C bad p w)
include O
theorem adm_none {m : M} (hc : m.code = C) : ∀ (f s : Nat) (sn : Sre.Seen), (∀ i, s ≤ i → i < m.lim → bad (m.text.getD i 0) = false) → ∃ sn', M.admitted m f s sn = .ok (none, sn')
  | 0, s, sn, _ => ⟨sn, rfl⟩
  | f + 1, s, sn, h => by
    unfold M.admitted
    by_cases hs : s ≥ m.lim
    · rw [if_pos hs]; exact ⟨sn, rfl⟩
    · rw [if_neg hs, hc]
      obtain ⟨sn1, e⟩ := O.set1 (m.text.getD s 0) sn
      rw [e, h s (Nat.le_refl _) (by omega)]
      exact adm_none hc f (s + 1) sn1 fun i hi => h i (by omega)
/-- nothing to be found -/
theorem search_none {text : Array Nat} {s lim : Nat} (h : ∀ i, s ≤ i → i < lim → bad (text.getD i 0) = false) : (M.runFor 1 (Sre.forSearch C text 0 s lim false)).outcome = some .failed := by
  by_cases hs : s < lim
  · obtain ⟨sn, e⟩ := (O.srch text s lim false).1 hs
    rw [e]
    unfold M.attemptFrom
    have hf : (M0 C text lim s p false sn).hasFirstSet = true := by unfold M.hasFirstSet; dsimp only; rw [O.inf, O.fst]; rfl
    rw [if_neg (by rw [hf]; decide)]
    obtain ⟨sn', e⟩ := adm_none O (m := M0 C text lim s p false sn) rfl (lim + 1 - s) s sn h
    rw [e]
    rfl
  · exact (O.srch text s lim false).2 hs

end
end
-- RF
section
set_option maxHeartbeats 1000000
open PySem.Sre (M)
open PySem.Builtin.Re

theorem slot_pat_search : Slot "re.Pattern" "search" "re.Pattern.search" :=
  .of (owner := "re.Pattern") (n := "search") (by rw [typeLookup_type, builtinLookup_eq_fast]; kernel_rfl) (by decide +kernel) (by decide +kernel) (by decide +kernel)
    (by first | exact .inl (by decide +kernel) | exact .inr (by decide +kernel)) (by rw [isSubtype_type]; kernel_rfl)
theorem type_pat_search : typeOf (.builtin "re.Pattern.search") = pure (.type "method_descriptor") := by show builtinType _ = _; rw [builtinType_eq_fast]; kernel_rfl
theorem entry_pat_search : entryFor table "re.Pattern.search" = some Builtin.«re.Pattern.search» := entryFor_of_tree (by kernel_rfl)
theorem args_pat_search (a b : Value) : argsOk "re.Pattern.search" ⟨[a, b], []⟩ := by unfold argsOk; kernel_rfl
theorem slot_pat_sub : Slot "re.Pattern" "sub" "re.Pattern.sub" :=
  .of (owner := "re.Pattern") (n := "sub") (by rw [typeLookup_type, builtinLookup_eq_fast]; kernel_rfl) (by decide +kernel) (by decide +kernel) (by decide +kernel)
    (by first | exact .inl (by decide +kernel) | exact .inr (by decide +kernel)) (by rw [isSubtype_type]; kernel_rfl)
theorem type_pat_sub : typeOf (.builtin "re.Pattern.sub") = pure (.type "method_descriptor") := by show builtinType _ = _; rw [builtinType_eq_fast]; kernel_rfl
theorem entry_pat_sub : entryFor table "re.Pattern.sub" = some Builtin.«re.Pattern.sub» := entryFor_of_tree (by kernel_rfl)
theorem entry_pat_loop : entryFor table "re.Pattern.sub.loop" = some Builtin.«re.Pattern.sub.loop» := entryFor_of_tree (by kernel_rfl)
theorem args_pat_sub (a b c : Value) : argsOk "re.Pattern.sub" ⟨[a, b, c], []⟩ := by unfold argsOk; kernel_rfl
theorem plainAttrs_pat : PlainAttrs "re.Pattern" :=
  ⟨⟨"object.__getattribute__", by rw [typeLookup_type, builtinLookup_eq_fast]; kernel_rfl, by decide +kernel⟩, by rw [typeLookup_type, builtinLookup_eq_fast]; kernel_rfl⟩

end
-- R3
section
set_option maxHeartbeats 1000000
open PySem.Sre (M)
open PySem.Builtin.Re

/-- a compiled pattern without groups, over texts -/
structure PatAt (h : Heap) (pa : Addr) (C : Array Nat) : Prop where
  ex : ∃ v0 v1 v3 v4 t2 t6 ta ot n vs, h.get? pa = some { cls := .type "re.Pattern", data := .fields #[v0, v1, .int 0 t2, v3, v4, .ref ta, .int 0 t6] } ∧ h.get? ta = some ot ∧ ot.data = .seq vs n ∧ (vs.map reRawOf).map (fun x => x.toNat) = C
theorem PatAt.keeps {h h' : Heap} {pa : Addr} {C : Array Nat} (H : PatAt h pa C) (k : ∀ b o, h.get? b = some o → h'.get? b = some o) : PatAt h' pa C := by
  obtain ⟨v0, v1, v3, v4, t2, t6, ta, ot, n, vs, a, b, c, d⟩ := H.ex
  exact ⟨v0, v1, v3, v4, t2, t6, ta, ot, n, vs, k _ _ a, k _ _ b, c, d⟩
theorem PatAt.typ {s : Shared} {pa : Addr} {C : Array Nat} (H : PatAt s.heap pa C) : s.TypeIs (.ref pa) "re.Pattern" := by
  obtain ⟨v0, v1, v3, v4, t2, t6, ta, ot, n, vs, a, b, c, d⟩ := H.ex
  exact ⟨_, a, rfl⟩
section
variable {prog : Program} {w : World} {A : Around} {s : Shared} {E : Value → Shared → Prop}
theorem named_search (x : Value) : reNamed "re.Pattern.search" "search" ["string", "pos", "endpos"] 1 [x] [] = pure [some x, none, none] := by rfl
theorem pat_target {pa : Addr} {C : Array Nat} {x : Str} {t : Tok} {Q : ReTarget → Shared → Prop} (H : PatAt s.heap pa C) (hl : x.length ≤ 1000000)
    (h : Q { pattern := .ref pa, string := .str x t, code := C, text := x.cps, kind := 0, groups := 0, pos := 0, lim := x.cps.size } s) :
    wpAny (model prog w) A (reTarget "re.Pattern.search" "search" ⟨[.ref pa, .str x t], []⟩) Q E s := by
  obtain ⟨v0, v1, v3, v4, t2, t6, ta, ot, n, vs, a, b, c, d⟩ := H.ex
  unfold reTarget
  refine wpAny_bind (m := reNamed "re.Pattern.search" "search" ["string", "pos", "endpos"] 1 [.str x t] []) (wpAny_of_eq (named_search _) ?_)
  refine wpAny_bind (wpAny_pure ?_)
  refine wpAny_bind (wpAny_pure ?_)
  refine wpAny_bind (wpAny_fieldsOf a rfl ?_)
  refine wpAny_bind ?_
  unfold reTextOf
  refine wpAny_bind (wpAny_of_eq (a := some x) (by rfl) ?_)
  refine wpAny_pure ?_
  refine wpAny_bind (wpAny_pure ?_)
  dsimp only
  refine wpAny_bind (m := reRawItems (.ref ta)) ?_
  unfold reRawItems
  refine wpAny_bind (wpAny_seqItems b c ?_)
  refine wpAny_pure ?_
  refine wpAny_pure ?_
  have e1 : ((((some vs).getD #[]).map reRawOf).map fun x => x.toNat) = C := d
  have e2 : min ((2 ^ 63 - 1 : Int)).toNat x.cps.size = x.cps.size := Nat.min_eq_right (by have : x.cps.size ≤ 1000000 := hl; omega)
  have e3 : min ((0 : Int)).toNat x.cps.size = 0 := by simp
  rw [e1, e2, e3]
  exact h

/-- a search by such a pattern for signs of a set: none -/
theorem pat_search_none {pa : Addr} {C : Array Nat} {bad : Nat → Bool} {p0 w0 : Nat} (O : OneSet C bad p0 w0) {x : Str} {t : Tok} {Q : Value → Shared → Prop} (H : PatAt s.heap pa C) (hl : x.length ≤ 1000000)
    (hb : ∀ i, i < x.cps.size → bad (x.cps.getD i 0) = false) (h : Q .none s) : wpAny (model prog w) A (call (.builtin "re.Pattern.search") [.ref pa, .str x t]) Q E s := by
  refine wpAny_call_entry slot_pat_search H.typ entry_pat_search ?_ (args_pat_search _ _)
  unfold Builtin.«re.Pattern.search»
  refine wpAny_bind (pat_target H hl ?_)
  unfold reAnswer
  refine wpAny_bind (wpAny_reRun (m' := _) (k := 1) rfl (by decide) (.inr ⟨search_none O fun i _ hi => hb i hi, ?_⟩))
  exact wpAny_pure ⟨_, rfl, h⟩

end
end
-- R4
section
set_option maxHeartbeats 1000000
open PySem.Sre (M)
open PySem.Builtin.Re

/-- where the next match from a place lies -/
def FindsAt (C text : Array Nat) (s : Nat) : Option (Nat × Nat) → Prop
  | some (a, b) => s ≤ a ∧ a < b ∧ b ≤ text.size ∧ ∃ k m', k ≤ 2 ^ 60 ∧ M.runFor k (Sre.forSearch C text 0 s text.size false) = m' ∧ m'.outcome = some .matched ∧ m'.start = a ∧ m'.handed = b
  | none => ∃ k m', k ≤ 2 ^ 60 ∧ M.runFor k (Sre.forSearch C text 0 s text.size false) = m' ∧ m'.outcome = some .failed
/-- the text with each match replaced -/
def subst (text : Array Nat) (find : Nat → Option (Nat × Nat)) (repl : List Nat) : Nat → Nat → List Nat
  | 0, _ => []
  | f + 1, s => match find s with
    | some (a, b) => (text.extract s a).toList ++ repl ++ subst text find repl f b
    | none => (text.extract s text.size).toList

def cat (ys : List Str) : List Nat := ys.flatMap fun y => y.cps.toList
theorem cat_append (a b : List Str) : cat (a ++ b) = cat a ++ cat b := by simp [cat]
theorem strs_push {its : Array Value} {ys : List Str} {y : Str} {t : Tok} (h : StrsAre its.toList ys) : StrsAre (its.push (.str y t)).toList (ys ++ [y]) := by
  rw [Array.toList_push]
  generalize its.toList = l at h
  induction h with
  | nil => exact .cons y t .nil
  | cons z u _ ih => exact .cons z u ih

theorem strs_len {l : List Value} {ys : List Str} (h : StrsAre l ys) : l.length = ys.length := by
  induction h with
  | nil => rfl
  | cons y t _ ih => simp [ih]
theorem cat_one (y : Str) : cat [y] = y.cps.toList := by simp [cat]
theorem mk_len (l : List Nat) : (⟨l.toArray⟩ : Str).length = l.length := by simp [Str.length]
theorem ext0 (a : Array Nat) : (⟨a.extract 0 0⟩ : Str).length = 0 := by simp [Str.length]
theorem join_cat (a : Array Nat) (ys : List Str) : Txt.join ⟨a.extract 0 0⟩ ys = ⟨(cat ys).toArray⟩ := by
  rw [eq_of_beq (join_plain_closes _ ys)]
  have e : (⟨a.extract 0 0⟩ : Str) = ⟨#[]⟩ := by simp
  rw [e]
  induction ys with
  | nil => rfl
  | cons y r ih =>
    cases r with
    | nil => simp [Str.join, cat]
    | cons z r =>
      show y ++ ⟨#[]⟩ ++ Str.join ⟨#[]⟩ (z :: r) = _
      rw [ih]
      apply Str.ext'
      simp [Str.cps_append, cat]

section
variable {prog : Program} {w : World} {A : Around} {s : Shared} {E : Value → Shared → Prop}
theorem whole_target {pa : Addr} {C : Array Nat} {x : Str} {t : Tok} {Q : ReTarget → Shared → Prop} (H : PatAt s.heap pa C)
    (h : Q { pattern := .ref pa, string := .str x t, code := C, text := x.cps, kind := 0, groups := 0, pos := 0, lim := x.cps.size } s) :
    wpAny (model prog w) A (reWholeTarget (.ref pa) (.str x t)) Q E s := by
  obtain ⟨v0, v1, v3, v4, t2, t6, ta, ot, n, vs, a, b, c, d⟩ := H.ex
  unfold reWholeTarget
  refine wpAny_bind (wpAny_fieldsOf a rfl ?_)
  refine wpAny_bind ?_
  unfold reTextOf
  refine wpAny_bind (wpAny_of_eq (a := some x) (by rfl) ?_)
  refine wpAny_pure ?_
  refine wpAny_bind (wpAny_pure ?_)
  refine wpAny_bind (m := reRawItems (.ref ta)) ?_
  unfold reRawItems
  refine wpAny_bind (wpAny_seqItems b c ?_)
  refine wpAny_pure ?_
  refine wpAny_pure ?_
  have e1 : ((((some vs).getD #[]).map reRawOf).map fun x => x.toNat) = C := d
  rw [e1]
  exact h

theorem mkStr_at {M : Model} {y : Str} {Q : Value → Shared → Prop} (hy : y.length ≤ sizeLine) (h : ∀ t k, Q (.str y t) { s with toks := k }) : wpAny M A (mkStr y) Q E s := by
  unfold mkStr
  rw [if_neg (by omega)]
  exact fun _ _ _ => h _ _

theorem push_at {M : Model} {D : Addr} {its : Array Value} {c : Nat} {v : Value} {Q : Unit → Shared → Prop} (ho : s.heap.get? D = some (W.listOf its c)) (hz : its.size ≤ 4000000)
    (h : ∀ h', Heap.SameBut D s.heap h' → h'.get? D = some (W.listOf (its.push v) (c + 1)) → Q () { s with heap := h' }) : wpAny M A (updateSeq D (·.push v)) Q E s := by
  refine wpAny_updateSeq ho rfl (h _ (Heap.SameBut.update ..) ?_) (Nat.le_trans hz (by decide)) (by rw [Array.size_push]; have : sizeLine = 16777216 := rfl; omega)
  rw [Heap.get?_update_self _ ho (by rw [mapSeq_push]; rfl), mapSeq_push]

theorem sub_loop {pa D : Addr} {C : Array Nat} {x : Str} {tx tr : Tok} {repl : List Nat} {find : Nat → Option (Nat × Nat)} {h0 : Heap} {Q : Value → Shared → Prop} (HF : ∀ s, s ≤ x.cps.size → FindsAt C x.cps s (find s)) (hl : x.length ≤ 1000000) (hrl : repl.length ≤ 2) :
    ∀ (f p : Nat) (nn : Int) (its : Array Value) (ys : List Str) (c : Nat) (s : Shared), PatAt h0 pa C → (∀ b o, h0.get? b = some o → s.heap.get? b = some o) → h0.get? D = none → s.heap.get? D = some (W.listOf its c) → StrsAre its.toList ys →
      p ≤ x.cps.size → x.cps.size - p < f → ys.length ≤ 2 * p → (ys.map (·.length)).sum ≤ 2 * p →
      (∀ h' t k, (∀ b o, h0.get? b = some o → h'.get? b = some o) → Q (.str ⟨(cat ys ++ subst x.cps find repl f p).toArray⟩ t) { s with heap := h', toks := k }) →
      codeAny (model prog w) A (.builtin "re.Pattern.sub.loop" ⟨[.ref pa, .str x tx, .str ⟨repl.toArray⟩ tr, rawInt 0, rawInt 0, rawInt nn, rawInt p, rawInt p, .bool false, .ref D, .bool false], []⟩) (RQ Q E) s := by
  intro f
  induction f with
  | zero => intro p nn its ys c s _ _ _ _ _ _ h; omega
  | succ f ih =>
    intro p nn its ys c s H keep hD ho hs hp hf hn1 hn2 h
    refine codeAny_builtin entry_pat_loop ?_
    unfold Builtin.«re.Pattern.sub.loop»
    refine wpAny_bind (whole_target (H.keeps keep) ?_)
    refine wpAny_ite (ite_pos (by rfl) ?_)
    refine wpAny_bind (wpAny_of_eq (a := ()) (by rfl) ?_)
    refine wpAny_bind (wpAny_ite (ite_neg (by intro e; cases e) ?_))
    unfold reNextFound
    have HFp := HF p hp
    rw [show ((p : Int)).toNat = p from rfl]
    cases hfind : find p with
    | some ab =>
      obtain ⟨a, b⟩ := ab
      rw [hfind] at HFp
      obtain ⟨h1, h2, h3, k, m', hk, e1, e2, e3, e4⟩ := HFp
      refine wpAny_reRun (m' := m') (k := k) e1 hk (.inl ⟨e2, ?_⟩)
      dsimp only
      rw [e3]
      have h3' := h3
      by_cases hpa : p < a
      · refine wpAny_ite (ite_pos hpa ?_)
        have hsl : (⟨x.cps.extract p a⟩ : Str).length = a - p := by show (x.cps.extract p a).size = a - p; rw [Array.size_extract]; omega
        refine wpAny_bind (m := reSlice x.cps 0 p a) (mkStr_at (y := ⟨x.cps.extract p a⟩) (by rw [hsl]; have : x.cps.size ≤ 1000000 := hl; have : sizeLine = 16777216 := rfl; omega) ?_)
        intro t1 k1
        refine wpAny_bind (push_at ho (by rw [← Array.length_toList, strs_len hs]; have : x.cps.size ≤ 1000000 := hl; omega) ?_)
        intro h5 hs5 ho5
        refine wpAny_ite (ite_pos (by rfl) ?_)
        refine wpAny_bind (wpAny_pure ?_)
        refine wpAny_ite (ite_pos (by rfl) ?_)
        refine wpAny_bind (push_at ho5 (by rw [Array.size_push, ← Array.length_toList, strs_len hs]; have : x.cps.size ≤ 1000000 := hl; omega) ?_)
        intro h3 hs3 ho3
        refine wpAny_pure ⟨Code.quiet_builtin _ (by decide +kernel), ?_⟩
        rw [e4, show (b == a) = false by simp; omega]
        refine ih b (nn + 1) _ _ _ _ H (fun bb oo e => (hs3.2 bb (by rintro rfl; rw [hD] at e; cases e)).trans ((fun bb oo e => (hs5.2 bb (by rintro rfl; rw [hD] at e; cases e)).trans (keep bb oo e)) bb oo e)) hD ho3 (strs_push (strs_push hs)) h3' (by omega) (by simp only [List.length_append, List.length_cons, List.length_nil]; omega) (by simp only [List.map_append, List.sum_append, List.map_cons, List.map_nil, List.sum_cons, List.sum_nil, hsl, mk_len]; omega) ?_
        intro h4 t4 k4 hk4
        have := h h4 t4 k4 hk4
        rw [show cat ys ++ subst x.cps find repl (f + 1) p = cat (ys ++ [⟨x.cps.extract p a⟩] ++ [⟨repl.toArray⟩]) ++ subst x.cps find repl f b from by simp only [cat_append, cat_one, subst, hfind, List.append_assoc]] at this
        exact this

      · refine wpAny_ite (ite_neg hpa ?_)
        have hpa' : p = a := by omega
        refine wpAny_ite (ite_pos (by rfl) ?_)
        refine wpAny_bind (wpAny_pure ?_)
        refine wpAny_ite (ite_pos (by rfl) ?_)
        refine wpAny_bind (push_at ho (by rw [← Array.length_toList, strs_len hs]; have : x.cps.size ≤ 1000000 := hl; omega) ?_)
        intro h3 hs3 ho3
        refine wpAny_pure ⟨Code.quiet_builtin _ (by decide +kernel), ?_⟩
        rw [e4, show (b == a) = false by simp; omega]
        refine ih b (nn + 1) _ _ _ _ H (fun bb oo e => (hs3.2 bb (by rintro rfl; rw [hD] at e; cases e)).trans (keep bb oo e)) hD ho3 (strs_push hs) h3' (by omega) (by simp only [List.length_append, List.length_cons, List.length_nil]; omega) (by simp only [List.map_append, List.sum_append, List.map_cons, List.map_nil, List.sum_cons, List.sum_nil, mk_len]; omega) ?_
        intro h4 t4 k4 hk4
        have := h h4 t4 k4 hk4
        rw [show cat ys ++ subst x.cps find repl (f + 1) p = cat (ys ++ [⟨repl.toArray⟩]) ++ subst x.cps find repl f b from by simp only [cat_append, cat_one, subst, hfind, List.append_assoc]; rw [hpa']; simp] at this
        exact this
    | none =>
      rw [hfind] at HFp
      obtain ⟨k, m', hk, e1, e2⟩ := HFp
      refine wpAny_reRun (m' := m') (k := k) e1 hk (.inr ⟨e2, ?_⟩)
      dsimp only
      by_cases hpl : p < x.cps.size
      · refine wpAny_ite (ite_pos hpl ?_)
        have hsl : (⟨x.cps.extract p x.cps.size⟩ : Str).length = x.cps.size - p := by show (x.cps.extract p x.cps.size).size = _; rw [Array.size_extract]; omega
        refine wpAny_bind (m := reSlice x.cps 0 p x.cps.size) (mkStr_at (y := ⟨x.cps.extract p x.cps.size⟩) (by rw [hsl]; have : x.cps.size ≤ 1000000 := hl; have : sizeLine = 16777216 := rfl; omega) ?_)
        intro t1 k1
        refine wpAny_bind (push_at ho (by rw [← Array.length_toList, strs_len hs]; have : x.cps.size ≤ 1000000 := hl; omega) ?_)
        intro h5 hs5 ho5
        refine wpAny_bind (m := reSlice x.cps 0 0 0) (mkStr_at (y := ⟨x.cps.extract 0 0⟩) (by show (x.cps.extract 0 0).size ≤ sizeLine; rw [Array.size_extract]; have : sizeLine = 16777216 := rfl; omega) ?_)
        intro t7 k7
        refine wpAny_bind (wpAny_seqItems ho5 rfl ?_)

        refine wpAny_ite (ite_neg ?_ ?_)
        · simp
        refine wpAny_bind (join_list (ys := (ys ++ [⟨x.cps.extract p x.cps.size⟩])) ⟨_, ho5, rfl, _, rfl⟩ (strs_push hs) (by have : x.cps.size ≤ 1000000 := hl; simp only [List.map_append, List.sum_append, List.map_cons, List.map_nil, List.sum_cons, List.sum_nil, hsl, ext0, List.length_append, List.length_cons, List.length_nil]; omega) ?_)
        intro t8 k8
        refine wpAny_ite (ite_neg (by intro e; cases e) ?_)
        refine wpAny_pure ?_
        have := h _ t8 k8 (fun bb oo e => (hs5.2 bb (by rintro rfl; rw [hD] at e; cases e)).trans (keep bb oo e))
        rw [show (⟨(cat ys ++ subst x.cps find repl (f + 1) p).toArray⟩ : Str) = Txt.join ⟨x.cps.extract 0 0⟩ (ys ++ [⟨x.cps.extract p x.cps.size⟩]) from by rw [join_cat, cat_append, cat_one]; simp only [subst, hfind]] at this
        exact this

      · refine wpAny_ite (ite_neg hpl ?_)
        have hpl' : p = x.cps.size := by omega
        have hsub : subst x.cps find repl (f + 1) p = [] := by simp only [subst, hfind]; rw [hpl']; simp
        refine wpAny_bind (m := reSlice x.cps 0 0 0) (mkStr_at (y := ⟨x.cps.extract 0 0⟩) (by show (x.cps.extract 0 0).size ≤ sizeLine; rw [Array.size_extract]; have : sizeLine = 16777216 := rfl; omega) ?_)
        intro t7 k7
        refine wpAny_bind (wpAny_seqItems ho rfl ?_)

        cases ys with
        | nil =>
          have hits : its = #[] := by cases its; cases hs; rfl
          subst hits
          refine wpAny_ite (ite_pos (by rfl) ?_)
          refine wpAny_bind (wpAny_pure ?_)
          refine wpAny_ite (ite_neg (by intro e; cases e) ?_)
          refine wpAny_pure ?_
          have := h _ t7 k7 keep
          rw [show (⟨(cat ([] : List Str) ++ subst x.cps find repl (f + 1) p).toArray⟩ : Str) = ⟨x.cps.extract 0 0⟩ from by rw [hsub]; simp [cat]] at this
          exact this
        | cons y0 ys0 =>
          refine wpAny_ite (ite_neg ?_ ?_)
          · intro e; have := strs_len hs; simp at e; subst e; simp at this
          refine wpAny_bind (join_list (ys := (y0 :: ys0)) ⟨_, ho, rfl, _, rfl⟩ hs (by have : x.cps.size ≤ 1000000 := hl; simp only [ext0]; omega) ?_)
          intro t8 k8
          refine wpAny_ite (ite_neg (by intro e; cases e) ?_)
          refine wpAny_pure ?_
          have := h _ t8 k8 keep
          rw [show (⟨(cat (y0 :: ys0) ++ subst x.cps find repl (f + 1) p).toArray⟩ : Str) = Txt.join ⟨x.cps.extract 0 0⟩ (y0 :: ys0) from by rw [join_cat, hsub, List.append_nil]] at this
          exact this
end
end
-- R5
section
set_option maxHeartbeats 1000000
open PySem.Sre (M)
open PySem.Builtin.Re
theorem str_nocall : typeLookup (.type "str") "__call__" = pure none := by rw [typeLookup_type, builtinLookup_eq_fast]; kernel_rfl
theorem named_sub (x y : Value) : reNamed "re.Pattern.sub" "sub" ["repl", "string", "count"] 2 [x, y] [] = pure [some x, some y, none] := by rfl
section
variable {prog : Program} {w : World} {A : Around} {s : Shared} {E : Value → Shared → Prop}
theorem pat_sub {pa : Addr} {C : Array Nat} {x : Str} {tx tr : Tok} {repl : List Nat} {find : Nat → Option (Nat × Nat)} {Q : Value → Shared → Prop} (H : PatAt s.heap pa C) (HF : ∀ s, s ≤ x.cps.size → FindsAt C x.cps s (find s))
    (hl : x.length ≤ 1000000) (hrl : repl.length ≤ 2) (hb : (!(repl.toArray.contains 92)) = true)
    (h : ∀ h' t k, (∀ b o, s.heap.get? b = some o → h'.get? b = some o) → Q (.str ⟨(subst x.cps find repl (x.cps.size + 1) 0).toArray⟩ t) { s with heap := h', toks := k }) :
    wpAny (model prog w) A (call (.builtin "re.Pattern.sub") [.ref pa, .str ⟨repl.toArray⟩ tr, .str x tx]) Q E s := by
  refine wpAny_call (codeAny_call_builtin slot_pat_sub.plain entry_pat_sub (slot_pat_sub.check _ _ _ _ _ _ _ _ H.typ (args_pat_sub _ _ _) ?_))
  unfold Builtin.«re.Pattern.sub» reSubstitute
  refine wpAny_bind (m := reNamed "re.Pattern.sub" "sub" ["repl", "string", "count"] 2 [.str ⟨repl.toArray⟩ tr, .str x tx] []) (wpAny_of_eq (named_sub _ _) ?_)
  refine wpAny_bind (wpAny_pure ?_)
  refine wpAny_bind (wpAny_specialOf (typeIs_str s _ _) str_nocall ?_)
  refine wpAny_ite (ite_neg (by intro e; cases e) ?_)
  refine wpAny_bind ?_
  refine wpAny_bind (wpAny_of_eq (a := some (Str.mk repl.toArray)) (by rfl) ?_)
  refine wpAny_pure ?_
  refine wpAny_bind (wpAny_pure ?_)
  refine wpAny_ite (ite_neg (by intro e; cases e) ?_)
  refine wpAny_ite (ite_pos hb ?_)
  refine wpAny_bind (wpAny_pure ?_)
  refine wpAny_bind (wpAny_holding (whole_target H ?_))
  refine wpAny_ite (ite_neg (by intro e; cases e) ?_)
  refine wpAny_bind ?_
  unfold newList
  refine wpAny_newObj_type ?_ (by show (0 : Nat) ≤ sizeLine; decide)
  refine wpAny_pure ⟨Code.quiet_builtin _ (by decide +kernel), ?_⟩
  refine sub_loop (h0 := s.heap) HF hl hrl (x.cps.size + 1) 0 0 #[] [] 0 _ H (fun b o e => Heap.get?_push_of_some _ e) (Heap.get?_none_of_le (Nat.le_refl _)) (Heap.get?_push_size _ rfl) .nil (Nat.zero_le _) (by omega) (by simp) (by simp) ?_
  intro h' t k hk
  exact h h' t k hk
end
end
-- R6
section
set_option maxHeartbeats 1000000
open PySem.Sre (M)

abbrev cDot : Array Nat := #[14, 4, 0, 1, 1, 6, 1, 16, 46, 1]
/-- does a row begin here -/
def bol (text : Array Nat) (q : Nat) : Bool := q == 0 || text.getD (q - 1) 0 == 10
abbrev dAt (text : Array Nat) (lim q : Nat) (f : Bool) (sn : Sre.Seen) : M := { code := cDot, text := text, lim := lim, start := q, lastStart := lim, pc := 5, pos := q, handed := q, outermost := f, marks := #[], seen := sn, frames := [{ wait := .nextStart, pc := 5, pos := q, outermost := f }], weight := 1 }

theorem dot_starts (text : Array Nat) (s lim : Nat) : (s < lim → ∃ sn, Sre.forSearch cDot text 0 s lim false = dAt text lim s true sn) ∧ (¬ s < lim → (M.runFor 1 (Sre.forSearch cDot text 0 s lim false)).outcome = some .failed) := by
  have e : Sre.forSearch cDot text 0 s lim false = (if (decide (s > lim) || decide (lim - s < 1)) = true then _ else dAt text lim s true _) := rfl
  refine ⟨fun h => ?_, fun h => ?_⟩
  · rw [if_neg (by simp; omega)] at e
    exact ⟨_, e⟩
  · rw [if_pos (by simp; omega)] at e
    rw [e]; rfl

section
variable {text : Array Nat} {lim q : Nat} {f : Bool} {sn : Sre.Seen}
theorem dot_at (text : Array Nat) (lim q : Nat) (f : Bool) (sn : Sre.Seen) : ∃ sn', M.step (dAt text lim q f sn) = (if bol text q = true then { dAt text lim q f sn with seen := sn', pc := 7 } else { dAt text lim q f sn with seen := sn', answer := some false }) := ⟨_, rfl⟩
theorem dot_lit (text : Array Nat) (lim q : Nat) (f : Bool) (sn : Sre.Seen) : ∃ sn', M.step { dAt text lim q f sn with pc := 7 } = (if q ≥ lim then { dAt text lim q f sn with seen := sn', pc := 7, answer := some false } else
    if (text.getD q 0 == 46) = true then { dAt text lim q f sn with seen := sn', pc := 9, pos := q + 1 } else { dAt text lim q f sn with seen := sn', pc := 7, answer := some false }) := by
  have e : ∃ sn', M.step { dAt text lim q f sn with pc := 7 } = (if q ≥ lim then { dAt text lim q f sn with seen := sn', pc := 7, answer := some false } else
    (match (Except.ok (text.getD q 0 == 46, sn') : Except String (Bool × Sre.Seen)) with
      | .error why => ({ dAt text lim q f sn with seen := sn', pc := 7 } : M).stick why
      | .ok (false, sn1) => { dAt text lim q f sn with seen := sn1, pc := 7, answer := some false }
      | .ok (true, sn1) => { dAt text lim q f sn with seen := sn1, pc := 9, pos := q + 1 })) := ⟨_, rfl⟩
  obtain ⟨sn', e⟩ := e
  refine ⟨sn', e.trans ?_⟩
  cases text.getD q 0 == 46 <;> rfl

/-- no match here: on to the next place -/
theorem dot_on (hq : q < lim) (hn : (bol text q && text.getD q 0 == 46) = false) : ∃ k sn', k ≤ 3 ∧ M.runFor k (dAt text lim q f sn) = dAt text lim (q + 1) false sn' := by
  obtain ⟨s1, e1⟩ := dot_at text lim q f sn
  have back : ∀ sn2 pc, M.step { dAt text lim q f sn2 with pc := pc, answer := some false } = dAt text lim (q + 1) false sn2 := by
    intro sn2 pc
    have e : M.step { dAt text lim q f sn2 with pc := pc, answer := some false } = (if q < lim then dAt text lim (q + 1) false sn2 else _) := rfl
    rw [e, if_pos hq]
  cases hb : bol text q with
  | false =>
    rw [hb, if_neg Bool.false_ne_true] at e1
    refine ⟨2, s1, by omega, ?_⟩
    show M.runFor 1 (M.step (dAt text lim q f sn)) = _
    rw [e1]
    exact back s1 5
  | true =>
    rw [hb, if_pos rfl] at e1
    rw [hb, Bool.true_and] at hn
    obtain ⟨s2, e2⟩ := dot_lit text lim q f s1
    rw [if_neg (by omega), if_neg (by rw [hn]; decide)] at e2
    refine ⟨3, s2, by omega, ?_⟩
    show M.runFor 2 (M.step (dAt text lim q f sn)) = _
    rw [e1]
    show M.runFor 1 (M.step { dAt text lim q f s1 with pc := 7 }) = _
    rw [e2]
    exact back s2 7
/-- a match here -/
theorem dot_hit (hq : q < lim) (hn : (bol text q && text.getD q 0 == 46) = true) : ∃ m', M.runFor 5 (dAt text lim q f sn) = m' ∧ m'.outcome = some .matched ∧ m'.start = q ∧ m'.handed = q + 1 := by
  obtain ⟨hb, hc⟩ := Bool.and_eq_true_iff.mp hn
  obtain ⟨s1, e1⟩ := dot_at text lim q f sn
  rw [if_pos hb] at e1
  obtain ⟨s2, e2⟩ := dot_lit text lim q f s1
  rw [if_neg (by omega), if_pos hc] at e2
  refine ⟨_, rfl, ?_⟩
  rw [show M.runFor 5 (dAt text lim q f sn) = M.runFor 4 (M.step (dAt text lim q f sn)) from rfl, e1]
  rw [show M.runFor 4 { dAt text lim q f s1 with pc := 7 } = M.runFor 3 (M.step { dAt text lim q f s1 with pc := 7 }) from rfl, e2]
  cases f <;> exact ⟨rfl, rfl, rfl⟩
/-- the text's end -/
theorem dot_end : ∃ m', M.runFor 4 (dAt text lim lim f sn) = m' ∧ m'.outcome = some .failed := by
  obtain ⟨s1, e1⟩ := dot_at text lim lim f sn
  have back : ∀ sn2 pc, M.step { dAt text lim lim f sn2 with pc := pc, answer := some false } = { dAt text lim lim f sn2 with frames := [], weight := 0, answer := some false } := by
    intro sn2 pc
    have e : M.step { dAt text lim lim f sn2 with pc := pc, answer := some false } = (if lim < lim then _ else { dAt text lim lim f sn2 with frames := [], weight := 0, answer := some false }) := rfl
    rw [e, if_neg (by omega)]
  refine ⟨_, rfl, ?_⟩
  rw [show M.runFor 4 (dAt text lim lim f sn) = M.runFor 3 (M.step (dAt text lim lim f sn)) from rfl, e1]
  cases hb : bol text lim with
  | false =>
    rw [if_neg Bool.false_ne_true]
    rw [show M.runFor 3 { dAt text lim lim f s1 with answer := some false } = M.runFor 2 (M.step { dAt text lim lim f s1 with pc := 5, answer := some false }) from rfl, back s1 5]
    rfl
  | true =>
    rw [if_pos rfl]
    obtain ⟨s2, e2⟩ := dot_lit text lim lim f s1
    rw [if_pos (by omega)] at e2
    rw [show M.runFor 3 { dAt text lim lim f s1 with pc := 7 } = M.runFor 2 (M.step { dAt text lim lim f s1 with pc := 7 }) from rfl, e2]
    rw [show M.runFor 2 { dAt text lim lim f s2 with pc := 7, answer := some false } = M.runFor 1 (M.step { dAt text lim lim f s2 with pc := 7, answer := some false }) from rfl, back s2 7]
    rfl
end
end
-- R7
section
set_option maxHeartbeats 1000000
open PySem.Sre (M)

def dfind (text : Array Nat) : Nat → Nat → Option (Nat × Nat)
  | 0, _ => none
  | f + 1, q => if (bol text q && text.getD q 0 == 46) = true then some (q, q + 1) else dfind text f (q + 1)
def dotFind (text : Array Nat) (s : Nat) : Option (Nat × Nat) := dfind text (text.size - s) s
/-- the dot at the head of each row doubled; b: a row begins -/
def dbl : Bool → List Nat → List Nat
  | _, [] => []
  | b, c :: r => (if (b && c == 46) = true then [46, 46] else [c]) ++ dbl (c == 10) r

theorem dot_runs (text : Array Nat) : ∀ (f q : Nat) (b : Bool) (sn : Sre.Seen), q + f = text.size → match dfind text f q with
    | some (a, e) => q ≤ a ∧ a < e ∧ e ≤ text.size ∧ ∃ k m', k ≤ 3 * f + 5 ∧ M.runFor k (dAt text text.size q b sn) = m' ∧ m'.outcome = some .matched ∧ m'.start = a ∧ m'.handed = e
    | none => ∃ k m', k ≤ 3 * f + 5 ∧ M.runFor k (dAt text text.size q b sn) = m' ∧ m'.outcome = some .failed
  | 0, q, b, sn, h => by
    have e : q = text.size := by omega
    subst e
    obtain ⟨m', e1, e2⟩ := dot_end (text := text) (lim := text.size) (f := b) (sn := sn)
    exact ⟨4, m', by omega, e1, e2⟩
  | f + 1, q, b, sn, h => by
    unfold dfind
    by_cases hm : (bol text q && text.getD q 0 == 46) = true
    · rw [if_pos hm]
      obtain ⟨m', e1, e2, e3, e4⟩ := dot_hit (f := b) (sn := sn) (show q < text.size by omega) hm
      exact ⟨Nat.le_refl _, by omega, by omega, 5, m', by omega, e1, e2, e3, e4⟩
    · rw [if_neg hm]
      obtain ⟨k, s1, hk, e1⟩ := dot_on (f := b) (sn := sn) (show q < text.size by omega) (Bool.not_eq_true _ |>.mp hm)
      have ih := dot_runs text f (q + 1) false s1 (by omega)
      cases hd : dfind text f (q + 1) with
      | some ab =>
        obtain ⟨a, e⟩ := ab
        rw [hd] at ih
        obtain ⟨i1, i2, i3, k', m', hk', j1, j2, j3, j4⟩ := ih
        exact ⟨by omega, i2, i3, k + k', m', by omega, by rw [run_add, e1, j1], j2, j3, j4⟩
      | none =>
        rw [hd] at ih
        obtain ⟨k', m', hk', j1, j2⟩ := ih
        exact ⟨k + k', m', by omega, by rw [run_add, e1, j1], j2⟩

theorem dot_finds (text : Array Nat) (hl : text.size ≤ 1000000) (s : Nat) (hs : s ≤ text.size) : FindsAt cDot text s (dotFind text s) := by
  unfold dotFind
  by_cases h : s < text.size
  · obtain ⟨sn, e⟩ := (dot_starts text s text.size).1 h
    have r := dot_runs text (text.size - s) s true sn (by omega)
    cases hd : dfind text (text.size - s) s with
    | some ab =>
      obtain ⟨a, b⟩ := ab
      rw [hd] at r
      obtain ⟨i1, i2, i3, k', m', hk', j1, j2, j3, j4⟩ := r
      exact ⟨i1, i2, i3, k', m', by omega, by rw [e, j1], j2, j3, j4⟩
    | none =>
      rw [hd] at r
      obtain ⟨k', m', hk', j1, j2⟩ := r
      exact ⟨k', m', by omega, by rw [e, j1], j2⟩
  · rw [show text.size - s = 0 by omega]
    exact ⟨1, _, by decide, rfl, (dot_starts text s text.size).2 h⟩

theorem bol_next (text : Array Nat) (q : Nat) : bol text (q + 1) = (text.getD q 0 == 10) := by simp [bol]
theorem drop_cons {text : Array Nat} {q : Nat} (h : q < text.size) : text.toList.drop q = text.getD q 0 :: text.toList.drop (q + 1) := by
  rw [List.drop_eq_getElem_cons (by simpa using h)]
  congr 1
  rw [Array.getD_eq_getD_getElem?, Array.getElem?_eq_getElem h]
  simp
theorem ext_nil (text : Array Nat) (q : Nat) : (text.extract q q).toList = [] := by simp
theorem ext_cons {text : Array Nat} {q a : Nat} (h : q < a) (ha : a ≤ text.size) : (text.extract q a).toList = text.getD q 0 :: (text.extract (q + 1) a).toList := by
  rw [Array.toList_extract, Array.toList_extract]
  simp only [List.extract_eq_take_drop]
  rw [drop_cons (show q < text.size by omega)]
  rw [show a - q = (a - (q + 1)) + 1 by omega, List.take_succ_cons]

theorem dbl_find (text : Array Nat) : ∀ (f q : Nat), q + f = text.size → match dfind text f q with
    | some (a, e) => e = a + 1 ∧ q ≤ a ∧ a < text.size ∧ dbl (bol text q) (text.toList.drop q) = (text.extract q a).toList ++ [46, 46] ++ dbl (bol text e) (text.toList.drop e)
    | none => dbl (bol text q) (text.toList.drop q) = (text.extract q text.size).toList
  | 0, q, h => by
    have e : q = text.size := by omega
    subst e
    show dbl _ (text.toList.drop text.size) = (text.extract text.size text.size).toList
    rw [show text.toList.drop text.size = [] by simp]
    simp [dbl]
  | f + 1, q, h => by
    have hq : q < text.size := by omega
    unfold dfind
    by_cases hm : (bol text q && text.getD q 0 == 46) = true
    · rw [if_pos hm]
      refine ⟨rfl, Nat.le_refl _, hq, ?_⟩
      rw [drop_cons hq, dbl, if_pos hm, ext_nil, bol_next]
      rfl
    · rw [if_neg hm]
      have ih := dbl_find text f (q + 1) (by omega)
      cases hd : dfind text f (q + 1) with
      | some ab =>
        obtain ⟨a, e⟩ := ab
        rw [hd] at ih
        obtain ⟨i0, i1, i2, i3⟩ := ih
        refine ⟨i0, by omega, i2, ?_⟩
        rw [drop_cons hq, dbl, if_neg hm, ← bol_next, i3, ext_cons (show q < a by omega) (by omega)]
        simp
      | none =>
        rw [hd] at ih
        show dbl _ _ = _
        rw [drop_cons hq, dbl, if_neg hm, ← bol_next, ih, ext_cons hq (Nat.le_refl _)]
        rfl

theorem dot_subst (text : Array Nat) : ∀ (f p : Nat), p ≤ text.size → text.size - p < f → subst text (dotFind text) [46, 46] f p = dbl (bol text p) (text.toList.drop p)
  | 0, p, _, h => by omega
  | f + 1, p, hp, h => by
    have r := dbl_find text (text.size - p) p (by omega)
    unfold subst
    rw [show dotFind text p = dfind text (text.size - p) p from rfl]
    cases hd : dfind text (text.size - p) p with
    | some ab =>
      obtain ⟨a, e⟩ := ab
      rw [hd] at r
      obtain ⟨i0, i1, i2, i3⟩ := r
      dsimp only
      rw [dot_subst text f e (by omega) (by omega), i3]
    | none =>
      rw [hd] at r
      exact r.symm
/-- the whole text -/
theorem dot_sub_is (text : Array Nat) : subst text (dotFind text) [46, 46] (text.size + 1) 0 = dbl true text.toList := by
  rw [dot_subst text (text.size + 1) 0 (Nat.zero_le _) (by omega)]
  rfl
end
-- R8
section
set_option maxHeartbeats 1000000
open PySem.Sre (M)

abbrev cNl : Array Nat := #[14, 9, 4, 1, 2, 16, 10, 16, 13, 0, 7, 7, 16, 13, 16, 10, 15, 18, 5, 16, 10, 15, 13, 11, 16, 13, 5, 5, 0, 16, 10, 1, 15, 2, 0, 1]
def isNl (c : Nat) : Bool := c == 10 || c == 13
theorem nl_set (c : Nat) (sn : Sre.Seen) : ∃ sn', Sre.inSet cNl c cNl.size 5 true sn = .ok (isNl c, sn') := by
  have e : Sre.inSet cNl c cNl.size 5 true sn = (if (c == 10) = true then _ else if (c == 13) = true then _ else _) := rfl
  by_cases c1 : c = 10
  · rw [if_pos (by simp [c1])] at e
    exact ex_ok e (by simp [isNl, c1])
  · rw [if_neg (by simp [c1])] at e
    by_cases c2 : c = 13
    · rw [if_pos (by simp [c2])] at e
      exact ex_ok e (by simp [isNl, c2])
    · rw [if_neg (by simp [c2])] at e
      exact ex_ok (e.trans rfl) (by simp [isNl, c1, c2])
theorem nl_starts : Starts cNl 10 := fun text s lim must => by
  have e : Sre.forSearch cNl text 0 s lim must = (if (decide (s > lim) || decide (lim - s < 1)) = true then _ else (M0 cNl text lim s 10 must _).attemptFrom s true) := rfl
  refine ⟨fun h => ?_, fun h => ?_⟩
  · rw [if_neg (by simp; omega)] at e
    exact ⟨_, e⟩
  · rw [if_pos (by simp; omega)] at e
    rw [e]; rfl
theorem nl_adm_none {m : M} (hc : m.code = cNl) : ∀ (f s : Nat) (sn : Sre.Seen), (∀ i, s ≤ i → i < m.lim → isNl (m.text.getD i 0) = false) → ∃ sn', M.admitted m f s sn = .ok (none, sn')
  | 0, s, sn, _ => ⟨sn, rfl⟩
  | f + 1, s, sn, h => by
    unfold M.admitted
    by_cases hs : s ≥ m.lim
    · rw [if_pos hs]; exact ⟨sn, rfl⟩
    · rw [if_neg hs, hc]
      obtain ⟨sn1, e⟩ := nl_set (m.text.getD s 0) sn
      rw [e, h s (Nat.le_refl _) (by omega)]
      exact nl_adm_none hc f (s + 1) sn1 fun i hi => h i (by omega)
theorem nl_none {text : Array Nat} {s lim : Nat} (h : ∀ i, s ≤ i → i < lim → isNl (text.getD i 0) = false) : (M.runFor 1 (Sre.forSearch cNl text 0 s lim false)).outcome = some .failed := by
  by_cases hs : s < lim
  · obtain ⟨sn, e⟩ := (nl_starts text s lim false).1 hs
    rw [e]
    unfold M.attemptFrom
    rw [if_neg (by rw [show (M0 cNl text lim s 10 false sn).hasFirstSet = true from rfl]; decide)]
    obtain ⟨sn', e⟩ := nl_adm_none (m := M0 cNl text lim s 10 false sn) rfl (lim + 1 - s) s sn h
    rw [e]
    rfl
  · exact (nl_starts text s lim false).2 hs

end
-- Q1
section
theorem fillQ1 : hd.heap_1 = hd.heap_1 ∧ PySem.Challenge.rw_pe0228_02 = PySem.Challenge.rw_pe0228_02 := by
  k_fill
  exact ⟨rfl, rfl⟩
/-- a text without line ends -/
def flat (l : List Nat) : Prop := ∀ c ∈ l, isNl c = false
theorem nl_finds {text : Array Nat} (h : flat text.toList) (s : Nat) : FindsAt cNl text s none := by
  refine ⟨1, _, by decide, rfl, nl_none fun i _ hi => h _ ?_⟩
  rw [Array.getD_eq_getD_getElem?, Array.getElem?_eq_getElem hi]
  simp
theorem subst_none (text : Array Nat) (r : List Nat) : subst text (fun _ => none) r (text.size + 1) 0 = text.toList := by
  simp [subst]
section
variable {pr : Program} {loose : List Str} {mean : ExcName → Option Value} {mg mb : Str → Option Value} {prog : Program} {w : World} {n : Nat} {A : Around} {env : Env} {L : Addr} {h₀ : Heap}
  {m : Str → Option Value} {news : List (Addr × Obj)} {s : Shared} {E : Value → Shared → Prop}
theorem Lg.kept {h h' : Heap} (G : Lg h₀ L h m news) (hk : ∀ b o, h.get? b = some o → h'.get? b = some o) : Lg h₀ L h' m news :=
  ⟨G.F.keptAll hk, fun p hp => ⟨hk _ _ (G.N p hp).1, (G.N p hp).2⟩, G.nd⟩
theorem pat85 {h : Heap} (X : (hd.heap_1 w.params).In h) : PatAt h 85 cDot := ⟨_, _, _, _, _, _, _, _, _, _, X _ _ (by k_is), X _ _ (by k_is), rfl, by decide +kernel⟩
theorem pat90 {h : Heap} (X : (hd.heap_1 w.params).In h) : PatAt h 90 cNl := ⟨_, _, _, _, _, _, _, _, _, _, X _ _ (by k_is), X _ _ (by k_is), rfl, by decide +kernel⟩
theorem pat_meth {pa : Addr} {C : Array Nat} {pl : Sem Bool} {name : Str} {id : String} {Q : Value × List Value → Shared → Prop} (H : PatAt s.heap pa C) (slot : Slot "re.Pattern" name id) (hty : typeOf (.builtin id) = pure (.type "method_descriptor"))
    (h : Q (.builtin id, [.ref pa]) s) : wpAny (model prog w) A (getMethod (.ref pa) name pl) Q E s := by
  obtain ⟨v0, v1, v3, v4, t2, t6, ta, ot, k, vs, a, b, c, d⟩ := H.ex
  exact getMethod_builtin ⟨_, a, rfl⟩ plainAttrs_pat slot hty (fun z e => by cases e; exact ⟨_, a, rfl⟩) h

set_option maxHeartbeats 1000000
/-- a row sent once: the dots at its rows' heads doubled -/
theorem quotedata_flat {Q : Value → Shared → Prop} {x : List Nat} {t : Tok}
    (C : Cx (hd.heap_1 w.params) pr loose mean mg mb (n + 1) A env L h₀) (G : Lg h₀ L s.heap m news) (hx : flat x) (hl : x.length ≤ 1000000)
    (h : ∀ h' k u, Lg h₀ L h' m news → Q (.str ⟨(dbl true x).toArray⟩ u) { s with heap := h', toks := k }) :
    wpAny (model prog w) A (call (.ref 97) [.str ⟨x.toArray⟩ t]) Q E s := by
  refine enter (binds := [(Str.ofString "data", .str ⟨x.toArray⟩ t)]) C G (by k_is) (by k_is) (BindsTo.of_eq rfl) (locs rfl) rfl rfl rfl (by decide) ?_
  intro g L' h₁ C st' G
  have hl1 : (⟨x.toArray⟩ : Str).length ≤ 1000000 := by simpa [Str.length] using hl
  refine wpAny_execs_cons (wpAny_Return_some ?_)
  refine MethodCall_ ?_
  refine nameX_K G.F C.X (topRead_of C.T) (by k_is) ?_
  refine pat_meth (pat85 (C.X.keeps G.F.keep)) slot_pat_sub type_pat_sub ?_
  refine callWith_method1 ?_
  refine spliced_more ?_
  refine Calls.Constant_str ?_
  refine spliced_more ?_
  refine MethodCall_ ?_
  refine nameX_K G.F C.X (topRead_of C.T) (by k_is) ?_
  refine pat_meth (pat90 (C.X.keeps G.F.keep)) slot_pat_sub type_pat_sub ?_
  refine callWith_method1 ?_
  refine spliced_more ?_
  refine nameX_K G.F C.X (topRead_of C.T) (by k_is) ?_
  refine spliced_more ?_
  refine nameX_L G.F rfl ?_
  refine spliced_none ?_
  refine pat_sub (repl := [13, 10]) (find := fun _ => none) (pat90 (C.X.keeps G.F.keep)) (fun s _ => nl_finds (by simpa using hx) s) hl1 (by decide) (by decide +kernel) ?_
  intro h2 t2 k2 hk2
  have G := G.kept hk2
  rw [subst_none]
  refine spliced_none ?_
  refine pat_sub (repl := [46, 46]) (find := dotFind x.toArray) (pat85 (C.X.keeps G.F.keep)) (fun s hs => dot_finds _ (by simpa using hl) s hs) hl1 (by decide) (by decide +kernel) ?_
  intro h3 t3 k3 hk3
  have G := G.kept hk3
  have e := dot_sub_is x.toArray
  rw [show (subst x.toArray (dotFind x.toArray) [46, 46] (x.toArray.size + 1) 0) = dbl true x from e]
  exact ⟨_, _, G, fun G2 => h _ _ _ G2⟩
end
end
-- H1
section
theorem fillH1 : hd.heap_1 = hd.heap_1 ∧ PySem.Challenge.rw_pe0228_02 = PySem.Challenge.rw_pe0228_02 := by
  k_fill
  exact ⟨rfl, rfl⟩
section
variable {pr : Program} {loose : List Str} {mean : ExcName → Option Value} {mg mb : Str → Option Value} {prog : Program} {w : World} {n : Nat} {A : Around} {env : Env} {L : Addr} {h₀ : Heap}
  {m : Str → Option Value} {news : List (Addr × Obj)} {s : Shared} {E : Value → Shared → Prop}
theorem pat102 {h : Heap} (X : (hd.heap_1 w.params).In h) : PatAt h 102 cName := ⟨_, _, _, _, _, _, _, _, _, _, X _ _ (by k_is), X _ _ (by k_is), rfl, by decide +kernel⟩
theorem pat107 {h : Heap} (X : (hd.heap_1 w.params).In h) : PatAt h 107 cVal := ⟨_, _, _, _, _, _, _, _, _, _, X _ _ (by k_is), X _ _ (by k_is), rfl, by decide +kernel⟩
/-- a text without signs of a set -/
def free (bad : Nat → Bool) (l : List Nat) : Prop := ∀ c ∈ l, bad c = false
theorem free_at {bad : Nat → Bool} {l : List Nat} (h : free bad l) : ∀ i, i < l.toArray.size → bad (l.toArray.getD i 0) = false := by
  intro i hi
  refine h _ ?_
  rw [Array.getD_eq_getD_getElem?, Array.getElem?_eq_getElem hi]
  simp
set_option maxHeartbeats 1000000
theorem convert_name {Q : Value → Shared → Prop} {x : Value} {l : List Nat} {t : Tok}
    (C : Cx (hd.heap_1 w.params) pr loose mean mg mb (n + 1) A env L h₀) (G : Lg h₀ L s.heap m news) (hf : free badName l) (hl : l.length ≤ 1000000)
    (h : ∀ h' k, Lg h₀ L h' m news → Q (.str ⟨l.toArray⟩ t) { s with heap := h', toks := k }) :
    wpAny (model prog w) A (call (.ref 129) [x, .str ⟨l.toArray⟩ t] [(Str.ofString "name", .bool true)]) Q E s := by
  refine enter (binds := [(Str.ofString "self", x), (Str.ofString "value", .str ⟨l.toArray⟩ t), (Str.ofString "name", .bool true)]) C G (by k_is) (by k_is) (BindsTo.of_eq rfl) (locs rfl) rfl rfl rfl (by decide) ?_
  intro g L' h₁ C st' G
  have hl1 : (⟨l.toArray⟩ : Str).length ≤ 1000000 := by simpa [Str.length] using hl
  refine wpAny_execs_cons (wpAny_If ?_)
  refine wpAny_isTrue_Compare1 ?_
  refine Call_ ?_
  refine nameX_B G.F C.X (topRead_of C.T) (by k_is) (by boot_fast) (by decide) ?_
  refine Pv.callWith_type1 ?_
  refine spliced_more ?_
  refine nameX_L G.F rfl ?_
  refine spliced_none ?_
  refine call_type_of (Tx := "str") rfl (by decide +kernel) ?_
  refine nameX_B G.F C.X (topRead_of C.T) (by k_is) (by boot_fast) (by decide) ?_
  refine wpAny_is_self (by rfl) ?_
  refine wpAny_truthy_bool ?_
  refine ite_pos rfl ?_
  try dsimp only
  refine wpAny_execs_cons (wpAny_Assign_Name ?_)
  refine IfExp_ ?_
  refine isTrue_plain ?_
  refine nameX_L G.F rfl ?_
  refine wpAny_truthy_bool ?_
  refine ite_pos rfl ?_
  refine nameX_K G.F C.X (topRead_of C.T) (by k_is) ?_
  refine r_store G ?_
  intro h2 G
  try dsimp only
  refine wpAny_execs_cons (wpAny_If ?_)
  refine isTrue_plain ?_
  refine MethodCall_ ?_
  refine nameX_L G.F rfl ?_
  refine pat_meth (pat102 (C.X.keeps G.F.keep)) slot_pat_search type_pat_search ?_
  refine callWith_method1 ?_
  refine spliced_more ?_
  refine nameX_L G.F rfl ?_
  refine spliced_none ?_
  refine pat_search_none oneName (pat102 (C.X.keeps G.F.keep)) hl1 (free_at hf) ?_
  refine truthy_none ?_
  refine ite_neg Bool.false_ne_true ?_
  refine wpAny_execs_nil ?_
  try dsimp only
  refine wpAny_execs_cons (wpAny_Return_some ?_)
  refine nameX_L G.F rfl ?_
  exact ⟨_, _, G, fun G2 => h _ _ G2⟩
theorem convert_val {Q : Value → Shared → Prop} {x : Value} {l : List Nat} {t : Tok}
    (C : Cx (hd.heap_1 w.params) pr loose mean mg mb (n + 1) A env L h₀) (G : Lg h₀ L s.heap m news) (hf : free badVal l) (hl : l.length ≤ 1000000)
    (h : ∀ h' k, Lg h₀ L h' m news → Q (.str ⟨l.toArray⟩ t) { s with heap := h', toks := k }) :
    wpAny (model prog w) A (call (.ref 129) [x, .str ⟨l.toArray⟩ t] [(Str.ofString "name", .bool false)]) Q E s := by
  refine enter (binds := [(Str.ofString "self", x), (Str.ofString "value", .str ⟨l.toArray⟩ t), (Str.ofString "name", .bool false)]) C G (by k_is) (by k_is) (BindsTo.of_eq rfl) (locs rfl) rfl rfl rfl (by decide) ?_
  intro g L' h₁ C st' G
  have hl1 : (⟨l.toArray⟩ : Str).length ≤ 1000000 := by simpa [Str.length] using hl
  refine wpAny_execs_cons (wpAny_If ?_)
  refine wpAny_isTrue_Compare1 ?_
  refine Call_ ?_
  refine nameX_B G.F C.X (topRead_of C.T) (by k_is) (by boot_fast) (by decide) ?_
  refine Pv.callWith_type1 ?_
  refine spliced_more ?_
  refine nameX_L G.F rfl ?_
  refine spliced_none ?_
  refine call_type_of (Tx := "str") rfl (by decide +kernel) ?_
  refine nameX_B G.F C.X (topRead_of C.T) (by k_is) (by boot_fast) (by decide) ?_
  refine wpAny_is_self (by rfl) ?_
  refine wpAny_truthy_bool ?_
  refine ite_pos rfl ?_
  try dsimp only
  refine wpAny_execs_cons (wpAny_Assign_Name ?_)
  refine IfExp_ ?_
  refine isTrue_plain ?_
  refine nameX_L G.F rfl ?_
  refine wpAny_truthy_bool ?_
  refine ite_neg Bool.false_ne_true ?_
  refine nameX_K G.F C.X (topRead_of C.T) (by k_is) ?_
  refine r_store G ?_
  intro h2 G
  try dsimp only
  refine wpAny_execs_cons (wpAny_If ?_)
  refine isTrue_plain ?_
  refine MethodCall_ ?_
  refine nameX_L G.F rfl ?_
  refine pat_meth (pat107 (C.X.keeps G.F.keep)) slot_pat_search type_pat_search ?_
  refine callWith_method1 ?_
  refine spliced_more ?_
  refine nameX_L G.F rfl ?_
  refine spliced_none ?_
  refine pat_search_none oneVal (pat107 (C.X.keeps G.F.keep)) hl1 (free_at hf) ?_
  refine truthy_none ?_
  refine ite_neg Bool.false_ne_true ?_
  refine wpAny_execs_nil ?_
  try dsimp only
  refine wpAny_execs_cons (wpAny_Return_some ?_)
  refine nameX_L G.F rfl ?_
  exact ⟨_, _, G, fun G2 => h _ _ G2⟩
end
end
-- W0
section
section
variable {K : Frag} {pr : Program} {loose : List Str} {mean : ExcName → Option Value} {mg mb : Str → Option Value} {prog : Program} {w : World} {n : Nat} {A : Around} {env : Env} {L : Addr} {h₀ : Heap}
  {m : Str → Option Value} {news : List (Addr × Obj)} {s : Shared} {E : Value → Shared → Prop}
theorem r_append {D : Addr} {its : Array Value} {c i : Nat} {v : Value} {Q : Value → Shared → Prop} (G : Lg h₀ L s.heap m news) (hi : news[i]? = some (D, listOf its c)) (hsz : its.size ≤ 1000000)
    (h : ∀ h' c', Lg h₀ L h' m (news.set i (D, listOf (its.push v) c')) → Q .none { s with heap := h' }) :
    wpAny (model prog w) A (call (.builtin "list.append") [.ref D, v]) Q E s := by
  have ho := G.mem (List.mem_of_getElem? hi)
  refine call_meets PySem.F.slot_list_append ⟨_, ho, rfl⟩ PySem.F.entry_list_append (PySem.F.args_list_append_2 _ _) (PySem.AutoListH.list_append_list_val_0 D its c v (Nat.le_trans hsz (by decide))) ⟨ho, ?_⟩
  obtain ⟨n', hd'⟩ := Obj.data_mapSeq (o := W.listOf its c) rfl (fun xs => xs.push v)
  refine h _ n' ?_
  refine G.set i hi (Heap.SameBut.update ..) ?_
  rw [Heap.get?_update_self _ ho (Obj.isFreed_of_seq hd')]
  rw [show Obj.mapSeq (fun xs => xs.push v) (W.listOf its c) = ⟨.type "list", none, (Obj.mapSeq (fun xs => xs.push v) (W.listOf its c)).data, #[]⟩ from by simp [Obj.mapSeq], hd']
theorem r_newList {vs : List Value} {Q : Value → Shared → Prop} (G : Lg h₀ L s.heap m news)
    (h : ∀ D h', Lg h₀ L h' m ((D, listOf vs.toArray 0) :: news) → Q (.ref D) { s with heap := h' }) (hsz : vs.length ≤ 1000000 := by exact Nat.le_of_ble_eq_true rfl) :
    wpAny (model prog w) A (newList vs) Q E s :=
  wpAny_newObj_type (h _ _ (G.push _)) (by show vs.toArray.size ≤ sizeLine; rw [List.size_toArray]; exact Nat.le_trans hsz (by decide))
theorem r_newTuple {vs : List Value} {Q : Value → Shared → Prop} (G : Lg h₀ L s.heap m news)
    (h : ∀ D h', Lg h₀ L h' m ((D, { cls := .type "tuple", data := .seq vs.toArray }) :: news) → Q (.ref D) { s with heap := h' }) (hsz : vs.length ≤ 1000000 := by exact Nat.le_of_ble_eq_true rfl) :
    wpAny (model prog w) A (newTuple vs) Q E s :=
  wpAny_newObj_type (h _ _ (G.push _)) (by show vs.toArray.size ≤ sizeLine; rw [List.size_toArray]; exact Nat.le_trans hsz (by decide))
end
section
variable {L : Addr} {h₀ h : Heap} {m : Str → Option Value} {news : List (Addr × Obj)}
theorem perm_front {α : Type} : ∀ {l : List α} {i : Nat} {p : α}, l[i]? = some p → l.Perm (p :: l.eraseIdx i)
  | [], _, _, h => by simp at h
  | a :: r, 0, p, h => by
    simp only [List.getElem?_cons_zero, Option.some.injEq] at h
    subst h
    exact List.Perm.refl _
  | a :: r, i + 1, p, h => by
    have := perm_front (l := r) (i := i) (p := p) (by simpa using h)
    rw [List.eraseIdx_cons_succ]
    exact (List.Perm.cons a this).trans (List.Perm.swap _ _ _)
theorem Lg.front {p : Addr × Obj} (G : Lg h₀ L h m news) (i : Nat) (hi : news[i]? = some p) : Lg h₀ L h m (p :: news.eraseIdx i) := by
  exact G.perm (perm_front hi)
end
theorem Lg.to {L : Addr} {h₀ h : Heap} {m : Str → Option Value} {a b : List (Addr × Obj)} (G : Lg h₀ L h m a) (e : a = b) : Lg h₀ L h m b := e ▸ G
theorem Lg.to1 {L : Addr} {h₀ h : Heap} {m : Str → Option Value} {x : Addr × Obj} {a b : List (Addr × Obj)} (G : Lg h₀ L h m (x :: a)) (e : a = b) : Lg h₀ L h m (x :: b) := e ▸ G
theorem Lg.to3 {L : Addr} {h₀ h : Heap} {m : Str → Option Value} {x y z : Addr × Obj} {a b : List (Addr × Obj)} (G : Lg h₀ L h m (x :: y :: z :: a)) (e : a = b) : Lg h₀ L h m (x :: y :: z :: b) := e ▸ G
section
variable {M : Model} {A : Around} {α β : Type} {E : Value → Shared → Prop} {s : Shared}
/-- what is to come is hidden behind a name: the proof's terms stay small -/
theorem hideQ {x : Sem α} {P : α → Shared → Prop} (h : ∀ T : α → Shared → Prop, (∀ a s', P a s' → T a s') → wpAny M A x T E s) : wpAny M A x P E s := h P fun _ _ z => z
theorem hideT {x : Sem α} {y : α → Sem β} {P : β → Shared → Prop} {F : Value → Shared → Prop} (h : ∀ T : β → Shared → Prop, (∀ a s', P a s' → T a s') → wpAny M A x (fun a s₂ => wpAny M A (y a) T F s₂) E s) :
    wpAny M A x (fun a s₂ => wpAny M A (y a) P F s₂) E s := h P fun _ _ z => z
end
end
-- G1
section
theorem fillG1 : hd.heap_1 = hd.heap_1 ∧ PySem.Challenge.rw_pe0228_02 = PySem.Challenge.rw_pe0228_02 := by
  k_fill
  exact ⟨rfl, rfl⟩

/-- blank, tab, line end -/
def isWs (c : Nat) : Bool := decide (c ∈ [10, 9, 13, 32])
/-- in marks: what is read, what is left -/
def tkQ (acc : List Nat) : List Nat → List Nat × List Nat
  | [] => (acc, [])
  | c :: r => if c = 34 then (acc, r) else if c = 92 then (match r with | [] => (acc, []) | d :: r' => tkQ (acc ++ [d]) r') else tkQ (acc ++ [c]) r
termination_by l => l.length
/-- a plain word -/
def tkP (acc : List Nat) : List Nat → List Nat × List Nat
  | [] => (acc, [])
  | c :: r => if isWs c = true then (acc, r) else if c = 92 then (match r with | [] => (acc, []) | d :: r' => tkP (acc ++ [d]) r') else tkP (acc ++ [c]) r
termination_by l => l.length
/-- one word -/
def tkS : List Nat → List Nat × List Nat
  | [] => ([], [])
  | c :: r => if isWs c = true then tkS r else if c = 34 then tkQ [] r else if c = 92 then (match r with | [] => ([], []) | d :: r' => tkP [d] r') else tkP [c] r

theorem tkQ_nil (a : List Nat) : tkQ a [] = (a, []) := by rw [tkQ]
theorem tkQ_end {a r : List Nat} {c : Nat} (h : c = 34) : tkQ a (c :: r) = (a, r) := by rw [tkQ.eq_def]; simp [h]
theorem tkQ_esc0 {a : List Nat} {c : Nat} (h1 : ¬ c = 34) (h : c = 92) : tkQ a [c] = (a, []) := by rw [tkQ.eq_def]; simp [h]
theorem tkQ_esc {a r : List Nat} {c d : Nat} (h1 : ¬ c = 34) (h : c = 92) : tkQ a (c :: d :: r) = tkQ (a ++ [d]) r := by rw [tkQ.eq_def]; simp [h]
theorem tkQ_on {a r : List Nat} {c : Nat} (h1 : ¬ c = 34) (h : ¬ c = 92) : tkQ a (c :: r) = tkQ (a ++ [c]) r := by rw [tkQ.eq_def]; simp [h, h1]
theorem tkP_nil (a : List Nat) : tkP a [] = (a, []) := by rw [tkP]
theorem tkP_end {a r : List Nat} {c : Nat} (h : isWs c = true) : tkP a (c :: r) = (a, r) := by rw [tkP.eq_def]; simp [h]
theorem tkP_esc0 {a : List Nat} {c : Nat} (h1 : ¬ isWs c = true) (h : c = 92) : tkP a [c] = (a, []) := by rw [tkP.eq_def]; simp only [if_neg h1, if_pos h]
theorem tkP_esc {a r : List Nat} {c d : Nat} (h1 : ¬ isWs c = true) (h : c = 92) : tkP a (c :: d :: r) = tkP (a ++ [d]) r := by rw [tkP.eq_def]; simp only [if_neg h1, if_pos h]
theorem tkP_on {a r : List Nat} {c : Nat} (h1 : ¬ isWs c = true) (h : ¬ c = 92) : tkP a (c :: r) = tkP (a ++ [c]) r := by rw [tkP.eq_def]; simp only [if_neg h1, if_neg h]
def nls (r : List Nat) : Nat := r.count 10
def S (l : List Nat) : Str := ⟨l.toArray⟩

section
variable {pr : Program} {loose : List Str} {mean : ExcName → Option Value} {mg mb : Str → Option Value} {prog : Program} {w : World} {n : Nat} {A : Around} {env : Env} {L : Addr} {h₀ : Heap}
  {m : Str → Option Value} {news : List (Addr × Obj)} {s : Shared} {E : Value → Shared → Prop}

/-- the reader amid a walk: b tells whether the walk is over; r is what is left of the text, tok the word so far -/
structure GS (w : World) (g : Heap) (L : Addr) (s₀ : Shared) (x dx st T it q P : Addr) (k1 k2 k3 k4 tw ts : Tok) (text : Str) (rest : List (Addr × Obj)) (N : Int) (b : Bool) (cv : Option Value) (r tok : List Nat) (s : Shared) : Prop where
  ex : ∃ h' t m' p ln tl tp c tk, s = { s₀ with heap := h', toks := t } ∧
    Lg g L h' m' ((dx, dictOf (mes w k1 k2 k3 k4 ln tl st tw P) 4) :: (T, listOf #[.int ((p : Nat) : Int) tp] c) :: (it, if b then cit .none .none true else cit (.ref q) (.str "" ts) false) :: rest) ∧
    m' "self" = some (.ref x) ∧ m' "token" = some (.str (S tok) tk) ∧ m' "fiter" = some (.ref it) ∧ m' "ch" = cv ∧ p ≤ text.length ∧ text.cps.toList.drop p = r ∧ ln + nls r = N ∧ tok.length + r.length ≤ text.length

theorem sgn_cons {text : Str} {p c : Nat} {r : List Nat} (h : text.cps.toList.drop p = c :: r) : sgn text p = S [c] := by unfold sgn S; rw [h]; rfl
theorem sgn_nil {text : Str} {p : Nat} (h : text.cps.toList.drop p = []) : sgn text p = S [] := by unfold sgn S; rw [h]; rfl
theorem drop_next {text : Str} {p c : Nat} {r : List Nat} (h : text.cps.toList.drop p = c :: r) : text.cps.toList.drop (p + 1) = r ∧ p + 1 ≤ text.length := by
  refine ⟨by rw [← List.drop_drop, h]; rfl, ?_⟩
  have : p < text.cps.toList.length := by
    rcases Nat.lt_or_ge p text.cps.toList.length with q | q
    · exact q
    · rw [List.drop_of_length_le q] at h; cases h
  have h2 : p < text.length := by simpa [Str.length] using this
  exact h2
theorem S_len (l : List Nat) : (S l).length = l.length := by simp [S, Str.length]
theorem S_append (a b : List Nat) : S a ++ S b = S (a ++ b) := by
  apply Str.ext'
  simp [S, Str.cps_append]
theorem S_inj {a b : List Nat} (h : S a = S b) : a = b := by
  have := congrArg (fun x : Str => x.cps.toList) h
  simpa [S] using this

set_option maxHeartbeats 1000000
variable {g : Heap} {s₀ : Shared} {x dx st T it q P : Addr} {k1 k2 k3 k4 tw ts : Tok} {text : Str} {rest : List (Addr × Obj)} {N : Int} {b : Bool} {cv : Option Value} {r tok : List Nat}
/-- a sign read by hand -/
theorem gs_read (C : Cx (hd.heap_1 w.params) pr loose mean mg mb (n + 2) A env L g) (H : Mach w rest x dx st T text) (I : GS w g L s₀ x dx st T it q P k1 k2 k3 k4 tw ts text rest N b cv r tok s) {Q : Value → Shared → Prop}
    (h : ∀ s' t, GS w g L s₀ x dx st T it q P k1 k2 k3 k4 tw ts text rest N b cv r.tail tok s' → Q (.str (S (r.take 1)) t) s') :
    codeAny (model prog w) A (.call (.ref 59) ⟨[.ref x], []⟩) (RQ Q E) s := by
  obtain ⟨h', t, m', p, ln, tl, tp, c, tk, rfl, G, m1, m2, m3, m4, hp, hr, hN, hl⟩ := I.ex
  refine read_char_code C G (H.mono fun p hp => .tail _ hp) hp ?_
  intro h2 t2 u1 u2 u3 ln' hln G
  cases r with
  | nil =>
    rw [sgn_nil hr] at G hln ⊢
    refine h _ _ ⟨_, _, m', p, ln', u3, u1, c, tk, rfl, ?_, m1, m2, m3, m4, hp, hr, ?_, hl⟩
    · rw [S_len] at G; simpa using G
    · rw [hln, if_neg (by decide)]; exact hN
  | cons d r' =>
    obtain ⟨e1, e2⟩ := drop_next hr
    rw [sgn_cons hr] at G hln ⊢
    refine h _ _ ⟨_, _, m', p + 1, ln', u3, u1, c, tk, rfl, ?_, m1, m2, m3, m4, e2, e1, ?_, ?_⟩
    · rw [S_len] at G; simpa using G
    · rw [hln]
      by_cases hd : d = 10
      · subst hd
        rw [if_pos (by rfl)]
        simp only [nls, List.count_cons_self, List.tail_cons] at hN ⊢
        omega
      · rw [if_neg (fun e => hd (by have := S_inj (a := [d]) (b := [10]) e; simpa using this))]
        simp only [nls, List.count_cons, List.tail_cons] at hN ⊢
        rw [if_neg (by simpa using hd)] at hN
        omega
    · simp only [List.length_cons, List.tail_cons] at hl ⊢; omega

/-- one step of the walk -/
theorem gs_next (C : Cx (hd.heap_1 w.params) pr loose mean mg mb (n + 3) A env L g) (H : Mach w rest x dx st T text) (hq : (q, methodObj (.ref 59) (.ref x)) ∈ rest)
    (I : GS w g L s₀ x dx st T it q P k1 k2 k3 k4 tw ts text rest N false cv r tok s) {Q : Option Value → Shared → Prop}
    (h1 : ∀ c r' s' t, r = c :: r' → GS w g L s₀ x dx st T it q P k1 k2 k3 k4 tw ts text rest N false cv r' tok s' → Q (some (.str (S [c]) t)) s')
    (h2 : ∀ s', r = [] → GS w g L s₀ x dx st T it q P k1 k2 k3 k4 tw ts text rest N true cv [] tok s' → Q none s') :
    wpAny (model prog w) A (pyNext (.ref it)) Q E s := by
  have I' := I
  obtain ⟨h', t, m', p, ln, tl, tp, c, tk, rfl, G, m1, m2, m3, m4, hp, hr, hN, hl⟩ := I'.ex
  have hK : ∃ fo fd, (hd.heap_1 w.params).lookup 59 = some fo ∧ fo.data = .func fd := ⟨_, _, by k_is, rfl⟩
  obtain ⟨fo, fd, hf, hfd⟩ := hK
  refine next_cit C.hn (G.mem (.tail _ (.tail _ (.head _)))) (G.mem (.tail _ (.tail _ (.tail _ hq)))) ((C.X.keeps G.F.keep) _ _ hf) hfd ?_
  refine codeAny_mono (gs_read (E := fun _ _ => False) C.in1 H I (Q := fun v s' => ∃ t, v = .str (S (r.take 1)) t ∧ GS w g L s₀ x dx st T it q P k1 k2 k3 k4 tw ts text rest N false cv r.tail tok s') fun s' t I' => ⟨t, rfl, I'⟩) ?_
  intro rr s' z
  rcases rr with e | (_ | _ | _ | v)
  · exact z
  · exact z
  · exact z
  · exact z
  obtain ⟨t', rfl, I2⟩ := z
  obtain ⟨h3, t3, m3', p3, ln3, tl3, tp3, c3, tk3, rfl, G3, n1, n2, n3, n4, hp3, hr3, hN3, hl3⟩ := I2.ex
  refine ⟨_, _, rfl, G3.mem (.tail _ (.tail _ (.head _))), G3.mem (.tail _ (.tail _ (.tail _ hq))), (C.X.keeps G3.F.keep) _ _ hf, fun hne => ?_, fun he h₁ h4 hs ho hk => ?_⟩
  · cases r with
    | nil => exact absurd rfl hne
    | cons d r' => exact h1 d r' _ _ rfl I2
  · cases r with
    | cons d r' => exact absurd (S_inj (a := [d]) (b := []) he) (by simp)
    | nil =>
      refine h2 _ rfl ⟨h4, t3, m3', p3, ln3, tl3, tp3, c3, tk3, rfl, ?_, n1, n2, n3, n4, hp3, hr3, hN3, hl3⟩
      have G4 := G3.set 2 rfl hs ho
      exact ⟨G4.F.keptAll hk, fun p hp => ⟨hk _ _ (G4.N p hp).1, (G4.N p hp).2⟩, G4.nd⟩

theorem gs_over (C : Cx (hd.heap_1 w.params) pr loose mean mg mb n A env L g)
    (I : GS w g L s₀ x dx st T it q P k1 k2 k3 k4 tw ts text rest N true cv r tok s) {Q : Option Value → Shared → Prop}
    (h2 : ∀ s', GS w g L s₀ x dx st T it q P k1 k2 k3 k4 tw ts text rest N true cv r tok s' → Q none s') :
    wpAny (model prog w) A (pyNext (.ref it)) Q E s := by
  obtain ⟨h', t, m', p, ln, tl, tp, c, tk, rfl, G, m1, m2, m3, m4, hp, hr, hN, hl⟩ := I.ex
  refine next_cit_over C.hn (G.mem (.tail _ (.tail _ (.head _)))) ?_
  intro h4 hk
  exact h2 _ ⟨h4, t, m', p, ln, tl, tp, c, tk, rfl, ⟨G.F.keptAll hk, fun p hp => ⟨hk _ _ (G.N p hp).1, (G.N p hp).2⟩, G.nd⟩, m1, m2, m3, m4, hp, hr, hN, hl⟩

theorem GS.toks (I : GS w g L s₀ x dx st T it q P k1 k2 k3 k4 tw ts text rest N b cv r tok s) (t : Nat) : GS w g L s₀ x dx st T it q P k1 k2 k3 k4 tw ts text rest N b cv r tok { s with toks := t } := by
  obtain ⟨h', t', m', p, ln, tl, tp, c, tk, rfl, R⟩ := I.ex
  exact ⟨h', t, m', p, ln, tl, tp, c, tk, rfl, R⟩

section
variable {cn : Str} {cs : Scope} {a : Addr} {ccd : Value} {cl : List (Str × Addr)} {pos : Pos} {v : Value}
theorem gs_ch {Q : Value → Shared → Prop} (I : GS w g L s₀ x dx st T it q P k1 k2 k3 k4 tw ts text rest N b (some v) r tok s) (h : Q v s) (hk : cs.kind = .function := by rfl) (hx : (envX cn cs L a ccd cl).kindOf "ch" = some .local := by rfl) :
    wpAny (model prog w) A (eval (.Name "ch" pos) (envX cn cs L a ccd cl)) Q E s := by
  obtain ⟨h', t', m', p, ln, tl, tp, c, tk, rfl, G, m1, m2, m3, m4, R⟩ := I.ex
  exact nameX_L G.F m4 h hk hx
theorem gs_self {Q : Value → Shared → Prop} (I : GS w g L s₀ x dx st T it q P k1 k2 k3 k4 tw ts text rest N b cv r tok s) (h : Q (.ref x) s) (hk : cs.kind = .function := by rfl) (hx : (envX cn cs L a ccd cl).kindOf "self" = some .local := by rfl) :
    wpAny (model prog w) A (eval (.Name "self" pos) (envX cn cs L a ccd cl)) Q E s := by
  obtain ⟨h', t', m', p, ln, tl, tp, c, tk, rfl, G, m1, m2, m3, m4, R⟩ := I.ex
  exact nameX_L G.F m1 h hk hx
theorem gs_tokn {Q : Value → Shared → Prop} (I : GS w g L s₀ x dx st T it q P k1 k2 k3 k4 tw ts text rest N b cv r tok s) (h : ∀ t, Q (.str (S tok) t) s) (hk : cs.kind = .function := by rfl) (hx : (envX cn cs L a ccd cl).kindOf "token" = some .local := by rfl) :
    wpAny (model prog w) A (loadName (envX cn cs L a ccd cl) "token") Q E s := by
  obtain ⟨h', t', m', p, ln, tl, tp, c, tk, rfl, G, m1, m2, m3, m4, R⟩ := I.ex
  exact wpAny_loadName_local hk hx G.F.ns m2 (h tk)
theorem gs_fiter {Q : Value → Shared → Prop} (I : GS w g L s₀ x dx st T it q P k1 k2 k3 k4 tw ts text rest N b cv r tok s) (h : Q (.ref it) s) (hk : cs.kind = .function := by rfl) (hx : (envX cn cs L a ccd cl).kindOf "fiter" = some .local := by rfl) :
    wpAny (model prog w) A (eval (.Name "fiter" pos) (envX cn cs L a ccd cl)) Q E s := by
  obtain ⟨h', t', m', p, ln, tl, tp, c, tk, rfl, G, m1, m2, m3, m4, R⟩ := I.ex
  exact nameX_L G.F m3 h hk hx
theorem gs_iter {Q : Value → Shared → Prop} (I : GS w g L s₀ x dx st T it q P k1 k2 k3 k4 tw ts text rest N b cv r tok s) (h : Q (.ref it) s) : wpAny (model prog w) A (pyIter (.ref it)) Q E s := by
  obtain ⟨h', t', m', p, ln, tl, tp, c, tk, rfl, G, m1, m2, m3, m4, R⟩ := I.ex
  cases b
  · exact iter_cit (G.mem (.tail _ (.tail _ (.head _)))) h
  · exact iter_cit (G.mem (.tail _ (.tail _ (.head _)))) h
theorem gs_storeCh {Q : Unit → Shared → Prop} (I : GS w g L s₀ x dx st T it q P k1 k2 k3 k4 tw ts text rest N b cv r tok s) (h : ∀ s', GS w g L s₀ x dx st T it q P k1 k2 k3 k4 tw ts text rest N b (some v) r tok s' → Q () s') (hk : cs.kind = .function := by rfl) (hx : (envX cn cs L a ccd cl).kindOf "ch" = some .local := by rfl) :
    wpAny (model prog w) A (storeName (envX cn cs L a ccd cl) "ch" v) Q E s := by
  obtain ⟨h', t', m', p, ln, tl, tp, c, tk, rfl, G, m1, m2, m3, m4, R⟩ := I.ex
  refine r_store G ?_ hk hx
  intro h2 G2
  exact h _ ⟨h2, _, _, p, ln, tl, tp, c, tk, rfl, G2, m1, m2, m3, rfl, R⟩
theorem gs_storeTok {Q : Unit → Shared → Prop} {tok' : List Nat} {t : Tok} (I : GS w g L s₀ x dx st T it q P k1 k2 k3 k4 tw ts text rest N b cv r tok s) (hl : tok'.length + r.length ≤ text.length) (h : ∀ s', GS w g L s₀ x dx st T it q P k1 k2 k3 k4 tw ts text rest N b cv r tok' s' → Q () s') (hk : cs.kind = .function := by rfl) (hx : (envX cn cs L a ccd cl).kindOf "token" = some .local := by rfl) :
    wpAny (model prog w) A (storeName (envX cn cs L a ccd cl) "token" (.str (S tok') t)) Q E s := by
  obtain ⟨h', t', m', p, ln, tl, tp, c, tk, rfl, G, m1, m2, m3, m4, hp, hr, hN, _⟩ := I.ex
  refine r_store G ?_ hk hx
  intro h2 G2
  exact h _ ⟨h2, _, _, p, ln, tl, tp, c, _, rfl, G2, m1, rfl, m3, m4, hp, hr, hN, hl⟩
theorem gs_ws {Q : Value → Shared → Prop} {expr : Bool} (C : Cx (hd.heap_1 w.params) pr loose mean mg mb n A env L g) (hx : (x, instObj 76 dx) ∈ rest) (I : GS w g L s₀ x dx st T it q P k1 k2 k3 k4 tw ts text rest N b cv r tok s) (h : ∀ t, Q (.str "\n\t\r " tw) { s with toks := t }) :
    wpAny (model prog w) A (getAttr (.ref x) "whitespace" expr) Q E s := by
  obtain ⟨h', t', m', p, ln, tl, tp, c, tk, rfl, G, m1, m2, m3, m4, R⟩ := I.ex
  exact get_own G.F C.X (InstAt.of_news G.N (.tail _ (.tail _ (.tail _ hx))) (.head _)) (by k_is) (by k_is) (by k_is) (by k_is) (by rfl) rfl (h _)
theorem gs_meth {Q : Value × List Value → Shared → Prop} {pl : Sem Bool} (C : Cx (hd.heap_1 w.params) pr loose mean mg mb n A env L g) (hx : (x, instObj 76 dx) ∈ rest) (I : GS w g L s₀ x dx st T it q P k1 k2 k3 k4 tw ts text rest N b cv r tok s) (h : Q (.ref 59, [.ref x]) s) :
    wpAny (model prog w) A (getMethod (.ref x) "_read_char" pl) Q E s := by
  obtain ⟨h', t', m', p, ln, tl, tp, c, tk, rfl, G, m1, m2, m3, m4, R⟩ := I.ex
  exact method_inst G.F C.X (InstAt.of_news G.N (.tail _ (.tail _ (.tail _ hx))) (.head _)) (by k_is) (by k_is) (by k_is) (by rfl) h
theorem gs_K (C : Cx (hd.heap_1 w.params) pr loose mean mg mb n A env L g) (I : GS w g L s₀ x dx st T it q P k1 k2 k3 k4 tw ts text rest N b cv r tok s) : (hd.heap_1 w.params).In s.heap := by
  obtain ⟨h', t', m', p, ln, tl, tp, c, tk, rfl, G, R⟩ := I.ex
  exact C.X.keeps G.F.keep
theorem gs_lit {Q : Value → Shared → Prop} {y : Str} {kk : Nat} {e' : Env} (I : GS w g L s₀ x dx st T it q P k1 k2 k3 k4 tw ts text rest N b cv r tok s) (h : ∀ t s', GS w g L s₀ x dx st T it q P k1 k2 k3 k4 tw ts text rest N b cv r tok s' → Q (.str y t) s') : wpAny (model prog w) A (eval (.Constant (.str y) kk pos) e') Q E s :=
  Calls.Constant_str (h _ _ (I.toks _))
theorem gs_room (I : GS w g L s₀ x dx st T it q P k1 k2 k3 k4 tw ts text rest N b cv r tok s) : tok.length + r.length ≤ text.length := by
  obtain ⟨h', t', m', p, ln, tl, tp, c, tk, rfl, G, m1, m2, m3, m4, hp, hr, hN, hl⟩ := I.ex
  exact hl
end

end
end
-- G2
section
theorem fillG2 : hd.heap_1 = hd.heap_1 ∧ PySem.Challenge.rw_pe0228_02 = PySem.Challenge.rw_pe0228_02 := by
  k_fill
  exact ⟨rfl, rfl⟩
section
variable {pr : Program} {loose : List Str} {mean : ExcName → Option Value} {mg mb : Str → Option Value} {prog : Program} {w : World} {n : Nat} {A : Around} {env : Env} {L : Addr} {h₀ : Heap}
  {m : Str → Option Value} {s : Shared} {E : Value → Shared → Prop} {x dx st T P : Addr} {k1 k2 k3 k4 tw : Tok} {text : Str} {rest : List (Addr × Obj)}
set_option maxHeartbeats 2000000
/-- a word waits: it is handed out -/
theorem get_token_pop {Q : Value → Shared → Prop} {ln : Int} {tl : Tok} {oT : Obj} {its : Array Value} {c : Nat} {v : Value}
    (C : Cx (hd.heap_1 w.params) pr loose mean mg mb (n + 1) A env L h₀)
    (G : Lg h₀ L s.heap m ((dx, dictOf (mes w k1 k2 k3 k4 ln tl st tw P) 4) :: (T, oT) :: (P, listOf its c) :: rest))
    (hx : (x, instObj 76 dx) ∈ rest) (hv : its[0]? = some v) (hsz : its.size ≤ 1000000)
    (h : ∀ h' t c', Lg h₀ L h' m ((dx, dictOf (mes w k1 k2 k3 k4 ln tl st tw P) 4) :: (T, oT) :: (P, listOf (its.eraseIdxIfInBounds 0) c') :: rest) → Q v { s with heap := h', toks := t }) :
    wpAny (model prog w) A (call (.ref 66) [.ref x]) Q E s := by
  refine enter (binds := [(Str.ofString "self", .ref x)]) C G (by k_is) (by k_is) (BindsTo.of_eq rfl) (locs rfl) rfl rfl rfl (by decide) ?_
  intro g L' h₁ C st' G
  refine wpAny_execs_cons (wpAny_If ?_)
  refine isTrue_plain ?_
  refine Attribute_name ?_
  refine nameX_L G.F rfl ?_
  refine get_own G.F C.X (InstAt.of_news G.N (.tail _ (.tail _ (.tail _ hx))) (.head _)) (by k_is) (by k_is) (by k_is) (by k_is) (by rfl) rfl ?_
  refine wpAny_truthy_list (G.lst (.tail _ (.tail _ (.head _)))) (by omega) ?_
  refine ite_pos ?_ ?_
  · rcases Nat.eq_zero_or_pos its.size with e | e
    · rw [Array.getElem?_eq_none (by omega)] at hv; cases hv
    · simp [Array.isEmpty]; intro e2; rw [e2] at e; simp at e
  dsimp only
  refine wpAny_execs_cons (wpAny_Return_some ?_)
  refine MethodCall_ ?_
  refine Attribute_name ?_
  refine nameX_L G.F rfl ?_
  refine get_own G.F C.X (InstAt.of_news G.N (.tail _ (.tail _ (.tail _ hx))) (.head _)) (by k_is) (by k_is) (by k_is) (by k_is) (by rfl) rfl ?_
  refine listMethod_K G.N (.tail _ (.tail _ (.head _))) PySem.F.slot_list_pop PySem.F.type_list_pop ?_
  refine callWith_method1 ?_
  refine spliced_more ?_
  refine wpAny_Constant_int ?_
  refine spliced_none ?_
  refine pop0_at (G.mem (.tail _ (.tail _ (.head _)))) hv (Nat.le_trans hsz (by decide)) ?_
  intro h2 hs ⟨c', ho⟩
  exact ⟨_, _, G.set 2 rfl hs ho, fun G2 => h _ _ _ G2⟩

theorem ws_is (c : Nat) : (!(Builtin.Str.occurrences (Str.ofString "\n\t\r ") (S [c]) 0 (Str.ofString "\n\t\r ").length 1).isEmpty) = isWs c := by
  have := StrLaws.found_one (Str.ofString "\n\t\r ") c
  have e : (Str.ofString "\n\t\r ").cps.toList = [10, 9, 13, 32] := by decide +kernel
  rw [e] at this
  exact this
theorem one_is (c d : Nat) : ((S [c] : Str) == S [d]) = decide (c = d) := by
  rw [Bool.eq_iff_iff, beq_iff_eq, decide_eq_true_iff]
  exact ⟨fun e => by simpa using S_inj e, fun e => by rw [e]⟩

theorem r_iter2L {news : List (Addr × Obj)} {q : Addr} {f self sen : Value} {Q : Value → Shared → Prop} (G : Lg h₀ L s.heap m news) (hq : (q, methodObj f self) ∈ news)
    (h : ∀ it h', Lg h₀ L h' m ((it, cit (.ref q) sen false) :: news) → Q (.ref it) { s with heap := h' }) : wpAny (model prog w) A (call (.builtin "iter") [.ref q, sen]) Q E s :=
  r_iter2 (G.mem hq) (h _ _ (G.push _))

/-- no word waits: the text is read on -/
theorem get_token_read {Q : Value → Shared → Prop} {ln : Int} {tl tp : Tok} {p c cP : Nat}
    (C : Cx (hd.heap_1 w.params) pr loose mean mg mb (n + 5) A env L h₀)
    (G : Lg h₀ L s.heap m ((dx, dictOf (mes w k1 k2 k3 k4 ln tl st tw P) 4) :: (T, listOf #[.int (p : Int) tp] c) :: (P, listOf #[] cP) :: rest))
    (H : Mach w rest x dx st T text) (hp : p ≤ text.length)
    (h : ∀ h' t t1 t2 t3 ln' p' c' fz, p' ≤ text.length → text.cps.toList.drop p' = (tkS (text.cps.toList.drop p)).2 → ln' + nls (text.cps.toList.drop p') = ln + nls (text.cps.toList.drop p) →
      Lg h₀ L h' m ((dx, dictOf (mes w k1 k2 k3 k4 ln' t1 st tw P) 4) :: (T, listOf #[.int ((p' : Nat) : Int) t2] c') :: (P, listOf #[] cP) :: (fz ++ rest)) → Q (.str (S (tkS (text.cps.toList.drop p)).1) t3) { s with heap := h', toks := t }) :
    wpAny (model prog w) A (call (.ref 66) [.ref x]) Q E s := by
  have hx := H.hx
  refine enter (binds := [(Str.ofString "self", .ref x)]) C G (by k_is) (by k_is) (BindsTo.of_eq rfl) (locs rfl) rfl rfl rfl (by decide) ?_
  intro g L' h₁ C st' G
  refine wpAny_execs_cons (wpAny_If ?_)
  refine isTrue_plain ?_
  refine Attribute_name ?_
  refine nameX_L G.F rfl ?_
  refine get_own G.F C.X (InstAt.of_news G.N (.tail _ (.tail _ (.tail _ hx))) (.head _)) (by k_is) (by k_is) (by k_is) (by k_is) (by rfl) rfl ?_
  refine wpAny_truthy_list (G.lst (.tail _ (.tail _ (.head _)))) (by decide) ?_
  refine ite_neg (by decide) ?_
  refine wpAny_execs_nil ?_
  dsimp only
  refine wpAny_execs_cons (wpAny_Assign_Name ?_)
  refine Calls.Constant_str ?_
  refine r_store G ?_
  intro h2 G
  dsimp only
  refine wpAny_execs_cons (wpAny_Assign_Name ?_)
  refine Call_ ?_
  refine nameX_B G.F C.X (topRead_of C.T) (by k_is) (by boot_fast) (by decide) ?_
  refine callWith_method1 ?_
  refine spliced_more ?_
  refine Attribute_name ?_
  refine nameX_L G.F rfl ?_
  refine kbm_bound G.F C.X G.N (InstAt.of_news G.N (.tail _ (.tail _ (.tail _ hx))) (.head _)) (by k_is) (by k_is) (by k_is) (by k_is) (by k_is) (by k_is) (by decide +kernel) (by rfl) ?_
  intro q h3 F3 N3 lt3
  have G := G.cons F3 N3 lt3
  refine spliced_more ?_
  refine Calls.Constant_str ?_
  refine spliced_none ?_
  refine r_iter2L G (.head _) ?_
  intro it h4 G
  refine r_store G ?_
  intro h5 G
  dsimp only at G ⊢
  have G := G.perm (b := (dx, dictOf (mes w k1 k2 k3 k4 ln tl st tw P) 4) :: (T, listOf #[.int (p : Int) tp] c) :: (it, cit (.ref q) (.str (Str.ofString "") _) false) :: (q, methodObj (.ref 59) (.ref x)) :: (P, listOf #[] cP) :: rest)
    (by
      refine (List.perm_middle (l₁ := [_, _])).trans (List.Perm.cons _ ?_)
      exact (List.perm_middle (l₁ := [_, _])))
  generalize hr0 : text.cps.toList.drop p = r0 at *
  obtain ⟨TK, R, hTK⟩ : ∃ TK R, tkS r0 = (TK, R) := ⟨_, _, rfl⟩
  rw [hTK] at h
  have H' : Mach w ((q, methodObj (.ref 59) (.ref x)) :: (P, listOf #[] cP) :: rest) x dx st T text := H.mono fun _ hp => .tail _ (.tail _ hp)
  obtain ⟨ts, I0⟩ : ∃ ts, ∀ t, GS w g L' s x dx st T it q P k1 k2 k3 k4 tw ts text ((q, methodObj (.ref 59) (.ref x)) :: (P, listOf #[] cP) :: rest) (ln + nls r0) false none r0 [] { s with heap := h5, toks := t } :=
    ⟨_, fun t => ⟨h5, t, _, p, ln, tl, tp, c, _, rfl, G, rfl, rfl, rfl, rfl, hp, hr0, rfl, by rw [← hr0]; simp [Str.length]⟩⟩
  have hq : (q, methodObj (.ref 59) (.ref x)) ∈ ((q, methodObj (.ref 59) (.ref x)) :: (P, listOf #[] cP) :: rest) := .head _
  have gen : ∀ (b : Bool) (cv : Option Value) (s' : Shared), GS w g L' s x dx st T it q P k1 k2 k3 k4 tw ts text ((q, methodObj (.ref 59) (.ref x)) :: (P, listOf #[] cP) :: rest) (ln + nls r0) b cv R TK s' →
      ∃ tk m', Fr g L' s'.heap m' ∧ m' "token" = some (.str (S TK) tk) ∧ Back h₀ L m g L' Q (.str (S TK) tk) s' := by
    intro b cv s' I
    obtain ⟨h', t, m', p', ln', tl', tp', c', tk, rfl, G, m1, m2, m3, m4, hp', hr', hN', hl'⟩ := I.ex
    have G' := G.perm (b := (dx, dictOf (mes w k1 k2 k3 k4 ln' tl' st tw P) 4) :: (T, listOf #[.int ((p' : Nat) : Int) tp'] c') :: (P, listOf #[] cP) :: ([(it, if b then cit .none .none true else cit (.ref q) (.str "" ts) false), (q, methodObj (.ref 59) (.ref x))] ++ rest))
      (List.Perm.cons _ (List.Perm.cons _ (List.perm_middle (l₁ := [_, _]))))
    exact ⟨tk, m', G.F, m2, m', _, G', fun G2 => h _ _ _ _ _ _ _ _ _ hp' hr' (by rw [hr']; omega) G2⟩
  refine wpAny_execs_cons (wpAny_For ?_)
  refine nameX_L G.F rfl ?_
  refine iter_cit (G.mem (.tail _ (.tail _ (.head _)))) ?_
  refine forL (I := fun k s' => (∃ r cv, GS w g L' s x dx st T it q P k1 k2 k3 k4 tw ts text ((q, methodObj (.ref 59) (.ref x)) :: (P, listOf #[] cP) :: rest) (ln + nls r0) false cv r [] s' ∧ tkS r = (TK, R) ∧ k = r.length + 1) ∨
      (k = 0 ∧ R = [] ∧ ∃ cv, GS w g L' s x dx st T it q P k1 k2 k3 k4 tw ts text ((q, methodObj (.ref 59) (.ref x)) :: (P, listOf #[] cP) :: rest) (ln + nls r0) true cv [] TK s')) ?_ (r0.length + 1) (.inl ⟨r0, none, I0 _, hTK, rfl⟩)
  intro k s1 hI
  rcases hI with ⟨r, cv, I, hT, hk⟩ | ⟨hk, hR, cv, I⟩
  · refine gs_next C H' hq I ?_ ?_
    · intro c2 r1 s2 t2 hr I2
      subst hr
      have room1 := gs_room I
      simp only [List.length_cons, List.length_nil] at room1
      refine wpAny_assign_Name (gs_storeCh I2 ?_)
      intro s3 I3
      refine wpAny_execs_cons (wpAny_If ?_)
      refine wpAny_isTrue_Compare1 ?_
      refine gs_ch I3 ?_
      refine Attribute_name ?_
      refine gs_self I3 ?_
      refine gs_ws C H'.hx I3 ?_
      intro t11
      replace I3 := I3.toks t11
      refine in_str ?_
      refine wpAny_truthy_bool ?_
      rw [ws_is]
      by_cases hw : isWs c2 = true
      · refine ite_pos hw ?_
        refine wpAny_execs_cons (wpAny_Continue ?_)
        simp only [tkS, if_pos hw] at hT
        exact ⟨_, by rw [hk]; simp, .inl ⟨r1, _, I3, hT, rfl⟩⟩
      · refine ite_neg hw ?_
        refine wpAny_execs_nil ?_
        try dsimp only
        refine wpAny_execs_cons (wpAny_If ?_)
        refine wpAny_isTrue_Compare1 ?_
        refine gs_ch I3 ?_
        refine gs_lit I3 ?_
        intro t12 s12 I3
        refine eq_str ?_
        refine wpAny_truthy_bool ?_
        rw [show ((S [c2] : Str) == Str.ofString "\"") = decide (c2 = 34) from one_is c2 34]

        by_cases hq1 : c2 = 34
        · refine ite_pos (by simpa using hq1) ?_
          (unfold tkS at hT; rw [if_neg hw, if_pos hq1] at hT)
          refine wpAny_execs_cons (wpAny_For ?_)
          refine gs_fiter I3 ?_
          refine gs_iter I3 ?_
          refine forL (I := fun k s' => ∃ r tok cv, GS w g L' s x dx st T it q P k1 k2 k3 k4 tw ts text ((q, methodObj (.ref 59) (.ref x)) :: (P, listOf #[] cP) :: rest) (ln + nls r0) false cv r tok s' ∧ tkQ tok r = (TK, R) ∧ k = r.length + 1) ?_ (_ + 1) ⟨_, _, _, I3, hT, rfl⟩
          intro k5 s5 ⟨r5, tok5, cv5, I5, hT5, hk5⟩
          refine gs_next C H' hq I5 ?_ ?_
          · intro c2 r2 s6 t6 hr6 I6
            subst hr6
            have room5 := gs_room I5
            simp only [List.length_cons] at room5
            refine wpAny_assign_Name (gs_storeCh I6 ?_)
            intro s7 I7
            refine wpAny_execs_cons (wpAny_If ?_)
            refine wpAny_isTrue_Compare1 ?_
            refine gs_ch I7 ?_
            refine gs_lit I7 ?_
            intro t12 s12 I7
            refine eq_str ?_
            refine wpAny_truthy_bool ?_
            rw [show ((S [c2] : Str) == Str.ofString "\"") = decide (c2 = 34) from one_is c2 34]
            by_cases h1 : c2 = 34
            · refine ite_pos (by simpa using h1) ?_
              try dsimp only
              refine wpAny_execs_cons (wpAny_Return_some ?_)
              obtain ⟨rfl, rfl⟩ : tok5 = TK ∧ r2 = R := by rw [tkQ_end h1] at hT5; simpa using hT5
              obtain ⟨tk, m', F, m2, bk⟩ := gen _ _ _ I7
              exact nameX_L F m2 bk
            · refine ite_neg (by simpa using h1) ?_
              try dsimp only
              refine wpAny_execs_cons (wpAny_If ?_)
              refine wpAny_isTrue_Compare1 ?_
              refine gs_ch I7 ?_
              refine gs_lit I7 ?_
              intro t12 s12 I7
              refine eq_str ?_
              refine wpAny_truthy_bool ?_
              rw [show ((S [c2] : Str) == Str.ofString "\\") = decide (c2 = 92) from one_is c2 92]
              by_cases h2 : c2 = 92
              · refine ite_pos (by simpa using h2) ?_
                try dsimp only
                refine wpAny_execs_cons (wpAny_Assign_Name ?_)
                refine MethodCall_ ?_
                refine gs_self I7 ?_
                refine gs_meth C H'.hx I7 ?_
                refine callWith_K0 (gs_K C I7) (by k_is) ?_
                refine wpAny_call (gs_read C.less H' I7 ?_)
                intro s8 t8 I8
                refine gs_storeCh I8 ?_
                intro s10 I10
                refine wpAny_execs_nil ?_
                refine wpAny_execs_nil ?_
                try dsimp only
                refine wpAny_execs_cons (wpAny_AugAssign_Name ?_)
                refine gs_tokn I10 ?_
                intro tk9
                refine gs_ch I10 ?_
                refine SB.iadd (hsz := by rw [S_len, S_len]; have h9 := H.len; have h11 : sizeLine = 16777216 := rfl; simp only [List.length_cons, List.length_nil, List.length_take]; omega) ?_
                intro u9 v9
                replace I10 := I10.toks v9
                rw [S_append]
                refine gs_storeTok I10 (by simp only [List.length_append, List.length_cons, List.length_nil, List.length_take, List.length_tail]; omega) ?_
                intro s9 I10
                refine wpAny_execs_nil ?_

                cases r2 with
                | nil =>
                  refine ⟨1, ?_, [], tok5, _, by simpa using I10, ?_, rfl⟩
                  · rw [hk5]; simp
                  · rw [tkQ_esc0 h1 h2] at hT5; rw [tkQ_nil]; exact hT5
                | cons d r3 =>
                  refine ⟨r3.length + 1, ?_, r3, tok5 ++ [d], _, I10, ?_, rfl⟩
                  · rw [hk5]; simp
                  · rw [tkQ_esc h1 h2] at hT5; exact hT5
              · refine ite_neg (by simpa using h2) ?_
                refine wpAny_execs_nil ?_
                refine wpAny_execs_nil ?_
                try dsimp only
                refine wpAny_execs_cons (wpAny_AugAssign_Name ?_)
                refine gs_tokn I7 ?_
                intro tk9
                refine gs_ch I7 ?_
                refine SB.iadd (hsz := by rw [S_len, S_len]; have h9 := H.len; have h11 : sizeLine = 16777216 := rfl; simp only [List.length_cons, List.length_nil, List.length_take]; omega) ?_
                intro u9 v9
                replace I7 := I7.toks v9
                rw [S_append]
                refine gs_storeTok I7 (by simp only [List.length_append, List.length_cons, List.length_nil, List.length_take, List.length_tail]; omega) ?_
                intro s9 I7
                refine wpAny_execs_nil ?_

                refine ⟨r2.length + 1, ?_, r2, tok5 ++ [c2], _, I7, ?_, rfl⟩
                · rw [hk5]; simp
                · rw [tkQ_on h1 h2] at hT5; exact hT5
          · intro s6 hr6 I6
            subst hr6
            obtain ⟨rfl, rfl⟩ : tok5 = TK ∧ [] = R := by rw [tkQ_nil] at hT5; simpa using hT5
            refine wpAny_execs_nil ?_
            refine wpAny_execs_nil ?_
            exact ⟨0, by omega, .inr ⟨rfl, rfl, _, I6⟩⟩

        · refine ite_neg (by simpa using hq1) ?_
          (unfold tkS at hT; rw [if_neg hw, if_neg hq1] at hT)
          try dsimp only
          refine wpAny_execs_cons (wpAny_If ?_)
          refine wpAny_isTrue_Compare1 ?_
          refine gs_ch I3 ?_
          refine gs_lit I3 ?_
          intro t12 s12 I3
          refine eq_str ?_
          refine wpAny_truthy_bool ?_
          rw [show ((S [c2] : Str) == Str.ofString "\\") = decide (c2 = 92) from one_is c2 92]

          by_cases hb1 : c2 = 92
          · refine ite_pos (by simpa using hb1) ?_
            try dsimp only
            refine wpAny_execs_cons (wpAny_Assign_Name ?_)
            refine MethodCall_ ?_
            refine gs_self I3 ?_
            refine gs_meth C H'.hx I3 ?_
            refine callWith_K0 (gs_K C I3) (by k_is) ?_
            refine wpAny_call (gs_read C.less H' I3 ?_)
            intro s8 t8 I8
            refine gs_storeCh I8 ?_
            intro s10 I3
            refine wpAny_execs_nil ?_
            try dsimp only
            refine wpAny_execs_cons (wpAny_AugAssign_Name ?_)
            refine gs_tokn I3 ?_
            intro tk9
            refine gs_ch I3 ?_
            refine SB.iadd (hsz := by rw [S_len, S_len]; have h9 := H.len; have h11 : sizeLine = 16777216 := rfl; simp only [List.length_cons, List.length_nil, List.length_take]; omega) ?_
            intro u9 v9
            replace I3 := I3.toks v9
            rw [S_append]
            refine gs_storeTok I3 (by simp only [List.length_append, List.length_cons, List.length_nil, List.length_take, List.length_tail]; omega) ?_
            intro s9 I3

            try dsimp only
            have hT : tkP ([] ++ r1.take 1) r1.tail = (TK, R) := by
              rw [if_pos hb1] at hT
              cases r1 with
              | nil => simpa [tkP] using hT
              | cons d r3 => simpa using hT
            refine wpAny_execs_cons (wpAny_For ?_)
            refine gs_fiter I3 ?_
            refine gs_iter I3 ?_
            refine forL (I := fun k s' => ∃ r tok cv, GS w g L' s x dx st T it q P k1 k2 k3 k4 tw ts text ((q, methodObj (.ref 59) (.ref x)) :: (P, listOf #[] cP) :: rest) (ln + nls r0) false cv r tok s' ∧ tkP tok r = (TK, R) ∧ k = r.length + 1) ?_ (_ + 1) ⟨_, _, _, I3, hT, rfl⟩
            intro k5 s5 ⟨r5, tok5, cv5, I5, hT5, hk5⟩
            refine gs_next C H' hq I5 ?_ ?_
            · intro c2 r2 s6 t6 hr6 I6
              subst hr6
              have room5 := gs_room I5
              simp only [List.length_cons] at room5
              refine wpAny_assign_Name (gs_storeCh I6 ?_)
              intro s7 I7
              refine wpAny_execs_cons (wpAny_If ?_)
              refine wpAny_isTrue_Compare1 ?_
              refine gs_ch I7 ?_
              refine Attribute_name ?_
              refine gs_self I7 ?_
              refine gs_ws C H'.hx I7 ?_
              intro t11
              replace I7 := I7.toks t11
              refine in_str ?_
              refine wpAny_truthy_bool ?_
              rw [ws_is]
              by_cases h1 : isWs c2 = true
              · refine ite_pos h1 ?_
                try dsimp only
                refine wpAny_execs_cons (wpAny_Return_some ?_)
                obtain ⟨rfl, rfl⟩ : tok5 = TK ∧ r2 = R := by rw [tkP_end h1] at hT5; simpa using hT5
                obtain ⟨tk, m', F, m2, bk⟩ := gen _ _ _ I7
                exact nameX_L F m2 bk
              · refine ite_neg (by simpa using h1) ?_
                try dsimp only
                refine wpAny_execs_cons (wpAny_If ?_)
                refine wpAny_isTrue_Compare1 ?_
                refine gs_ch I7 ?_
                refine gs_lit I7 ?_
                intro t12 s12 I7
                refine eq_str ?_
                refine wpAny_truthy_bool ?_
                rw [show ((S [c2] : Str) == Str.ofString "\\") = decide (c2 = 92) from one_is c2 92]
                by_cases h2 : c2 = 92
                · refine ite_pos (by simpa using h2) ?_
                  try dsimp only
                  refine wpAny_execs_cons (wpAny_Assign_Name ?_)
                  refine MethodCall_ ?_
                  refine gs_self I7 ?_
                  refine gs_meth C H'.hx I7 ?_
                  refine callWith_K0 (gs_K C I7) (by k_is) ?_
                  refine wpAny_call (gs_read C.less H' I7 ?_)
                  intro s8 t8 I8
                  refine gs_storeCh I8 ?_
                  intro s10 I10
                  refine wpAny_execs_nil ?_
                  refine wpAny_execs_nil ?_
                  try dsimp only
                  refine wpAny_execs_cons (wpAny_AugAssign_Name ?_)
                  refine gs_tokn I10 ?_
                  intro tk9
                  refine gs_ch I10 ?_
                  refine SB.iadd (hsz := by rw [S_len, S_len]; have h9 := H.len; have h11 : sizeLine = 16777216 := rfl; simp only [List.length_cons, List.length_nil, List.length_take]; omega) ?_
                  intro u9 v9
                  replace I10 := I10.toks v9
                  rw [S_append]
                  refine gs_storeTok I10 (by simp only [List.length_append, List.length_cons, List.length_nil, List.length_take, List.length_tail]; omega) ?_
                  intro s9 I10
                  refine wpAny_execs_nil ?_

                  cases r2 with
                  | nil =>
                    refine ⟨1, ?_, [], tok5, _, by simpa using I10, ?_, rfl⟩
                    · rw [hk5]; simp
                    · rw [tkP_esc0 h1 h2] at hT5; rw [tkP_nil]; exact hT5
                  | cons d r3 =>
                    refine ⟨r3.length + 1, ?_, r3, tok5 ++ [d], _, I10, ?_, rfl⟩
                    · rw [hk5]; simp
                    · rw [tkP_esc h1 h2] at hT5; exact hT5
                · refine ite_neg (by simpa using h2) ?_
                  refine wpAny_execs_nil ?_
                  refine wpAny_execs_nil ?_
                  try dsimp only
                  refine wpAny_execs_cons (wpAny_AugAssign_Name ?_)
                  refine gs_tokn I7 ?_
                  intro tk9
                  refine gs_ch I7 ?_
                  refine SB.iadd (hsz := by rw [S_len, S_len]; have h9 := H.len; have h11 : sizeLine = 16777216 := rfl; simp only [List.length_cons, List.length_nil, List.length_take]; omega) ?_
                  intro u9 v9
                  replace I7 := I7.toks v9
                  rw [S_append]
                  refine gs_storeTok I7 (by simp only [List.length_append, List.length_cons, List.length_nil, List.length_take, List.length_tail]; omega) ?_
                  intro s9 I7
                  refine wpAny_execs_nil ?_

                  refine ⟨r2.length + 1, ?_, r2, tok5 ++ [c2], _, I7, ?_, rfl⟩
                  · rw [hk5]; simp
                  · rw [tkP_on h1 h2] at hT5; exact hT5
            · intro s6 hr6 I6
              subst hr6
              obtain ⟨rfl, rfl⟩ : tok5 = TK ∧ [] = R := by rw [tkP_nil] at hT5; simpa using hT5
              refine wpAny_execs_nil ?_
              refine wpAny_execs_nil ?_
              exact ⟨0, by omega, .inr ⟨rfl, rfl, _, I6⟩⟩

          · refine ite_neg (by simpa using hb1) ?_
            rw [if_neg hb1] at hT
            refine wpAny_execs_nil ?_
            try dsimp only
            refine wpAny_execs_cons (wpAny_AugAssign_Name ?_)
            refine gs_tokn I3 ?_
            intro tk9
            refine gs_ch I3 ?_
            refine SB.iadd (hsz := by rw [S_len, S_len]; have h9 := H.len; have h11 : sizeLine = 16777216 := rfl; simp only [List.length_cons, List.length_nil, List.length_take]; omega) ?_
            intro u9 v9
            replace I3 := I3.toks v9
            rw [S_append]
            refine gs_storeTok I3 (by simp only [List.length_append, List.length_cons, List.length_nil, List.length_take, List.length_tail]; omega) ?_
            intro s9 I3

            try dsimp only
            have hT : tkP ([] ++ [c2]) r1 = (TK, R) := hT
            refine wpAny_execs_cons (wpAny_For ?_)
            refine gs_fiter I3 ?_
            refine gs_iter I3 ?_
            refine forL (I := fun k s' => ∃ r tok cv, GS w g L' s x dx st T it q P k1 k2 k3 k4 tw ts text ((q, methodObj (.ref 59) (.ref x)) :: (P, listOf #[] cP) :: rest) (ln + nls r0) false cv r tok s' ∧ tkP tok r = (TK, R) ∧ k = r.length + 1) ?_ (_ + 1) ⟨_, _, _, I3, hT, rfl⟩
            intro k5 s5 ⟨r5, tok5, cv5, I5, hT5, hk5⟩
            refine gs_next C H' hq I5 ?_ ?_
            · intro c2 r2 s6 t6 hr6 I6
              subst hr6
              have room5 := gs_room I5
              simp only [List.length_cons] at room5
              refine wpAny_assign_Name (gs_storeCh I6 ?_)
              intro s7 I7
              refine wpAny_execs_cons (wpAny_If ?_)
              refine wpAny_isTrue_Compare1 ?_
              refine gs_ch I7 ?_
              refine Attribute_name ?_
              refine gs_self I7 ?_
              refine gs_ws C H'.hx I7 ?_
              intro t11
              replace I7 := I7.toks t11
              refine in_str ?_
              refine wpAny_truthy_bool ?_
              rw [ws_is]
              by_cases h1 : isWs c2 = true
              · refine ite_pos h1 ?_
                try dsimp only
                refine wpAny_execs_cons (wpAny_Return_some ?_)
                obtain ⟨rfl, rfl⟩ : tok5 = TK ∧ r2 = R := by rw [tkP_end h1] at hT5; simpa using hT5
                obtain ⟨tk, m', F, m2, bk⟩ := gen _ _ _ I7
                exact nameX_L F m2 bk
              · refine ite_neg (by simpa using h1) ?_
                try dsimp only
                refine wpAny_execs_cons (wpAny_If ?_)
                refine wpAny_isTrue_Compare1 ?_
                refine gs_ch I7 ?_
                refine gs_lit I7 ?_
                intro t12 s12 I7
                refine eq_str ?_
                refine wpAny_truthy_bool ?_
                rw [show ((S [c2] : Str) == Str.ofString "\\") = decide (c2 = 92) from one_is c2 92]
                by_cases h2 : c2 = 92
                · refine ite_pos (by simpa using h2) ?_
                  try dsimp only
                  refine wpAny_execs_cons (wpAny_Assign_Name ?_)
                  refine MethodCall_ ?_
                  refine gs_self I7 ?_
                  refine gs_meth C H'.hx I7 ?_
                  refine callWith_K0 (gs_K C I7) (by k_is) ?_
                  refine wpAny_call (gs_read C.less H' I7 ?_)
                  intro s8 t8 I8
                  refine gs_storeCh I8 ?_
                  intro s10 I10
                  refine wpAny_execs_nil ?_
                  refine wpAny_execs_nil ?_
                  try dsimp only
                  refine wpAny_execs_cons (wpAny_AugAssign_Name ?_)
                  refine gs_tokn I10 ?_
                  intro tk9
                  refine gs_ch I10 ?_
                  refine SB.iadd (hsz := by rw [S_len, S_len]; have h9 := H.len; have h11 : sizeLine = 16777216 := rfl; simp only [List.length_cons, List.length_nil, List.length_take]; omega) ?_
                  intro u9 v9
                  replace I10 := I10.toks v9
                  rw [S_append]
                  refine gs_storeTok I10 (by simp only [List.length_append, List.length_cons, List.length_nil, List.length_take, List.length_tail]; omega) ?_
                  intro s9 I10
                  refine wpAny_execs_nil ?_

                  cases r2 with
                  | nil =>
                    refine ⟨1, ?_, [], tok5, _, by simpa using I10, ?_, rfl⟩
                    · rw [hk5]; simp
                    · rw [tkP_esc0 h1 h2] at hT5; rw [tkP_nil]; exact hT5
                  | cons d r3 =>
                    refine ⟨r3.length + 1, ?_, r3, tok5 ++ [d], _, I10, ?_, rfl⟩
                    · rw [hk5]; simp
                    · rw [tkP_esc h1 h2] at hT5; exact hT5
                · refine ite_neg (by simpa using h2) ?_
                  refine wpAny_execs_nil ?_
                  refine wpAny_execs_nil ?_
                  try dsimp only
                  refine wpAny_execs_cons (wpAny_AugAssign_Name ?_)
                  refine gs_tokn I7 ?_
                  intro tk9
                  refine gs_ch I7 ?_
                  refine SB.iadd (hsz := by rw [S_len, S_len]; have h9 := H.len; have h11 : sizeLine = 16777216 := rfl; simp only [List.length_cons, List.length_nil, List.length_take]; omega) ?_
                  intro u9 v9
                  replace I7 := I7.toks v9
                  rw [S_append]
                  refine gs_storeTok I7 (by simp only [List.length_append, List.length_cons, List.length_nil, List.length_take, List.length_tail]; omega) ?_
                  intro s9 I7
                  refine wpAny_execs_nil ?_

                  refine ⟨r2.length + 1, ?_, r2, tok5 ++ [c2], _, I7, ?_, rfl⟩
                  · rw [hk5]; simp
                  · rw [tkP_on h1 h2] at hT5; exact hT5
            · intro s6 hr6 I6
              subst hr6
              obtain ⟨rfl, rfl⟩ : tok5 = TK ∧ [] = R := by rw [tkP_nil] at hT5; simpa using hT5
              refine wpAny_execs_nil ?_
              refine wpAny_execs_nil ?_
              exact ⟨0, by omega, .inr ⟨rfl, rfl, _, I6⟩⟩
    · intro s2 hr I2
      subst hr
      simp only [tkS, Prod.mk.injEq] at hT
      obtain ⟨rfl, rfl⟩ := hT
      obtain ⟨tk, m', F, m2, bk⟩ := gen _ _ _ I2
      refine wpAny_execs_cons (wpAny_Return_some ?_)
      exact nameX_L F m2 bk
  · refine gs_over C I ?_
    intro s2 I2
    subst hR
    obtain ⟨tk, m', F, m2, bk⟩ := gen _ _ _ I2
    refine wpAny_execs_cons (wpAny_Return_some ?_)
    exact nameX_L F m2 bk
end
end
-- W1
section
/-- a row of a table of headers, as data -/
def rowD (p : List Nat × List Nat) : Dat := .tuple [.str (S p.1), .str (S p.2)]
abbrev tupO (vs : List Value) (n : Nat) : Obj := { cls := .type "tuple", data := .seq vs.toArray n }
theorem pair_of {news : List (Addr × Obj)} {v : Value} {d e : Dat} (h : DatIn news v (.tuple [d, e])) : ∃ t a b n, v = .ref t ∧ (t, tupO [a, b] n) ∈ news ∧ DatIn news a d ∧ DatIn news b e := by
  cases h with
  | tuple hm r =>
    cases r with
    | cons h1 r =>
      cases r with
      | cons h2 r =>
        cases r
        exact ⟨_, _, _, _, rfl, hm, h1, h2⟩
theorem triple_of {news : List (Addr × Obj)} {v : Value} {d e f : Dat} (h : DatIn news v (.tuple [d, e, f])) : ∃ t a b c n, v = .ref t ∧ (t, tupO [a, b, c] n) ∈ news ∧ DatIn news a d ∧ DatIn news b e ∧ DatIn news c f := by
  cases h with
  | tuple hm r =>
    cases r with
    | cons h1 r =>
      cases r with
      | cons h2 r =>
        cases r with
        | cons h3 r =>
          cases r
          exact ⟨_, _, _, _, _, rfl, hm, h1, h2, h3⟩
theorem str_of {news : List (Addr × Obj)} {v : Value} {x : Str} (h : DatIn news v (.str x)) : ∃ t, v = .str x t := by
  cases h; exact ⟨_, rfl⟩
theorem int_of {news : List (Addr × Obj)} {v : Value} {x : Int} (h : DatIn news v (.int x)) : ∃ t, v = .int x t := by
  cases h; exact ⟨_, rfl⟩
theorem DatAll.at {news : List (Addr × Obj)} {vs : List Value} {ds : List Dat} (h : DatAll news vs ds) {i : Nat} {v : Value} (hi : vs[i]? = some v) : ∃ d, ds[i]? = some d ∧ DatIn news v d := by
  have hl := h.length
  obtain ⟨hlt, e⟩ := List.getElem?_eq_some_iff.mp hi
  obtain ⟨w, hw, hd⟩ := DatAll.get h (k := i) (by omega)
  rw [hi] at hw
  cases hw
  exact ⟨_, List.getElem?_eq_getElem (by omega), hd⟩
section
variable {K : Frag} {pr : Program} {loose : List Str} {mean : ExcName → Option Value} {mg mb : Str → Option Value} {prog : Program} {w : World} {n : Nat} {A : Around} {env : Env} {L : Addr} {h₀ : Heap}
  {m : Str → Option Value} {news : List (Addr × Obj)} {s : Shared} {E : Value → Shared → Prop}
theorem r_unpack2 {e1 e2 : PySem.Expr} {k : Nat} {pos : Pos} {t : Addr} {a b : Value} {c : Nat} {Q : Unit → Shared → Prop} (hh : A.handled = none) (G : Lg h₀ L s.heap m news) (hm : (t, tupO [a, b] c) ∈ news)
    (h : ∀ h', Lg h₀ L h' m news → wpAny (model prog w) A (assign e1 env a) (fun _ s₁ => wpAny (model prog w) A (assign e2 env b) Q E s₁) E { s with heap := h' })
    (ha : assignEach [e1, e2] env = [(false, assign e1 env), (false, assign e2 env)] := by rfl) :
    wpAny (model prog w) A (assign (.Tuple [e1, e2] k pos) env (.ref t)) Q E s := by
  refine unpackN_ G.F G.N (G.N.isTup hm) hh (by rw [ha]; rfl) (by rw [ha]; rfl) fun h' F' N' => ?_
  rw [ha]
  exact assignInOrder_cons (wpAny_mono (h h' ⟨F', N', G.nd⟩) (fun _ s' z => assignInOrder_cons (wpAny_mono z (fun _ s'' z' => assignInOrder_nil z') fun _ _ x => x)) fun _ _ x => x)
theorem r_unpack3 {e1 e2 e3 : PySem.Expr} {k : Nat} {pos : Pos} {t : Addr} {a b c : Value} {d : Nat} {Q : Unit → Shared → Prop} (hh : A.handled = none) (G : Lg h₀ L s.heap m news) (hm : (t, tupO [a, b, c] d) ∈ news)
    (h : ∀ h', Lg h₀ L h' m news → wpAny (model prog w) A (assign e1 env a) (fun _ s₁ => wpAny (model prog w) A (assign e2 env b) (fun _ s₂ => wpAny (model prog w) A (assign e3 env c) Q E s₂) E s₁) E { s with heap := h' })
    (ha : assignEach [e1, e2, e3] env = [(false, assign e1 env), (false, assign e2 env), (false, assign e3 env)] := by rfl) :
    wpAny (model prog w) A (assign (.Tuple [e1, e2, e3] k pos) env (.ref t)) Q E s := by
  refine unpackN_ G.F G.N (G.N.isTup hm) hh (by rw [ha]; rfl) (by rw [ha]; rfl) fun h' F' N' => ?_
  rw [ha]
  exact assignInOrder_cons (wpAny_mono (h h' ⟨F', N', G.nd⟩) (fun _ s' z => assignInOrder_cons (wpAny_mono z (fun _ s'' z' => assignInOrder_cons (wpAny_mono z' (fun _ s3 z3 => assignInOrder_nil z3) fun _ _ x => x)) fun _ _ x => x)) fun _ _ x => x)
/-- an item of a tuple of the ledger -/
theorem r_tup {value slice : PySem.Expr} {l : Addr} {vs : List Value} {c : Nat} {k : Int} {u : Tok} {v : Value} {Q : Value → Shared → Prop}
    (G : Lg h₀ L s.heap m news) {j : Nat} (hm : (l, tupO vs c) ∈ news) (h0 : -(2 ^ 63) ≤ k) (hhi : k < 2 ^ 63) (hj : seqIndex? k vs.length = some j) (hx : vs[j]? = some v) (h : Q v s)
    (hs : subscripted slice false (.ref l) (.int k u) = operate [.ref l, .int k u] (getItem (.ref l) (.int k u)) := by with_unfolding_all rfl) :
    wpAny (model prog w) A (subscriptTail value slice (.ref l) (.int k u)) Q E s :=
  item_tupleT (G.N.isTup hm) h0 hhi hj hx h hs
end
theorem find_at {α : Type} {f : α → Bool} : ∀ {l : List α} {i : Nat} {p : α}, l[i]? = some p → f p = true → (∀ q ∈ l.take i, f q = false) → l.find? f = some p
  | [], _, _, h, _, _ => by simp at h
  | a :: r, 0, p, h, hf, _ => by
    simp only [List.getElem?_cons_zero, Option.some.injEq] at h
    subst h
    rw [List.find?_cons, hf]
  | a :: r, i + 1, p, h, hf, hn => by
    have ha := hn a (by simp)
    rw [List.find?_cons, ha]
    exact find_at (by simpa using h) hf fun q hq => hn q (by simp [hq])
theorem take_next {α : Type} {f : α → Prop} {l : List α} {i : Nat} {p : α} (h : l[i]? = some p) (ha : ∀ q ∈ l.take i, f q) (hp : f p) : ∀ q ∈ l.take (i + 1), f q := by
  intro q hq
  obtain ⟨hl, e⟩ := List.getElem?_eq_some_iff.mp h
  rw [List.take_succ, List.mem_append] at hq
  rcases hq with hq | hq
  · exact ha q hq
  · rw [h] at hq
    simp at hq
    rw [hq]; exact hp

/-- the tuples of a ledger stand in another one -/
def Tups (a b : List (Addr × Obj)) : Prop := ∀ t vs n, (t, tupO vs n) ∈ a → (t, tupO vs n) ∈ b
theorem Tups.rows {a b : List (Addr × Obj)} (h : Tups a b) : ∀ {its : List Value} {rows : List (List Nat × List Nat)}, DatAll a its (rows.map rowD) → DatAll b its (rows.map rowD)
  | [], [], _ => .nil
  | [], _ :: _, x => by cases x
  | _ :: _, [], x => by cases x
  | v :: vs, p :: ps, x => by
    cases x with
    | cons hd r =>
      obtain ⟨tu, va, vb, cu, rfl, hm, ha, hb⟩ := pair_of hd
      obtain ⟨ta, rfl⟩ := str_of ha
      obtain ⟨tb, rfl⟩ := str_of hb
      exact .cons (.tuple (h _ _ _ hm) (.cons (.str _ _) (.cons (.str _ _) .nil))) (Tups.rows h r)
theorem Tups.of {a b : List (Addr × Obj)} (h : ∀ p ∈ a, p ∈ b) : Tups a b := fun _ _ _ hm => h _ hm
theorem Tups.trans {a b c : List (Addr × Obj)} (h : Tups a b) (k : Tups b c) : Tups a c := fun _ _ _ hm => k _ _ _ (h _ _ _ hm)
section
variable {L : Addr} {h₀ h : Heap} {m : Str → Option Value} {news : List (Addr × Obj)}
theorem Lg.ne {a b : Addr} {o o' : Obj} (G : Lg h₀ L h m news) (ha : (a, o) ∈ news) (hb : (b, o') ∈ news) (h : o ≠ o') : a ≠ b := by
  intro e
  subst e
  have h1 := (G.N _ ha).1
  have h2 := (G.N _ hb).1
  rw [h1] at h2
  exact h (Option.some.inj h2)
theorem mem_set_of {i : Nat} {a : Addr} {o : Obj} {p q : Addr × Obj} (hi : news[i]? = some (a, o)) (hp : p ∈ news) (hne : p.1 ≠ a) : p ∈ news.set i q := by
  obtain ⟨j, hl, hj⟩ := List.getElem_of_mem hp
  by_cases e : i = j
  · subst e
    obtain ⟨hl', e'⟩ := List.getElem?_eq_some_iff.mp hi
    rw [hj] at e'
    exact absurd (by rw [e']) hne
  · rw [List.mem_iff_getElem]
    exact ⟨j, by simpa using hl, by rw [List.getElem_set_ne e, hj]⟩
theorem Lg.tups_set {i : Nat} {a : Addr} {its : Array Value} {c : Nat} {q : Addr × Obj} (G : Lg h₀ L h m news) (hi : news[i]? = some (a, listOf its c)) : Tups news (news.set i q) := fun t vs n hm =>
  mem_set_of hi hm (G.ne hm (List.mem_of_getElem? hi) (by intro e; have := congrArg Obj.cls e; simp at this))
end
end
-- W2
section
set_option maxHeartbeats 1000000
section
variable {prog : Program} {w : World} {A : Around} {L : Addr} {h₀ : Heap}
  {m : Str → Option Value} {news : List (Addr × Obj)} {s : Shared} {E : Value → Shared → Prop}
theorem letGo_any {M : Model} {Q : Unit → Shared → Prop} : ∀ (l keep : List Value), Q () s → wpAny M A (letGo l keep) Q E s
  | [], _, h => wpAny_pure h
  | _ :: r, keep, h => by
    unfold letGo
    refine wpAny_bind (wpAny_holding ?_)
    unfold point
    k_node
    exact wpAny_pure (letGo_any r keep h)
/-- all of a list stored anew -/
theorem r_setAll {l v : Addr} {its vs : Array Value} {c cv i : Nat} {Q : Unit → Shared → Prop}
    (G : Lg h₀ L s.heap m news) (hi : news[i]? = some (l, listOf its c)) (hv : (v, listOf vs cv) ∈ news) (hne : l ≠ v) (hsz : its.size + vs.size ≤ 1000000)
    (h : ∀ h' c', Lg h₀ L h' m (news.set i (l, listOf vs c')) → Q () { s with heap := h' }) :
    wpAny (model prog w) A (setItem (.ref l) (.ref s.heap.objs.size) (.ref v)) Q E { s with heap := s.heap.push { cls := .type "slice", data := .fields #[.none, .none, .none] } } := by
  have G' := G.more ({ cls := .type "slice", data := .fields #[.none, .none, .none] } : Obj)
  have ho := G'.mem (List.mem_of_getElem? hi)
  have hov := G'.mem hv
  have hos : (s.heap.push ({ cls := .type "slice", data := .fields #[.none, .none, .none] } : Obj)).get? s.heap.objs.size = some { cls := .type "slice", data := .fields #[.none, .none, .none] } := Heap.get?_push_size _ rfl
  generalize hH : s.heap.push ({ cls := .type "slice", data := .fields #[.none, .none, .none] } : Obj) = H at *
  generalize hS : ({ s with heap := H } : Shared) = S'
  have eH : S'.heap = H := by rw [← hS]
  have hl : S'.heap.IsList l its := ⟨_, by rw [eH]; exact ho, rfl, c, rfl⟩
  have hTs : S'.TypeIs (.ref s.heap.objs.size) "slice" := ⟨_, by rw [eH]; exact hos, rfl⟩
  have hTv : S'.TypeIs (.ref v) "list" := ⟨_, by rw [eH]; exact hov, rfl⟩
  have hos' : S'.heap.get? s.heap.objs.size = some { cls := .type "slice", data := .fields #[.none, .none, .none] } := by rw [eH]; exact hos
  unfold setItem
  refine wpAny_holding ?_
  refine wpAny_bind (wpAny_sequenceKey hl.typeIs (by decide) ?_)
  refine wpAny_bind (wpAny_callSpecial?_slot (name := Str.ofString "__setitem__") hl.typeIs slot_list_setitem
    (wpAny_call_entry slot_list_setitem hl.typeIs entry_list_setitem ?_ (args_list_setitem _ _ _)))
  show wpAny _ _ (Builtin.List.listSubscript? (.ref s.heap.objs.size) >>= _) _ _ S'
  refine wpAny_bind ?_
  unfold Builtin.List.listSubscript?
  refine wpAny_bind (wpAny_specialOf hTs slice_no_index ?_)
  simp only [Option.isNone_none, if_true]
  refine wpAny_pure ?_
  show wpAny _ _ (typeOf (.ref s.heap.objs.size) >>= _) _ _ S'
  refine wpAny_bind (wpAny_typeOf hTs ?_)
  rw [if_neg (by decide)]
  rw [listSliceParts_eq]
  refine wpAny_bind (wpAny_bind (wpAny_field hos' rfl (x := .none) rfl (wpAny_bind (wpAny_listPart .none ?_))))
  rw [if_neg (by decide)]
  refine wpAny_bind (wpAny_field hos' rfl (x := .none) rfl (wpAny_bind (wpAny_listPart .none ?_)))
  refine wpAny_bind (wpAny_field hos' rfl (x := .none) rfl (wpAny_bind (wpAny_listPart .none (wpAny_pure ?_))))
  try dsimp only
  rw [if_neg (by simpa [Builtin.List.listSameRef] using hne)]
  have hov' : S'.heap.get? v = some (listOf vs cv) := by rw [eH]; exact hov
  have ho' : S'.heap.get? l = some (listOf its c) := by rw [eH]; exact ho
  refine wpAny_bind ?_
  unfold Builtin.List.listAllItems
  refine wpAny_bind (wpAny_typeOf hTv ?_)
  rw [if_pos (by decide)]
  unfold Builtin.List.listItems
  refine wpAny_bind (wpAny_seqItems hov' rfl (wpAny_pure ?_))
  refine wpAny_bind (wpAny_bind (wpAny_seqItems ho' rfl (wpAny_pure ?_)))
  refine wpAny_bind (wpAny_of_eq (sliceIndices_raw none none none its.size (by simp)) ?_)
  have hb : sliceBounds none none none its.size = (0, (its.size : Int), 1) := by simp [sliceBounds]
  rw [hb]
  try dsimp only
  rw [if_pos (by decide)]
  refine wpAny_bind (wpAny_rule ?_)
  rw [if_neg (by simp only [Builtin.List.listTooLong, decide_eq_true_eq, sizeLine_eq]; omega)]
  refine wpAny_bind ?_
  unfold Builtin.List.listUpdate
  refine wpAny_updateSeq ho' rfl ?_ (by rw [sizeLine_eq]; omega) (by simp only [Array.size_append, Array.size_extract]; rw [sizeLine_eq]; omega)
  refine wpAny_bind (letGo_any _ _ ?_)
  refine wpAny_bind (wpAny_pure (wpAny_pure ⟨.none, rfl, wpAny_pure ?_⟩))
  subst hS
  dsimp only at *
  have ef : ∀ xs : Array Value, xs = its → (xs.extract 0 (0 : Int).toNat ++ vs ++ xs.extract (max (0 : Int) (its.size : Int)).toNat xs.size) = vs := by
    intro xs e
    subst e
    simp
  obtain ⟨n', hd'⟩ := Obj.data_mapSeq (o := W.listOf its c) rfl (fun xs => xs.extract 0 (0 : Int).toNat ++ vs ++ xs.extract (max (0 : Int) (its.size : Int)).toNat xs.size)
  refine h _ n' ?_
  refine G'.set i hi (Heap.SameBut.update ..) ?_
  rw [Heap.get?_update_self _ ho (Obj.isFreed_of_seq hd')]
  rw [show Obj.mapSeq (fun xs => xs.extract 0 (0 : Int).toNat ++ vs ++ xs.extract (max (0 : Int) (its.size : Int)).toNat xs.size) (W.listOf its c) = ⟨.type "list", none, (Obj.mapSeq (fun xs => xs.extract 0 (0 : Int).toNat ++ vs ++ xs.extract (max (0 : Int) (its.size : Int)).toNat xs.size) (W.listOf its c)).data, #[]⟩ from by simp [Obj.mapSeq], hd', ef its rfl]
/-- all of a list in a new one -/
theorem r_allOf {value slice : PySem.Expr} {l : Addr} {its : Array Value} {c : Nat} {Q : Value → Shared → Prop} (G : Lg h₀ L s.heap m news) (hl : (l, listOf its c) ∈ news) (hsz : its.size ≤ 1000000)
    (h : ∀ D h', Lg h₀ L h' m ((D, listOf its 0) :: news) → Q (.ref D) { s with heap := h' })
    (hs : subscripted slice false (.ref l) (.ref s.heap.objs.size) = operate [.ref s.heap.objs.size, .ref l] (getItem (.ref l) (.ref s.heap.objs.size)) := by with_unfolding_all rfl)
    (ht : ∀ r, letTemporaryGo value (.ref l) r = pure () := by intro _; with_unfolding_all rfl) :
    wpAny (model prog w) A (subscriptTail value slice (.ref l) (.ref s.heap.objs.size)) Q E { s with heap := s.heap.push { cls := .type "slice", data := .fields #[.none, .none, .none] } } := by
  refine slice_list G.F G.N (G.lst hl) .none .none (fun h' F' N' => h _ h' ?_) hs ht (Nat.le_trans hsz (by decide))
  rw [show slicePick its none none none = its from slicePick_all its] at N'
  exact G.cons F' N' fun p hp => Nat.lt_succ_of_lt (Heap.lt_size (G.N p hp).1)

section
variable {I C c : Addr} {oI oC o : Obj} {m₂ : Str → Option Value} {x : Str} {v : Value} {scope : Scope} {cl : List (Str × Addr)} {env : Env} {pos : Pos} {M : Model} {rest : List (Addr × Obj)}
theorem cn_var {Q : Value → Shared → Prop} (G : Lg h₀ L s.heap m ((I, oI) :: (C, oC) :: rest)) (hC : LCg.NsObj oC m₂) (hx : m₂ x = some v) (h : Q v s)
    (hk : (compEnvC scope cl C env).scope.kind = .function := by rfl) (hl : (compEnvC scope cl C env).kindOf x = some .local := by rfl) (hd : (x == ("__debug__" : Str)) = false := by decide) :
    wpAny M A (eval (.Name x pos) (compEnvC scope cl C env)) Q E s := ldVarK (hC.ns (G.mem (.tail _ (.head _)))) hx h hk hl hd
theorem cn_cell {Q : Value → Shared → Prop} (G : Lg h₀ L s.heap m news) (hc : cl.lookup x = some c) (hm : (c, o) ∈ news) (hd : o.data = .cell (some v)) (h : Q v s)
    (hk : (compEnvC scope cl C env).scope.kind = .function := by rfl) (hl : (compEnvC scope cl C env).kindOf x = some .cell := by rfl) (hdb : (x == ("__debug__" : Str)) = false := by decide) :
    wpAny M A (eval (.Name x pos) (compEnvC scope cl C env)) Q E s := ldCellK hc ⟨o, G.mem hm, hd⟩ h hk hl hdb
end
end
end
local macro_rules | `(tactic| walk_at "nm") => do
  let G := Lean.mkIdent `G
  let C := Lean.mkIdent `C
  let D := Lean.mkIdent `D
  `(tactic| ((rename Lg _ _ _ _ _ => $G); (rename Cx _ _ _ _ _ _ _ _ _ _ _ => $C); (first | refine nameX_L (Lg.F $G) (by first | rfl | assumption) ?_ | refine nameX_K (Lg.F $G) (Cx.X $C) (topRead_of (Cx.T $C)) (by k_is) ?_ | refine nameX_B (Lg.F $G) (Cx.X $C) (topRead_of (Cx.T $C)) (by k_is) (by boot_fast) (by decide) ?_ | refine nameX_C (Lg.N $G) (by rfl) (by walk_at "mem") (by with_reducible assumption) ?_)))
local macro_rules | `(tactic| walk_at "cw") => do
  let G := Lean.mkIdent `G
  let C := Lean.mkIdent `C
  let D := Lean.mkIdent `D
  `(tactic| ((rename Lg _ _ _ _ _ => $G); (rename Cx _ _ _ _ _ _ _ _ _ _ _ => $C); (first
  | ((with_reducible show wpAny _ _ (callWith _ (Value.builtin _) _ _ _) _ _ _); first | with_reducible refine callWith_method0 ?_ | refine callWith_method1 ?_)
  | ((with_reducible show wpAny _ _ (callWith _ (Value.type _) _ _ _) _ _ _); first | refine Pv.callWith_type1 ?_ | refine Pv.callWith_type0 ?_)
  | ((with_reducible show wpAny _ _ (callWith _ (Value.ref _) _ _ []) _ _ _); first | refine callWith_K (Cx.X $C) (by k_is) ?_ | refine callWith_K0 ((Cx.X $C).keeps (Lg.F $G).keep) (by k_is) ?_)
  | ((with_reducible show wpAny _ _ (callWith _ (Value.ref _) _ _ _) _ _ _); first | refine callWith_KW (Cx.X $C) (by k_is) (by rfl) ?_ | refine callWith_KW0 (Cx.X $C) (by k_is) (by rfl) ?_))))
local macro_rules | `(tactic| walk_at "st") => do
  let G := Lean.mkIdent `G
  let C := Lean.mkIdent `C
  let D := Lean.mkIdent `D
  `(tactic| ((rename Lg _ _ _ _ _ => $G); refine r_store $G ?_; clear $G; intro h' $G; (try dsimp only)))
local macro_rules | `(tactic| walk_at "mem") => do
  let G := Lean.mkIdent `G
  let C := Lean.mkIdent `C
  let D := Lean.mkIdent `D
  `(tactic| (repeat (first | with_reducible exact List.mem_cons_self | with_reducible assumption | with_reducible apply List.mem_cons_of_mem)))
local macro_rules | `(tactic| walk_at "ga") => do
  let G := Lean.mkIdent `G
  let C := Lean.mkIdent `C
  let D := Lean.mkIdent `D
  `(tactic| ((rename Lg _ _ _ _ _ => $G); (rename Cx _ _ _ _ _ _ _ _ _ _ _ => $C); refine get_own (Lg.F $G) (Cx.X $C) (InstAt.of_news (Lg.N $G) (by walk_at "mem") (by walk_at "mem")) (by k_is) (by k_is) (by k_is) (by k_is) (by rfl) rfl ?_))
local macro_rules | `(tactic| walk_at "gm") => do
  let G := Lean.mkIdent `G
  let C := Lean.mkIdent `C
  let D := Lean.mkIdent `D
  `(tactic| ((rename Lg _ _ _ _ _ => $G); (rename Cx _ _ _ _ _ _ _ _ _ _ _ => $C); refine method_inst (Lg.F $G) (Cx.X $C) (InstAt.of_news (Lg.N $G) (by walk_at "mem") (by walk_at "mem")) (by k_is) (by k_is) (by k_is) (by rfl) ?_))
local macro_rules | `(tactic| walk_at "sa") => do
  let G := Lean.mkIdent `G
  let C := Lean.mkIdent `C
  let D := Lean.mkIdent `D
  `(tactic| ((rename Lg _ _ _ _ _ => $G); (rename Cx _ _ _ _ _ _ _ _ _ _ _ => $C); (first | refine r_setAttr (i := 0) $C $G (by walk_at "mem") rfl (by k_is) (by k_is) (by k_is) (by k_is) rfl rfl (Nat.le_of_ble_eq_true rfl) ?_ | refine r_setAttr (i := 1) $C $G (by walk_at "mem") rfl (by k_is) (by k_is) (by k_is) (by k_is) rfl rfl (Nat.le_of_ble_eq_true rfl) ?_ | refine r_setAttr (i := 2) $C $G (by walk_at "mem") rfl (by k_is) (by k_is) (by k_is) (by k_is) rfl rfl (Nat.le_of_ble_eq_true rfl) ?_); clear $G; intro h' $G; (try dsimp only [List.set_cons_succ, List.set_cons_zero] at $G:ident); (try dsimp only)))
local macro_rules | `(tactic| walk_at "go1") => do
  let G := Lean.mkIdent `G
  let C := Lean.mkIdent `C
  let D := Lean.mkIdent `D
  `(tactic| first
  | ((with_reducible show wpAny _ _ (eval (Expr.Name _ _) (compEnvC _ _ _ _)) _ _ _); (rename Lg _ _ _ _ _ => $G); first | refine cn_var $G (by with_reducible assumption) (by with_reducible assumption) ?_ | refine cn_cell $G (by rfl) (by walk_at "mem") (by with_reducible assumption) ?_)
  | ((with_reducible show wpAny _ _ (eval (Expr.Name _ _) _) _ _ _); walk_at "nm")
  | ((with_reducible show wpAny _ _ (spliced (_ :: _)) _ _ _); refine spliced_more ?_)
  | ((with_reducible show wpAny _ _ (spliced _) _ _ _); first | refine spliced_none ?_ | refine spliced_more ?_)
  | ((with_reducible show wpAny _ _ (eval (Expr.Constant (Const.int _) _ _) _) _ _ _); refine wpAny_Constant_int ?_)
  | ((with_reducible show wpAny _ _ (eval (Expr.Constant (Const.str _) _ _) _) _ _ _); refine Calls.Constant_str ?_)
  | ((with_reducible show wpAny _ _ (execs [] _) _ _ _); refine wpAny_execs_nil ?_; (try dsimp only))
  | ((with_reducible show wpAny _ _ (execs (_ :: _) _) _ _ _); refine wpAny_execs_cons ?_; (try dsimp only))
  | ((with_reducible show wpAny _ _ (exec (Stmt.Assign [Expr.Name _ _] _ _) _) _ _ _); refine wpAny_Assign_Name ?_)
  | ((with_reducible show wpAny _ _ (exec (Stmt.Assign [Expr.Subscript _ _ _] _ _) _) _ _ _); refine wpAny_Assign_Subscript ?_)
  | ((with_reducible show wpAny _ _ (exec (Stmt.AugAssign (Expr.Name _ _) _ _ _) _) _ _ _); refine wpAny_AugAssign_Name ?_)
  | ((with_reducible show wpAny _ _ (exec (Stmt.For _ _ _ _ _) _) _ _ _); refine wpAny_For ?_)
  | ((with_reducible show wpAny _ _ (eval (Expr.UnaryOp _ _ _) _) _ _ _); refine UnaryOp_ ?_)
  | ((with_reducible show wpAny _ _ (unaryOp UnaryOp.USub (Value.int _ _)) _ _ _); refine neg_int ?_)
  | ((with_reducible show wpAny _ _ (PySem.isTrue (Expr.BoolOp _ _ _) _ _) _ _ _); first | with_reducible refine isTrue_and_nil ?_ | with_reducible refine isTrue_or_nil ?_ | with_reducible refine isTrue_and ?_ | with_reducible refine isTrue_or ?_)
  | ((with_reducible show wpAny _ _ (exec (Stmt.Return (some _) _) _) _ _ _); refine wpAny_Return_some ?_)
  | ((with_reducible show wpAny _ _ (exec (Stmt.Expr _ _) _) _ _ _); refine wpAny_Expr ?_)
  | ((with_reducible show wpAny _ _ (exec (Stmt.If _ _ _ _) _) _ _ _); refine wpAny_If ?_)
  | ((with_reducible show wpAny _ _ (eval (Expr.BinOp _ _ _ _) _) _ _ _); refine wpAny_BinOp ?_)
  | ((with_reducible show wpAny _ _ (eval (Expr.Subscript _ _ _) _) _ _ _); refine Subscript_ ?_)
  | ((with_reducible show wpAny _ _ (eval (Expr.Tuple _ _ _) _) _ _ _); refine Tuple_ ?_)
  | ((with_reducible show wpAny _ _ (eval (Expr.List _ _) _) _ _ _); refine List_ ?_)
  | ((with_reducible show wpAny _ _ (eval (Expr.Call (Expr.Attribute _ _ _) _ (_ :: _) _) _) _ _ _); refine methodCall_KW ?_)
  | ((with_reducible show wpAny _ _ (eval (Expr.Call (Expr.Attribute _ _ _) _ _ _) _) _ _ _); refine MethodCall_ ?_)
  | ((with_reducible show wpAny _ _ (evalAll _) _ _ _); first | refine kwAll_cons ?_ | refine kwAll_nil ?_)
  | ((with_reducible show wpAny _ _ (eval (Expr.Call (Expr.Name _ _) _ (_ :: _) _) _) _ _ _); refine wpAny_Call_Name_kw ?_)
  | ((with_reducible show wpAny _ _ (eval (Expr.Call _ _ _ _) _) _ _ _); refine Call_ ?_)
  | ((with_reducible show wpAny _ _ (eval (Expr.Attribute (Expr.Name _ _) _ _) _) _ _ _); refine Attribute_name ?_)
  | ((with_reducible show wpAny _ _ (eval (Expr.IfExp _ _ _ _) _) _ _ _); refine IfExp_ ?_)
  | ((with_reducible show wpAny _ _ (eval (Expr.Compare _ [_] [_] _) _) _ _ _); refine wpAny_Compare1 ?_)
  | ((with_reducible show wpAny _ _ (PySem.isTrue (Expr.Compare _ [_] [_] _) _ _) _ _ _); refine wpAny_isTrue_Compare1 ?_)
  | ((with_reducible show wpAny _ _ (PySem.isTrue (Expr.Name _ _) _ _) _ _ _); refine isTrue_plain ?_)
  | ((with_reducible show wpAny _ _ (PySem.isTrue (Expr.Attribute _ _ _) _ _) _ _ _); refine isTrue_plain ?_)
  | ((with_reducible show wpAny _ _ (PySem.isTrue (Expr.Call _ _ _ _) _ _) _ _ _); refine isTrue_plain ?_)
  | ((with_reducible show wpAny _ _ (callWith _ _ _ _ _) _ _ _); walk_at "cw")
  | ((with_reducible show (Frag.In _ _) ∧ _); (rename Lg _ _ _ _ _ => $G); (rename Cx _ _ _ _ _ _ _ _ _ _ _ => $C); refine ⟨(Cx.X $C).keeps (Lg.F $G).keep, ?_⟩; (try dsimp only [List.nil_append, List.cons_append]))
  | ((with_reducible show wpAny _ _ (PySem.isTrue (Expr.Constant _ _ _) _ _) _ _ _); refine isTrue_plain ?_)
  | ((with_reducible show wpAny _ _ (compareOp CmpOp.IsNot _ Value.none) _ _ _); refine isNot_none ?_)
  | ((with_reducible show wpAny _ _ (compareOp CmpOp.Is _ Value.none) _ _ _); refine is_none ?_)
  | ((with_reducible show ite (_ = true) _ _); first | with_reducible refine ite_pos rfl ?_ | with_reducible refine ite_neg Bool.false_ne_true ?_ | refine ite_pos (by decide) ?_ | refine ite_neg (by decide) ?_)
  | ((with_reducible show wpAny _ _ (eval (Expr.Constant Const.none _ _) _) _ _ _); refine wpAny_Constant_none ?_)
  | ((with_reducible show wpAny _ _ (eval (Expr.Constant (Const.bool _) _ _) _) _ _ _); refine wpAny_Constant_bool ?_)
  | ((with_reducible show wpAny _ _ (call (Value.type "type") [Value.str _ _]) _ _ _); refine call_type_of (Tx := "str") rfl (by decide +kernel) ?_)
  | ((with_reducible show wpAny _ _ (compareOp CmpOp.IsNot (Value.type _) (Value.type _)) _ _ _); refine wpAny_isNot_self (by rfl) ?_)
  | ((with_reducible show wpAny _ _ (compareOp CmpOp.Is (Value.type _) (Value.type _)) _ _ _); refine wpAny_is_self (by rfl) ?_)
  | ((with_reducible show wpAny _ _ (getMethod (Value.str _ _) (Str.ofString "lower") _) _ _ _); refine GM.lower ?_)
  | ((with_reducible show wpAny _ _ (getMethod (Value.str _ _) (Str.ofString "upper") _) _ _ _); refine GM.upper ?_)
  | ((with_reducible show wpAny _ _ (getMethod (Value.str _ _) (Str.ofString "lstrip") _) _ _ _); refine GM.lstrip ?_)
  | ((with_reducible show wpAny _ _ (assign (Expr.Name _ _) _ _) _ _ _); refine wpAny_assign_Name ?_)
  | ((with_reducible show wpAny _ _ (getAttr (Value.ref _) _ _) _ _ _); walk_at "ga")
  | ((with_reducible show wpAny _ _ (setAttr (Value.ref _) _ _) _ _ _); walk_at "sa")
  | ((with_reducible show wpAny _ _ (getMethod (Value.ref _) (Str.ofString "append") _) _ _ _); (rename Lg _ _ _ _ _ => $G); refine listMethod_K (Lg.N $G) (by walk_at "mem") PySem.F.slot_list_append PySem.F.type_list_append ?_)
  | ((with_reducible show wpAny _ _ (getMethod (Value.ref _) _ _) _ _ _); walk_at "gm")
  | ((with_reducible show wpAny _ _ (exec (Stmt.Assign [Expr.Attribute _ _ _] _ _) _) _ _ _); refine plainObj_wpAny_Assign_Attribute ?_)
  | ((with_reducible show wpAny _ _ (newList _) _ _ _); (rename Lg _ _ _ _ _ => $G); refine r_newList $G ?_; clear $G; intro $D h' $G; (try dsimp only))
  | ((with_reducible show wpAny _ _ (newTuple _) _ _ _); (rename Lg _ _ _ _ _ => $G); refine r_newTuple $G ?_; clear $G; intro $D h' $G; (try dsimp only))
  | ((with_reducible show wpAny _ _ (storeName _ _ _) _ _ _); walk_at "st")
  | ((with_reducible show wpAny _ _ (truthy (Value.bool _)) _ _ _); refine wpAny_truthy_bool ?_)
  | ((with_reducible show wpAny _ _ (binaryOp Operator.Add (Value.int _ _) (Value.int _ _)) _ _ _); refine add_int ?_)
  | ((with_reducible show wpAny _ _ (binaryOp Operator.Mod (Value.int _ _) (Value.int _ _)) _ _ _); refine mod_int' (by decide) ?_)
  | ((with_reducible show wpAny _ _ (binaryOp Operator.FloorDiv (Value.int _ _) (Value.int _ _)) _ _ _); refine floordiv_int (by decide) ?_ (Or.inl (PyProof.noPylong_small (by decide))))
  | ((with_reducible show wpAny _ _ (binaryOp Operator.Sub (Value.int _ _) (Value.int _ _)) _ _ _); refine sub_int ?_)
  | ((with_reducible show wpAny _ _ (compareOp CmpOp.Eq (Value.str _ _) (Value.str _ _)) _ _ _); refine eq_str ?_)
  | ((with_reducible show wpAny _ _ (compareOp CmpOp.Eq (Value.int _ _) (Value.int _ _)) _ _ _); refine eq_int ?_)
  | ((with_reducible show wpAny _ _ (compareOp CmpOp.NotEq (Value.str _ _) (Value.str _ _)) _ _ _); refine ne_str ?_))
local macro_rules | `(tactic| walk_at "go") => do
  let G := Lean.mkIdent `G
  let C := Lean.mkIdent `C
  let D := Lean.mkIdent `D
  `(tactic| repeat (walk_at "go1"))
-- N1
section
theorem fillN1 : hd.heap_1 = hd.heap_1 ∧ PySem.Challenge.rw_pe0228_02 = PySem.Challenge.rw_pe0228_02 := by
  k_fill
  exact ⟨rfl, rfl⟩
section
variable {pr : Program} {loose : List Str} {mean : ExcName → Option Value} {mg mb : Str → Option Value} {prog : Program} {w : World} {n : Nat} {A : Around} {env : Env} {L : Addr} {h₀ : Heap}
  {m : Str → Option Value} {news : List (Addr × Obj)} {s : Shared} {E : Value → Shared → Prop}
set_option maxHeartbeats 1000000
theorem tc_weight (C : Addr) (rest : List Value) (kw : List (Str × Value)) : (Code.builtin "type.__call__" ⟨.ref C :: rest, kw⟩).weight = 1 := by kernel_rfl
theorem tc_units (C : Addr) (rest : List Value) (kw : List (Str × Value)) : (Code.builtin "type.__call__" ⟨.ref C :: rest, kw⟩).cUnits = 1 := by kernel_rfl
theorem tc_envs (C : Addr) (rest : List Value) (kw : List (Str × Value)) : (Code.builtin "type.__call__" ⟨.ref C :: rest, kw⟩).envs = [] := by kernel_rfl
theorem Cx.tc {K : Frag} {D : Addr} {rest : List Value} {kw : List (Str × Value)} (C : Cx K pr loose mean mg mb (n + 1) A env L h₀) : Cx K pr loose mean mg mb n (A.under (.builtin "type.__call__" ⟨.ref D :: rest, kw⟩)) env L h₀ := by
  obtain ⟨⟨A₀, base, outer, B, hA⟩, ef, el, ek, X, T, dp, un, hn⟩ := C
  refine ⟨⟨A₀, base, outer, B, ?_⟩, ef, el, ek, X, T, ?_, ?_, hn⟩
  · unfold Around.under
    rw [tc_envs]
    exact hA
  · show A.depth + (Code.builtin "type.__call__" ⟨.ref D :: rest, kw⟩).weight + 4 * n < 1000
    rw [tc_weight]; omega
  · show A.units + (Code.builtin "type.__call__" ⟨.ref D :: rest, kw⟩).cUnits + 40 * n < 9900
    rw [tc_units]; omega
/-- push_token -/
theorem push_token {Q : Value → Shared → Prop} {x dx st P : Addr} {k1 k2 k3 k4 tl tw : Tok} {ln : Int} {i : Nat} {its : Array Value} {c : Nat} {v : Value}
    (C : Cx (hd.heap_1 w.params) pr loose mean mg mb (n + 1) A env L h₀) (G : Lg h₀ L s.heap m news)
    (hx : (x, instObj 76 dx) ∈ news) (hd : (dx, dictOf (mes w k1 k2 k3 k4 ln tl st tw P) 4) ∈ news) (hi : news[i]? = some (P, listOf its c)) (hsz : its.size ≤ 1000000)
    (h : ∀ h' t c', Lg h₀ L h' m (news.set i (P, listOf (its.push v) c')) → Q .none { s with heap := h', toks := t }) :
    wpAny (model prog w) A (call (.ref 73) [.ref x, v]) Q E s := by
  refine enter (binds := [(Str.ofString "self", .ref x), (Str.ofString "token", v)]) C G (by k_is) (by k_is) (BindsTo.of_eq rfl) (locs rfl) rfl rfl rfl (by decide) ?_
  intro g L' h₁ C st' G
  refine hideQ fun Y0 hY => ?_
  have hP := List.mem_of_getElem? hi
  walk_at "go"
  refine r_append G hi hsz ?_
  intro h2 c' G
  dsimp only
  walk_at "go"
  exact hY _ _ ⟨_, _, G, fun G2 => h _ _ _ G2⟩
/-- a reader made -/
theorem make_lex {Q : Value → Shared → Prop} {st : Addr}
    (C : Cx (hd.heap_1 w.params) pr loose mean mg mb (n + 2) A env L h₀) (G : Lg h₀ L s.heap m news)
    (h : ∀ x dx P h' t k1 k2 k3 k4 tl tw, Lg h₀ L h' m ((P, listOf #[] 0) :: (x, instObj 76 dx) :: (dx, dictOf (mes w k1 k2 k3 k4 1 tl st tw P) 4) :: news) → Q (.ref x) { s with heap := h', toks := t }) :
    wpAny (model prog w) A (call (.ref 76) [.ref st]) Q E s := by
  refine wpAny_call (PySem.W.make_K (fI := 52) G.F G.N (C.X.keeps G.F.keep) (by k_is) (by k_is) (by k_is) ?_)
  intro x dx h1 F1 N1 l1 l2
  have G : Lg h₀ L h1 m ((x, instObj 76 dx) :: (dx, dictOf [] 0) :: news) := by
    refine ⟨F1, N1, ?_⟩
    simp only [List.map_cons, List.nodup_cons, List.mem_cons, List.mem_map, not_or]
    refine ⟨⟨Nat.ne_of_gt l2, ?_⟩, ?_, G.nd⟩
    · rintro ⟨p, hp, e⟩
      have := Nat.lt_trans (l1 p hp) l2
      rw [e] at this; exact absurd this (Nat.lt_irrefl _)
    · rintro ⟨p, hp, e⟩
      have := l1 p hp
      rw [e] at this; exact absurd this (Nat.lt_irrefl _)
  refine codeAny_mono (enterC (Q := fun v s' => v = .none ∧ Q (.ref x) s') (E := fun e s' => (RQ Q E) (.error e) s') (binds := [(Str.ofString "self", .ref x), (Str.ofString "fp", .ref st)]) C.tc G (by k_is) (by k_is) (BindsTo.of_eq rfl) (locs rfl) rfl rfl rfl (by decide) ?_) ?_
  · intro g L' h₁ C st' G
    refine hideQ fun Y0 hY => ?_
    walk_at "go"
    exact hY _ _ ⟨_, _, G, fun G2 => ⟨rfl, h _ _ _ _ _ _ _ _ _ _ _ G2⟩⟩
  · intro r s' z
    rcases r with e | (v | _ | _ | _)
    · exact z
    · exact z
    · exact z
    · exact z
    · exact z

theorem updF_at {D : Addr} {o : Obj} : ∀ {news : List (Addr × Obj)} {i : Nat}, news[i]? = some (D, o) → (news.map (·.1)).Nodup → UpdF D o news (fun o' => news.set i (D, o'))
  | [], _, h, _ => by simp at h
  | p :: r, 0, h, nd => by
    simp only [List.getElem?_cons_zero, Option.some.injEq] at h
    subst h
    rw [List.map_cons, List.nodup_cons] at nd
    exact UpdF.head fun q hq e => nd.1 (List.mem_map.mpr ⟨q, hq, e⟩)
  | p :: r, i + 1, h, nd => by
    rw [List.map_cons, List.nodup_cons] at nd
    have h' : r[i]? = some (D, o) := by simpa using h
    refine UpdF.tail (fun e => nd.1 ?_) (updF_at h' nd.2)
    rw [e]
    exact List.mem_map.mpr ⟨(D, o), List.mem_of_getElem? h', rfl⟩
theorem Lg.nest {h' h : Heap} {m' : Str → Option Value} {f c' : Addr} {of oc : Obj} {l l' : List (Addr × Obj)} (G : Lg h₀ L h m l) (F' : Fr h₀ L h' m') (N' : News h₀ L h' ((f, of) :: (c', oc) :: l')) (e : l'.map (·.1) = l.map (·.1))
    (hl : ∀ q ∈ l, q.1 < c') (hf : c' < f) : Lg h₀ L h' m' ((f, of) :: (c', oc) :: l') := by
  refine ⟨F', N', ?_⟩
  have a1 : ∀ q ∈ l', q.1 < c' := by
    intro q hq
    have : q.1 ∈ l'.map (·.1) := List.mem_map.mpr ⟨q, hq, rfl⟩
    rw [e] at this
    obtain ⟨p, hp, ep⟩ := List.mem_map.mp this
    rw [← ep]; exact hl p hp
  simp only [List.map_cons, List.nodup_cons, List.mem_cons, List.mem_map, not_or]
  refine ⟨⟨Nat.ne_of_gt hf, ?_⟩, ?_, by rw [e]; exact G.nd⟩
  · rintro ⟨p, hp, ep⟩
    have := Nat.lt_trans (a1 p hp) hf
    rw [ep] at this; exact absurd this (Nat.lt_irrefl _)
  · rintro ⟨p, hp, ep⟩
    have := a1 p hp
    rw [ep] at this; exact absurd this (Nat.lt_irrefl _)

/-- the law's reader over a text -/
theorem law_machine {Q : Value → Shared → Prop} {text : Str} {tt : Tok}
    (C : Cx (hd.heap_1 w.params) pr loose mean mg mb (n + 4) A env L h₀) (G : Lg h₀ L s.heap m ((236, tabObj #[]) :: news)) (hcd : CodeHd h₀ 240 236) (hl : text.length ≤ 1000000)
    (h : ∀ x dx st T P h' t k1 k2 k3 k4 tl tw tp fz, Mach w fz x dx st T text → (∃ ps, (236, tabObj ps) ∈ fz) → Lg h₀ L h' m ((dx, dictOf (mes w k1 k2 k3 k4 1 tl st tw P) 4) :: (T, listOf #[.int ((0 : Nat) : Int) tp] 0) :: (P, listOf #[] 0) :: (fz ++ news)) → Q (.ref x) { s with heap := h', toks := t }) :
    wpAny (model prog w) A (call (.ref 241) [.str text tt]) Q E s := by
  refine enterL (binds := [(Str.ofString "text", .str text tt)]) C G (by k_is) (by k_is) (BindsTo.of_eq rfl) ?_ (by decide +kernel) rfl rfl rfl ?_
  · intro n x hx
    rw [List.mem_singleton.mp hx]
    exact .inr ⟨rfl, rfl⟩
  intro g L' h₁ tk cells C st' Y G
  refine hideQ fun Y0 hY => ?_
  have hcd' : CodeHd g 240 236 := hcd.keeps st'
  obtain ⟨oc1, oc2, rfl, d1, d2⟩ := CellsAre.two (c := L' + 2) (c' := L' + 1) (n := Str.ofString "at") (n' := Str.ofString "text") Y
  dsimp only [List.cons_append, List.nil_append] at G
  walk_at "go"
  refine r_storeC (i := 1) G rfl rfl d1 ?_
  intro h2 o2 e2 G
  dsimp only [List.set_cons_succ, List.set_cons_zero] at G
  dsimp only
  walk_at "go"
  refine nestDef_K rfl rfl rfl ?_
  refine nest_K G.F G.N C.T hcd' rfl (updF_at (i := 3) rfl G.nd) True.intro rfl rfl ?_
  intro f c' oc vs t ctv doc h3 tk3 F3 N3 hod hov l1 l2
  have G := G.nest F3 N3 (by rfl) l1 l2
  dsimp only [List.set_cons_succ, List.set_cons_zero] at G
  walk_at "go"
  refine kla_eval rfl ?_
  refine kla_nest G.F G.N C.T hcd' rfl (updF_at (i := 5) rfl G.nd) (by simp [TriplesOk, rawInt]) (by simp [codeAmong, rawInt]) rfl ?_
  intro f2 c2 oc3 vs2 t2 ctv2 h4 tk4 F4 N4 hod2 hov2 l3 l4
  have G := G.nest F4 N4 (by rfl) l3 l4
  dsimp only [List.set_cons_succ, List.set_cons_zero] at G
  walk_at "go"
  refine r_setFn (i := 0) G rfl fn_read ?_
  intro D2 h5 k5 t5 G
  dsimp only [List.set_cons_succ, List.set_cons_zero] at G
  dsimp only
  walk_at "go"
  refine make_lex C G ?_
  intro x dx P h6 t6 k1 k2 k3 k4 tl tw G
  have G := (G.front 8 rfl).front 3 rfl
  dsimp only [List.eraseIdx_cons_succ, List.eraseIdx_cons_zero] at G
  dsimp only
  refine hY _ _ ⟨_, _, G, fun G2 => h x dx f2 _ P _ _ _ _ _ _ _ _ _ [(x, _), (D2, _), (f2, _), (c2, _), (f, _), (c', _), (_, o2), (_, oc2), (236, _)] ?_ ⟨_, by walk_at "mem"⟩ G2⟩
  have hf := defIn_of (K := hd.heap_1 w.params) (a := 241) (i := 1) (by k_is) (by rfl)
  refine ⟨by walk_at "mem", ?_, hl⟩
  rw [hf]
  exact ⟨D2, _, _, f, _, c', L' + 1, L' + 2, oc, oc2, o2, vs, _, t, tt, doc, _, ctv, by walk_at "mem", by walk_at "mem", by walk_at "mem", by walk_at "mem", hod, hov, by walk_at "mem", d2, by walk_at "mem", e2⟩
end
end
-- N2
section
theorem fillN2 : hd.heap_1 = hd.heap_1 ∧ PySem.Challenge.rw_pe0228_02 = PySem.Challenge.rw_pe0228_02 := by
  k_fill
  exact ⟨rfl, rfl⟩
section
variable {pr : Program} {loose : List Str} {mean : ExcName → Option Value} {mg mb : Str → Option Value} {prog : Program} {w : World} {n : Nat} {A : Around} {env : Env} {L : Addr} {h₀ : Heap}
  {m : Str → Option Value} {news : List (Addr × Obj)} {s : Shared} {E : Value → Shared → Prop}
set_option maxHeartbeats 1000000
/-- the attributes of a table of headers -/
def hes (w : World) (k : Tok) (l : Addr) : List DictEntry := [⟨PyData.keyHash w.params "_headers", .str "_headers" k, .ref l⟩]
/-- an empty table made -/
theorem make_headers {Q : Value → Shared → Prop}
    (C : Cx (hd.heap_1 w.params) pr loose mean mg mb (n + 2) A env L h₀) (G : Lg h₀ L s.heap m news)
    (h : ∀ x dx l h' t k, Lg h₀ L h' m ((l, listOf #[] 0) :: (x, instObj 230 dx) :: (dx, dictOf (hes w k l) 1) :: news) → Q (.ref x) { s with heap := h', toks := t }) :
    wpAny (model prog w) A (call (.ref 230) []) Q E s := by
  refine wpAny_call (PySem.W.make_K (fI := 122) G.F G.N (C.X.keeps G.F.keep) (by k_is) (by k_is) (by k_is) ?_)
  intro x dx h1 F1 N1 l1 l2
  have G : Lg h₀ L h1 m ((x, instObj 230 dx) :: (dx, dictOf [] 0) :: news) := Lg.nest (h := s.heap) (l := news) G F1 N1 rfl l1 l2
  refine codeAny_mono (enterC (Q := fun v s' => v = .none ∧ Q (.ref x) s') (E := fun e s' => (RQ Q E) (.error e) s') (binds := [(Str.ofString "self", .ref x), (Str.ofString "headers", .none)]) C.tc G (by k_is) (by k_is) (binds_K (C.X.keeps G.F.keep) rfl (by k_is) rfl rfl rfl) (locs rfl) rfl rfl rfl (by decide) ?_) ?_
  · intro g L' h₁ C st' G
    refine hideQ fun Y0 hY => ?_
    walk_at "go"
    refine call_type_of (Tx := "list") ⟨_, G.mem (by walk_at "mem"), rfl⟩ (by decide +kernel) ?_
    walk_at "go"
    walk_at "go"
    refine for_list (its := #[]) C.hn G (fun i m' nw => m' = _ ∧ nw = _) ?_ ⟨rfl, rfl⟩ ?_ ?_
    · rintro i m' nw ⟨rfl, rfl⟩
      exact .inr ⟨_, by walk_at "mem", rfl, 0, rfl⟩
    · intro I i v h' t m' nw oI hi
      exact absurd hi (Nat.not_lt_zero _)
    rintro h' t m' nw ⟨rfl, rfl⟩ G
    dsimp only
    walk_at "go"
    exact hY _ _ ⟨_, _, G, fun G2 => ⟨rfl, h _ _ _ _ _ _ G2⟩⟩
  · intro r s' z
    rcases r with e | (v | _ | _ | _)
    · exact z
    · exact z
    · exact z
    · exact z
    · exact z

/-- what get answers -/
def GetIs (rows : List (List Nat × List Nat)) (low : Str) (v : Value) : Prop := match rows.find? (fun p => Txt.lower (S p.1) == low) with
  | some p => ∃ u, v = .str (S p.2) u
  | none => v = .none

theorem headers_get {Q : Value → Shared → Prop} {x dx l : Addr} {k : Tok} {its : Array Value} {c : Nat} {rows : List (List Nat × List Nat)} {nm : Str} {tn : Tok} {low : List Nat}
    (C : Cx (hd.heap_1 w.params) pr loose mean mg mb (n + 2) A env L h₀) (G : Lg h₀ L s.heap m news)
    (hx : (x, instObj 230 dx) ∈ news) (hdx : (dx, dictOf (hes w k l) 1) ∈ news) (hl : (l, listOf its c) ∈ news) (hD : DatAll news its.toList (rows.map rowD))
    (hk : ∀ p ∈ rows, p.1.length ≤ 1000000) (hn : nm.length ≤ 1000000) (hlow : Txt.lower nm = S low) (hf : free badName low) (hl2 : low.length ≤ 1000000)
    (h : ∀ h' t v, GetIs rows (S low) v → Lg h₀ L h' m news → Q v { s with heap := h', toks := t }) :
    wpAny (model prog w) A (call (.ref 177) [.ref x, .str nm tn]) Q E s := by
  refine enter (binds := [(Str.ofString "self", .ref x), (Str.ofString "name", .str nm tn), (Str.ofString "default", .none)]) C G (by k_is) (by k_is) (binds_K (C.X.keeps G.F.keep) rfl (by k_is) rfl rfl rfl) (locs rfl) rfl rfl rfl (by decide) ?_
  intro g L' h₁ C st' G
  refine hideQ fun Y0 hY => ?_
  walk_at "go"
  refine SCL.lower (Nat.le_trans hn (by decide)) ?_
  intro _
  rw [hlow]
  walk_at "go"
  refine convert_name C G hf hl2 ?_
  intro h2 k2 G
  dsimp only
  walk_at "go"
  walk_at "go"
  refine for_list (its := its) C.hn G (fun i m' nw => nw = news ∧ (∃ t, m' "name" = some (.str (S low) t)) ∧ m' "default" = some .none ∧ ∀ p ∈ rows.take i, (Txt.lower (S p.1) == S low) = false) ?_ ⟨rfl, ⟨_, rfl⟩, rfl, by simp⟩ ?_ ?_
  · rintro i m' nw ⟨rfl, -⟩
    exact .inr ⟨_, hl, rfl, _, rfl⟩
  · intro I i v h3 t3 m3 nw oI hi hv pt1 GG
    refine hideT fun Z0 hZ => ?_
    obtain ⟨enw2, ⟨tl, hn3⟩, hd3, hno⟩ := pt1
    have G := GG.to1 enw2
    obtain ⟨d, hd, hdv⟩ := DatAll.at hD (i := i) (v := v) (by simpa using hv)
    rw [List.getElem?_map] at hd
    obtain ⟨p, hp, rfl⟩ := Option.map_eq_some_iff.mp hd
    obtain ⟨tu, va, vb, cu, rfl, hm, ha, hb⟩ := pair_of hdv
    obtain ⟨ta, rfl⟩ := str_of ha
    obtain ⟨tb, rfl⟩ := str_of hb
    have hpm : p ∈ rows := List.mem_of_getElem? hp
    refine r_unpack2 C.hn G (.tail _ hm) ?_
    intro h4 G
    walk_at "go"
    refine SCL.lower (Nat.le_trans (by rw [S_len]; exact hk p hpm) (by decide)) ?_
    intro _
    dsimp only
    walk_at "go"
    by_cases he : (Txt.lower (S p.1) == S low) = true
    · refine ite_pos he ?_
      walk_at "go"
      refine hZ _ _ (hY (.ret _) _ ⟨_, _, G, fun G2 => h _ _ _ ?_ (G2.sub (List.sublist_cons_self _ _))⟩)
      unfold GetIs
      rw [find_at hp he hno]
      exact ⟨_, rfl⟩
    · refine ite_neg he ?_
      walk_at "go"
      exact hZ _ _ ⟨_, _, _, _, rfl, G, rfl, ⟨_, hn3⟩, hd3, take_next hp hno (Bool.eq_false_iff.mpr he)⟩
  · rintro h3 t3 m3 nw ⟨enw3, ⟨tl, hn3⟩, hd3, hno⟩ GG
    have G := GG.to enw3
    dsimp only
    walk_at "go"
    refine hY _ _ ⟨_, _, G, fun G2 => h _ _ _ ?_ G2⟩
    unfold GetIs
    have hs : its.size = rows.length := by
      have := hD.length
      simpa using this
    rw [List.find?_eq_none.mpr fun p hp => by
      have := hno p (by rw [hs, List.take_length]; exact hp)
      rw [this]; exact Bool.false_ne_true]
    rfl
end
end
-- N3
section
theorem fillN3 : hd.heap_1 = hd.heap_1 ∧ PySem.Challenge.rw_pe0228_02 = PySem.Challenge.rw_pe0228_02 := by
  k_fill
  exact ⟨rfl, rfl⟩
section
variable {pr : Program} {loose : List Str} {mean : ExcName → Option Value} {mg mb : Str → Option Value} {prog : Program} {w : World} {n : Nat} {A : Around} {env : Env} {L : Addr} {h₀ : Heap}
  {m : Str → Option Value} {news : List (Addr × Obj)} {s : Shared} {E : Value → Shared → Prop}
set_option maxHeartbeats 1000000
/-- the rows of other names -/
def others (low : Str) (rows : List (List Nat × List Nat)) : List (List Nat × List Nat) := rows.filter fun p => !(Txt.lower (S p.1) == low)

theorem headers_del {Q : Value → Shared → Prop} {x dx l : Addr} {k : Tok} {its : Array Value} {c i : Nat} {rows : List (List Nat × List Nat)} {nm : Str} {tn : Tok} {low : List Nat}
    (C : Cx (hd.heap_1 w.params) pr loose mean mg mb (n + 2) A env L h₀) (G : Lg h₀ L s.heap m news)
    (hx : (x, instObj 230 dx) ∈ news) (hdx : (dx, dictOf (hes w k l) 1) ∈ news) (hi : news[i]? = some (l, listOf its c)) (hD : DatAll news its.toList (rows.map rowD)) (hsz : rows.length ≤ 1000)
    (hk : ∀ p ∈ rows, p.1.length ≤ 1000000) (hn : nm.length ≤ 1000000) (hlow : Txt.lower nm = S low) (hf : free badName low) (hl2 : low.length ≤ 1000000)
    (h : ∀ h' t its' c' fz, DatAll news its'.toList ((others (S low) rows).map rowD) → Lg h₀ L h' m (news.set i (l, listOf its' c') ++ fz) → Q .none { s with heap := h', toks := t }) :
    wpAny (model prog w) A (call (.ref 148) [.ref x, .str nm tn]) Q E s := by
  refine enterL (binds := [(Str.ofString "self", .ref x), (Str.ofString "name", .str nm tn)]) C G (by k_is) (by k_is) (BindsTo.of_eq rfl) ?_ (by decide +kernel) rfl rfl rfl ?_
  · intro n x hx
    simp only [List.mem_cons, List.not_mem_nil, or_false] at hx
    rcases hx with rfl | rfl
    · exact .inl rfl
    · exact .inr ⟨rfl, rfl⟩
  intro g L' h₁ tk cells C st' Y G
  refine hideQ fun Y0 hY => ?_
  obtain ⟨oc, rfl, d1⟩ := CellsAre.one (c := L' + 1) (n := Str.ofString "name") Y
  dsimp only [List.cons_append, List.nil_append] at G
  walk_at "go"
  refine nameX_C G.N rfl (by walk_at "mem") d1 ?_
  walk_at "go"
  refine SCL.lower (Nat.le_trans hn (by decide)) ?_
  intro _
  rw [hlow]
  walk_at "go"
  refine convert_name C G hf hl2 ?_
  intro h2 k2 G
  dsimp only
  refine r_storeC (i := 0) G rfl rfl d1 ?_
  intro h3 o3 d3 G
  dsimp only [List.set_cons_zero] at G
  walk_at "go"
  have hl : (l, listOf its c) ∈ news := List.mem_of_getElem? hi
  have hsize : its.size = rows.length := by have := hD.length; simpa using this
  refine comp_T G rfl (by decide) rfl (by decide) rfl ?_
  walk_at "go"
  refine src_list C.hn G (.inr ⟨_, .tail _ hl, rfl, _, rfl⟩) ?_
  rintro I s2 ⟨h4, rfl⟩ Z
  refine ⟨I, _, _, _, _, rfl, by rw [hsize]; exact Nat.le_trans hsz (by decide), Z, fun i ys nw => nw = (L' + 1, o3) :: news ∧ DatAll news ys ((others (S low) (rows.take i)).map rowD) ∧ ys.length ≤ i, ?_, ⟨rfl, by simp [others]; exact .nil, Nat.le_refl _⟩, ?_, ?_⟩
  · rintro i ys nw ⟨rfl, -⟩
    exact .inr ⟨_, .tail _ hl, rfl, _, rfl⟩
  · intro I i v ys h5 t5 nw oI Cc oC D m₂ _ hv hC hm2 pt1 GG
    refine hideQ fun Z0 hZ => ?_
    obtain ⟨enw4, hys, hyl⟩ := pt1
    have G := GG.to3 enw4
    obtain ⟨d, hd, hdv⟩ := DatAll.at hD (i := i) (v := v) (by simpa using hv)
    rw [List.getElem?_map] at hd
    obtain ⟨p, hp, rfl⟩ := Option.map_eq_some_iff.mp hd
    have hdv' := hdv
    obtain ⟨tu, va, vb, cu, rfl, hm, ha, hb⟩ := pair_of hdv
    obtain ⟨ta, rfl⟩ := str_of ha
    obtain ⟨tb, rfl⟩ := str_of hb
    have hpm : p ∈ rows := List.mem_of_getElem? hp
    walk_at "go"
    refine r_tup (j := 0) G (by walk_at "mem") (by decide) (by decide) rfl rfl ?_
    walk_at "go"
    refine SCL.lower (Nat.le_trans (by rw [S_len]; exact hk p hpm) (by decide)) ?_
    intro _
    dsimp only
    walk_at "go"
    have keep : ∀ q ∈ (L' + 1, o3) :: news, q ∈ (L' + 1, o3) :: news := fun _ h => h
    by_cases he : (Txt.lower (S p.1) == S low) = true
    · have e1 : Txt.lower (S p.1) = S low := eq_of_beq he
      refine hZ _ _ (ite_neg (by rw [e1]; simp [S]) ?_)
      refine ⟨_, _, _, rfl, G, rfl, ?_, by omega⟩
      rw [show others (S low) (rows.take (i + 1)) = others (S low) (rows.take i) by
        unfold others
        rw [List.take_add_one, List.filter_append, hp]
        simp [he]]
      exact hys
    · have he' : (Txt.lower (S p.1) == S low) = false := Bool.eq_false_iff.mpr he
      have e1 : Txt.lower (S p.1) ≠ S low := fun e => he (by rw [e]; exact beq_self_eq_true _)
      refine hZ _ _ (ite_pos (bne_iff_ne.mpr e1) ?_)
      walk_at "go"
      refine ⟨_, _, _, rfl, G, rfl, ?_, by simp only [List.length_append, List.length_singleton]; omega⟩
      rw [show others (S low) (rows.take (i + 1)) = others (S low) (rows.take i) ++ [p] by
        unfold others
        rw [List.take_add_one, List.filter_append, hp]
        simp [he']]
      rw [List.map_append]
      exact hys.append (.one hdv')
  · rintro D h6 t6 ys nw ⟨enw5, hys, hyl⟩ GG
    have G := GG.to1 enw5
    rw [hsize, List.take_length] at hys
    dsimp only
    walk_at "go"
    refine wpAny_Slice (evalPart_none_step (evalPart_none_step (evalPart_none_step ?_)))
    refine r_setAll (i := i + 2) G (by simpa using hi) (.head _) (fun e => ?_) ?_ ?_
    · have nd := G.nd
      rw [List.map_cons, List.nodup_cons] at nd
      exact nd.1 (by rw [← e]; exact List.mem_map.mpr ⟨_, .tail _ hl, rfl⟩)
    · simp only [List.size_toArray]; omega
    intro h7 c' G
    rw [List.set_cons_succ, List.set_cons_succ] at G
    dsimp only
    walk_at "go"
    refine hY _ _ ⟨_, _, G, fun G2 => h _ _ ys.toArray c' [(D, LCg.lst ys), (L' + 1, o3)] (by simpa using hys) (G2.perm (List.perm_append_comm (l₁ := [(D, LCg.lst ys), (L' + 1, o3)])))⟩
end
end
-- N4
section
theorem fillN4 : hd.heap_1 = hd.heap_1 ∧ PySem.Challenge.rw_pe0228_02 = PySem.Challenge.rw_pe0228_02 := by
  k_fill
  exact ⟨rfl, rfl⟩
section
variable {pr : Program} {loose : List Str} {mean : ExcName → Option Value} {mg mb : Str → Option Value} {prog : Program} {w : World} {n : Nat} {A : Around} {env : Env} {L : Addr} {h₀ : Heap}
  {m : Str → Option Value} {news : List (Addr × Obj)} {s : Shared} {E : Value → Shared → Prop}
set_option maxHeartbeats 1000000
theorem delItem_K {K : Frag} {x f Cc : Addr} {ox : Obj} {od : Option Obj} {iv : Value} {Q : Unit → Shared → Prop} (F : Fr h₀ L s.heap m) (X₀ : K.In h₀) (I : InstAt s.heap x ox Cc od) (hq : noSeq K Cc = true) (hs : findIn K (.ref Cc) "__delitem__" = some (some (.ref f))) (hf : isFn K (.ref f) = true)
    (h : wpAny (model prog w) A (call (.ref f) [.ref x, iv]) (fun _ => Q ()) E s) : wpAny (model prog w) A (delItem (.ref x) iv) Q E s := by
  have X := X₀.keeps F.keep
  unfold delItem
  unfold sequenceKey
  refine wpAny_holding (wpAny_bind (wpAny_bind (I.type.here ?_)))
  refine wpAny_bind ((anyM_none X hq).here ?_)
  rw [if_pos (show (!false) = true from rfl)]
  exact wpAny_pure (wpAny_bind (special_fn X I hs (beq_iff_eq.mp hf) (wpAny_mono h (fun _ _ z => wpAny_pure z) fun _ _ z => z)))
theorem headers_set {Q : Value → Shared → Prop} {x dx l : Addr} {k : Tok} {its : Array Value} {c i : Nat} {rows : List (List Nat × List Nat)} {nm vl : List Nat} {tn tv : Tok} {low : List Nat}
    (C : Cx (hd.heap_1 w.params) pr loose mean mg mb (n + 3) A env L h₀) (G : Lg h₀ L s.heap m news)
    (hx : (x, instObj 230 dx) ∈ news) (hdx : (dx, dictOf (hes w k l) 1) ∈ news) (hi : news[i]? = some (l, listOf its c)) (hD : DatAll news its.toList (rows.map rowD)) (hsz : rows.length ≤ 1000)
    (hk : ∀ p ∈ rows, p.1.length ≤ 1000000) (hn : nm.length ≤ 1000000) (hlow : Txt.lower (S nm) = S low) (hf : free badName low) (hl2 : low.length ≤ 1000000) (hfn : free badName nm) (hfv : free badVal vl) (hv : vl.length ≤ 1000000)
    (h : ∀ h' t its' c' fz, DatAll (news.set i (l, listOf its' c') ++ fz) its'.toList ((others (S low) rows ++ [(nm, vl)]).map rowD) → Lg h₀ L h' m (news.set i (l, listOf its' c') ++ fz) → Q .none { s with heap := h', toks := t }) :
    wpAny (model prog w) A (call (.ref 143) [.ref x, .str (S nm) tn, .str (S vl) tv]) Q E s := by
  refine enter (binds := [(Str.ofString "self", .ref x), (Str.ofString "name", .str (S nm) tn), (Str.ofString "val", .str (S vl) tv)]) C G (by k_is) (by k_is) (BindsTo.of_eq rfl) (locs rfl) rfl rfl rfl (by decide) ?_
  intro g L' h₁ C st' G
  refine hideQ fun Y0 hY => ?_
  walk_at "go"
  refine wpAny_Delete (wpAny_deleteEach_cons (wpAny_delete_Subscript ?_))
  walk_at "go"
  refine delItem_K G.F C.X (InstAt.of_news G.N hx hdx) (by k_is) (by k_is) (by k_is) ?_
  refine headers_del C G hx hdx hi hD hsz hk (by rw [S_len]; exact hn) hlow hf hl2 ?_
  intro h2 t2 its2 c2 fz D2 G2
  have hl := List.mem_of_getElem? hi
  have hx2 : (x, instObj 230 dx) ∈ news.set i (l, listOf its2 c2) ++ fz := List.mem_append_left _ (mem_set_of hi hx (G.ne hx hl (by intro e; have := congrArg Obj.cls e; simp at this)))
  have hdx2 : (dx, dictOf (hes w k l) 1) ∈ news.set i (l, listOf its2 c2) ++ fz := List.mem_append_left _ (mem_set_of hi hdx (G.ne hdx hl (by intro e; have := congrArg Obj.cls e; simp at this)))
  have tu : Tups news (news.set i (l, listOf its2 c2) ++ fz) := (G.tups_set hi).trans (.of fun _ hp => List.mem_append_left _ hp)
  have hlt : i < news.length := (List.getElem?_eq_some_iff.mp hi).1
  have hi2 : (news.set i (l, listOf its2 c2) ++ fz)[i]? = some (l, listOf its2 c2) := by
    rw [List.getElem?_append_left (by simpa using hlt), List.getElem?_set_self (by simpa using hlt)]
  have hl2' := List.mem_of_getElem? hi2
  replace D2 := tu.rows D2
  clear G
  have G := G2
  refine wpAny_deleteEach_nil ?_
  dsimp only
  walk_at "go"
  refine convert_name C G hfn hn ?_
  intro h3 t3 G
  dsimp only
  walk_at "go"
  refine convert_val C G hfv hv ?_
  intro h4 t4 G
  dsimp only
  walk_at "go"
  have hs2 : its2.size ≤ 1000 := by
    have := D2.length
    have h3 : (others (S low) rows).length ≤ rows.length := List.length_filter_le _ _
    simp only [Array.length_toList, List.length_map] at this
    omega
  refine r_append (i := i + 1) G (by rw [List.getElem?_cons_succ]; exact hi2) (by omega) ?_
  intro h5 c5 G
  dsimp only
  walk_at "go"
  have G3 := G.perm (b := news.set i (l, listOf (its2.push (.ref D)) c5) ++ ((D, tupO [.str (S nm) tn, .str (S vl) tv] 0) :: fz)) (by
    rw [List.set_cons_succ, List.set_append_left _ _ (by simpa using hlt), List.set_set]
    exact List.perm_middle.symm)
  refine hY _ _ ⟨_, _, G3, fun G4 => h _ _ (its2.push (.ref D)) c5 ((D, tupO [.str (S nm) tn, .str (S vl) tv] 0) :: fz) ?_ G4⟩
  have tu2 : Tups (news.set i (l, listOf its2 c2) ++ fz) (news.set i (l, listOf (its2.push (.ref D)) c5) ++ ((D, tupO [.str (S nm) tn, .str (S vl) tv] 0) :: fz)) := by
    intro t vs n hm
    have hlne : t ≠ l := G2.ne hm hl2' (by intro e; have := congrArg Obj.cls e; simp at this)
    rcases List.mem_append.mp hm with hm | hm
    · refine List.mem_append_left _ ?_
      have := mem_set_of (q := (l, listOf (its2.push (.ref D)) c5)) (List.getElem?_set_self (by simpa using hlt)) hm hlne
      rwa [List.set_set] at this
    · exact List.mem_append_right _ (.tail _ hm)
  rw [List.map_append, Array.toList_push]
  refine (tu2.rows D2).append (.one ?_)
  exact .tuple (List.mem_append_right _ (.head _)) (.cons (.str _ _) (.cons (.str _ _) .nil))
/-- the rows in a new list -/
theorem headers_items {Q : Value → Shared → Prop} {x dx l : Addr} {k : Tok} {its : Array Value} {c : Nat}
    (C : Cx (hd.heap_1 w.params) pr loose mean mg mb (n + 1) A env L h₀) (G : Lg h₀ L s.heap m news)
    (hx : (x, instObj 230 dx) ∈ news) (hdx : (dx, dictOf (hes w k l) 1) ∈ news) (hl : (l, listOf its c) ∈ news) (hsz : its.size ≤ 1000)
    (h : ∀ D h' t, Lg h₀ L h' m ((D, listOf its 0) :: news) → Q (.ref D) { s with heap := h', toks := t }) :
    wpAny (model prog w) A (call (.ref 194) [.ref x]) Q E s := by
  refine enter (binds := [(Str.ofString "self", .ref x)]) C G (by k_is) (by k_is) (BindsTo.of_eq rfl) (locs rfl) rfl rfl rfl (by decide) ?_
  intro g L' h₁ C st' G
  refine hideQ fun Y0 hY => ?_
  walk_at "go"
  refine wpAny_Slice (evalPart_none_step (evalPart_none_step (evalPart_none_step ?_)))
  refine kba_turn (value' := PySem.Expr.Name (PySem.Str.ofString "_") ⟨0, 0, 0, 0⟩) (fun _ => rfl) ?_
  refine r_allOf G hl (by omega) ?_
  intro D h2 G
  exact hY _ _ ⟨_, _, G, fun G2 => h _ _ _ G2⟩
end
end
-- W3
section
set_option maxHeartbeats 1000000
section
variable {prog : Program} {w : World} {A : Around} {L : Addr} {h₀ : Heap}
  {m : Str → Option Value} {news : List (Addr × Obj)} {s : Shared} {E : Value → Shared → Prop}
def ltR (d1 n1 : Int) (x1 : Str) (d2 n2 : Int) (x2 : Str) : Bool := if d1 ≠ d2 then decide (d1 < d2) else if n1 ≠ n2 then decide (n1 < n2) else decide (x1.cps.toList < x2.cps.toList)
theorem isSub_tuple : isSubtype (.type "tuple") (.type "tuple") = pure true := by rw [isSubtype_type]; kernel_rfl
theorem lt_triple {a b : Addr} {d1 n1 d2 n2 : Int} {x1 x2 : Str} {t1 t2 t3 u1 u2 u3 : Tok} {c1 c2 : Nat} {Q : Value → Shared → Prop} (hu : A.units < cLine) (G : Lg h₀ L s.heap m news)
    (ha : (a, tupO [.int d1 t1, .int n1 t2, .str x1 t3] c1) ∈ news) (hb : (b, tupO [.int d2 u1, .int n2 u2, .str x2 u3] c2) ∈ news) (h : Q (.bool (ltR d1 n1 x1 d2 n2 x2)) s) :
    wpAny (model prog w) A (compareOp .Lt (.ref a) (.ref b)) Q E s := by
  have hTa : s.TypeIs (.ref a) "tuple" := ⟨_, G.mem ha, rfl⟩
  have hTb : s.TypeIs (.ref b) "tuple" := ⟨_, G.mem hb, rfl⟩
  refine wpAny_richCompare_same_room (op := .Lt) hTa hTb PySem.F.slot_tuple_lt (wpAny_call_entry PySem.F.slot_tuple_lt hTa PySem.F.entry_tuple_lt ?_ (PySem.F.args_tuple_lt_2 _ _)) hu
  unfold Builtin.«tuple.__lt__»
  k_node
  refine wpAny_bind ?_
  refine wpAny_pure ?_
  dsimp only
  refine wpAny_bind (wpAny_isInstance (T := "tuple") (b := true) hTb isSub_tuple ?_)
  refine wpAny_bind (tupleItemsOf_ (G.N.isTup ha) ?_)
  refine wpAny_bind (tupleItemsOf_ (G.N.isTup hb) ?_)
  rw [show ([Value.int d1 t1, .int n1 t2, .str x1 t3].toArray.toList.zip [Value.int d2 u1, .int n2 u2, .str x2 u3].toArray.toList) = [(.int d1 t1, .int d2 u1), (.int n1 t2, .int n2 u2), (.str x1 t3, .str x2 u3)] from rfl]
  simp only [List.forIn_cons, List.forIn_nil]
  refine wpAny_bind (wpAny_bind (wpAny_bind (wpAny_eqBool_int ?_)))
  by_cases e1 : d1 = d2
  · subst e1
    rw [if_neg (by simp)]
    refine wpAny_pure ?_
    dsimp only
    refine wpAny_bind (wpAny_bind (wpAny_eqBool_int ?_))
    by_cases e2 : n1 = n2
    · subst e2
      rw [if_neg (by simp)]
      refine wpAny_pure ?_
      dsimp only
      refine wpAny_bind (wpAny_bind (eqBool_str ?_))
      by_cases e3 : x1 = x2
      · subst e3
        rw [if_neg (by simp)]
        refine wpAny_pure ?_
        dsimp only
        refine wpAny_pure ?_
        dsimp only
        refine wpAny_pure ⟨_, rfl, by simp [Builtin.Tuple.tupleCompareSizes], ?_⟩
        have : ltR d1 n1 x1 d1 n1 x1 = false := by simp [ltR]
        rw [this] at h
        exact h
      · rw [if_pos (by simpa using e3)]
        refine wpAny_bind (wpAny_rule (wpAny_bind (lt_str (s := s) ?_)))
        refine wpAny_bind (wpAny_pure (wpAny_pure ?_))
        dsimp only
        refine wpAny_pure ?_
        dsimp only
        refine wpAny_pure ⟨_, rfl, by simp, ?_⟩
        have : ltR d1 n1 x1 d1 n1 x2 = decide (x1.cps.toList < x2.cps.toList) := by simp [ltR]
        rw [this] at h
        exact h
    · rw [if_pos (by simpa using e2)]
      refine wpAny_bind (wpAny_rule (wpAny_bind (lt_int (s := s) ?_)))
      refine wpAny_bind (wpAny_pure (wpAny_pure ?_))
      dsimp only
      refine wpAny_pure ?_
      dsimp only
      refine wpAny_pure ⟨_, rfl, by simp, ?_⟩
      have : ltR d1 n1 x1 d1 n2 x2 = decide (n1 < n2) := by simp [ltR, e2]
      rw [this] at h
      exact h
  · rw [if_pos (by simpa using e1)]
    refine wpAny_bind (wpAny_rule (wpAny_bind (lt_int (s := s) ?_)))
    refine wpAny_bind (wpAny_pure (wpAny_pure ?_))
    dsimp only
    refine wpAny_pure ?_
    dsimp only
    refine wpAny_pure ⟨_, rfl, by simp, ?_⟩
    have : ltR d1 n1 x1 d2 n2 x2 = decide (d1 < d2) := by simp [ltR, e1]
    rw [this] at h
    exact h
end
/-- the dots ahead taken off -/
theorem lstrip_dots (d : Nat) (w : List Nat) (hw : w.head? ≠ some 46) : Txt.lstripChars (S (List.replicate d 46 ++ w)) "." = S w := by
  unfold Txt.lstripChars
  rw [PyProof.Rows.stripBy_eq]
  have hg : ∀ c, (Str.ofString ".").cps.contains c = decide (c = 46) := by
    intro c
    have e : (Str.ofString ".").cps = #[46] := by decide +kernel
    rw [e]
    simp [Bool.eq_iff_iff]
  have e1 : (List.replicate d 46 ++ w).takeWhile ((Str.ofString ".").cps.contains) = List.replicate d 46 := by
    rw [List.takeWhile_append_of_pos (by
      intro c hc
      rw [hg, (List.mem_replicate.mp hc).2]; rfl)]
    cases w with
    | nil => simp
    | cons a r =>
      have : a ≠ 46 := fun e => hw (by rw [e]; rfl)
      rw [List.takeWhile_cons, hg, decide_eq_false this]
      simp
  have lo : PySem.stripLo (Str.ofString ".").cps.contains true (S (List.replicate d 46 ++ w)) = d := by
    unfold PySem.stripLo
    rw [if_pos rfl]
    show ((List.replicate d 46 ++ w).toArray.toList.takeWhile _).length = d
    rw [List.toList_toArray, e1, List.length_replicate]
  rw [lo]
  unfold PySem.stripHi Builtin.Str.strSub S
  simp [Str.length]
end
-- N5
section
theorem fillN5 : hd.heap_1 = hd.heap_1 ∧ PySem.Challenge.rw_pe0228_02 = PySem.Challenge.rw_pe0228_02 := by
  k_fill
  exact ⟨rfl, rfl⟩
section
variable {pr : Program} {loose : List Str} {mean : ExcName → Option Value} {mg mb : Str → Option Value} {prog : Program} {w : World} {n : Nat} {A : Around} {env : Env} {L : Addr} {h₀ : Heap}
  {m : Str → Option Value} {news : List (Addr × Obj)} {s : Shared} {E : Value → Shared → Prop}
set_option maxHeartbeats 1000000
abbrev dots (d : Nat) (w : List Nat) : List Nat := List.replicate d 46 ++ w
theorem law_rank {Q : Value → Shared → Prop} {d : Nat} {y : List Nat} {t : Tok}
    (C : Cx (hd.heap_1 w.params) pr loose mean mg mb (n + 1) A env L h₀) (G : Lg h₀ L s.heap m news) (hy : y.head? ≠ some 46) (hl : d + y.length ≤ 1000000)
    (h : ∀ D h' t t1 t2 t3, Lg h₀ L h' m ((D, tupO [.int (d : Int) t1, .int (y.length : Int) t2, .str (S y) t3] 0) :: news) → Q (.ref D) { s with heap := h', toks := t }) :
    wpAny (model prog w) A (call (.ref 253) [.str (S (dots d y)) t]) Q E s := by
  refine enter (binds := [(Str.ofString "row", .str (S (dots d y)) t)]) C G (by k_is) (by k_is) (BindsTo.of_eq rfl) (locs rfl) rfl rfl rfl (by decide) ?_
  intro g L' h₁ C st' G
  refine hideQ fun Y0 hY => ?_
  have hl1 : (S (dots d y)).length = d + y.length := by rw [S_len]; simp
  walk_at "go"
  refine SCL.lstripChars ?_ (Nat.le_trans (by rw [hl1]; exact hl) (by decide))
  intro t1 k1 _
  rw [lstrip_dots d y hy]
  walk_at "go"
  refine len_str (by rw [hl1]; omega) ?_
  walk_at "go"
  refine len_str (by rw [S_len]; omega) ?_
  walk_at "go"
  refine len_str (by rw [S_len]; omega) ?_
  walk_at "go"
  rw [hl1, S_len, show ((d + y.length : Nat) : Int) - (y.length : Int) = (d : Int) by omega] at G
  exact hY _ _ ⟨_, _, G, fun G2 => h _ _ _ _ _ _ G2⟩
end
end
-- L4
section
section
variable {pr : Program} {loose : List Str} {mean : ExcName → Option Value} {mg mb : Str → Option Value} {prog : Program} {w : World} {n : Nat} {A : Around} {env : Env} {L : Addr} {h₀ : Heap}
  {m : Str → Option Value} {news : List (Addr × Obj)} {s : Shared} {E : Value → Shared → Prop}
open LCg (NsObj lst Off3 Off1 fr_but news_but)

/-- a dict made by a block over one name -/
theorem comp_D {Kk : Type} [DecidableEq Kk] (knd : KeyKind prog w Kk) {kx vx iter : PySem.Expr} {x : Str} {px : Pos} {scope : Scope} {cl : List (Str × Addr)} {pos : Pos} {Q : Value → Shared → Prop}
    {news₀ : List (Addr × Obj)} (_G₀ : Lg h₀ L s.heap m news₀) (hclos : closureFor scope env = pure cl) (hcell : ∀ y ∈ scope.names, y.2 ≠ .cell) (hkind : scope.kind = .function)
    (hnames : ∀ y ∈ scope.names, y.2 = .local → scope.names.lookup y.1 = some .local) (hx : scope.names.lookup x = some .local)
    (h : wpAny (model prog w) A (eval iter env) (fun xv s₁ => wpAny (model prog w) A (pyIter xv) (fun it s₂ => ∃ I N P S news, it = .ref I ∧ N ≤ 1000 ∧ Src prog w A h₀ L m I N P S news s₂ ∧
      ∃ J : Nat → List (Kk × Value) → List (Addr × Obj) → Prop, (∀ i ys nw, J i ys nw → S nw) ∧ (∀ i ys nw, J i ys nw → ys.length ≤ 1000) ∧ J 0 [] news ∧
        (∀ I i v kvs h t nw oI C oC D oD m₂, i < N → P i v → NsObj oC m₂ → m₂ x = some v → oD.IsDictOf knd kvs → J i kvs nw → Lg h₀ L h m ((I, oI) :: (C, oC) :: (D, oD) :: nw) →
          wpAny (model prog w) A (eval kx (compEnvC scope cl C env)) (fun kv s₄ => wpAny (model prog w) A (eval vx (compEnvC scope cl C env))
            (fun vv s₅ => ∃ k h t nw', knd.is k kv = true ∧ s₅ = { s₂ with heap := h, toks := t } ∧ Lg h₀ L h m ((I, oI) :: (C, oC) :: (D, oD) :: nw') ∧ J (i + 1) (stored kvs k vv) nw') (fun _ _ => False) s₄) (fun _ _ => False) { s₂ with heap := h, toks := t }) ∧
        ∀ D oD h t kvs nw, J N kvs nw → oD.IsDictOf knd kvs → Lg h₀ L h m ((D, oD) :: nw) → Q (.ref D) { s₂ with heap := h, toks := t }) E s₁) E s)
    (hs : ∀ x, foldedSetIterable iter env x = pure x := by intro _; rfl) :
    wpAny (model prog w) A (eval (.DictComp kx vx [⟨.Name x px, iter, [], 0⟩] scope pos) env) Q E s := by
  rw [arm_eval_DictComp]
  refine wpAny_comprehension_free (use := none) rfl hs hclos hkind hnames (wpAny_mono h (fun xv s₁ h₁ => wpAny_mono h₁ (fun it s₂ h₂ => ?_) fun _ _ e => e) fun _ _ e => e)
  obtain ⟨I, N, P, S, news, rfl, hN, Z, J, hJS, hJl, h0, turn, fin⟩ := h₂
  obtain ⟨fp, St, W, hIo, hSt, hst, hfp⟩ := Z.ex
  have F := Z.G.F
  have Nw := Z.G.N
  have hIL := Z.hL
  have hI₀ := Z.hI
  have off := Z.off
  refine wpAny_newObj_type (wpAny_newFunctionEnv hcell (by intro y hy; simp at hy) (fun h₁ hns₁ hsb₁ => ?_) hkind)
  dsimp only at hns₁ hsb₁ ⊢
  have hnew : (s₂.heap.push { cls := .type "dict", dict := none, data := .dict #[] }).DictOf knd s₂.heap.objs.size [] := Heap.DictOf.new s₂.heap
  generalize hH2 : s₂.heap.push { cls := .type "dict", dict := none, data := .dict #[] } = H2 at hns₁ hsb₁ hnew ⊢
  generalize hDd : s₂.heap.objs.size = D at *
  have hC : H2.objs.size = D + 1 := by rw [← hH2, Heap.size_push, hDd]
  generalize hCc : H2.objs.size = C at *
  have hDC : D ≠ C := by rw [hC]; exact Nat.ne_of_lt (Nat.lt_succ_self _)
  have below : ∀ b, b < D → b ≠ C ∧ b ≠ D := fun b hb => ⟨by rw [hC]; exact Nat.ne_of_lt (Nat.lt_succ_of_lt hb), Nat.ne_of_lt hb⟩
  have lt2 : ∀ b o, s₂.heap.get? b = some o → b < D := fun b o e => by rw [← hDd]; exact Heap.lt_size e
  have hDf : D ∉ fp := fun hm => Nat.lt_irrefl _ (hfp _ hm)
  have hCf : C ∉ fp := fun hm => by have := hfp _ hm; rw [hC] at this; exact Nat.lt_irrefl _ (Nat.lt_of_succ_lt this)
  have hIf : I ∈ fp := W.sub I (List.mem_singleton.mpr rfl)
  have hIlt : I < D := hfp I hIf
  have old : ∀ b o, s₂.heap.get? b = some o → h₁.get? b = some o := fun b o e => hsb₁.extBut b o (below b (lt2 b o e)).1 (Heap.get?_push_of_some _ (hH2 ▸ Heap.get?_push_of_some _ e))
  have hacc : h₁.DictOf knd D [] := hnew.at fun o e => hsb₁.extBut _ _ hDC (Heap.get?_push_of_some _ e)
  obtain ⟨oD1, heD1, hoD1⟩ := Heap.dictOf_iff.mp hacc
  have hst₁ : St 0 h₁ := W.frame _ _ _ hst fun b _ o e => old b o e
  have fresh₀ : ∀ a, D ≤ a → h₀.get? a = none := fun a ha => by
    cases e : h₀.get? a with
    | none => rfl
    | some o' => have := lt2 _ _ (F.keep a o' e); exact absurd this (Nat.not_lt.mpr ha)
  have hD₀ : h₀.get? D = none := fresh₀ _ (Nat.le_refl _)
  have hC₀ : h₀.get? C = none := fresh₀ _ (by rw [hC]; exact Nat.le_succ _)
  have hLlt : L < D := by rw [← hDd]; exact F.ns.lt
  have hDL : D ≠ L := Ne.symm (below L hLlt).2
  have hCL : C ≠ L := Ne.symm (below L hLlt).1
  have hCI : I ≠ C := (below I hIlt).1
  have hDI : I ≠ D := (below I hIlt).2
  have off₀ : ∀ p ∈ news, p.1 ≠ I ∧ p.1 ≠ C ∧ p.1 ≠ D := fun p hp => ⟨off p hp, (below _ (lt2 _ _ (Nw p hp).1)).1, (below _ (lt2 _ _ (Nw p hp).1)).2⟩
  have G₁ : Lg h₀ L h₁ m ((D, oD1) :: news) := by
    refine ⟨F.keeps old, fun p hp => ?_, ?_⟩
    · rcases List.mem_cons.mp hp with rfl | hp
      · exact ⟨heD1, hDL, hD₀⟩
      · exact ⟨old _ _ (Nw p hp).1, (Nw p hp).2⟩
    · rw [List.map_cons, List.nodup_cons]
      refine ⟨fun hm => ?_, Z.G.nd⟩
      obtain ⟨p, hp, e⟩ := List.mem_map.mp hm
      exact (off₀ p hp).2.2 e
  have loop : ∀ s₃ : Shared, s₃ = { s₂ with heap := h₁, toks := s₂.toks + ([] : List (Str × Value)).length } →
      codeAny (model prog w) A (.compLoop (.DictComp kx vx [⟨.Name x px, iter, [], 0⟩] scope pos) 0 (.ref I) (.ref D) (compEnvC scope cl C env))
        (compPost (model prog w) A E none Q (.ref D) C) s₃ := by
    rintro s₃ rfl
    refine codeAny_compLoop_testsD
      (fun k s' => ∃ h' tk i kvs oD m' nw, s' = { s₂ with heap := h', toks := tk } ∧ i ≤ N ∧ k = N + 1 - i ∧ St i h' ∧ h'.Ns C m' ∧ oD.IsDictOf knd kvs ∧ Lg h₀ L h' m ((D, oD) :: nw) ∧ (∀ p ∈ nw, p.1 ≠ I ∧ p.1 ≠ C) ∧ J i kvs nw) ?_ (N + 1)
      ⟨h₁, _, 0, [], oD1, _, news, rfl, Nat.zero_le _, rfl, hst₁, hns₁, hoD1, G₁, fun p hp => ⟨(off₀ p hp).1, (off₀ p hp).2.1⟩, h0⟩
    rintro k s' ⟨h', tk, i, kvs, oD, m', nw, rfl, hi, rfl, hst', hn', hoD, G', off', hJ⟩
    by_cases hlt : i < N
    · refine W.item i _ _ _ hlt hst' fun v h₂ tk₂ hPv hst₂ hk₂ => ?_
      refine wpAny_assign_Name (wpAny_storeName_local (lookup_relabel_local hx) (hn'.at' fun o e => hk₂ _ o (by simpa using Ne.symm hCI) e) (fun h₃ hn₃ hs₃ => ?_) (by simp [compEnvC, relabel, hkind]))
      refine wpAny_tests_nil ?_
      simp only [if_true]
      have hst₃ : St (i + 1) h₃ := W.frame _ _ _ hst₂ fun b hb o e => hs₃.extBut b o (fun q => hCf (by have q' : b = C := q; rw [← q']; exact hb)) e
      obtain ⟨oI, heI⟩ := hIo _ _ hst₃
      obtain ⟨oC, heC, hoC⟩ := LCg.ns_obj hn₃
      have G₂ : Lg h₀ L h₂ m ((D, oD) :: nw) := lg_but G' hk₂ hIL hI₀ fun p hp => by
        rcases List.mem_cons.mp hp with rfl | hp
        · exact Ne.symm hDI
        · exact (off' p hp).1
      have ndD := G'.nd
      rw [List.map_cons, List.nodup_cons] at ndD
      have G₃ : Lg h₀ L h₃ m ((I, oI) :: (C, oC) :: (D, oD) :: nw) := by
        refine ⟨G₂.F.change hs₃ hCL hC₀, fun p hp => ?_, ?_⟩
        · rcases List.mem_cons.mp hp with rfl | hp
          · exact ⟨heI, Ne.symm hIL, hI₀⟩
          · rcases List.mem_cons.mp hp with rfl | hp
            · exact ⟨heC, hCL, hC₀⟩
            · have z := G₂.N p hp
              refine ⟨hs₃.extBut _ _ ?_ z.1, z.2⟩
              rcases List.mem_cons.mp hp with rfl | hp
              · exact hDC
              · exact (off' p hp).2
        · simp only [List.map_cons, List.nodup_cons, List.mem_cons, List.mem_map, not_or]
          refine ⟨⟨hCI, hDI, ?_⟩, ⟨Ne.symm hDC, ?_⟩, ?_, ndD.2⟩
          · rintro ⟨p, hp, e⟩; exact (off' p hp).1 e
          · rintro ⟨p, hp, e⟩; exact (off' p hp).2 e
          · rintro ⟨p, hp, e⟩; exact ndD.1 (List.mem_map.mpr ⟨p, hp, e⟩)
      refine wpAny_mono (turn I i v kvs h₃ _ nw oI C oC D oD _ hlt hPv hoC (by simp) hoD hJ G₃) (fun kv s₄ h₄ => wpAny_mono h₄ (fun vv s₅ h₅ => ?_) fun _ _ z => z.elim) fun _ _ z => z.elim
      obtain ⟨kk, h5, t5, nw5, hkk, rfl, G₅, hJ₅⟩ := h₅
      obtain ⟨o3, nd5⟩ := off_of3 G₅
      have o3 := o3.mem
      have hD5 : h5.DictOf knd D kvs := Heap.dictOf_iff.mpr ⟨oD, G₅.mem (.tail _ (.tail _ (.head _))), hoD⟩
      have hst5 : St (i + 1) h5 := hSt _ _ _ _ _ hst₃ heI (G₅.mem (.head _)) G₅.F.keep (fun p hp => G₅.N p (.tail _ (.tail _ (.tail _ hp)))) (hJS _ _ _ hJ₅)
      have hlen := hJl _ _ _ hJ
      refine wpAny_dictSet_pairs (hsz := by rw [sizeLine_eq]; omega) hkk hD5 fun h6 hD6 hs6 => ?_
      obtain ⟨oD6, heD6, hoD6⟩ := Heap.dictOf_iff.mp hD6
      have G₆ : Lg h₀ L h6 m ((I, oI) :: (C, oC) :: (D, oD6) :: nw5) := G₅.set 2 rfl hs6 heD6
      refine ⟨N + 1 - (i + 1), by omega, h6, _, i + 1, _, oD6, _, nw5, rfl, hlt, rfl, W.frame _ _ _ hst5 fun b hb o e => hs6.extBut b o (fun q => hDf (q ▸ hb)) e,
        hoC.ns (G₆.mem (.tail _ (.head _))), hoD6, G₆.sub (.cons _ (List.sublist_cons_self _ _)), fun p hp => ⟨(o3 p hp).1, (o3 p hp).2.1⟩, hJ₅⟩
    · obtain rfl : i = N := Nat.le_antisymm hi (Nat.not_lt.mp hlt)
      refine W.done _ _ _ hst' fun h₂ tk₂ hk₂ => ?_
      have G₂ : Lg h₀ L h₂ m ((D, oD) :: nw) := lg_but G' hk₂ hIL hI₀ fun p hp => by
        rcases List.mem_cons.mp hp with rfl | hp
        · exact Ne.symm hDI
        · exact (off' p hp).1
      refine ⟨m', hn'.at' fun o e => hk₂ _ o (by simpa using Ne.symm hCI) e, fun h'' hs'' => fin D oD h'' tk₂ kvs nw hJ hoD ?_⟩
      refine ⟨G₂.F.change hs'' hCL hC₀, fun p hp => ?_, G₂.nd⟩
      refine ⟨hs''.extBut _ _ ?_ (G₂.N p hp).1, (G₂.N p hp).2⟩
      rcases List.mem_cons.mp hp with rfl | hp
      · exact hDC
      · exact (off' p hp).2
  exact codeAny_compStart_dict (loop _ rfl) (W.self 0 _ _ _ hst₁ (loop _ rfl))
end
end
-- W4
section
section
variable {prog : Program} {w : World} {A : Around} {L : Addr} {h₀ : Heap}
  {m : Str → Option Value} {news : List (Addr × Obj)} {s : Shared} {E : Value → Shared → Prop}
theorem r_range1 {Q : Value → Shared → Prop} {n : Int} {t : Tok} (G : Lg h₀ L s.heap m news)
    (h : ∀ r h' tk t₁ u₁ v₁, IsRange h' r 0 n 1 t₁ u₁ v₁ → Lg h₀ L h' m news → Q (.ref r) { s with heap := h', toks := tk }) :
    wpAny (model prog w) A (call (.type "range") [.int n t]) Q E s :=
  range1_rows G.F G.N fun h' tk t₁ u₁ v₁ hr F' N' _ => h _ h' tk t₁ u₁ v₁ hr ⟨F', N', G.nd⟩
theorem r_itemB {value slice : PySem.Expr} {l : Addr} {its : Array Value} {k : Int} {u : Tok} {v : Value} {Q : Value → Shared → Prop}
    (hl : s.heap.IsList l its) (h0 : 0 ≤ k) (hhi : k < 2 ^ 63) (hx : its[k.toNat]? = some v) (h : Q v s)
    (hs : subscripted slice false (.ref l) (.int k u) = operate [.ref l, .int k u] (getItem (.ref l) (.int k u)) := by with_unfolding_all rfl) :
    wpAny (model prog w) A (subscriptTail value slice (.ref l) (.int k u)) Q E s :=
  tail_any hl.typeIs slot_list_getitem.lookup (wpAny_getItem_list hl h0 hhi hx h) hs
/-- a sign of a text -/
theorem r_sign {value slice : PySem.Expr} {x : Str} {t u : Tok} {k : Int} {c : Nat} {Q : Value → Shared → Prop}
    (hr : (decide (k < -(2 ^ 63 : Int)) || decide (k ≥ 2 ^ 63)) = false) (hc : (seqIndex? k x.length).bind (x.cps[·]?) = some c)
    (h : Q (.str (S [c]) s.toks) { s with toks := s.toks + 1 })
    (hs : subscripted slice false (.str x t) (.int k u) = operate [.str x t, .int k u] (getItem (.str x t) (.int k u)) := by with_unfolding_all rfl) :
    wpAny (model prog w) A (subscriptTail value slice (.str x t) (.int k u)) Q E s :=
  tail_any (typeIs_str _ _ _) PySem.F.slot_str_getitem.lookup (P.getItem_str hr hc h) hs
/-- a part of a list in a new one -/
theorem r_part {value slice : PySem.Expr} {l : Addr} {its : Array Value} {vl vu : Value} {lo hi : Option Int} {Q : Value → Shared → Prop} (G : Lg h₀ L s.heap m news) (hl : s.heap.IsList l its) (pl : IsPart vl lo) (pu : IsPart vu hi) (hsz : its.size ≤ 1000000)
    (h : ∀ D h', Lg h₀ L h' m ((D, listOf (slicePick its lo hi none) 0) :: news) → Q (.ref D) { s with heap := h' })
    (hs : subscripted slice false (.ref l) (.ref s.heap.objs.size) = operate [.ref s.heap.objs.size, .ref l] (getItem (.ref l) (.ref s.heap.objs.size)) := by with_unfolding_all rfl) :
    wpAny (model prog w) A (subscriptTail value slice (.ref l) (.ref s.heap.objs.size)) Q E { s with heap := s.heap.push { cls := .type "slice", data := .fields #[vl, vu, .none] } } := by
  refine kba_turn (value' := PySem.Expr.Name (PySem.Str.ofString "_") ⟨0, 0, 0, 0⟩) (fun _ => rfl) ?_
  exact slice_list G.F G.N hl pl pu (fun h' F' N' => h _ h' (G.cons F' N' fun p hp => Nat.lt_succ_of_lt (Heap.lt_size (G.N p hp).1))) hs (fun _ => rfl) (Nat.le_trans hsz (by decide))
end
theorem ints_at : ∀ {vs : List Value} {ns : List Int}, IntsAre vs ns → ∀ {i : Nat}, i < vs.length → ∃ (b : Int) (t : Tok), vs[i]? = some (.int b t) ∧ ns[i]? = some b
  | _, _, .nil, _, h => absurd h (Nat.not_lt_zero _)
  | _, _, .cons n t _, 0, _ => ⟨n, t, rfl, rfl⟩
  | _, _, .cons n t r, i + 1, h => by
    obtain ⟨b, u, h1, h2⟩ := ints_at r (i := i) (by simpa using h)
    exact ⟨b, u, by simpa using h1, by simpa using h2⟩
theorem abcd_at : ∀ j : Nat, j < 4 → (seqIndex? (j : Int) (Str.ofString "abcd").length).bind ((Str.ofString "abcd").cps[·]?) = some (97 + j) := by
  intro j hj
  rcases (by omega : j = 0 ∨ j = 1 ∨ j = 2 ∨ j = 3) with rfl | rfl | rfl | rfl <;> decide +kernel
theorem fmod_lt (a : Int) (k : Nat) (hk : 0 < k) : ∃ j : Nat, j < k ∧ a.fmod (k : Int) = (j : Int) := by
  rw [Int.fmod_eq_emod_of_nonneg _ (by omega)]
  have h1 := Int.emod_nonneg a (b := (k : Int)) (by omega)
  have h2 := Int.emod_lt_of_pos a (b := (k : Int)) (by omega)
  exact ⟨(a % (k : Int)).toNat, by omega, by omega⟩
section
variable {L : Addr} {h₀ h : Heap} {m : Str → Option Value}
theorem Lg.back3 {x a b c : Addr × Obj} {r : List (Addr × Obj)} (G : Lg h₀ L h m (x :: a :: b :: c :: r)) : Lg h₀ L h m (a :: b :: c :: x :: r) :=
  G.perm ((List.Perm.swap _ _ _).trans (.cons _ ((List.Perm.swap _ _ _).trans (.cons _ (List.Perm.swap _ _ _)))))
end
theorem get_app {α : Type} (x : α) (tl r : List α) (i : Nat) : (x :: (tl ++ r))[tl.length + 1 + i]? = r[i]? := by
  rw [show tl.length + 1 + i = (tl.length + i) + 1 by omega, List.getElem?_cons_succ, List.getElem?_append_right (by omega), show tl.length + i - tl.length = i by omega]
theorem set_app {α : Type} (x q : α) (tl r : List α) (i : Nat) : (x :: (tl ++ r)).set (tl.length + 1 + i) q = x :: (tl ++ r.set i q) := by
  rw [show tl.length + 1 + i = (tl.length + i) + 1 by omega, List.set_cons_succ, List.set_append_right _ _ (by omega), show tl.length + i - tl.length = i by omega]
theorem DatAll.snocMap {α : Type} {f : α → Dat} {nw nw' : List (Addr × Obj)} {ys : List Value} {rs : List α} {v : Value} {r : α} (h : DatAll nw ys (rs.map f)) (hs : ∀ p ∈ nw, p ∈ nw') (hv : DatIn nw' v (f r)) : DatAll nw' (ys ++ [v]) ((rs ++ [r]).map f) := by
  rw [List.map_append]
  exact (h.mono hs).append (.one hv)
theorem DatIn.intEq {nw : List (Addr × Obj)} {x y : Int} {t : Tok} (e : x = y) : DatIn nw (.int x t) (.int y) := by subst e; exact .int _ _
theorem DatAll.drop {nw : List (Addr × Obj)} : ∀ {vs : List Value} {ds : List Dat} (k : Nat), DatAll nw vs ds → DatAll nw (vs.drop k) (ds.drop k)
  | _, _, 0, h => h
  | [], _, k + 1, h => by cases h; exact .nil
  | v :: vs, _, k + 1, h => by
    cases h with
    | cons _ r => exact DatAll.drop k r
theorem DatAll.take {nw : List (Addr × Obj)} : ∀ {vs : List Value} {ds : List Dat} (k : Nat), DatAll nw vs ds → DatAll nw (vs.take k) (ds.take k)
  | _, _, 0, _ => .nil
  | [], _, k + 1, h => by cases h; exact .nil
  | v :: vs, _, k + 1, h => by
    cases h with
    | cons h r => exact .cons h (DatAll.take k r)
theorem DatAll.sub {α : Type} {f : α → Dat} {nw : List (Addr × Obj)} {vs : List Value} {rs : List α} (a b : Nat) (h : DatAll nw vs (rs.map f)) : DatAll nw ((vs.drop a).take b) (((rs.drop a).take b).map f) := by
  rw [List.map_take, List.map_drop]
  exact DatAll.take b (DatAll.drop a h)
theorem valueAt_none {K : Type} [DecidableEq K] {kvs : List (K × Value)} {k : K} (h : ∀ p ∈ kvs, p.1 ≠ k) : valueAt kvs k = none := by
  unfold valueAt
  rw [List.find?_eq_none.mpr fun p hp => by simpa using h p hp]; rfl
end
-- N6
section
theorem fillN6 : hd.heap_1 = hd.heap_1 ∧ PySem.Challenge.rw_pe0228_02 = PySem.Challenge.rw_pe0228_02 := by
  k_fill
  exact ⟨rfl, rfl⟩
section
variable {pr : Program} {loose : List Str} {mean : ExcName → Option Value} {mg mb : Str → Option Value} {prog : Program} {w : World} {n : Nat} {A : Around} {env : Env} {L : Addr} {h₀ : Heap}
  {m : Str → Option Value} {news : List (Addr × Obj)} {s : Shared} {E : Value → Shared → Prop}
set_option maxHeartbeats 20000000
/-- a road, as data -/
def roadD (p : Nat × Nat) : Dat := .tuple [.str (S [p.1]), .int (p.2 : Int)]
/-- the roads as a dict of the ledger -/
structure RoadsAt (prog : Program) (w : World) (news : List (Addr × Obj)) (D : Addr) (rd : Nat → List (Nat × Nat)) : Prop where
  ex : ∃ (oD : Obj) (ls : Nat → Addr), (D, oD) ∈ news ∧ oD.IsDictOf (strKind prog w) ([97, 98, 99, 100].map fun q => (S [q], Value.ref (ls q))) ∧
    ∀ q ∈ [97, 98, 99, 100], ∃ its c, (ls q, listOf its c) ∈ news ∧ DatAll news its.toList ((rd q).map roadD)
  ok : ∀ q ∈ [97, 98, 99, 100], (rd q).length = 2 ∧ ∀ p ∈ rd q, p.1 ∈ [97, 98, 99, 100] ∧ 1 ≤ p.2 ∧ p.2 ≤ 3

theorem law_roads {Q : Value → Shared → Prop} {sa : Addr} {vs : List Value} {ns : List Int}
    (C : Cx (hd.heap_1 w.params) pr loose mean mg mb (n + 1) A env L h₀) (G : Lg h₀ L s.heap m news) (hS : h₀.IsList sa vs.toArray) (hI : IntsAre vs ns) (hlen : ns.length ≤ 63)
    (h : ∀ D h' t fz rd, RoadsAt prog w fz D rd → Lg h₀ L h' m (fz ++ news) → Q (.ref D) { s with heap := h', toks := t }) :
    wpAny (model prog w) A (call (.ref 246) [.ref sa]) Q E s := by
  refine enterL (binds := [(Str.ofString "script", .ref sa)]) C G (by k_is) (by k_is) (BindsTo.of_eq rfl) ?_ (by decide +kernel) rfl rfl rfl ?_
  · intro n x hx
    rw [List.mem_singleton.mp hx]
    exact .inl rfl
  intro g L' h₁ tk cells C st' Y G
  refine hideQ fun Y0 hY => ?_
  have hS' : g.IsList sa vs.toArray := by obtain ⟨o, e, r⟩ := hS; exact ⟨o, st' _ _ e, r⟩
  obtain ⟨oc, rfl, d1⟩ := CellsAre.one (c := L' + 1) (n := Str.ofString "ends") Y
  dsimp only [List.cons_append, List.nil_append] at G
  walk_at "go"
  walk_at "go"
  refine wpAny_Slice (evalPart_none_step (evalPart_some_step ?_))
  walk_at "go"
  refine evalPart_none_step ?_
  refine r_part G (by obtain ⟨o, e, r⟩ := hS'; exact ⟨o, G.F.keep _ _ e, r⟩) .none (.int 16 _) (by rw [List.size_toArray, hI.length]; omega) ?_
  intro D2 h2 G
  dsimp only
  walk_at "go"
  have hI2 : IntsAre (slicePick vs.toArray none (some 16) none).toList (ns.take 16) := slice_ints_uptoW hI (by decide)
  have hsz2 : (slicePick vs.toArray none (some 16) none).size = (ns.take 16).length := by rw [← hI2.length]; simp
  generalize slicePick vs.toArray none (some 16) none = sp at *
  have hN : (ns.take 16).length ≤ 16 := by rw [List.length_take]; omega
  have hN2 : (ns.take 16).length ≤ ns.length := by rw [List.length_take]; omega
  refine len_list (G.lst (.head _)) (by rw [hsz2]; omega) ?_
  walk_at "go"
  refine r_range1 G ?_
  intro r h3 t3 u1 u2 u3 hr G
  refine for_range (N := (ns.take 16).length) C.hn G hr (by rw [hsz2]) (by omega) (fun i m' nw => ∃ its c, nw = (D2, listOf (sp) 0) :: (D, listOf its c) :: (L' + 1, oc) :: news ∧ its.size = 8 ∧
    (∀ (j : Nat) (v : Value), its[j]? = some v → ∃ (a : Int) (t : Tok), v = Value.int a t ∧ 0 ≤ a ∧ a ≤ 9 + 11 * (i : Int)) ∧ m' "numbers" = some (.ref D) ∧ m' "script" = some (.ref sa)) ⟨_, _, rfl, rfl, ?_, rfl, rfl⟩ ?_ ?_
  · intro j v hj
    have hj8 : j < 8 := by
      rcases Nat.lt_or_ge j 8 with q | q
      · exact q
      · rw [Array.getElem?_eq_none (by simpa using q)] at hj; cases hj
    rcases (by omega : j = 0 ∨ j = 1 ∨ j = 2 ∨ j = 3 ∨ j = 4 ∨ j = 5 ∨ j = 6 ∨ j = 7) with rfl | rfl | rfl | rfl | rfl | rfl | rfl | rfl <;> (cases hj; exact ⟨_, _, rfl, by decide, by decide⟩)
  · intro I i tv h4 t4 m4 nw oI hi pt1 GG
    refine hideT fun Z0 hZ => ?_
    obtain ⟨its, c, enw6, h8, hb, mn, ms⟩ := pt1
    have G := GG.to1 enw6
    walk_at "go"
    have hj : i % 8 < 8 := Nat.mod_lt _ (by decide)
    have fm : ((i : Nat) : Int).fmod 8 = ((i % 8 : Nat) : Int) := by rw [Int.fmod_eq_emod_of_nonneg _ (by decide)]; omega
    obtain ⟨v, hv⟩ : ∃ v, its[i % 8]? = some v := ⟨_, Array.getElem?_eq_getElem (by omega)⟩
    obtain ⟨a, ta, rfl, ha0, ha1⟩ := hb _ _ hv
    have hvs : i < vs.length := by rw [hI.length]; omega
    obtain ⟨b, tb, hvb, -⟩ := ints_at hI hvs
    have hvb : vs.toArray[i]? = some (.int b tb) := by simpa using hvb
    walk_at "go"
    rw [fm]
    refine r_item G (by walk_at "mem") (by omega) (by omega) (by rw [Int.toNat_natCast]; exact hv) ?_
    walk_at "go"
    refine r_itemB (by obtain ⟨o, e, r⟩ := hS'; exact ⟨o, G.F.keep _ _ e, r⟩) (by omega) (by omega) (by rw [Int.toNat_natCast]; exact hvb) ?_
    walk_at "go"
    rw [fm]
    have hb12 : 0 ≤ b.fmod 12 ∧ b.fmod 12 ≤ 11 := by rw [Int.fmod_eq_emod_of_nonneg _ (by decide)]; omega
    generalize b.fmod 12 = b12 at *
    refine r_setItem (i := 2) G rfl (by omega) (by omega) (by omega) ?_
    intro h5 G
    dsimp only [List.set_cons_succ, List.set_cons_zero] at G
    dsimp only
    walk_at "go"
    refine hZ _ _ ⟨_, _, _, _, rfl, G, _, _, rfl, by simpa using h8, ?_, mn, ms⟩
    intro j v hjv
    rw [Int.toNat_natCast, Array.getElem?_setIfInBounds] at hjv
    split at hjv
    · split at hjv
      · cases hjv
        exact ⟨_, _, rfl, by omega, by omega⟩
      · cases hjv
    · obtain ⟨a', t', e, h0, h1⟩ := hb _ _ hjv
      exact ⟨a', t', e, h0, by omega⟩
  · rintro h4 t4 m4 nw ⟨its, c, enw7, h8, hb, mn, ms⟩ GG
    have G := GG.to enw7
    dsimp only
    walk_at "go"
    have hlt : ∀ q ∈ news, q ∈ (D2, listOf (sp) 0) :: (D, listOf its c) :: (L' + 1, oc) :: news := fun _ h => .tail _ (.tail _ (.tail _ h))
    refine comp_U G rfl (by decide) rfl (by decide) rfl ?_
    walk_at "go"
    refine src_list C.hn G (.inr ⟨_, by walk_at "mem", rfl, _, rfl⟩) ?_
    rintro I s2 ⟨h5, rfl⟩ Z
    refine ⟨I, _, _, _, _, rfl, by rw [h8]; decide, Z, fun i ys nw => ∃ (tl : List (Addr × Obj)) (rs : List (Nat × Nat)), nw = tl ++ ((D2, listOf (sp) 0) :: (D, listOf its c) :: (L' + 1, oc) :: news) ∧ rs.length = i ∧ DatAll tl ys (rs.map roadD) ∧
      ∀ p ∈ rs, p.1 ∈ [97, 98, 99, 100] ∧ 1 ≤ p.2 ∧ p.2 ≤ 3, ?_, ⟨[], [], rfl, rfl, .nil, by simp⟩, ?_, ?_⟩
    · rintro i ys nw ⟨tl, rs, rfl, -⟩
      exact .inr ⟨_, List.mem_append_right _ (by walk_at "mem"), rfl, _, rfl⟩
    · intro I i v ys h6 t6 nw oI Cc oC Dl m₂ _ hv hC hm2 pt2 GG
      refine hideQ fun Z0 hZ => ?_
      obtain ⟨tl, rs, enw8, hrl, hrd, hrok⟩ := pt2
      have G := GG.to3 enw8
      obtain ⟨a, ta, rfl, ha0, ha1⟩ := hb _ _ hv
      walk_at "go"
      obtain ⟨j, hj, ej⟩ : ∃ j : Nat, j < 4 ∧ a.fmod 4 = (j : Int) := fmod_lt a 4 (by decide)
      obtain ⟨j2, hj2, ej2⟩ : ∃ j : Nat, j < 3 ∧ (a.fdiv 4).fmod 3 = (j : Int) := fmod_lt (a.fdiv 4) 3 (by decide)
      rw [ej]
      refine r_sign (by have : (j : Int) < 4 := by omega
                        rw [decide_eq_false (by omega), decide_eq_false (by omega)]; rfl) (abcd_at j hj) ?_
      walk_at "go"
      have e12 : (1 : Int) + (a.fdiv 4).fmod 3 = ((1 + j2 : Nat) : Int) := by omega
      refine hZ _ _ ⟨_, _, _, rfl, G.back3, (D, _) :: tl, rs ++ [(97 + j, 1 + j2)], rfl, by simp [hrl], ?_, ?_⟩
      · exact DatAll.snocMap hrd (fun _ h => .tail _ h) (.tuple (.head _) (.cons (.str _ _) (.cons (DatIn.intEq e12) .nil)))
      · intro p hp
        rcases List.mem_append.mp hp with hp | hp
        · exact hrok p hp
        · rw [List.mem_singleton.mp hp]
          refine ⟨?_, by show 1 ≤ 1 + j2; omega, by show 1 + j2 ≤ 3; omega⟩
          show 97 + j ∈ [97, 98, 99, 100]
          simp only [List.mem_cons, List.not_mem_nil, or_false]
          omega
    · rintro De h7 t7 ys nw ⟨tl, rs, enw9, hrl, hrd, hrok⟩ GG
      have G := GG.to1 enw9
      rw [h8] at hrl
      dsimp only
      refine r_storeC (i := tl.length + 1 + 2) G rfl ((get_app _ tl _ 2).trans rfl) d1 ?_
      intro h8' o8 e8 G
      have G := (set_app _ (L' + 1, o8) tl ((D2, listOf sp 0) :: (D, listOf its c) :: (L' + 1, oc) :: news) 2) ▸ G
      dsimp only [List.set_cons_succ, List.set_cons_zero] at G
      have hmem : (L' + 1, o8) ∈ ((D2, listOf sp 0) :: (D, listOf its c) :: (L' + 1, o8) :: news) := .tail _ (.tail _ (.head _))
      generalize hbase : (D2, listOf sp 0) :: (D, listOf its c) :: (L' + 1, o8) :: news = base at *
      have hys : ys.length = 8 := by have := hrd.length; simpa [hrl] using this
      walk_at "go"
      refine comp_D (strKind prog w) G rfl (by decide) rfl (by decide) rfl ?_
      walk_at "go"
      refine r_range1 G ?_
      intro r h9 t9 u1 u2 u3 hr G
      refine src_range (N := 4) C.hn G hr rfl (by decide) ?_
      rintro I s2 ⟨h10, rfl⟩ Z
      refine ⟨I, _, _, _, _, rfl, by decide, Z, fun i kvs nw => ∃ (tl2 : List (Addr × Obj)) (ls : Nat → Addr), nw = tl2 ++ ((De, LCg.lst ys) :: (tl ++ base)) ∧ i ≤ 4 ∧ kvs = (List.range i).map (fun q => (S [97 + q], Value.ref (ls (97 + q)))) ∧
        ∀ q < i, ∃ its c, (ls (97 + q), listOf its c) ∈ tl2 ∧ DatAll tl its.toList (((rs.drop (2 * q)).take 2).map roadD), ?_, ?_, ⟨[], fun _ => 0, rfl, by decide, rfl, by intro q hq; omega⟩, ?_, ?_⟩
      · intro _ _ _ _; trivial
      · rintro i kvs nw ⟨tl2, ls, rfl, hi, rfl, -⟩
        simp; omega
      · intro I i v kvs h11 t11 nw oI Cc oC Dd oD m₂ hi4 pt3 hC hm2 hoD pt4 GG
        refine hideQ fun Z0 hZ => ?_
        obtain ⟨tv, rfl⟩ := pt3
        obtain ⟨tl2, ls, enw10, hi, rfl, hls⟩ := pt4
        have G := GG.to3 enw10
        rw [Int.zero_add] at hm2
        have hm8 : (L' + 1, o8) ∈ tl2 ++ ((De, LCg.lst ys) :: (tl ++ base)) := List.mem_append_right _ (.tail _ (List.mem_append_right _ hmem))
        have hmE : (De, listOf ys.toArray ys.length) ∈ tl2 ++ ((De, LCg.lst ys) :: (tl ++ base)) := List.mem_append_right _ (.head _)
        walk_at "go"
        refine r_sign (by rw [decide_eq_false (by omega), decide_eq_false (by omega)]; rfl) (abcd_at i hi4) ?_
        refine hZ _ _ ?_
        refine hideQ fun Z1 hZ1 => ?_
        walk_at "go"
        refine wpAny_Slice (evalPart_some_step ?_)
        walk_at "go"
        refine mul_int ?_ (by mul_fits)
        refine evalPart_some_step ?_
        walk_at "go"
        refine mul_int ?_ (by mul_fits)
        walk_at "go"
        refine evalPart_none_step ?_
        refine r_part G (G.lst (by walk_at "mem")) (.int (2 * (i : Int)) _) (.int (2 * (i : Int) + 2) _) (by rw [List.size_toArray]; omega) ?_
        intro Dn h12 G
        have hpick : slicePick ys.toArray (some (2 * (i : Int))) (some (2 * (i : Int) + 2)) none = ((ys.drop (2 * i)).take 2).toArray := by
          have := slicePick_run ys.toArray (2 * i) (2 * i + 2) (by rw [List.size_toArray]; omega) (by omega)
          rw [show 2 * i + 2 - 2 * i = 2 by omega] at this
          exact this
        rw [hpick] at G
        have hst : stored ((List.range i).map (fun q => (S [97 + q], Value.ref (ls (97 + q))))) (S [97 + i]) (.ref Dn) = (List.range (i + 1)).map (fun q => (S [97 + q], Value.ref (if q = i then Dn else ls (97 + q)))) := by
          rw [stored_absent (valueAt_none ?_), List.range_succ, List.map_append]
          · congr 1
            · apply List.map_congr_left
              intro q hq
              have : q ≠ i := by have := List.mem_range.mp hq; omega
              simp [this]
            · simp
          · intro p hp
            obtain ⟨q, hq, rfl⟩ := List.mem_map.mp hp
            intro e
            have := S_inj e
            have hq' := List.mem_range.mp hq
            simp at this; omega
        refine hZ1 _ _ ⟨S [97 + i], _, _, _, strKind_is _ _ _ _, rfl, G.back3, (Dn, _) :: tl2, fun q => if q = 97 + i then Dn else ls q, rfl, hi4, ?_, ?_⟩
        · rw [hst]
          apply List.map_congr_left
          intro q hq
          by_cases e : q = i
          · simp [e]
          · have : ¬ (97 + q = 97 + i) := by omega
            simp [e, this]
        · intro q hq
          by_cases e : q = i
          · subst e
            refine ⟨((ys.drop (2 * q)).take 2).toArray, 0, ?_, ?_⟩
            · simp only [if_true]; exact .head _
            · exact DatAll.sub (2 * q) 2 hrd
          · have h97 : ¬ (97 + q = 97 + i) := by omega
            obtain ⟨its3, c3, h31, h32⟩ := hls q (by omega)
            refine ⟨its3, c3, ?_, h32⟩
            simp only [h97, if_false]
            exact .tail _ h31
      · rintro Dd oD h13 t13 kvs nw ⟨tl2, ls, rfl, -, rfl, hls⟩ hoD G
        have efz : (Dd, oD) :: (tl2 ++ ((De, LCg.lst ys) :: (tl ++ base))) = ((Dd, oD) :: (tl2 ++ ((De, LCg.lst ys) :: (tl ++ [(D2, listOf sp 0), (D, listOf its c), (L' + 1, o8)])))) ++ news := by
          rw [← hbase]; simp
        refine hY _ _ ⟨_, _, G, fun G2 => h Dd _ _ ((Dd, oD) :: (tl2 ++ ((De, LCg.lst ys) :: (tl ++ [(D2, listOf sp 0), (D, listOf its c), (L' + 1, o8)])))) (fun q => (rs.drop (2 * (q - 97))).take 2) ⟨⟨oD, ls, .head _, hoD, ?_⟩, ?_⟩ (efz ▸ G2)⟩
        · intro q hq
          have hq' : 97 ≤ q ∧ q < 101 := by simp only [List.mem_cons, List.not_mem_nil, or_false] at hq; omega
          obtain ⟨its3, c3, h31, h32⟩ := hls (q - 97) (by omega)
          rw [show 97 + (q - 97) = q by omega] at h31
          exact ⟨its3, c3, .tail _ (List.mem_append_left _ h31), DatAll.mono (fun p hp => .tail _ (List.mem_append_right _ (.tail _ (List.mem_append_left _ hp)))) h32⟩
        · intro q hq
          have hq' : 97 ≤ q ∧ q < 101 := by simp only [List.mem_cons, List.not_mem_nil, or_false] at hq; omega
          have hr8 : rs.length = 8 := by rw [hrl]
          refine ⟨by rw [List.length_take, List.length_drop]; omega, fun p hp => hrok p (List.mem_of_mem_drop (List.mem_of_mem_take hp))⟩
end
end
-- P0
section
/-- a way: its dots and its places -/
abbrev Row := Nat × List Nat
def rankD (r : Row) : Dat := .tuple [.int (r.1 : Int), .int (r.2.length : Int), .str (S r.2)]
def lastN (y : List Nat) : Nat := y.getLast?.getD 0
def headN (y : List Nat) : Nat := y.head?.getD 0
def ext (r : Row) (p : Nat × Nat) : Row := (r.1 + p.2, r.2 ++ [p.1])
def nextW (rd : Nat → List (Nat × Nat)) (l : List Row) : List Row := l.flatMap fun r => (rd (lastN r.2)).map (ext r)
def waysAt (rd : Nat → List (Nat × Nat)) : Nat → List Row
  | 0 => [(1, [97]), (1, [98]), (1, [99]), (1, [100])]
  | n + 1 => nextW rd (waysAt rd n)
def ends (r : Row) : Nat × Nat := (headN r.2, lastN r.2)
def ltRow (a b : Row) : Bool := ltR (a.1 : Int) (a.2.length : Int) (S a.2) (b.1 : Int) (b.2.length : Int) (S b.2)
abbrev Best := List ((Nat × Nat) × Row)
def look (bl : Best) (e : Nat × Nat) : Option Row := (bl.find? fun b => b.1 = e).map (·.2)
def put (bl : Best) (e : Nat × Nat) (r : Row) : Best := if bl.any (fun b => b.1 = e) then bl.map (fun b => if b.1 = e then (e, r) else b) else bl ++ [(e, r)]
def updB (bl : Best) (r : Row) : Best := match look bl (ends r) with
  | none => put bl (ends r) r
  | some r0 => if ltRow r r0 then put bl (ends r) r else bl
def bestUp (rd : Nat → List (Nat × Nat)) : Nat → Best
  | 0 => []
  | n + 1 => (waysAt rd n).foldl updB (bestUp rd n)

/-- the dict of the best ways -/
def kvB (ad : Nat × Nat → Addr) (b : (Nat × Nat) × Row) : Str × Value := (S [b.1.1, b.1.2], .ref (ad b.1))
theorem key_eq (e f : Nat × Nat) : (S [e.1, e.2] = S [f.1, f.2]) ↔ e = f := by
  constructor
  · intro h
    have := S_inj h
    simp only [List.cons.injEq, and_true] at this
    exact Prod.ext this.1 this.2
  · rintro rfl; rfl
theorem valueAt_kv (ad : Nat × Nat → Addr) (e : Nat × Nat) : ∀ bl : Best, valueAt (bl.map (kvB ad)) (S [e.1, e.2]) = (look bl e).map fun _ => Value.ref (ad e)
  | [] => rfl
  | b :: r => by
    have ih := valueAt_kv ad e r
    unfold valueAt look at ih ⊢
    rw [List.map_cons, List.find?_cons, List.find?_cons]
    by_cases h : b.1 = e
    · have : (kvB ad b).1 = S [e.1, e.2] := by show S [b.1.1, b.1.2] = _; rw [h]
      simp [this, h, kvB]
    · have : ¬ (kvB ad b).1 = S [e.1, e.2] := fun q => h ((key_eq _ _).mp q)
      simp only [this, h, decide_false]
      exact ih
theorem any_kv (ad : Nat × Nat → Addr) (e : Nat × Nat) (bl : Best) : ((bl.map (kvB ad)).any fun kv => kv.1 = S [e.1, e.2]) = bl.any fun b => b.1 = e := by
  rw [List.any_map]
  congr 1
  funext b
  show decide (S [b.1.1, b.1.2] = _) = _
  rw [decide_eq_decide]
  exact key_eq _ _
theorem stored_kv (ad : Nat × Nat → Addr) (e : Nat × Nat) (r : Row) (T : Addr) (bl : Best) : stored (bl.map (kvB ad)) (S [e.1, e.2]) (.ref T) = (put bl e r).map (kvB fun f => if f = e then T else ad f) := by
  unfold stored put
  rw [any_kv]
  split
  · rw [List.map_map, List.map_map]
    apply List.map_congr_left
    intro b _
    show (if (kvB ad b).1 = S [e.1, e.2] then ((kvB ad b).1, Value.ref T) else kvB ad b) = kvB _ (if b.1 = e then (e, r) else b)
    by_cases h : b.1 = e
    · have : (kvB ad b).1 = S [e.1, e.2] := by show S [b.1.1, b.1.2] = _; rw [h]
      rw [if_pos this, if_pos h, this]
      simp [kvB]
    · have : ¬ (kvB ad b).1 = S [e.1, e.2] := fun q => h ((key_eq _ _).mp q)
      rw [if_neg this, if_neg h]
      simp [kvB, h]
  · rename_i hn
    rw [List.map_append]
    congr 1
    · apply List.map_congr_left
      intro b hb
      have : b.1 ≠ e := fun q => hn (List.any_eq_true.mpr ⟨b, hb, by simp [q]⟩)
      simp [kvB, this]
    · simp [kvB]
/-- what the dict holds stands in the ledger -/
def BestIn (nw : List (Addr × Obj)) (ad : Nat × Nat → Addr) (bl : Best) : Prop := ∀ b ∈ bl, DatIn nw (.ref (ad b.1)) (rankD b.2)
theorem BestIn.mono {a b : List (Addr × Obj)} {ad : Nat × Nat → Addr} {bl : Best} (h : BestIn a ad bl) (hs : ∀ p ∈ a, p ∈ b) : BestIn b ad bl := fun x hx => (h x hx).mono hs
theorem BestIn.put {nw : List (Addr × Obj)} {ad : Nat × Nat → Addr} {bl : Best} {e : Nat × Nat} {r : Row} {T : Addr} (h : BestIn nw ad bl) (hT : DatIn nw (.ref T) (rankD r)) : BestIn nw (fun f => if f = e then T else ad f) (put bl e r) := by
  intro b hb
  unfold Mine.put at hb
  split at hb
  · obtain ⟨b0, hb0, rfl⟩ := List.mem_map.mp hb
    by_cases q : b0.1 = e
    · rw [if_pos q]; simp only [if_true]; exact hT
    · rw [if_neg q]; simp only [q, if_false]; exact h b0 hb0
  · rename_i hn
    rcases List.mem_append.mp hb with hb | hb
    · have : b.1 ≠ e := fun q => hn (List.any_eq_true.mpr ⟨b, hb, by simp [q]⟩)
      simp only [this, if_false]; exact h b hb
    · rw [List.mem_singleton.mp hb]; simp only [if_true]; exact hT
theorem BestIn.at {nw : List (Addr × Obj)} {ad : Nat × Nat → Addr} {bl : Best} {e : Nat × Nat} {r : Row} (h : BestIn nw ad bl) (hl : look bl e = some r) : DatIn nw (.ref (ad e)) (rankD r) := by
  unfold look at hl
  obtain ⟨b, hb, rfl⟩ := Option.map_eq_some_iff.mp hl
  have h1 := List.mem_of_find?_eq_some hb
  have h2 := List.find?_some hb
  simp only [decide_eq_true_eq] at h2
  rw [← h2]
  exact h b h1
theorem put_len (bl : Best) (e : Nat × Nat) (r : Row) : (put bl e r).length ≤ bl.length + 1 := by
  unfold put; split <;> simp
theorem updB_len (bl : Best) (r : Row) : (updB bl r).length ≤ bl.length + 1 := by
  unfold updB
  split
  · exact put_len _ _ _
  · split
    · exact put_len _ _ _
    · omega
theorem fold_len : ∀ (l : List Row) (bl : Best), (l.foldl updB bl).length ≤ bl.length + l.length
  | [], bl => by simp
  | r :: l, bl => by
    have := fold_len l (updB bl r)
    have := updB_len bl r
    simp only [List.foldl_cons, List.length_cons]; omega
end
-- W5
section
section
variable {prog : Program} {w : World} {A : Around} {L : Addr} {h₀ : Heap}
  {m : Str → Option Value} {news : List (Addr × Obj)} {s : Shared} {E : Value → Shared → Prop}
theorem r_addS {a b : List Nat} {t u : Tok} {Q : Value → Shared → Prop} (hsz : a.length + b.length ≤ 1000000) (h : ∀ t' k, Q (.str (S (a ++ b)) t') { s with toks := k }) :
    wpAny (model prog w) A (binaryOp .Add (.str (S a) t) (.str (S b) u)) Q E s :=
  SBL.add (fun t' k _ => by rw [S_append]; exact h t' k) (by rw [S_len, S_len, sizeLine_eq]; omega)
/-- the first sign -/
theorem r_first {value slice : PySem.Expr} {y : List Nat} {t u : Tok} {Q : Value → Shared → Prop} (hy : y ≠ [])
    (h : Q (.str (S [headN y]) s.toks) { s with toks := s.toks + 1 })
    (hs : subscripted slice false (.str (S y) t) (.int 0 u) = operate [.str (S y) t, .int 0 u] (getItem (.str (S y) t) (.int 0 u)) := by with_unfolding_all rfl) :
    wpAny (model prog w) A (subscriptTail value slice (.str (S y) t) (.int 0 u)) Q E s := by
  refine r_sign (by decide) ?_ h hs
  obtain ⟨a, r, rfl⟩ := List.exists_cons_of_ne_nil hy
  simp [seqIndex?, S, headN, Str.length]
/-- the last sign -/
theorem r_last {value slice : PySem.Expr} {y : List Nat} {t u : Tok} {Q : Value → Shared → Prop} (hy : y ≠ [])
    (h : Q (.str (S [lastN y]) s.toks) { s with toks := s.toks + 1 })
    (hs : subscripted slice false (.str (S y) t) (.int (-1) u) = operate [.str (S y) t, .int (-1) u] (getItem (.str (S y) t) (.int (-1) u)) := by with_unfolding_all rfl) :
    wpAny (model prog w) A (subscriptTail value slice (.str (S y) t) (.int (-1) u)) Q E s := by
  refine r_sign (by decide) ?_ h hs
  have hl : 0 < y.length := List.length_pos_iff.mpr hy
  have e1 : seqIndex? (-1) (S y).length = some (y.length - 1) := by
    rw [S_len]
    unfold seqIndex?
    simp only [show ((-1 : Int) < 0) = True by simp, if_true]
    rw [if_pos (by simp; omega)]
    congr 1
    omega
  rw [e1]
  show (S y).cps[y.length - 1]? = some (lastN y)
  unfold S lastN
  rw [List.getElem?_toArray, List.getLast?_eq_getElem?]
  rw [List.getElem?_eq_getElem (by omega)]
  rfl
end
end
-- W6
section
section
variable {prog : Program} {w : World} {A : Around} {L : Addr} {h₀ : Heap}
  {m : Str → Option Value} {news : List (Addr × Obj)} {s : Shared} {E : Value → Shared → Prop}
theorem r_dictSet {Kk : Type} [DecidableEq Kk] {knd : KeyKind prog w Kk} {d : Addr} {o : Obj} {i : Nat} {kvs : List (Kk × Value)} {k : Kk} {key v : Value} {Q : Unit → Shared → Prop} (G : Lg h₀ L s.heap m news)
    (hi : news[i]? = some (d, o)) (hd : o.IsDictOf knd kvs) (hkey : knd.is k key = true) (hsz : kvs.length ≤ 1000000)
    (h : ∀ h' o', Lg h₀ L h' m (news.set i (d, o')) → o'.IsDictOf knd (stored kvs k v) → Q () { s with heap := h', toks := s.toks + 1 }) :
    wpAny (model prog w) A (setItem (.ref d) key v) Q E s :=
  kda_set G.F G.N (updF_at hi G.nd) hd hkey (Nat.le_trans hsz (by decide)) fun h' o' F' N' hd' => h h' o' ⟨F', N', by
    have e : (news.set i (d, o')).map (·.1) = news.map (·.1) := by
      rw [List.map_set]
      apply List.ext_getElem?
      intro j
      by_cases hj : i = j
      · subst hj
        obtain ⟨hl, he⟩ := List.getElem?_eq_some_iff.mp hi
        rw [List.getElem?_set_self (by simpa using hl), List.getElem?_map, hi]; rfl
      · rw [List.getElem?_set_ne hj]
    rw [e]; exact G.nd⟩ hd'
theorem r_dictItem {Kk : Type} [DecidableEq Kk] {knd : KeyKind prog w Kk} {d : Addr} {o : Obj} {kvs : List (Kk × Value)} {k : Kk} {key v : Value} {value slice : PySem.Expr} {Q : Value → Shared → Prop} (G : Lg h₀ L s.heap m news)
    (hp : (d, o) ∈ news) (hd : o.IsDictOf knd kvs) (hkey : knd.is k key = true) (hl : valueAt kvs k = some v) (h : Q v { s with toks := s.toks + 1 })
    (hs : subscripted slice false (.ref d) key = operate [.ref d, key] (getItem (.ref d) key) := by with_unfolding_all rfl) : wpAny (model prog w) A (subscriptTail value slice (.ref d) key) Q E s := by
  refine kba_turn (value' := PySem.Expr.Name (PySem.Str.ofString "_") ⟨0, 0, 0, 0⟩) (fun _ => rfl) ?_
  exact kda_item G.N hp hd hkey hl h hs (fun _ => rfl)
end
theorem Cx.room {K : Frag} {pr : Program} {loose : List Str} {mean : ExcName → Option Value} {mg mb : Str → Option Value} {n : Nat} {A : Around} {env : Env} {L : Addr} {h₀ : Heap} (C : Cx K pr loose mean mg mb n A env L h₀) : A.units < cLine := by
  have := C.un
  show A.units < 9900
  omega
theorem Lg.back {L : Addr} {h₀ h : Heap} {m : Str → Option Value} {x : Addr × Obj} {l : List (Addr × Obj)} (k : Nat) (G : Lg h₀ L h m (x :: l)) : Lg h₀ L h m (l.take k ++ x :: l.drop k) := by
  refine G.perm ?_
  have := (List.perm_middle (a := x) (l₁ := l.take k) (l₂ := l.drop k)).symm
  rwa [List.take_append_drop] at this
theorem road_at (ls : Nat → Addr) {q : Nat} (h : q ∈ [97, 98, 99, 100]) : valueAt ([97, 98, 99, 100].map fun q => (S [q], Value.ref (ls q))) (S [q]) = some (.ref (ls q)) := by
  have hS : ∀ a b : Nat, (S [a] = S [b]) = (a = b) := fun a b => propext ⟨fun e => by simpa using S_inj e, fun e => by rw [e]⟩
  simp only [List.mem_cons, List.not_mem_nil, or_false] at h
  unfold valueAt
  rcases h with rfl | rfl | rfl | rfl <;> simp [hS]
theorem Lg.reset {L : Addr} {h₀ h h' : Heap} {m m' : Str → Option Value} {news : List (Addr × Obj)} {i : Nat} {d : Addr} {o o' : Obj} (G : Lg h₀ L h m news) (hi : news[i]? = some (d, o)) (F' : Fr h₀ L h' m') (N' : News h₀ L h' (news.set i (d, o'))) : Lg h₀ L h' m' (news.set i (d, o')) := ⟨F', N', by
    have e : (news.set i (d, o')).map (·.1) = news.map (·.1) := by
      rw [List.map_set]
      apply List.ext_getElem?
      intro j
      by_cases hj : i = j
      · subst hj
        obtain ⟨hl, he⟩ := List.getElem?_eq_some_iff.mp hi
        rw [List.getElem?_set_self (by simpa using hl), List.getElem?_map, hi]; rfl
      · rw [List.getElem?_set_ne hj]
    rw [e]; exact G.nd⟩
/-- four values by the four places -/
def by4 {α : Type} (a b c d : α) (q : Nat) : α := if q = 97 then a else if q = 98 then b else if q = 99 then c else d
end
-- P1
section
abbrev places : List Nat := [97, 98, 99, 100]
def RdOk (rd : Nat → List (Nat × Nat)) : Prop := ∀ q ∈ places, (rd q).length = 2 ∧ ∀ p ∈ rd q, p.1 ∈ places ∧ 1 ≤ p.2 ∧ p.2 ≤ 3
theorem lastN_mem {y : List Nat} (h : y ≠ []) : lastN y ∈ y := by
  unfold lastN
  rw [List.getLast?_eq_some_getLast h]
  exact List.getLast_mem h
theorem headN_mem {y : List Nat} (h : y ≠ []) : headN y ∈ y := by
  obtain ⟨a, r, rfl⟩ := List.exists_cons_of_ne_nil h
  exact List.mem_cons_self
theorem way_ok {rd : Nat → List (Nat × Nat)} (R : RdOk rd) : ∀ i, ∀ r ∈ waysAt rd i, r.2.length = i + 1 ∧ (∀ q ∈ r.2, q ∈ places) ∧ 1 ≤ r.1 ∧ r.1 ≤ 1 + 3 * i
  | 0, r, h => by
    simp only [waysAt, List.mem_cons, List.not_mem_nil, or_false] at h
    rcases h with rfl | rfl | rfl | rfl <;> simp
  | i + 1, r, h => by
    unfold waysAt nextW at h
    obtain ⟨r0, h0, h1⟩ := List.mem_flatMap.mp h
    obtain ⟨p, hp, rfl⟩ := List.mem_map.mp h1
    obtain ⟨a, b, c, d⟩ := way_ok R i r0 h0
    have hne : r0.2 ≠ [] := by intro e; rw [e] at a; simp at a
    have hq := (R _ (b _ (lastN_mem hne))).2 p hp
    refine ⟨by simp [ext, a], ?_, by simp only [ext]; omega, by simp only [ext]; omega⟩
    intro q hq'
    simp only [ext, List.mem_append, List.mem_singleton] at hq'
    rcases hq' with hq' | rfl
    · exact b q hq'
    · exact hq.1
theorem nextW_len {rd : Nat → List (Nat × Nat)} (R : RdOk rd) : ∀ l : List Row, (∀ r ∈ l, lastN r.2 ∈ places) → (nextW rd l).length = 2 * l.length
  | [], _ => rfl
  | r :: l, h => by
    have ih := nextW_len R l fun x hx => h x (.tail _ hx)
    unfold nextW at ih ⊢
    rw [List.flatMap_cons, List.length_append, ih, List.length_map, (R _ (h r (.head _))).1, List.length_cons]
    omega
theorem way_last {rd : Nat → List (Nat × Nat)} (R : RdOk rd) {i : Nat} {r : Row} (h : r ∈ waysAt rd i) : r.2 ≠ [] ∧ lastN r.2 ∈ places := by
  obtain ⟨a, b, -⟩ := way_ok R i r h
  have hne : r.2 ≠ [] := by intro e; rw [e] at a; simp at a
  exact ⟨hne, b _ (lastN_mem hne)⟩
theorem way_len {rd : Nat → List (Nat × Nat)} (R : RdOk rd) : ∀ i, (waysAt rd i).length = 4 * 2 ^ i
  | 0 => rfl
  | i + 1 => by
    show (nextW rd (waysAt rd i)).length = _
    rw [nextW_len R _ fun r hr => (way_last R hr).2, way_len R i, Nat.pow_succ]
    omega
theorem nextW_snoc (rd : Nat → List (Nat × Nat)) (l : List Row) (r : Row) : nextW rd (l ++ [r]) = nextW rd l ++ (rd (lastN r.2)).map (ext r) := by
  unfold nextW; simp
theorem best_len {rd : Nat → List (Nat × Nat)} (R : RdOk rd) : ∀ i, (bestUp rd i).length ≤ 4 * 2 ^ i
  | 0 => by simp [bestUp]
  | i + 1 => by
    have h1 := best_len R i
    have h2 := fold_len (waysAt rd i) (bestUp rd i)
    rw [way_len R i] at h2
    show ((waysAt rd i).foldl updB (bestUp rd i)).length ≤ _
    rw [Nat.pow_succ]; omega
end
-- L5
section
section
variable {K : Frag} {pr : Program} {loose : List Str} {mean : ExcName → Option Value} {mg mb : Str → Option Value} {prog : Program} {w : World} {n : Nat} {A : Around} {env : Env} {L : Addr} {h₀ : Heap}
  {m : Str → Option Value} {news : List (Addr × Obj)} {s : Shared} {E : Value → Shared → Prop}
open LCg (NsObj lst Off3 Off1)
theorem assign_T {y : Str} {py spos : Pos} {ct elt iter : PySem.Expr} {x : Str} {px : Pos} {scope : Scope} {cl : List (Str × Addr)} {pos : Pos} {Q : Flow → Shared → Prop}
    {news₀ : List (Addr × Obj)} (_G₀ : Lg h₀ L s.heap m news₀) (hLe : env.locals = L) (hsw : swapsWith (.ListComp elt [⟨.Name x px, iter, [ct], 0⟩] scope pos) (some (.Name y py)) spos.line env = pure true)
    (hy : env.kindOf y = some .local) (hp : (env.scope.kind == .class || (env.scope.kind == .module && env.locals != env.globals)) = false) (hclos : closureFor scope env = pure cl) (hcell : ∀ y ∈ scope.names, y.2 ≠ .cell) (hkind : scope.kind = .function)
    (hnames : ∀ y ∈ scope.names, y.2 = .local → scope.names.lookup y.1 = some .local) (hx : scope.names.lookup x = some .local)
    (h : wpAny (model prog w) A (eval iter env) (fun xv s₁ => wpAny (model prog w) A (pyIter xv) (fun it s₂ => ∃ I N P S news, it = .ref I ∧ N ≤ sizeLine ∧ Src prog w A h₀ L m I N P S news s₂ ∧
      ∃ J : Nat → List Value → List (Addr × Obj) → Prop, (∀ i ys nw, J i ys nw → S nw) ∧ J 0 [] news ∧
        (∀ I i v ys h t nw oI C oC D m₂, i < N → P i v → NsObj oC m₂ → m₂ x = some v → J i ys nw → Lg h₀ L h m ((I, oI) :: (C, oC) :: (D, lst ys) :: nw) →
          wpAny (model prog w) A (isTrue ct (compEnvC scope cl C env) (eval ct (compEnvC scope cl C env))) (fun ok s' => if ok = true then
            wpAny (model prog w) A (eval elt (compEnvC scope cl C env)) (fun y s'' => CT h₀ L m s₂ I oI C oC D ys (J (i + 1) (ys ++ [y])) s'') (fun _ _ => False) s'
            else CT h₀ L m s₂ I oI C oC D ys (J (i + 1) ys) s') (fun _ _ => False) { s₂ with heap := h, toks := t }) ∧
        ∀ D h t ys nw, J N ys nw → Lg h₀ L h (fun z => if z = y then some (.ref D) else m z) ((D, lst ys) :: nw) → Q .next { s₂ with heap := h, toks := t }) E s₁) E s)
    (hs : ∀ x, foldedSetIterable iter env x = pure x := by intro _; rfl) :
    wpAny (model prog w) A (exec (.Assign [.Name y py] (.ListComp elt [⟨.Name x px, iter, [ct], 0⟩] scope pos) spos) env) Q E s := by
  subst hLe
  rw [exec_Assign_Name_used _ _ _ _ hsw]
  refine wpAny_bind (wpAny_standAt (wpAny_bind ?_))
  show wpAny _ A (do let _ ← comprehension (.ListComp elt [⟨.Name x px, iter, [ct], 0⟩] scope pos) scope env _ (newList []) false (eval iter env) (some (assign (.Name y py) env))) _ _ s
  refine wpAny_bind (wpAny_mono (wpAny_comprehension_free (use := some (assign (.Name y py) env)) (Q := fun _ s' => Q .next s') rfl hs hclos hkind hnames
    (wpAny_mono h (fun xv s₁ h₁ => wpAny_mono h₁ (fun it s₂ h₂ => ?_) fun _ _ e => e) fun _ _ e => e)) (fun _ s' hq => wpAny_pure (wpAny_pure hq)) fun _ _ e => e)
  obtain ⟨I, N, P, S, news, rfl, hN, Z, J, hJS, h0, turn, fin⟩ := h₂
  obtain ⟨fp, St, W, hIo, hSt, st, hfp⟩ := Z.ex
  refine LCt.block_T (S := fun nw => S nw ∧ (nw.map (·.1)).Nodup) (Fin := fun ys nw => J N ys nw ∧ (nw.map (·.1)).Nodup) W hN hIo (fun i h h' o nw a b c d e f => hSt i h h' o nw a b c d e f.1) hcell hkind hx st hfp Z.G.F Z.G.N Z.hL Z.hI Z.off ⟨hJS _ _ _ h0, Z.G.nd⟩ ?_ ?_
  · have key : ∀ k i ys nw, i + k = N → J i ys nw → (nw.map (·.1)).Nodup → LCt.CompRestT prog w A h₀ env.locals m env ct elt x scope cl s₂ (fun nw => S nw ∧ (nw.map (·.1)).Nodup) P (fun ys nw => J N ys nw ∧ (nw.map (·.1)).Nodup) k i ys nw := by
      intro k
      induction k with
      | zero => intro i ys nw hi hJ nd; have e : i = N := by omega
                subst e; exact ⟨hJ, nd⟩
      | succ k ih =>
        intro i ys nw hi hJ nd
        intro v I' oI C oC D m₂ h t E' hP hO hm F' N' off hne
        refine wpAny_mono (turn I' i v ys h t nw oI C oC D m₂ (by omega) hP hO hm hJ (lg_of3 F' N' off hne nd)) (fun ok s' hc => ?_) fun _ _ z => z.elim
        cases ok with
        | true =>
          refine wpAny_mono hc (fun y s'' hct => ?_) fun _ _ z => z.elim
          obtain ⟨h', t', nw', rfl, G', hJ'⟩ := hct
          obtain ⟨o3, nd'⟩ := off_of3 G'
          exact ⟨h', t', nw', rfl, G'.F, G'.N, o3, ⟨hJS _ _ _ hJ', nd'⟩, ih (i + 1) _ nw' (by omega) hJ' nd'⟩
        | false =>
          obtain ⟨h', t', nw', rfl, G', hJ'⟩ := hc
          obtain ⟨o3, nd'⟩ := off_of3 G'
          exact ⟨h', t', nw', rfl, G'.F, G'.N, o3, ⟨hJS _ _ _ hJ', nd'⟩, ih (i + 1) _ nw' (by omega) hJ' nd'⟩
    exact key N 0 [] news (by omega) h0 Z.G.nd
  · intro D C h tk m' ys news' F' N' o1 hn hC₀ hD₀ hCL hDL hCD offC hfin
    show wpAny _ A (assign (.Name y py) env (.ref D)) _ _ _
    refine wpAny_assign_Name (wpAny_storeName_local hy F'.ns (fun h₂ hn₂ hs₂ => ?_) hp)
    have hL₀ : h₀.get? env.locals = none := Heap.get?_none_of_le F'.above
    have F₂ : Fr h₀ env.locals h₂ (fun z => if z = y then some (.ref D) else m z) := ⟨hn₂, fun b o e => hs₂.extBut b o (fun q => by rw [q, hL₀] at e; cases e) (F'.keep b o e), F'.above⟩
    refine ⟨m', hn.sameBut hs₂ hCL, fun h'' hs'' => fin D h'' _ ys news' hfin.1 ⟨F₂.change hs'' hCL hC₀, fun p hp => ?_, ?_⟩⟩
    · have z : h₂.get? p.1 = some p.2 := hs₂.extBut _ _ (N' p hp).2.1 (N' p hp).1
      refine ⟨hs''.extBut _ _ ?_ z, (N' p hp).2⟩
      rcases List.mem_cons.mp hp with rfl | hp
      · exact Ne.symm hCD
      · exact offC p hp
    · rw [List.map_cons, List.nodup_cons]
      refine ⟨fun hm => ?_, hfin.2⟩
      obtain ⟨p, hp, e⟩ := List.mem_map.mp hm
      exact off1_mem o1 p hp e

theorem assign_U {y : Str} {py spos : Pos} {elt iter : PySem.Expr} {x : Str} {px : Pos} {scope : Scope} {cl : List (Str × Addr)} {pos : Pos} {Q : Flow → Shared → Prop}
    {news₀ : List (Addr × Obj)} (_G₀ : Lg h₀ L s.heap m news₀) (hLe : env.locals = L) (hsw : swapsWith (.ListComp elt [⟨.Name x px, iter, [], 0⟩] scope pos) (some (.Name y py)) spos.line env = pure true)
    (hy : env.kindOf y = some .local) (hp : (env.scope.kind == .class || (env.scope.kind == .module && env.locals != env.globals)) = false) (hclos : closureFor scope env = pure cl) (hcell : ∀ y ∈ scope.names, y.2 ≠ .cell) (hkind : scope.kind = .function)
    (hnames : ∀ y ∈ scope.names, y.2 = .local → scope.names.lookup y.1 = some .local) (hx : scope.names.lookup x = some .local)
    (h : wpAny (model prog w) A (eval iter env) (fun xv s₁ => wpAny (model prog w) A (pyIter xv) (fun it s₂ => ∃ I N P S news, it = .ref I ∧ N ≤ sizeLine ∧ Src prog w A h₀ L m I N P S news s₂ ∧
      ∃ J : Nat → List Value → List (Addr × Obj) → Prop, (∀ i ys nw, J i ys nw → S nw) ∧ J 0 [] news ∧
        (∀ I i v ys h t nw oI C oC D m₂, i < N → P i v → NsObj oC m₂ → m₂ x = some v → J i ys nw → Lg h₀ L h m ((I, oI) :: (C, oC) :: (D, lst ys) :: nw) →
          wpAny (model prog w) A (eval elt (compEnvC scope cl C env)) (fun y s'' => CT h₀ L m s₂ I oI C oC D ys (J (i + 1) (ys ++ [y])) s'') (fun _ _ => False) { s₂ with heap := h, toks := t }) ∧
        ∀ D h t ys nw, J N ys nw → Lg h₀ L h (fun z => if z = y then some (.ref D) else m z) ((D, lst ys) :: nw) → Q .next { s₂ with heap := h, toks := t }) E s₁) E s)
    (hs : ∀ x, foldedSetIterable iter env x = pure x := by intro _; rfl) :
    wpAny (model prog w) A (exec (.Assign [.Name y py] (.ListComp elt [⟨.Name x px, iter, [], 0⟩] scope pos) spos) env) Q E s := by
  subst hLe
  rw [exec_Assign_Name_used _ _ _ _ hsw]
  refine wpAny_bind (wpAny_standAt (wpAny_bind ?_))
  show wpAny _ A (do let _ ← comprehension (.ListComp elt [⟨.Name x px, iter, [], 0⟩] scope pos) scope env _ (newList []) false (eval iter env) (some (assign (.Name y py) env))) _ _ s
  refine wpAny_bind (wpAny_mono (wpAny_comprehension_free (use := some (assign (.Name y py) env)) (Q := fun _ s' => Q .next s') rfl hs hclos hkind hnames
    (wpAny_mono h (fun xv s₁ h₁ => wpAny_mono h₁ (fun it s₂ h₂ => ?_) fun _ _ e => e) fun _ _ e => e)) (fun _ s' hq => wpAny_pure (wpAny_pure hq)) fun _ _ e => e)
  obtain ⟨I, N, P, S, news, rfl, hN, Z, J, hJS, h0, turn, fin⟩ := h₂
  obtain ⟨fp, St, W, hIo, hSt, st, hfp⟩ := Z.ex
  refine LCg.block_U (S := fun nw => S nw ∧ (nw.map (·.1)).Nodup) (Fin := fun ys nw => J N ys nw ∧ (nw.map (·.1)).Nodup) W hN hIo (fun i h h' o nw a b c d e f => hSt i h h' o nw a b c d e f.1) hcell hkind hx st hfp Z.G.F Z.G.N Z.hL Z.hI Z.off ⟨hJS _ _ _ h0, Z.G.nd⟩ ?_ ?_
  · have key : ∀ k i ys nw, i + k = N → J i ys nw → (nw.map (·.1)).Nodup → LCg.CompRest prog w A h₀ env.locals m env elt x scope cl s₂ (fun nw => S nw ∧ (nw.map (·.1)).Nodup) P (fun ys nw => J N ys nw ∧ (nw.map (·.1)).Nodup) k i ys nw := by
      intro k
      induction k with
      | zero => intro i ys nw hi hJ nd; have e : i = N := by omega
                subst e; exact ⟨hJ, nd⟩
      | succ k ih =>
        intro i ys nw hi hJ nd
        intro v I' oI C oC D m₂ h t E' hP hO hm F' N' off hne
        refine wpAny_mono (turn I' i v ys h t nw oI C oC D m₂ (by omega) hP hO hm hJ (lg_of3 F' N' off hne nd)) (fun y s'' hct => ?_) fun _ _ z => z.elim
        obtain ⟨h', t', nw', rfl, G', hJ'⟩ := hct
        obtain ⟨o3, nd'⟩ := off_of3 G'
        exact ⟨h', t', nw', rfl, G'.F, G'.N, o3, ⟨hJS _ _ _ hJ', nd'⟩, ih (i + 1) _ nw' (by omega) hJ' nd'⟩
    exact key N 0 [] news (by omega) h0 Z.G.nd
  · intro D C h tk m' ys news' F' N' o1 hn hC₀ hD₀ hCL hDL hCD offC hfin
    show wpAny _ A (assign (.Name y py) env (.ref D)) _ _ _
    refine wpAny_assign_Name (wpAny_storeName_local hy F'.ns (fun h₂ hn₂ hs₂ => ?_) hp)
    have hL₀ : h₀.get? env.locals = none := Heap.get?_none_of_le F'.above
    have F₂ : Fr h₀ env.locals h₂ (fun z => if z = y then some (.ref D) else m z) := ⟨hn₂, fun b o e => hs₂.extBut b o (fun q => by rw [q, hL₀] at e; cases e) (F'.keep b o e), F'.above⟩
    refine ⟨m', hn.sameBut hs₂ hCL, fun h'' hs'' => fin D h'' _ ys news' hfin.1 ⟨F₂.change hs'' hCL hC₀, fun p hp => ?_, ?_⟩⟩
    · have z : h₂.get? p.1 = some p.2 := hs₂.extBut _ _ (N' p hp).2.1 (N' p hp).1
      refine ⟨hs''.extBut _ _ ?_ z, (N' p hp).2⟩
      rcases List.mem_cons.mp hp with rfl | hp
      · exact Ne.symm hCD
      · exact offC p hp
    · rw [List.map_cons, List.nodup_cons]
      refine ⟨fun hm => ?_, hfin.2⟩
      obtain ⟨p, hp, e⟩ := List.mem_map.mp hm
      exact off1_mem o1 p hp e

end
end
-- N7
section
theorem fillN7 : hd.heap_1 = hd.heap_1 ∧ PySem.Challenge.rw_pe0228_02 = PySem.Challenge.rw_pe0228_02 := by
  k_fill
  exact ⟨rfl, rfl⟩
section
variable {pr : Program} {loose : List Str} {mean : ExcName → Option Value} {mg mb : Str → Option Value} {prog : Program} {w : World} {n : Nat} {A : Around} {env : Env} {L : Addr} {h₀ : Heap}
  {m : Str → Option Value} {news : List (Addr × Obj)} {s : Shared} {E : Value → Shared → Prop}
set_option maxHeartbeats 20000000
theorem law_best {Q : Value → Shared → Prop} {Dr : Addr} {rd : Nat → List (Nat × Nat)} {fz : List (Addr × Obj)}
    (C : Cx (hd.heap_1 w.params) pr loose mean mg mb (n + 1) A env L h₀) (G : Lg h₀ L s.heap m news) (R : RoadsAt prog w fz Dr rd) (hfz : ∀ p ∈ fz, p ∈ news)
    (h : ∀ Db oD ad h' t tl, (Db == sysModules) = false → oD.IsDictOf (strKind prog w) ((bestUp rd 4).map (kvB ad)) → BestIn tl ad (bestUp rd 4) → Lg h₀ L h' m ((Db, oD) :: (tl ++ news)) → Q (.ref Db) { s with heap := h', toks := t }) :
    wpAny (model prog w) A (call (.ref 263) [.ref Dr]) Q E s := by
  refine enter (binds := [(Str.ofString "roads", .ref Dr)]) C G (by k_is) (by k_is) (BindsTo.of_eq rfl) (locs rfl) rfl rfl rfl (by decide) ?_
  intro g L' h₁ C st' G
  refine hideQ fun Y0 hY => ?_
  walk_at "go"
  refine newDict_K G.F G.N C.T.nolimit ?_
  intro Db h2 oD F2 N2 l2 lo hoD _ _ _
  have G := G.cons F2 N2 l2
  dsimp only
  walk_at "go"
  refine assign_U G rfl rfl rfl rfl rfl (by decide) rfl (by decide) rfl ?_
  walk_at "go"
  refine src_str C.hn G ?_
  rintro I s2 ⟨h3, rfl⟩ Z
  refine ⟨I, _, _, _, _, rfl, by decide, Z, fun i ys nw => ∃ tl : List (Addr × Obj), nw = tl ++ ((Db, oD) :: news) ∧ i ≤ 4 ∧ DatAll tl ys (((List.range i).map fun q => ((1, [97 + q]) : Row)).map rankD), fun _ _ _ _ => trivial, ⟨[], rfl, by decide, .nil⟩, ?_, ?_⟩
  · intro I i v ys h4 t4 nw oI Cc oC Dl m₂ hi pt1 hC hm2 pt2 GG
    refine hideQ fun Z0 hZ => ?_
    obtain ⟨c, u, hc, rfl⟩ := pt1
    obtain ⟨tl, enw11, hi4, hd⟩ := pt2
    have G := GG.to3 enw11
    have hi4 : i < 4 := hi
    have hc97 : c = 97 + i := by
      have e : (Str.ofString "abcd").cps = #[97, 98, 99, 100] := by decide +kernel
      rw [e] at hc
      rcases (by omega : i = 0 ∨ i = 1 ∨ i = 2 ∨ i = 3) with rfl | rfl | rfl | rfl <;> (cases hc; rfl)
    subst hc97
    walk_at "go"
    refine hZ _ _ ⟨_, _, _, rfl, G.back3, (D, _) :: tl, rfl, hi4, ?_⟩
    rw [List.range_succ, List.map_append]
    exact DatAll.snocMap hd (fun _ h => .tail _ h) (.tuple (.head _) (.cons (.int _ _) (.cons (.int _ _) (.cons (.str _ _) .nil))))
  · rintro Dw h4 t4 ys nw ⟨tl, enw12, -, hd⟩ GG
    have G := GG.to1 enw12
    dsimp only
    walk_at "go"
    refine r_range1 G ?_
    intro r h5 t5 u1 u2 u3 hr G
    have hR : RdOk rd := R.ok
    have G := G.perm (b := (Db, oD) :: (((Dw, LCg.lst ys) :: tl) ++ news)) (List.perm_middle (l₁ := (Dw, LCg.lst ys) :: tl))
    refine for_range (N := 4) C.hn G hr rfl (by decide) (fun i m' nw => ∃ (tl : List (Addr × Obj)) (Dw : Addr) (its : Array Value) (cw : Nat) (oD : Obj) (ad : Nat × Nat → Addr), nw = (Db, oD) :: (tl ++ news) ∧ (Dw, listOf its cw) ∈ tl ∧
      DatAll tl its.toList ((waysAt rd i).map rankD) ∧ oD.IsDictOf (strKind prog w) ((bestUp rd i).map (kvB ad)) ∧ BestIn tl ad (bestUp rd i) ∧ m' "best" = some (.ref Db) ∧ m' "ways" = some (.ref Dw) ∧ m' "roads" = some (.ref Dr))
      ⟨_, Dw, ys.toArray, ys.length, oD, fun _ => 0, rfl, .head _, DatAll.mono (fun _ h => .tail _ h) hd, hoD, by intro b hb; simp [bestUp] at hb, rfl, rfl, rfl⟩ ?_ ?_
    · intro I i tv h6 t6 m6 nw oI hi pt3 GG
      refine hideT fun Z0 hZ => ?_
      obtain ⟨tl, Dw, its, cw, oD, ad, enw13, hDw, hits, hoD, hB, mb1, mb2, mb3⟩ := pt3
      have G := GG.to1 enw13
      have hwl := way_len hR i
      have hil : its.size = 4 * 2 ^ i := by have := hits.length; simpa [hwl] using this
      have h2i : 2 ^ i ≤ 8 := by
        rcases (by omega : i = 0 ∨ i = 1 ∨ i = 2 ∨ i = 3) with rfl | rfl | rfl | rfl <;> decide
      walk_at "go"
      -- the ways, one by one, into the dict
      refine for_list (its := its) C.hn G (fun j m' nw => ∃ (oD : Obj) (ad : Nat × Nat → Addr), nw = (I, oI) :: (Db, oD) :: (tl ++ news) ∧ oD.IsDictOf (strKind prog w) ((((waysAt rd i).take j).foldl updB (bestUp rd i)).map (kvB ad)) ∧
        BestIn tl ad (((waysAt rd i).take j).foldl updB (bestUp rd i)) ∧ m' "best" = some (.ref Db) ∧ m' "ways" = some (.ref Dw) ∧ m' "roads" = some (.ref Dr)) ?_ ⟨oD, ad, rfl, hoD, hB, mb1, mb2, mb3⟩ ?_ ?_
      · rintro j m' nw ⟨oD, ad, rfl, -⟩
        exact .inr ⟨_, .tail _ (.tail _ (List.mem_append_left _ hDw)), rfl, _, rfl⟩
      · intro I2 j v h7 t7 m7 nw oI2 hj hv pt4 GG
        refine hideT fun Z0 hZ => ?_
        obtain ⟨oD, ad, enw14, hoD, hB, mb1, mb2, mb3⟩ := pt4
        have G := GG.to1 enw14
        obtain ⟨dv, hdv, hdi⟩ := DatAll.at hits (i := j) (v := v) (by simpa using hv)
        rw [List.getElem?_map] at hdv
        obtain ⟨rw', hrw, rfl⟩ := Option.map_eq_some_iff.mp hdv
        have hrm : rw' ∈ waysAt rd i := List.mem_of_getElem? hrw
        obtain ⟨hl1, hl2, -, -⟩ := way_ok hR i rw' hrm
        obtain ⟨hne, hlast⟩ := way_last hR hrm
        have hdi' := hdi
        obtain ⟨T, va, vb, vc, cu, rfl, hm, ha, hb, hc⟩ := triple_of hdi
        obtain ⟨ta, rfl⟩ := int_of ha
        obtain ⟨tb, rfl⟩ := int_of hb
        obtain ⟨tc, rfl⟩ := str_of hc
        have hm3 : (T, tupO [.int (rw'.1 : Int) ta, .int (rw'.2.length : Int) tb, .str (S rw'.2) tc] cu) ∈ tl ++ news := List.mem_append_left _ hm
        walk_at "go"
        refine r_tup (j := 2) G (by walk_at "mem") (by decide) (by decide) rfl rfl ?_
        walk_at "go"
        refine r_first hne ?_
        walk_at "go"
        refine r_tup (j := 2) G (by walk_at "mem") (by decide) (by decide) rfl rfl ?_
        walk_at "go"
        refine r_last hne ?_
        walk_at "go"
        refine r_addS (Nat.le_of_ble_eq_true rfl) ?_
        intro t8 k8
        walk_at "go"
        have hlen := fold_len ((waysAt rd i).take j) (bestUp rd i)
        have hbl := best_len hR i
        have hjl : ((waysAt rd i).take j).length ≤ 4 * 2 ^ i := by rw [List.length_take, hwl]; omega
        have hstep : ((waysAt rd i).take (j + 1)).foldl updB (bestUp rd i) = updB (((waysAt rd i).take j).foldl updB (bestUp rd i)) rw' := by
          rw [List.take_add_one, List.foldl_append, hrw]; rfl
        generalize hbe : ((waysAt rd i).take j).foldl updB (bestUp rd i) = bl at *
        cases hlk : look bl (ends rw') with
        | none =>
          have hva : valueAt (bl.map (kvB ad)) (S [(ends rw').1, (ends rw').2]) = none := by rw [valueAt_kv, hlk]; rfl
          refine kdg_notin (k := S [(ends rw').1, (ends rw').2]) G.N (by walk_at "mem") hoD lo (strKind_is _ _ _ _) false (by rw [hva]; rfl) ?_
          walk_at "go"
          refine r_dictSet (i := 2) (k := S [(ends rw').1, (ends rw').2]) G rfl hoD (strKind_is _ _ _ _) (by rw [List.length_map]; omega) ?_
          intro h9 oD9 G hoD9
          dsimp only [List.set_cons_succ, List.set_cons_zero] at G
          dsimp only
          walk_at "go"
          have hup : updB bl rw' = put bl (ends rw') rw' := by unfold updB; rw [hlk]
          refine hZ _ _ ⟨_, _, _, _, rfl, G, oD9, (fun f => if f = ends rw' then T else ad f), rfl, ?_, ?_, mb1, mb2, mb3⟩
          · rw [hstep, hup, ← stored_kv]; exact hoD9
          · rw [hstep, hup]; exact hB.put hdi'
        | some r0 =>
          have hva : valueAt (bl.map (kvB ad)) (S [(ends rw').1, (ends rw').2]) = some (.ref (ad (ends rw'))) := by rw [valueAt_kv, hlk]; rfl
          refine kdg_notin (k := S [(ends rw').1, (ends rw').2]) G.N (by walk_at "mem") hoD lo (strKind_is _ _ _ _) true (by rw [hva]; rfl) ?_
          walk_at "go"
          refine r_dictItem (k := S [(ends rw').1, (ends rw').2]) G (by walk_at "mem") hoD (strKind_is _ _ _ _) hva ?_
          obtain ⟨T0, va0, vb0, vc0, c0, e0, hm0, ha0, hb0, hc0⟩ := triple_of (hB.at hlk)
          cases e0
          obtain ⟨ta0, rfl⟩ := int_of ha0
          obtain ⟨tb0, rfl⟩ := int_of hb0
          obtain ⟨tc0, rfl⟩ := str_of hc0
          refine lt_triple C.room G (.tail _ (.tail _ (.tail _ hm3))) (.tail _ (.tail _ (.tail _ (List.mem_append_left _ hm0)))) ?_
          walk_at "go"
          rw [show ltR (rw'.1 : Int) (rw'.2.length : Int) (S rw'.2) (r0.1 : Int) (r0.2.length : Int) (S r0.2) = ltRow rw' r0 from rfl]
          by_cases hlt : ltRow rw' r0 = true
          · refine ite_pos hlt ?_
            walk_at "go"
            refine r_dictSet (i := 2) (k := S [(ends rw').1, (ends rw').2]) G rfl hoD (strKind_is _ _ _ _) (by rw [List.length_map]; omega) ?_
            intro h9 oD9 G hoD9
            dsimp only [List.set_cons_succ, List.set_cons_zero] at G
            dsimp only
            walk_at "go"
            have hup : updB bl rw' = put bl (ends rw') rw' := by unfold updB; rw [hlk]; dsimp only; rw [if_pos hlt]
            refine hZ _ _ ⟨_, _, _, _, rfl, G, oD9, (fun f => if f = ends rw' then T else ad f), rfl, ?_, ?_, mb1, mb2, mb3⟩
            · rw [hstep, hup, ← stored_kv]; exact hoD9
            · rw [hstep, hup]; exact hB.put hdi'
          · refine ite_neg hlt ?_
            walk_at "go"
            have hup : updB bl rw' = bl := by unfold updB; rw [hlk]; dsimp only; rw [if_neg hlt]
            refine hZ _ _ ⟨_, _, _, _, rfl, G, oD, ad, rfl, ?_, ?_, mb1, mb2, mb3⟩
            · rw [hstep, hup]; exact hoD
            · rw [hstep, hup]; exact hB
      · rintro h7 t7 m7 nw ⟨oD, ad, enw15, hoD, hB, mb1, mb2, mb3⟩ GG
        have G := GG.to enw15
        rw [hil, ← hwl, List.take_length] at hoD hB
        dsimp only
        walk_at "go"
        rename Addr => Dl
        have hDn : DatAll ([] : List (Addr × Obj)) (#[] : Array Value).toList ((nextW rd ((waysAt rd i).take 0)).map rankD) := .nil
        refine for_list (its := its) C.hn G (fun j m' nw => ∃ (tl' : List (Addr × Obj)) (its2 : Array Value) (c2 : Nat), nw = (Dl, listOf its2 c2) :: (I, oI) :: (Db, oD) :: (tl' ++ (tl ++ news)) ∧ DatAll tl' its2.toList ((nextW rd ((waysAt rd i).take j)).map rankD) ∧
          m' "best" = some (.ref Db) ∧ m' "longer" = some (.ref Dl) ∧ m' "roads" = some (.ref Dr)) ?_ ⟨[], #[], 0, rfl, hDn, mb1, rfl, mb3⟩ ?_ ?_
        · rintro j m' nw ⟨tl', its2, c2, rfl, -⟩
          exact .inr ⟨_, .tail _ (.tail _ (.tail _ (List.mem_append_right _ (List.mem_append_left _ hDw)))), rfl, _, rfl⟩
        · intro I2 j v h8 t8 m8 nw oI2 hj hv pt5 GG
          refine hideT fun Z0 hZ => ?_
          obtain ⟨tl', its2, c2, enw16, hits2, mb1, mb2, mb3⟩ := pt5
          have G := GG.to1 enw16
          obtain ⟨dv, hdv, hdi⟩ := DatAll.at hits (i := j) (v := v) (by simpa using hv)
          rw [List.getElem?_map] at hdv
          obtain ⟨rw', hrw, rfl⟩ := Option.map_eq_some_iff.mp hdv
          have hrm : rw' ∈ waysAt rd i := List.mem_of_getElem? hrw
          obtain ⟨hl1, hl2, hl3, hl4⟩ := way_ok hR i rw' hrm
          obtain ⟨hne, hlast⟩ := way_last hR hrm
          obtain ⟨T, va, vb, vc, cu, rfl, hm, ha, hb, hc⟩ := triple_of hdi
          obtain ⟨ta, rfl⟩ := int_of ha
          obtain ⟨tb, rfl⟩ := int_of hb
          obtain ⟨tc, rfl⟩ := str_of hc
          obtain ⟨oR, ls, hoR1, hoR2, hoR3⟩ := R.ex
          obtain ⟨its3, c3, hls1, hls2⟩ := hoR3 _ hlast
          have hm3 : (T, tupO [.int (rw'.1 : Int) ta, .int (rw'.2.length : Int) tb, .str (S rw'.2) tc] cu) ∈ tl' ++ (tl ++ news) := List.mem_append_right _ (List.mem_append_left _ hm)
          have hmR : (Dr, oR) ∈ tl' ++ (tl ++ news) := List.mem_append_right _ (List.mem_append_right _ (hfz _ hoR1))
          have hmL : (ls (lastN rw'.2), listOf its3 c3) ∈ tl' ++ (tl ++ news) := List.mem_append_right _ (List.mem_append_right _ (hfz _ hls1))
          refine r_unpack3 C.hn G (by walk_at "mem") ?_
          intro h9 G
          walk_at "go"
          refine r_last hne ?_
          have hvR : valueAt ([97, 98, 99, 100].map fun q => (S [q], Value.ref (ls q))) (S [lastN rw'.2]) = some (.ref (ls (lastN rw'.2))) := road_at ls hlast
          refine r_dictItem (k := S [lastN rw'.2]) G (by walk_at "mem") hoR2 (strKind_is _ _ _ _) hvR ?_
          walk_at "go"
          obtain ⟨hrd2, hrdok⟩ := hR _ hlast
          have hits3 : its3.size = 2 := by have := hls2.length; simpa [hrd2] using this
          have hjl : ((waysAt rd i).take j).length ≤ 4 * 2 ^ i := by rw [List.length_take, hwl]; omega
          have hnl := nextW_len hR ((waysAt rd i).take j) fun r hr => (way_last hR (List.mem_of_mem_take hr)).2
          have hDn2 : DatAll tl' its2.toList ((nextW rd ((waysAt rd i).take j) ++ ((rd (lastN rw'.2)).take 0).map (ext rw')).map rankD) := by simpa using hits2
          refine for_list (its := its3) C.hn G (fun k m' nw => ∃ (tl2 : List (Addr × Obj)) (its4 : Array Value) (c4 : Nat), nw = (I2, oI2) :: (Dl, listOf its4 c4) :: (I, oI) :: (Db, oD) :: (tl2 ++ (tl ++ news)) ∧
            DatAll tl2 its4.toList ((nextW rd ((waysAt rd i).take j) ++ ((rd (lastN rw'.2)).take k).map (ext rw')).map rankD) ∧
            m' "best" = some (.ref Db) ∧ m' "longer" = some (.ref Dl) ∧ m' "roads" = some (.ref Dr) ∧ m' "dots" = some (.int (rw'.1 : Int) ta) ∧ m' "count" = some (.int (rw'.2.length : Int) tb) ∧ m' "way" = some (.str (S rw'.2) tc)) ?_
            ⟨tl', its2, c2, rfl, hDn2, mb1, mb2, mb3, rfl, rfl, rfl⟩ ?_ ?_
          · rintro k m' nw ⟨tl2, its4, c4, rfl, -⟩
            exact .inr ⟨_, .tail _ (.tail _ (.tail _ (.tail _ (List.mem_append_right _ (List.mem_append_right _ (hfz _ hls1)))))), rfl, _, rfl⟩
          · intro I3 k v h10 t10 m10 nw oI3 hk hv pt6 GG
            refine hideT fun Z0 hZ => ?_
            obtain ⟨tl2, its4, c4, enw17, hits4, mb1, mb2, mb3, mb4, mb5, mb6⟩ := pt6
            have G := GG.to1 enw17
            obtain ⟨dv, hdv, hdi⟩ := DatAll.at hls2 (i := k) (v := v) (by simpa using hv)
            rw [List.getElem?_map] at hdv
            obtain ⟨p, hp, rfl⟩ := Option.map_eq_some_iff.mp hdv
            obtain ⟨T2, va2, vb2, cu2, rfl, hm2, ha2, hb2⟩ := pair_of hdi
            obtain ⟨ta2, rfl⟩ := str_of ha2
            obtain ⟨tb2, rfl⟩ := int_of hb2
            have hm4 : (T2, tupO [.str (S [p.1]) ta2, .int (p.2 : Int) tb2] cu2) ∈ tl2 ++ (tl ++ news) := List.mem_append_right _ (List.mem_append_right _ (hfz _ hm2))
            refine r_unpack2 C.hn G (by walk_at "mem") ?_
            intro h11 G
            walk_at "go"
            refine r_addS (by simp; omega) ?_
            intro t12 k12
            walk_at "go"
            have hs4 : its4.size ≤ 1000 := by
              have := hits4.length
              simp only [Array.length_toList, List.length_map, List.length_append, List.length_take] at this
              have h8 : 4 * 2 ^ i ≤ 32 := by omega
              omega
            refine r_append (i := 3) G rfl (by omega) ?_
            intro h13 c13 G
            dsimp only [List.set_cons_succ, List.set_cons_zero] at G
            dsimp only
            walk_at "go"
            have e1 : (rw'.1 : Int) + (p.2 : Int) = ((rw'.1 + p.2 : Nat) : Int) := by omega
            have e2 : (rw'.2.length : Int) + 1 = (((rw'.2 ++ [p.1]).length : Nat) : Int) := by simp
            refine hZ _ _ ⟨_, _, _, _, rfl, G.back 5, (D, _) :: tl2, its4.push (.ref D), c13, rfl, ?_, mb1, mb2, mb3, mb4, mb5, mb6⟩
            have e3 : nextW rd ((waysAt rd i).take j) ++ ((rd (lastN rw'.2)).take (k + 1)).map (ext rw') = (nextW rd ((waysAt rd i).take j) ++ ((rd (lastN rw'.2)).take k).map (ext rw')) ++ [ext rw' p] := by
              rw [List.take_add_one, hp]; simp
            rw [Array.toList_push, e3]
            exact DatAll.snocMap hits4 (fun _ h => .tail _ h) (.tuple (.head _) (.cons (DatIn.intEq e1) (.cons (DatIn.intEq e2) (.cons (.str _ _) .nil))))
          · rintro h10 t10 m10 nw ⟨tl2, its4, c4, enw18, hits4, mb1, mb2, mb3, mb4, mb5, mb6⟩ GG
            have G := GG.to enw18
            dsimp only
            walk_at "go"
            refine hZ _ _ ⟨_, _, _, _, rfl, G, tl2, its4, c4, rfl, ?_, mb1, mb2, mb3⟩
            rw [hits3, ← hrd2, List.take_length] at hits4
            rw [List.take_add_one, hrw]
            show DatAll tl2 its4.toList ((nextW rd ((waysAt rd i).take j ++ [rw'])).map rankD)
            rw [nextW_snoc]
            exact hits4
        · rintro h8 t8 m8 nw ⟨tl', its2, c2, enw19, hits2, mb1, mb2, mb3⟩ GG
          have G := GG.to enw19
          rw [hil, ← hwl, List.take_length] at hits2
          dsimp only
          walk_at "go"
          have eN : (Dl, listOf its2 c2) :: (tl' ++ (tl ++ news)) = ((Dl, listOf its2 c2) :: (tl' ++ tl)) ++ news := by simp
          have G2 : Lg g L' _ _ ((I, oI) :: (Db, oD) :: (((Dl, listOf its2 c2) :: (tl' ++ tl)) ++ news)) := eN ▸ (G.back 2)
          exact hZ _ _ ⟨_, _, _, _, rfl, G2, _, Dl, its2, c2, oD, ad, rfl, .head _, DatAll.mono (fun _ h => .tail _ (List.mem_append_left _ h)) hits2, hoD, hB.mono (fun _ h => .tail _ (List.mem_append_right _ h)), mb1, rfl, mb3⟩
    · rintro h6 t6 m6 nw ⟨tl, Dw, its, cw, oD, ad, enw20, hDw, hits, hoD, hB, mb1, mb2, mb3⟩ GG
      have G := GG.to enw20
      dsimp only
      walk_at "go"
      exact hY _ _ ⟨_, _, G, fun G2 => h _ _ _ _ _ _ lo hoD hB G2⟩
end
end
-- P2A
section
theorem ltRow_iff {a b : Row} : ltRow a b = true ↔ a.1 < b.1 ∨ (a.1 = b.1 ∧ (a.2.length < b.2.length ∨ (a.2.length = b.2.length ∧ a.2 < b.2))) := by
  unfold ltRow ltR
  have e : ∀ y : List Nat, (S y).cps.toList = y := fun y => List.toList_toArray
  rw [e, e]
  by_cases h1 : a.1 = b.1
  · rw [if_neg (by omega)]
    by_cases h2 : a.2.length = b.2.length
    · rw [if_neg (by omega)]
      simp [h1, h2]
    · rw [if_pos (by omega)]
      simp only [decide_eq_true_eq]
      omega
  · rw [if_pos (by omega)]
    simp only [decide_eq_true_eq]
    omega
def leRow (a b : Row) : Prop := ltRow b a = false
theorem leRow_iff {a b : Row} : leRow a b ↔ ¬ ltRow b a = true := by unfold leRow; simp
theorem leRow_refl (a : Row) : leRow a a := by
  rw [leRow_iff, ltRow_iff]
  rintro (h | ⟨-, h | ⟨-, h⟩⟩)
  · omega
  · omega
  · exact List.lt_irrefl _ h
theorem lt_or {a b : List Nat} (h : ¬ b < a) : a < b ∨ a = b := by
  by_cases h2 : a < b
  · exact .inl h2
  · exact .inr (List.le_antisymm h h2)
theorem leRow_lt {a b : Row} : leRow a b ↔ ltRow a b = true ∨ a = b := by
  rw [leRow_iff]
  constructor
  · intro h
    rw [ltRow_iff] at h ⊢
    by_cases h1 : a.1 = b.1
    · by_cases h2 : a.2.length = b.2.length
      · rcases lt_or (a := a.2) (b := b.2) (fun x => h (.inr ⟨h1.symm, .inr ⟨h2.symm, x⟩⟩)) with h3 | h3
        · exact .inl (.inr ⟨h1, .inr ⟨h2, h3⟩⟩)
        · exact .inr (Prod.ext h1 h3)
      · exact .inl (.inr ⟨h1, .inl (by omega)⟩)
    · exact .inl (.inl (by omega))
  · rintro (h | rfl)
    · rw [ltRow_iff] at h ⊢
      rintro (k | ⟨k1, k | ⟨k2, k3⟩⟩)
      · omega
      · omega
      · rcases h with h | ⟨-, h | ⟨-, h⟩⟩
        · omega
        · omega
        · exact List.lt_irrefl _ (List.lt_trans h k3)
    · exact leRow_iff.mp (leRow_refl a)
theorem ltRow_trans {a b c : Row} (h : ltRow a b = true) (k : ltRow b c = true) : ltRow a c = true := by
  rw [ltRow_iff] at *
  rcases h with h | ⟨h1, h | ⟨h2, h3⟩⟩ <;> rcases k with k | ⟨k1, k | ⟨k2, k3⟩⟩
  · exact .inl (by omega)
  · exact .inl (by omega)
  · exact .inl (by omega)
  · exact .inl (by omega)
  · exact .inr ⟨by omega, .inl (by omega)⟩
  · exact .inr ⟨by omega, .inl (by omega)⟩
  · exact .inl (by omega)
  · exact .inr ⟨by omega, .inl (by omega)⟩
  · exact .inr ⟨by omega, .inr ⟨by omega, List.lt_trans h3 k3⟩⟩
theorem leRow_trans {a b c : Row} (h : leRow a b) (k : leRow b c) : leRow a c := by
  rw [leRow_lt] at *
  rcases h with h | rfl
  · rcases k with k | rfl
    · exact .inl (ltRow_trans h k)
    · exact .inl h
  · exact k
theorem leRow_antisymm {a b : Row} (h : leRow a b) (k : leRow b a) : a = b := by
  rw [leRow_lt] at h
  rcases h with h | h
  · rw [leRow_iff] at k; exact absurd h k
  · exact h
theorem leRow_ext {a b : Row} (p : Nat × Nat) (h : leRow a b) : leRow (ext a p) (ext b p) := by
  rw [leRow_iff] at *
  intro k
  apply h
  have snoc : ∀ {x y : List Nat} {z : Nat}, x.length = y.length → x ++ [z] < y ++ [z] → x < y := by
    intro x
    induction x with
    | nil =>
      intro y z e q
      cases y with
      | nil => exact absurd q (List.lt_irrefl _)
      | cons _ _ => cases e
    | cons u x ih =>
      intro y z e q
      cases y with
      | nil => cases e
      | cons v y =>
        rw [List.cons_append, List.cons_append, List.cons_lt_cons_iff] at q
        rw [List.cons_lt_cons_iff]
        rcases q with q | ⟨rfl, q⟩
        · exact .inl q
        · exact .inr ⟨rfl, ih (by simpa using e) q⟩
  rw [ltRow_iff] at *
  unfold ext at k
  simp only [List.length_append, List.length_singleton] at k
  rcases k with k | ⟨k1, k | ⟨k2, k3⟩⟩
  · exact .inl (by omega)
  · exact .inr ⟨by omega, .inl (by omega)⟩
  · exact .inr ⟨by omega, .inr ⟨by omega, snoc (by omega) k3⟩⟩
theorem leRow_more {a b : Row} {p : Nat × Nat} (h : leRow a b) (hp : 1 ≤ p.2) : leRow a (ext b p) := by
  refine leRow_trans h ?_
  rw [leRow_lt, ltRow_iff]
  exact .inl (.inl (by unfold ext; simp only; omega))
end
-- P2
section
/-- the tables: of each place, the rows by the place where they began -/
abbrev Tab := Nat → List (Nat × Row)
def knownAt (l : List (Nat × Row)) (k : Nat) : Option Row := (l.find? fun e => e.1 = k).map (·.2)
def improves (tab : Tab) (cur : Row) : Bool := match knownAt (tab (lastN cur.2)) (headN cur.2) with
  | none => true
  | some r0 => ltRow cur r0
def setTab (tab : Tab) (cur : Row) : Tab := fun q => if q = lastN cur.2 then (tab q).filter (fun e => decide (e.1 ≠ headN cur.2)) ++ [(headN cur.2, cur)] else tab q
def sendable (rd : Nat → List (Nat × Nat)) (cur : Row) : List Row := ((rd (lastN cur.2)).filter (fun p => decide (p.1 ∉ cur.2))).map (ext cur)
def RowOk (r : Row) : Prop := r.2 ≠ [] ∧ (∀ q ∈ r.2, q ∈ places) ∧ 1 ≤ r.1 ∧ r.1 ≤ 10 ∧ r.2.length ≤ 4
/-- a good way to q from k: simple, and its proper beginnings are beaten in the tables -/
inductive Good (rd : Nat → List (Nat × Nat)) (tab : Tab) : Nat → Nat → Row → Prop
  | base {k : Nat} : k ∈ places → Good rd tab k k (1, [k])
  | step {k q : Nat} {r r0 : Row} {p : Nat × Nat} : Good rd tab k q r → p ∈ rd q → p.1 ∉ r.2 → knownAt (tab q) k = some r0 → leRow r0 r → Good rd tab k p.1 (ext r p)
def beaten (tab : Tab) (k q : Nat) (r : Row) : Prop := ∃ r0, knownAt (tab q) k = some r0 ∧ leRow r0 r
def rho (r : Row) : Nat := (r.1 * 5 + r.2.length) * 256 + r.2.foldl (fun a q => 4 * a + (q - 97)) 0
def potOf : Option Row → Nat
  | none => 14100
  | some r => rho r
def mu (ln : List Row) (tab : Tab) : Nat := ln.length + 3 * (places.map fun q => (places.map fun k => potOf (knownAt (tab q) k)).sum).sum
structure Inv (rd : Nat → List (Nat × Nat)) (ln : List Row) (tab : Tab) : Prop where
  line : ∀ r ∈ ln, ∃ k q, Good rd tab k q r
  nd : ∀ q ∈ places, ((tab q).map (·.1)).Nodup
  keys : ∀ q ∈ places, ∀ e ∈ tab q, Good rd tab e.1 q e.2
  done : ∀ q ∈ places, ∀ e ∈ tab q, ∀ p ∈ rd q, p.1 ∉ e.2.2 → beaten tab e.1 p.1 (ext e.2 p) ∨ ext e.2 p ∈ ln
  start : ∀ k ∈ places, beaten tab k k (1, [k]) ∨ ((1, [k]) : Row) ∈ ln
  size : mu ln tab ≤ 700000

theorem Inv.perm {rd : Nat → List (Nat × Nat)} {ln ln' : List Row} {tab : Tab} (h : Inv rd ln tab) (p : ln.Perm ln') : Inv rd ln' tab where
  line := fun r hr => h.line r (p.mem_iff.mpr hr)
  nd := h.nd
  keys := h.keys
  done := fun q hq e he z hz hn => (h.done q hq e he z hz hn).imp id fun x => p.mem_iff.mp x
  start := fun k hk => (h.start k hk).imp id fun x => p.mem_iff.mp x
  size := by have := h.size; unfold mu at *; rw [← p.length_eq]; exact this
theorem mu_perm {ln ln' : List Row} {tab : Tab} (p : ln.Perm ln') : mu ln tab = mu ln' tab := by
  unfold mu; rw [p.length_eq]
theorem sub_len {α : Type} [DecidableEq α] : ∀ (l m : List α), l.Nodup → (∀ x ∈ l, x ∈ m) → l.length ≤ m.length
  | [], _, _, _ => Nat.zero_le _
  | a :: l, m, hn, hs => by
    have hm := hs a (.head _)
    have h1 := sub_len l (m.erase a) (List.nodup_cons.mp hn).2 fun x hx => (List.mem_erase_of_ne (fun e => by rw [e] at hx; exact (List.nodup_cons.mp hn).1 hx)).mpr (hs x (.tail _ hx))
    rw [List.length_erase_of_mem hm] at h1
    have := List.length_pos_of_mem hm
    rw [List.length_cons]
    omega
theorem lastN_snoc (y : List Nat) (a : Nat) : lastN (y ++ [a]) = a := by unfold lastN; simp
theorem headN_snoc {y : List Nat} (a : Nat) (h : y ≠ []) : headN (y ++ [a]) = headN y := by
  cases y with
  | nil => exact absurd rfl h
  | cons b y => rfl
structure GoodIs (k q : Nat) (r : Row) : Prop where
  kp : k ∈ places
  qp : q ∈ places
  hd : headN r.2 = k
  la : lastN r.2 = q
  pl : ∀ z ∈ r.2, z ∈ places
  nd : r.2.Nodup
  ne : r.2 ≠ []
  d1 : 1 ≤ r.1
  d3 : r.1 + 2 ≤ 3 * r.2.length
theorem Good.info {rd : Nat → List (Nat × Nat)} (R : RdOk rd) {tab : Tab} {k q : Nat} {r : Row} (h : Good rd tab k q r) : GoodIs k q r := by
  induction h with
  | base hk => exact ⟨hk, hk, rfl, rfl, by simpa using hk, by simp, by simp, Nat.le_refl _, by simp⟩
  | @step q r r0 p g hp hn hk hl ih =>
    obtain ⟨h1, h2, h3⟩ := (R _ ih.qp).2 p hp
    refine ⟨ih.kp, h1, ?_, ?_, ?_, ?_, ?_, ?_, ?_⟩
    · show headN (r.2 ++ [p.1]) = _
      rw [headN_snoc _ ih.ne, ih.hd]
    · exact lastN_snoc _ _
    · intro z hz
      rcases List.mem_append.mp hz with hz | hz
      · exact ih.pl z hz
      · rw [List.mem_singleton.mp hz]; exact h1
    · show (r.2 ++ [p.1]).Nodup
      rw [List.nodup_append]
      exact ⟨ih.nd, by simp, fun a ha b hb e => hn (by rw [List.mem_singleton.mp hb] at e; rw [← e]; exact ha)⟩
    · show r.2 ++ [p.1] ≠ []
      simp
    · show 1 ≤ r.1 + p.2
      omega
    · show r.1 + p.2 + 2 ≤ 3 * (r.2 ++ [p.1]).length
      rw [List.length_append, List.length_singleton]
      have := ih.d3
      omega
theorem GoodIs.ok {k q : Nat} {r : Row} (g : GoodIs k q r) : RowOk r := by
  have h4 : r.2.length ≤ 4 := sub_len r.2 places g.nd g.pl
  have := g.d3
  exact ⟨g.ne, g.pl, g.d1, by omega, h4⟩
theorem Inv.rowOk {rd : Nat → List (Nat × Nat)} (R : RdOk rd) {ln : List Row} {tab : Tab} (h : Inv rd ln tab) : ∀ r ∈ ln, RowOk r := fun r hr => by
  obtain ⟨k, q, g⟩ := h.line r hr
  exact (g.info R).ok
theorem Inv.tabOk {rd : Nat → List (Nat × Nat)} (R : RdOk rd) {ln : List Row} {tab : Tab} (h : Inv rd ln tab) : ∀ q ∈ places, (tab q).length ≤ 4 ∧ ∀ e ∈ tab q, e.1 ∈ places ∧ RowOk e.2 := fun q hq => by
  have hk : ∀ e ∈ tab q, e.1 ∈ places ∧ RowOk e.2 := fun e he => ⟨((h.keys q hq e he).info R).kp, ((h.keys q hq e he).info R).ok⟩
  refine ⟨?_, hk⟩
  have := sub_len ((tab q).map (·.1)) places (h.nd q hq) (by
    intro x hx
    obtain ⟨e, he, rfl⟩ := List.mem_map.mp hx
    exact (hk e he).1)
  rw [List.length_map] at this
  exact this
theorem known_set (tab : Tab) (cur : Row) (q k : Nat) : knownAt (setTab tab cur q) k = if q = lastN cur.2 ∧ k = headN cur.2 then some cur else knownAt (tab q) k := by
  unfold setTab
  by_cases hq : q = lastN cur.2
  · rw [if_pos hq]
    unfold knownAt
    rw [List.find?_append]
    by_cases hk : k = headN cur.2
    · rw [if_pos ⟨hq, hk⟩]
      have : ((tab q).filter fun e => decide (e.1 ≠ headN cur.2)).find? (fun e => decide (e.1 = k)) = none := by
        rw [List.find?_eq_none]
        intro e he
        have := (List.mem_filter.mp he).2
        simp only [decide_eq_true_eq] at this ⊢
        rw [hk]; exact this
      rw [this]
      simp [hk]
    · rw [if_neg (fun x => hk x.2)]
      have h1 : ([(headN cur.2, cur)] : List (Nat × Row)).find? (fun e => decide (e.1 = k)) = none := by
        have e : decide (headN cur.2 = k) = false := decide_eq_false fun x => hk x.symm
        rw [List.find?_cons]
        simp only [e, List.find?_nil]
      rw [h1]
      have h2 : ((tab q).filter fun e => decide (e.1 ≠ headN cur.2)).find? (fun e => decide (e.1 = k)) = (tab q).find? fun e => decide (e.1 = k) := by
        rw [List.find?_filter]
        congr 1
        funext e
        rw [Bool.eq_iff_iff]
        simp only [Bool.and_eq_true, decide_eq_true_eq]
        exact ⟨fun x => x.2, fun x => ⟨fun y => hk (x.symm.trans y), x⟩⟩
      rw [h2]
      simp
  · rw [if_neg hq, if_neg (fun x => hq x.1)]
/-- a better table keeps what is beaten -/
def Better (tab tab' : Tab) : Prop := ∀ q k r0, knownAt (tab q) k = some r0 → ∃ r1, knownAt (tab' q) k = some r1 ∧ leRow r1 r0
theorem better_set {tab : Tab} {cur : Row} (hi : improves tab cur = true) : Better tab (setTab tab cur) := by
  intro q k r0 h
  rw [known_set]
  by_cases hqk : q = lastN cur.2 ∧ k = headN cur.2
  · rw [if_pos hqk]
    refine ⟨cur, rfl, ?_⟩
    obtain ⟨rfl, rfl⟩ := hqk
    unfold improves at hi
    rw [h] at hi
    exact leRow_lt.mpr (.inl hi)
  · rw [if_neg hqk]
    exact ⟨r0, h, leRow_refl _⟩
theorem Good.better {rd : Nat → List (Nat × Nat)} {tab tab' : Tab} (b : Better tab tab') {k q : Nat} {r : Row} (h : Good rd tab k q r) : Good rd tab' k q r := by
  induction h with
  | base hk => exact .base hk
  | step g hp hn hk hl ih =>
    obtain ⟨r1, h1, h2⟩ := b _ _ _ hk
    exact .step ih hp hn h1 (leRow_trans h2 hl)
theorem beaten.better {tab tab' : Tab} (b : Better tab tab') {k q : Nat} {r : Row} (h : beaten tab k q r) : beaten tab' k q r := by
  obtain ⟨r0, h1, h2⟩ := h
  obtain ⟨r1, h3, h4⟩ := b _ _ _ h1
  exact ⟨r1, h3, leRow_trans h4 h2⟩
theorem beaten_self (tab : Tab) (cur : Row) : beaten (setTab tab cur) (headN cur.2) (lastN cur.2) cur :=
  ⟨cur, by rw [known_set, if_pos ⟨rfl, rfl⟩], leRow_refl _⟩
theorem sum_le {α : Type} {f g : α → Nat} : ∀ {l : List α}, (∀ x ∈ l, g x ≤ f x) → (l.map g).sum ≤ (l.map f).sum
  | [], _ => Nat.le_refl _
  | a :: l, h => by
    have h1 := sum_le (l := l) fun x hx => h x (.tail _ hx)
    have h2 := h a (.head _)
    simp only [List.map_cons, List.sum_cons]
    omega
theorem sum_lt {α : Type} {f g : α → Nat} {x : α} : ∀ {l : List α}, (∀ x ∈ l, g x ≤ f x) → x ∈ l → g x < f x → (l.map g).sum < (l.map f).sum
  | a :: l, h, hx, hlt => by
    simp only [List.map_cons, List.sum_cons]
    rcases List.mem_cons.mp hx with rfl | hx
    · have h1 := sum_le (l := l) fun x hx => h x (.tail _ hx)
      omega
    · have h1 := sum_lt (l := l) (fun x hx => h x (.tail _ hx)) hx hlt
      have h2 := h a (.head _)
      omega
abbrev f4 (a : Nat) (l : List Nat) : Nat := l.foldl (fun a q => 4 * a + (q - 97)) a
theorem f4_lt : ∀ {x y : List Nat} {a b : Nat}, a < b → x.length = y.length → (∀ q ∈ x, q ∈ places) → (∀ q ∈ y, q ∈ places) → f4 a x < f4 b y
  | [], [], _, _, h, _, _, _ => h
  | [], _ :: _, _, _, _, e, _, _ => by cases e
  | _ :: _, [], _, _, _, e, _, _ => by cases e
  | u :: x, v :: y, a, b, h, e, hx, hy => by
    refine f4_lt (x := x) (y := y) ?_ (by simpa using e) (fun q hq => hx q (.tail _ hq)) (fun q hq => hy q (.tail _ hq))
    have h1 := hx u (.head _)
    simp only [places, List.mem_cons, List.not_mem_nil, or_false] at h1
    show 4 * a + (u - 97) < 4 * b + (v - 97)
    omega
theorem f4_lex : ∀ {x y : List Nat} {a : Nat}, x < y → x.length = y.length → (∀ q ∈ x, q ∈ places) → (∀ q ∈ y, q ∈ places) → f4 a x < f4 a y
  | [], [], _, h, _, _, _ => absurd h (List.lt_irrefl _)
  | [], _ :: _, _, _, e, _, _ => by cases e
  | _ :: _, [], _, _, e, _, _ => by cases e
  | u :: x, v :: y, a, h, e, hx, hy => by
    have h1 := hx u (.head _)
    have h2 := hy v (.head _)
    simp only [places, List.mem_cons, List.not_mem_nil, or_false] at h1 h2
    rw [List.cons_lt_cons_iff] at h
    rcases h with h | ⟨rfl, h⟩
    · exact f4_lt (x := x) (y := y) (show 4 * a + (u - 97) < 4 * a + (v - 97) by omega) (by simpa using e) (fun q hq => hx q (.tail _ hq)) (fun q hq => hy q (.tail _ hq))
    · exact f4_lex (x := x) (y := y) h (by simpa using e) (fun q hq => hx q (.tail _ hq)) (fun q hq => hy q (.tail _ hq))
theorem f4_top : ∀ {x : List Nat} {a : Nat}, (∀ q ∈ x, q ∈ places) → f4 a x + 1 ≤ (a + 1) * 4 ^ x.length
  | [], a, _ => by simp
  | u :: x, a, hx => by
    have h1 := hx u (.head _)
    simp only [places, List.mem_cons, List.not_mem_nil, or_false] at h1
    have h2 := f4_top (x := x) (a := 4 * a + (u - 97)) fun q hq => hx q (.tail _ hq)
    show f4 (4 * a + (u - 97)) x + 1 ≤ _
    refine Nat.le_trans h2 ?_
    rw [List.length_cons, Nat.pow_succ, Nat.mul_comm (4 ^ x.length) 4, ← Nat.mul_assoc]
    exact Nat.mul_le_mul_right _ (by omega)
theorem f4_256 {r : Row} (h : RowOk r) : f4 0 r.2 < 256 := by
  have h1 := f4_top (a := 0) h.2.1
  have h2 : (4 : Nat) ^ r.2.length ≤ 4 ^ 4 := Nat.pow_le_pow_right (by decide) h.2.2.2.2
  have h3 : (4 : Nat) ^ 4 = 256 := rfl
  omega
theorem rho_top {r : Row} (h : RowOk r) : rho r < 14100 := by
  have h1 := f4_256 h
  obtain ⟨-, -, h2, h3, h4⟩ := h
  unfold rho
  show (r.1 * 5 + r.2.length) * 256 + f4 0 r.2 < 14100
  omega
theorem rho_lt {a b : Row} (ha : RowOk a) (hb : RowOk b) (h : ltRow a b = true) : rho a < rho b := by
  have h1 := f4_256 ha
  have hbl : 1 ≤ b.2.length := List.length_pos_iff.mpr hb.1
  have h4 := ha.2.2.2.2
  unfold rho
  show (a.1 * 5 + a.2.length) * 256 + f4 0 a.2 < (b.1 * 5 + b.2.length) * 256 + f4 0 b.2
  rw [ltRow_iff] at h
  rcases h with h | ⟨h, h' | ⟨h', h''⟩⟩
  · omega
  · omega
  · have := f4_lex (a := 0) h'' h' ha.2.1 hb.2.1
    rw [h, h']
    omega
theorem send_len {rd : Nat → List (Nat × Nat)} (R : RdOk rd) {cur : Row} (h : lastN cur.2 ∈ places) : (sendable rd cur).length ≤ 2 := by
  unfold sendable
  rw [List.length_map]
  exact Nat.le_trans (List.length_filter_le _ _) (Nat.le_of_eq (R _ h).1)
theorem Inv.better {rd : Nat → List (Nat × Nat)} (R : RdOk rd) {cur : Row} {ln : List Row} {tab : Tab} (h : Inv rd (cur :: ln) tab) (hi : improves tab cur = true) :
    Inv rd (ln ++ sendable rd cur) (setTab tab cur) ∧ mu (ln ++ sendable rd cur) (setTab tab cur) < mu (cur :: ln) tab := by
  have hb := better_set hi
  obtain ⟨k, q, g⟩ := h.line cur (.head _)
  have gi := g.info R
  have hq : lastN cur.2 = q := gi.la
  have hk : headN cur.2 = k := gi.hd
  have hmu : mu (ln ++ sendable rd cur) (setTab tab cur) < mu (cur :: ln) tab := by
    have hs := send_len R (cur := cur) (by rw [hq]; exact gi.qp)
    have hle : ∀ q ∈ places, ∀ k ∈ places, potOf (knownAt (setTab tab cur q) k) ≤ potOf (knownAt (tab q) k) := by
      intro q' hq' k' hk'
      rw [known_set]
      by_cases e : q' = lastN cur.2 ∧ k' = headN cur.2
      · rw [if_pos e, e.1, e.2]
        unfold improves at hi
        cases hkn : knownAt (tab (lastN cur.2)) (headN cur.2) with
        | none => exact Nat.le_of_lt (rho_top gi.ok)
        | some r0 =>
          rw [hkn] at hi
          refine Nat.le_of_lt (rho_lt gi.ok ?_ hi)
          obtain ⟨e0, he0, rfl⟩ := Option.map_eq_some_iff.mp hkn
          exact ((h.tabOk R _ (hq ▸ gi.qp)).2 _ (List.mem_of_find?_eq_some he0)).2
      · rw [if_neg e]; exact Nat.le_refl _
    have hlt : potOf (knownAt (setTab tab cur q) k) < potOf (knownAt (tab q) k) := by
      rw [known_set, if_pos ⟨hq.symm, hk.symm⟩]
      unfold improves at hi
      rw [hq, hk] at hi
      cases hkn : knownAt (tab q) k with
      | none => exact rho_top gi.ok
      | some r0 =>
        rw [hkn] at hi
        refine rho_lt gi.ok ?_ hi
        obtain ⟨e0, he0, rfl⟩ := Option.map_eq_some_iff.mp hkn
        exact ((h.tabOk R _ gi.qp).2 _ (List.mem_of_find?_eq_some he0)).2
    have hsum : (places.map fun q => (places.map fun k => potOf (knownAt (setTab tab cur q) k)).sum).sum < (places.map fun q => (places.map fun k => potOf (knownAt (tab q) k)).sum).sum :=
      sum_lt (x := q) (fun q' hq' => sum_le fun k' hk' => hle q' hq' k' hk') gi.qp (sum_lt (x := k) (fun k' hk' => hle q gi.qp k' hk') gi.kp hlt)
    unfold mu
    rw [List.length_append, List.length_cons]
    omega
  refine ⟨⟨?_, ?_, ?_, ?_, ?_, ?_⟩, hmu⟩
  · intro r hr
    rcases List.mem_append.mp hr with hr | hr
    · obtain ⟨k', q', g'⟩ := h.line r (.tail _ hr)
      exact ⟨k', q', g'.better hb⟩
    · unfold sendable at hr
      obtain ⟨p, hp, rfl⟩ := List.mem_map.mp hr
      obtain ⟨hp1, hp2⟩ := List.mem_filter.mp hp
      rw [hq] at hp1
      exact ⟨k, p.1, .step (g.better hb) hp1 (by simpa using hp2) (r0 := cur) (by rw [known_set, if_pos ⟨hq.symm, hk.symm⟩]) (leRow_refl _)⟩
  · intro q' hq'
    unfold setTab
    split
    · rw [List.map_append, List.nodup_append]
      refine ⟨((List.filter_sublist (l := tab q')).map (·.1)).nodup (h.nd q' hq'), by simp, ?_⟩
      intro a ha b hb' e
      obtain ⟨e1, he1, rfl⟩ := List.mem_map.mp ha
      have := (List.mem_filter.mp he1).2
      simp at hb'
      simp only [decide_eq_true_eq] at this
      exact this (e.trans hb')
    · exact h.nd q' hq'
  · intro q' hq' e he
    unfold setTab at he
    split at he
    · rename_i e1
      rcases List.mem_append.mp he with he | he
      · exact (h.keys q' hq' e (List.mem_filter.mp he).1).better hb
      · rw [List.mem_singleton.mp he, e1, hq, hk]
        exact g.better hb
    · exact (h.keys q' hq' e he).better hb
  · intro q' hq' e he p hp hn
    have old : e ∈ tab q' → beaten (setTab tab cur) e.1 p.1 (ext e.2 p) ∨ ext e.2 p ∈ ln ++ sendable rd cur := by
      intro he
      rcases h.done q' hq' e he p hp hn with hd | hd
      · exact .inl (hd.better hb)
      · rcases List.mem_cons.mp hd with hd | hd
        · have ge := (h.keys q' hq' e he).info R
          have h1 : headN cur.2 = e.1 := by
            rw [← hd]
            show headN (e.2.2 ++ [p.1]) = _
            rw [headN_snoc _ ge.ne, ge.hd]
          have h2 : lastN cur.2 = p.1 := by
            rw [← hd]
            exact lastN_snoc _ _
          rw [hd, ← h1, ← h2]
          exact .inl (beaten_self _ _)
        · exact .inr (List.mem_append_left _ hd)
    unfold setTab at he
    split at he
    · rename_i e1
      rcases List.mem_append.mp he with he | he
      · exact old (List.mem_filter.mp he).1
      · rw [List.mem_singleton.mp he] at hn ⊢
        refine .inr (List.mem_append_right _ ?_)
        unfold sendable
        exact List.mem_map.mpr ⟨p, List.mem_filter.mpr ⟨e1 ▸ hp, by simpa using hn⟩, rfl⟩
    · exact old he
  · intro k' hk'
    rcases h.start k' hk' with hd | hd
    · exact .inl (hd.better hb)
    · rcases List.mem_cons.mp hd with hd | hd
      · left
        have := beaten_self tab cur
        rw [← hd] at this ⊢
        exact this
      · exact .inr (List.mem_append_left _ hd)
  · exact Nat.le_trans (Nat.le_of_lt hmu) h.size
theorem Inv.worse {rd : Nat → List (Nat × Nat)} (R : RdOk rd) {cur : Row} {ln : List Row} {tab : Tab} (h : Inv rd (cur :: ln) tab) (hi : improves tab cur = false) :
    Inv rd ln tab ∧ mu ln tab < mu (cur :: ln) tab := by
  have hmu : mu ln tab < mu (cur :: ln) tab := by unfold mu; rw [List.length_cons]; omega
  have hbt : beaten tab (headN cur.2) (lastN cur.2) cur := by
    unfold improves at hi
    cases hkn : knownAt (tab (lastN cur.2)) (headN cur.2) with
    | none => rw [hkn] at hi; cases hi
    | some r0 =>
      rw [hkn] at hi
      exact ⟨r0, hkn, hi⟩
  refine ⟨⟨fun r hr => h.line r (.tail _ hr), h.nd, h.keys, ?_, ?_, Nat.le_trans (Nat.le_of_lt hmu) h.size⟩, hmu⟩
  · intro q' hq' e he p hp hn
    rcases h.done q' hq' e he p hp hn with hd | hd
    · exact .inl hd
    · rcases List.mem_cons.mp hd with hd | hd
      · have ge := (h.keys q' hq' e he).info R
        have h1 : headN cur.2 = e.1 := by
          rw [← hd]
          show headN (e.2.2 ++ [p.1]) = _
          rw [headN_snoc _ ge.ne, ge.hd]
        have h2 : lastN cur.2 = p.1 := by
          rw [← hd]
          exact lastN_snoc _ _
        rw [hd, ← h1, ← h2]
        exact .inl hbt
      · exact .inr hd
  · intro k' hk'
    rcases h.start k' hk' with hd | hd
    · exact .inl hd
    · rcases List.mem_cons.mp hd with hd | hd
      · left
        have := hbt
        rw [← hd] at this
        exact this
      · exact .inr hd
theorem Inv.init (rd : Nat → List (Nat × Nat)) : Inv rd [(1, [97]), (1, [98]), (1, [99]), (1, [100])] (fun _ => []) where
  line := by
    intro r hr
    simp only [List.mem_cons, List.not_mem_nil, or_false] at hr
    rcases hr with rfl | rfl | rfl | rfl
    · exact ⟨97, 97, .base (by simp)⟩
    · exact ⟨98, 98, .base (by simp)⟩
    · exact ⟨99, 99, .base (by simp)⟩
    · exact ⟨100, 100, .base (by simp)⟩
  nd := fun _ _ => List.nodup_nil
  keys := fun _ _ _ h => by cases h
  done := fun _ _ _ h => by cases h
  start := by
    intro k hk
    simp only [places, List.mem_cons, List.not_mem_nil, or_false] at hk
    rcases hk with rfl | rfl | rfl | rfl <;> exact .inr (by simp)
  size := by simp [mu, knownAt, potOf, places]
theorem mu_len {ln : List Row} {tab : Tab} : ln.length ≤ mu ln tab := Nat.le_add_right _ _
end
-- P3
section
def remT : Nat → List Nat
  | 0 => [46, 97, 32, 34, 46, 98, 34, 10, 92, 46, 99, 32, 46, 100, 10]
  | 1 => [34, 46, 98, 34, 10, 92, 46, 99, 32, 46, 100, 10]
  | 2 => [10, 92, 46, 99, 32, 46, 100, 10]
  | 3 => [46, 100, 10]
  | _ => []
theorem tok_T (i : Nat) (h : i < 4) : tkS (remT i) = ([46, 97 + i], remT (i + 1)) := by
  rcases (by omega : i = 0 ∨ i = 1 ∨ i = 2 ∨ i = 3) with rfl | rfl | rfl | rfl <;> simp [remT, tkS, tkP.eq_def, tkQ.eq_def, isWs]
theorem text_T : (Str.ofString ".a \".b\"\n\\.c .d\n").cps.toList = remT 0 := by decide +kernel
theorem text_len : (Str.ofString ".a \".b\"\n\\.c .d\n").length = 15 := by decide +kernel
/-- a row on the wire -/
def rowS (r : Row) : List Nat := List.replicate r.1 46 ++ r.2
def strsD (l : List (List Nat)) : List Dat := l.map fun y => Dat.str (S y)
theorem perm_tok {α : Type} (A B1 B2 fz R : List α) : (A ++ (fz ++ (B1 ++ (B2 ++ R)))).Perm (B1 ++ (A ++ (B2 ++ (fz ++ R)))) := by
  refine List.Perm.trans (List.Perm.append_left A ?_) (List.perm_append_comm_assoc A B1 _)
  refine List.Perm.trans (List.perm_append_comm_assoc fz B1 _) (List.Perm.append_left B1 ?_)
  exact List.perm_append_comm_assoc fz B2 R
theorem strs_snoc {vs : List Value} {l : List (List Nat)} {y : List Nat} {t : Tok} (h : DatAll [] vs (strsD l)) : DatAll [] (vs ++ [.str (S y) t]) (strsD (l ++ [y])) := by
  unfold strsD at h ⊢
  rw [List.map_append]
  exact h.append (.one (.str _ _))
end
-- P4
section
def rowO : Option Row → List Nat
  | some r => rowS r
  | none => []
/-- the rows of a table of headers -/
def hrows (tab : Tab) (q : Nat) : List (List Nat × List Nat) := (tab q).map fun e => ([e.1], rowS e.2)
/-- a def of the written part -/
def fnAt (K : Frag) (a : Addr) : Str × Scope × List Stmt × Value := match K.lookup a with
  | some ⟨_, _, .func fd, _⟩ => (fd.qualname, fd.scope, (match fd.body with | .stmts b => b | _ => []), fd.code)
  | _ => ("", default, [], .none)
theorem fnAt_of {K : Frag} {a : Addr} {name qual : Str} {params : Arguments} {body : List Stmt} {scope : Scope} {dV kV doc pm cdv ct oc : Value} {an od : Option Addr} {osl : Array (Option Value)}
    (ho : K.lookup a = some ⟨oc, od, .func (fnOf name qual params body scope dV kV doc pm an cdv ct), osl⟩) : fnAt K a = (qual, scope, body, cdv) := by
  unfold fnAt
  rw [ho]
/-- what holds between the turns -/
inductive FloodI (w : World) (g : Heap) (L' : Addr) (s0 : Shared) (rd : Nat → List (Nat × Nat)) (fa Dr Dt dx T P st : Addr) (k1 k2 k3 k4 tw : Tok) (tx : Str) (lq : Nat → Addr) (R0 : List (Addr × Obj)) (n : Nat) (s' : Shared) : Prop
  | mk (h : Heap) (t : Nat) (m' : Str → Option Value) (ln : Int) (tl tp : Tok) (p c : Nat) (its : Array Value) (cP : Nat) (iq : Nat → Array Value) (cq : Nat → Nat) (R : List (Addr × Obj)) (cur : Option Row) (lnr : List Row) (tab : Tab) (tr tu : Tok) (u : Nat)
    (e : s' = { s0 with heap := h, toks := t })
    (G : Lg g L' h m' ((dx, dictOf (mes w k1 k2 k3 k4 ln tl st tw P) 4) :: (T, listOf #[.int ((p : Nat) : Int) tp] c) :: (P, listOf its cP) :: (lq 97, listOf (iq 97) (cq 97)) :: (lq 98, listOf (iq 98) (cq 98)) :: (lq 99, listOf (iq 99) (cq 99)) :: (lq 100, listOf (iq 100) (cq 100)) :: R))
    (hR : ∀ a ∈ R0, a ∈ R) (hp : p ≤ tx.length) (hd : tx.cps.toList.drop p = []) (hT : ∀ q ∈ places, DatAll R (iq q).toList ((hrows tab q).map rowD))
    (mt : m' "tables" = some (.ref Dt)) (mf : m' "figures" = some (.ref fa)) (mr : m' "roads" = some (.ref Dr)) (mu : m' "turn" = some (.int ((u : Nat) : Int) tu)) (mw : m' "row" = some (.str (S (rowO cur)) tr))
    (hc : match cur with
      | some r => DatAll [] its.toList (strsD (lnr.map rowS)) ∧ Inv rd (r :: lnr) tab ∧ n = Mine.mu (r :: lnr) tab + 1
      | none => Inv rd [] tab ∧ n = 0)
theorem rowS_ne {r : Row} (h : r.2 ≠ []) : rowS r ≠ [] := by
  unfold rowS
  intro e
  exact h (List.append_eq_nil_iff.mp e).2
end
-- P5
section
theorem in_places {q : Nat} (h : q ∈ places) : q = 97 ∨ q = 98 ∨ q = 99 ∨ q = 100 := by simpa using h
section
variable {a b c : Addr × Obj} {lq : Nat → Addr} {iq : Nat → Array Value} {cq : Nat → Nat} {R : List (Addr × Obj)} {q : Nat}
theorem four_at (h : q ∈ places) : (a :: b :: c :: (lq 97, listOf (iq 97) (cq 97)) :: (lq 98, listOf (iq 98) (cq 98)) :: (lq 99, listOf (iq 99) (cq 99)) :: (lq 100, listOf (iq 100) (cq 100)) :: R)[q - 97 + 3]? = some (lq q, listOf (iq q) (cq q)) := by
  rcases in_places h with rfl | rfl | rfl | rfl <;> rfl
theorem four_set (h : q ∈ places) (its : Array Value) (k : Nat) : (a :: b :: c :: (lq 97, listOf (iq 97) (cq 97)) :: (lq 98, listOf (iq 98) (cq 98)) :: (lq 99, listOf (iq 99) (cq 99)) :: (lq 100, listOf (iq 100) (cq 100)) :: R).set (q - 97 + 3) (lq q, listOf its k) =
    a :: b :: c :: (lq 97, listOf ((fun z => if z = q then its else iq z) 97) ((fun z => if z = q then k else cq z) 97)) :: (lq 98, listOf ((fun z => if z = q then its else iq z) 98) ((fun z => if z = q then k else cq z) 98)) ::
    (lq 99, listOf ((fun z => if z = q then its else iq z) 99) ((fun z => if z = q then k else cq z) 99)) :: (lq 100, listOf ((fun z => if z = q then its else iq z) 100) ((fun z => if z = q then k else cq z) 100)) :: R := by
  rcases in_places h with rfl | rfl | rfl | rfl <;> rfl
theorem tups7 {d1 d2 d3 d4 d5 d6 d7 : Addr × Obj} (h1 : d1.2.cls ≠ .type "tuple") (h2 : d2.2.cls ≠ .type "tuple") (h3 : d3.2.cls ≠ .type "tuple") (h4 : d4.2.cls ≠ .type "tuple") (h5 : d5.2.cls ≠ .type "tuple") (h6 : d6.2.cls ≠ .type "tuple") (h7 : d7.2.cls ≠ .type "tuple") :
    Tups (d1 :: d2 :: d3 :: d4 :: d5 :: d6 :: d7 :: R) R := by
  intro t vs n hm
  have no : ∀ {d : Addr × Obj}, d.2.cls ≠ .type "tuple" → (t, tupO vs n) ≠ d := fun h e => h (by rw [← e])
  rcases List.mem_cons.mp hm with e | hm
  · exact absurd e (no h1)
  rcases List.mem_cons.mp hm with e | hm
  · exact absurd e (no h2)
  rcases List.mem_cons.mp hm with e | hm
  · exact absurd e (no h3)
  rcases List.mem_cons.mp hm with e | hm
  · exact absurd e (no h4)
  rcases List.mem_cons.mp hm with e | hm
  · exact absurd e (no h5)
  rcases List.mem_cons.mp hm with e | hm
  · exact absurd e (no h6)
  rcases List.mem_cons.mp hm with e | hm
  · exact absurd e (no h7)
  exact hm
end
theorem lower_at {q : Nat} (h : q ∈ places) : Txt.lower (S [q]) = S [q] := by
  rcases in_places h with rfl | rfl | rfl | rfl <;> decide +kernel
theorem lower_upper {q : Nat} (h : q ∈ places) : Txt.lower (Txt.upper (S [q])) = S [q] := by
  rcases in_places h with rfl | rfl | rfl | rfl <;> decide +kernel
theorem upper_len {q : Nat} (h : q ∈ places) : (Txt.upper (S [q])).length = 1 := by
  rcases in_places h with rfl | rfl | rfl | rfl <;> decide +kernel
theorem free_name {q : Nat} (h : q ∈ places) : free badName [q] := by
  intro c hc
  rw [List.mem_singleton.mp hc]
  rcases in_places h with rfl | rfl | rfl | rfl <;> decide +kernel
theorem free_val {r : Row} (h : ∀ q ∈ r.2, q ∈ places) : free badVal (rowS r) := by
  intro c hc
  rcases List.mem_append.mp hc with hc | hc
  · rw [(List.mem_replicate.mp hc).2]; decide +kernel
  · rcases in_places (h c hc) with rfl | rfl | rfl | rfl <;> decide +kernel
theorem flat_row {r : Row} (h : ∀ q ∈ r.2, q ∈ places) : flat (rowS r) := by
  intro c hc
  rcases List.mem_append.mp hc with hc | hc
  · rw [(List.mem_replicate.mp hc).2]; decide +kernel
  · rcases in_places (h c hc) with rfl | rfl | rfl | rfl <;> decide +kernel
theorem head_not {r : Row} (h : ∀ q ∈ r.2, q ∈ places) : r.2.head? ≠ some 46 := by
  intro e
  obtain ⟨d, y⟩ := r
  cases y with
  | nil => cases e
  | cons a y =>
    simp only [List.head?_cons, Option.some.injEq] at e
    have := in_places (h a (.head _))
    omega
/-- what get finds in a table -/
theorem get_is {tab : Tab} {q k : Nat} {v : Value} (ht : ∀ e ∈ tab q, e.1 ∈ places) (hk : k ∈ places) (h : GetIs (hrows tab q) (S [k]) v) : (knownAt (tab q) k = none ∧ v = .none) ∨ ∃ r u, knownAt (tab q) k = some r ∧ v = .str (S (rowS r)) u := by
  have key : ∀ l : List (Nat × Row), (∀ e ∈ l, e.1 ∈ places) → ((l.map fun e => ([e.1], rowS e.2)).find? fun p => Txt.lower (S p.1) == S [k]) = (l.find? fun e => e.1 = k).map fun e => ([e.1], rowS e.2) := by
    intro l
    induction l with
    | nil => intro _; rfl
    | cons e l ih =>
      intro hl
      rw [List.map_cons, List.find?_cons, List.find?_cons]
      have he : (Txt.lower (S [e.1]) == S [k]) = decide (e.1 = k) := by
        rw [lower_at (hl e (.head _)), Bool.eq_iff_iff, beq_iff_eq, decide_eq_true_iff]
        exact ⟨fun x => by simpa using S_inj x, fun x => by rw [x]⟩
      dsimp only
      rw [he]
      by_cases x : e.1 = k
      · rw [decide_eq_true x]; rfl
      · rw [decide_eq_false x]; exact ih fun z hz => hl z (.tail _ hz)
  unfold GetIs hrows at h
  rw [key _ ht] at h
  unfold knownAt
  cases hf : (tab q).find? (fun e => decide (e.1 = k)) with
  | none => rw [hf] at h; exact .inl ⟨rfl, h⟩
  | some e =>
    rw [hf] at h
    obtain ⟨u, hu⟩ := h
    exact .inr ⟨e.2, u, rfl, hu⟩
theorem others_is {tab : Tab} {cur : Row} (ht : ∀ e ∈ tab (lastN cur.2), e.1 ∈ places) : others (S [headN cur.2]) (hrows tab (lastN cur.2)) ++ [([headN cur.2], rowS cur)] = hrows (setTab tab cur) (lastN cur.2) := by
  unfold hrows setTab
  rw [if_pos rfl, List.map_append]
  congr 1
  unfold others
  rw [List.filter_map]
  congr 1
  apply List.filter_congr
  intro e he
  show (!(Txt.lower (S [e.1]) == S [headN cur.2])) = decide (e.1 ≠ headN cur.2)
  rw [lower_at (ht e he), Bool.eq_iff_iff]
  simp only [Bool.not_eq_true', beq_eq_false_iff_ne, decide_eq_true_eq]
  exact ⟨fun x y => x (by rw [y]), fun x y => x (by simpa using S_inj y)⟩
theorem hrows_other {tab : Tab} {cur : Row} {q : Nat} (h : q ≠ lastN cur.2) : hrows (setTab tab cur) q = hrows tab q := by
  unfold hrows setTab
  rw [if_neg h]
theorem known_mem {l : List (Nat × Row)} {k : Nat} {r : Row} (h : knownAt l k = some r) : (k, r) ∈ l := by
  unfold knownAt at h
  obtain ⟨e, he, rfl⟩ := Option.map_eq_some_iff.mp h
  have h1 := List.mem_of_find?_eq_some he
  have h2 := List.find?_some he
  simp only [decide_eq_true_eq] at h2
  rw [← h2]; exact h1
/-- a row sent once more has one dot more -/
theorem dbl_row {r : Row} (h : ∀ q ∈ r.2, q ∈ places) (hd : 1 ≤ r.1) : dbl true (rowS r) = rowS (r.1 + 1, r.2) := by
  have flatdbl : ∀ l : List Nat, (∀ c ∈ l, c ≠ 10) → dbl false l = l := by
    intro l
    induction l with
    | nil => intro _; simp [dbl]
    | cons c l ih =>
      intro hl
      rw [dbl]
      have hc : (c == 10) = false := by simpa using hl c (.head _)
      rw [hc, ih fun x hx => hl x (.tail _ hx)]
      simp
  obtain ⟨d, y⟩ := r
  obtain ⟨e, rfl⟩ : ∃ e, d = e + 1 := ⟨d - 1, by simp only at hd; omega⟩
  have hy : ∀ c ∈ List.replicate e 46 ++ y, c ≠ 10 := by
    intro c hc
    rcases List.mem_append.mp hc with hc | hc
    · rw [(List.mem_replicate.mp hc).2]; decide
    · have := in_places (h c hc); omega
  show dbl true (List.replicate (e + 1) 46 ++ y) = List.replicate (e + 1 + 1) 46 ++ y
  rw [List.replicate_succ, List.cons_append, dbl]
  rw [show ((46 : Nat) == 10) = false from rfl, flatdbl _ hy]
  simp [List.replicate_succ]
end
-- N8A
section
theorem tkS_nil : tkS [] = ([], []) := by simp [tkS]
section
variable {pr : Program} {loose : List Str} {mean : ExcName → Option Value} {mg mb : Str → Option Value} {prog : Program} {w : World} {n : Nat} {A : Around} {env : Env} {L : Addr} {h₀ : Heap}
  {m : Str → Option Value} {news : List (Addr × Obj)} {s : Shared} {E : Value → Shared → Prop}
set_option maxHeartbeats 20000000
/-- the next token, from the line or, when it is empty, from the text's end -/
theorem tok_next {Q : Value → Shared → Prop} {x dx T P st : Addr} {k1 k2 k3 k4 tl tw tp : Tok} {ln : Int} {p c cP : Nat} {its : Array Value} {ys : List (List Nat)} {l R : List (Addr × Obj)} {tx : Str}
    (C : Cx (hd.heap_1 w.params) pr loose mean mg mb (n + 5) A env L h₀)
    (G : Lg h₀ L s.heap m ((dx, dictOf (mes w k1 k2 k3 k4 ln tl st tw P) 4) :: (T, listOf #[.int (p : Int) tp] c) :: (P, listOf its cP) :: (l ++ R)))
    (HM : Mach w R x dx st T tx) (hp : p ≤ tx.length) (hdr : tx.cps.toList.drop p = []) (hD : DatAll [] its.toList (strsD ys)) (hsz : ys.length ≤ 1000000)
    (h : ∀ h' t t1 t2 t3 ln' p' c' cP' its' fz, p' ≤ tx.length → tx.cps.toList.drop p' = [] → DatAll [] its'.toList (strsD ys.tail) →
      Lg h₀ L h' m ((dx, dictOf (mes w k1 k2 k3 k4 ln' t1 st tw P) 4) :: (T, listOf #[.int ((p' : Nat) : Int) t2] c') :: (P, listOf its' cP') :: (l ++ (fz ++ R))) → Q (.str (S (ys.headD [])) t3) { s with heap := h', toks := t }) :
    wpAny (model prog w) A (call (.ref 66) [.ref x]) Q E s := by
  have hlen : its.size = ys.length := by have := hD.length; simpa [strsD] using this
  cases ys with
  | nil =>
    obtain rfl : its = #[] := Array.eq_empty_of_size_eq_zero hlen
    refine get_token_read C G (HM.mono fun _ h => List.mem_append_right _ h) hp ?_
    intro h' t t1 t2 t3 ln' p' c' fz hp' hd' hln G
    rw [hdr, tkS_nil] at hd'
    rw [hdr, tkS_nil]
    refine h h' t t1 t2 t3 ln' p' c' cP #[] fz hp' hd' .nil ?_
    exact G.perm (.cons _ (.cons _ (.cons _ (List.perm_append_comm_assoc fz l R))))
  | cons y ys =>
    obtain ⟨vs, rfl⟩ : ∃ vs : List Value, its = vs.toArray := ⟨its.toList, rfl⟩
    rw [List.toList_toArray] at hD
    cases vs with
    | nil => simp at hlen
    | cons v vs =>
      unfold strsD at hD
      rw [List.map_cons] at hD
      cases hD with
      | cons hd1 hd2 =>
        obtain ⟨t0, rfl⟩ := str_of hd1
        refine get_token_pop (n := n + 4) C G (List.mem_append_right _ HM.hx) (v := .str (S y) t0) rfl (by rw [hlen]; exact hsz) ?_
        intro h' t c' G
        refine h h' t tl tp t0 ln p c c' _ [] hp hdr ?_ G
        have : ((Value.str (S y) t0 :: vs).toArray.eraseIdxIfInBounds 0).toList = vs := by simp
        rw [this]
        exact hd2
end
end
-- N8T
section
theorem fillN8T : hd.heap_1 = hd.heap_1 ∧ PySem.Challenge.rw_pe0228_02 = PySem.Challenge.rw_pe0228_02 := by
  k_fill
  exact ⟨rfl, rfl⟩
section
variable {pr : Program} {loose : List Str} {mean : ExcName → Option Value} {mg mb : Str → Option Value} {prog : Program} {w : World} {n : Nat} {A : Around} {env : Env} {L : Addr} {h₀ : Heap}
  {m : Str → Option Value} {news : List (Addr × Obj)} {s : Shared} {E : Value → Shared → Prop}
set_option maxHeartbeats 20000000
theorem r_notIn {c : Nat} {y : List Nat} {t u : Tok} {Q : Value → Shared → Prop} (h : Q (.bool (!decide (c ∈ y))) s) : wpAny (model prog w) A (compareOp .NotIn (.str (S [c]) t) (.str (S y) u)) Q E s := by
  refine notIn_str ?_
  have e := StrLaws.found_one (S y) c
  have e3 : decide (c ∈ (S y).cps.toList) = decide (c ∈ y) := by
    show decide (c ∈ y.toArray.toList) = _
    rw [List.toList_toArray]
  exact cast (congrArg (fun b => Q (.bool (!b)) s) (e.trans e3).symm) h
theorem flood_turn {g : Heap} {L' ca fa Dr Dt dx T P st x : Addr} {qual : Str} {scope : Scope} {body bodyW : List Stmt} {cdv : Value} {test : PySem.Expr} {pos : Pos} {s0 s' : Shared} {rd : Nat → List (Nat × Nat)} {k1 k2 k3 k4 tw : Tok} {tx : Str}
    {hq dq lq : Nat → Addr} {kq : Nat → Tok} {R0 fz : List (Addr × Obj)} {oD o3 : Obj} {fs : Array Value} {cf N : Nat}
    (hE : fnAt (hd.heap_1 w.params) 258 = (qual, scope, body, cdv)) (hW : body[6]? = some (.While test bodyW [] pos))
    (C : Cx (hd.heap_1 w.params) pr loose mean mg mb (n + 7) A (envX qual scope L' 258 cdv [(Str.ofString "line", ca)]) L' g)
    (HM : Mach w R0 x dx st T tx) (hce : (ca, o3) ∈ R0) (e3 : o3.data = .cell (some (.ref x))) (hDt : (Dt, oD) ∈ R0) (hoD : oD.IsDictOf (strKind prog w) ([97, 98, 99, 100].map fun q => (S [q], Value.ref (hq q))))
    (hH : ∀ q ∈ places, (hq q, instObj 230 (dq q)) ∈ R0 ∧ (dq q, dictOf (hes w (kq q) (lq q)) 1) ∈ R0) (Rds : RoadsAt prog w fz Dr rd) (hfz : ∀ p ∈ fz, p ∈ R0)
    (hfa : (fa, listOf fs cf) ∈ R0) (hfs : 4 ≤ fs.size ∧ fs.size ≤ 100) (hfi : ∀ (i : Nat) (v : Value), fs[i]? = some v → ∃ (a : Nat) (t : Tok), v = Value.int (a : Int) t ∧ a ≤ 2)
    (I : FloodI w g L' s0 rd fa Dr Dt dx T P st k1 k2 k3 k4 tw tx lq R0 N s') :
    wpAny (model prog w) A (PySem.isTrue test (envX qual scope L' 258 cdv [(Str.ofString "line", ca)]) (eval test (envX qual scope L' 258 cdv [(Str.ofString "line", ca)]))) (fun b s₂ =>
      if b = true then wpAny (model prog w) A (execs bodyW (envX qual scope L' 258 cdv [(Str.ofString "line", ca)])) (fun f s₃ => match f with
          | .next | .cont => ∃ M, M < N ∧ FloodI w g L' s0 rd fa Dr Dt dx T P st k1 k2 k3 k4 tw tx lq R0 M s₃
          | .brk => False
          | .ret _ => False) (fun _ _ => False) s₂
      else FloodI w g L' s0 rd fa Dr Dt dx T P st k1 k2 k3 k4 tw tx lq R0 0 s₂) (fun _ _ => False) s' := by
  rw [fnAt_of (by k_is)] at hE
  cases hE
  cases hW
  have hR : RdOk rd := Rds.ok
  obtain ⟨h, t, m', ln, tl, tp, p, c, its, cP, iq, cq, R, cur, lnr, tab, tr, tu, u, rfl, G, hR0, hp, hdr, hT, mt, mf, mr, mu', mrow, hcur⟩ := I
  refine hideQ fun Z0 hZ0 => ?_
  walk_at "go"
  refine hZ0 _ _ ?_
  cases cur with
  | none =>
    obtain ⟨hInv, rfl⟩ := hcur
    refine ite_neg (by rw [show S (rowO none) = Str.ofString "" from rfl]; simp) ?_
    exact ⟨_, _, _, _, _, _, _, _, _, _, _, _, _, none, lnr, tab, _, _, _, rfl, G, hR0, hp, hdr, hT, mt, mf, mr, mu', mrow, hInv, rfl⟩
  | some cur =>
    obtain ⟨hP, hInv, hN⟩ := hcur
    obtain ⟨hne, hpl, hd1, hd2, hlen4⟩ := hInv.rowOk hR cur (.head _)
    have hq0 : lastN cur.2 ∈ places := hpl _ (lastN_mem hne)
    have hk0 : headN cur.2 ∈ places := hpl _ (headN_mem hne)
    have htab := hInv.tabOk hR
    refine ite_pos ?_ ?_
    · rw [bne_iff_ne]
      intro e
      exact rowS_ne hne (S_inj (e.trans (show Str.ofString "" = S [] from rfl)))
    refine hideQ fun Z1 hZ1 => ?_
    walk_at "go"
    refine SCL.lstripChars ?_ (by show (S (dots cur.1 cur.2)).length ≤ _; rw [S_len, sizeLine_eq]; simp; omega)
    intro t1 kk1 _
    rw [show Txt.lstripChars (S (rowO (some cur))) (Str.ofString ".") = S cur.2 from lstrip_dots cur.1 cur.2 (head_not hpl)]
    walk_at "go"
    refine r_last hne ?_
    refine r_dictItem (k := S [lastN cur.2]) G (by have := hR0 _ hDt; walk_at "mem") hoD (strKind_is _ _ _ _) (road_at hq hq0) ?_
    have hxq := hR0 _ (hH _ hq0).1
    have hdq := hR0 _ (hH _ hq0).2
    walk_at "go"
    refine r_first hne ?_
    walk_at "go"
    refine SCL.upper (by rw [S_len]; exact Nat.le_of_ble_eq_true rfl) ?_
    intro _
    walk_at "go"
    have hTq := hT _ hq0
    have hlq : (lq (lastN cur.2), listOf (iq (lastN cur.2)) (cq (lastN cur.2))) ∈ _ := List.mem_of_getElem? (four_at (a := (dx, dictOf (mes w k1 k2 k3 k4 ln tl st tw P) 4)) (b := (T, listOf #[.int ((p : Nat) : Int) tp] c)) (c := (P, listOf its cP)) (lq := lq) (iq := iq) (cq := cq) (R := R) hq0)
    refine headers_get C G (by walk_at "mem") (by walk_at "mem") hlq (DatAll.mono (fun _ h => .tail _ (.tail _ (.tail _ (.tail _ (.tail _ (.tail _ (.tail _ h))))))) hTq) ?_ (by rw [upper_len hk0]; decide) (lower_upper hk0) (free_name hk0) (Nat.le_of_ble_eq_true rfl) ?_
    · intro r hr
      obtain ⟨e, _, rfl⟩ := List.mem_map.mp hr
      exact Nat.le_of_ble_eq_true rfl
    intro h5 t5 kv hkv G
    dsimp only
    walk_at "st"
    have hget := get_is (tab := tab) (fun e he => ((htab _ hq0).2 e he).1) hk0 hkv
    refine wpAny_execs_cons ?_
    refine wpAny_mono (Q := fun f s' => f = Flow.next ∧ ∃ (h : Heap) (t : Nat) (m' : Str → Option Value) (its : Array Value) (cP : Nat) (iq : Nat → Array Value) (cq : Nat → Nat) (R' : List (Addr × Obj)) (lnr' : List Row) (tab' : Tab),
      s' = { s0 with heap := h, toks := t } ∧ Lg g L' h m' ((dx, dictOf (mes w k1 k2 k3 k4 ln tl st tw P) 4) :: (T, listOf #[.int ((p : Nat) : Int) tp] c) :: (P, listOf its cP) :: (lq 97, listOf (iq 97) (cq 97)) :: (lq 98, listOf (iq 98) (cq 98)) :: (lq 99, listOf (iq 99) (cq 99)) :: (lq 100, listOf (iq 100) (cq 100)) :: R') ∧
      (∀ a ∈ R, a ∈ R') ∧ DatAll [] its.toList (strsD (lnr'.map rowS)) ∧ Inv rd lnr' tab' ∧ mu lnr' tab' < mu (cur :: lnr) tab ∧ (∀ q ∈ places, DatAll R' (iq q).toList ((hrows tab' q).map rowD)) ∧
      m' "tables" = some (.ref Dt) ∧ m' "figures" = some (.ref fa) ∧ m' "roads" = some (.ref Dr) ∧ m' "turn" = some (.int ((u : Nat) : Int) tu)) ?_ ?_ (fun _ _ x => x)
    · refine hideQ fun Z2 hZ2 => ?_
      refine wpAny_If ?_
      refine wpAny_mono (Q := fun b s' => b = improves tab cur ∧ ∃ (h : Heap) (t : Nat) (m' : Str → Option Value) (R' : List (Addr × Obj)) (tq : Addr),
        s' = { s0 with heap := h, toks := t } ∧ Lg g L' h m' ((dx, dictOf (mes w k1 k2 k3 k4 ln tl st tw P) 4) :: (T, listOf #[.int ((p : Nat) : Int) tp] c) :: (P, listOf its cP) :: (lq 97, listOf (iq 97) (cq 97)) :: (lq 98, listOf (iq 98) (cq 98)) :: (lq 99, listOf (iq 99) (cq 99)) :: (lq 100, listOf (iq 100) (cq 100)) :: R') ∧
        (∀ a ∈ R, a ∈ R') ∧ m' "tables" = some (.ref Dt) ∧ m' "figures" = some (.ref fa) ∧ m' "roads" = some (.ref Dr) ∧ m' "turn" = some (.int ((u : Nat) : Int) tu) ∧ m' "row" = some (.str (S (rowS cur)) tr) ∧ m' "way" = some (.str (S cur.2) t1) ∧ m' "table" = some (.ref (hq (lastN cur.2)))) ?_ ?_ (fun _ _ x => x)
      · refine hideQ fun Z3 hZ3 => ?_
        walk_at "go"
        rcases hget with ⟨hkn, rfl⟩ | ⟨r0, u0, hkn, rfl⟩
        · refine ite_pos rfl ?_
          refine hZ3 _ _ ⟨by unfold improves; rw [hkn], _, _, _, R, 0, rfl, G, fun _ h => h, mt, mf, mr, mu', mrow, rfl, rfl⟩
        · refine ite_neg (by simp) ?_
          walk_at "go"
          obtain ⟨hne0, hpl0, hd10, hd20, hlen0⟩ : RowOk r0 := ((htab _ hq0).2 _ (known_mem hkn)).2
          refine law_rank (d := cur.1) (y := cur.2) C G (head_not hpl) (by omega) ?_
          intro D1 h6 t6 t61 t62 t63 G
          dsimp only
          walk_at "go"
          refine law_rank (d := r0.1) (y := r0.2) C G (head_not hpl0) (by omega) ?_
          intro D2 h7 t7 t71 t72 t73 G
          dsimp only
          refine lt_triple C.room G (by walk_at "mem") (by walk_at "mem") ?_
          walk_at "go"
          rw [show ltR (cur.1 : Int) (cur.2.length : Int) (S cur.2) (r0.1 : Int) (r0.2.length : Int) (S r0.2) = ltRow cur r0 from rfl]
          have himp : improves tab cur = ltRow cur r0 := by unfold improves; rw [hkn]
          have G7 := (G.back 8).back 7
          have G8 : Lg g L' _ _ ((dx, dictOf (mes w k1 k2 k3 k4 ln tl st tw P) 4) :: (T, listOf #[.int ((p : Nat) : Int) tp] c) :: (P, listOf its cP) :: (lq 97, listOf (iq 97) (cq 97)) :: (lq 98, listOf (iq 98) (cq 98)) :: (lq 99, listOf (iq 99) (cq 99)) :: (lq 100, listOf (iq 100) (cq 100)) :: (_ :: _ :: R)) := (G.back 8).back 7
          by_cases hlt : ltRow cur r0 = true
          · refine ite_pos hlt ?_
            exact hZ3 _ _ ⟨by rw [himp, hlt], _, _, _, _, 0, rfl, G8, fun _ h => .tail _ (.tail _ h), mt, mf, mr, mu', mrow, rfl, rfl⟩
          · refine ite_neg hlt ?_
            walk_at "go"
            refine hZ3 _ _ ⟨by rw [himp, Bool.eq_false_iff.mpr hlt], _, _, _, _, 0, rfl, G8, fun _ h => .tail _ (.tail _ h), mt, mf, mr, mu', mrow, rfl, rfl⟩
      · rintro b s' ⟨hb, h, t, m', R', _, rfl, G, hRR, mt, mf, mr, mu', mrow, mway, mtab⟩
        by_cases hbt : b = true
        · refine ite_pos hbt ?_
          rw [hb] at hbt
          walk_at "go"
          refine r_first hne ?_
          have hxq' := hRR _ hxq
          have hdq' := hRR _ hdq
          have hDr := hR0 _ hDt
          have hTq' : DatAll R' (iq (lastN cur.2)).toList ((hrows tab (lastN cur.2)).map rowD) := DatAll.mono hRR hTq
          have hl4 := (htab _ hq0).1
          refine ksp_setItem G.F C.X (InstAt.of_news G.N (x := hq (lastN cur.2)) (by walk_at "mem") (by walk_at "mem")) (by k_is) (by k_is) (by k_is) ?_
          refine headers_set (i := lastN cur.2 - 97 + 3) C G (by walk_at "mem") (by walk_at "mem") (four_at hq0) (DatAll.mono (fun _ h => .tail _ (.tail _ (.tail _ (.tail _ (.tail _ (.tail _ (.tail _ h))))))) hTq')
            (by rw [hrows, List.length_map]; omega) ?_ (Nat.le_of_ble_eq_true rfl) (lower_at hk0) (free_name hk0) (Nat.le_of_ble_eq_true rfl) (free_name hk0) (free_val hpl)
            (by unfold rowS; simp; omega) ?_
          · intro r hr
            obtain ⟨e, _, rfl⟩ := List.mem_map.mp hr
            exact Nat.le_of_ble_eq_true rfl
          intro h6 t6 its6 c6 fz6 hD6 G
          have hD6' : DatAll (R' ++ fz6) its6.toList ((hrows (setTab tab cur) (lastN cur.2)).map rowD) := by
            rw [← others_is fun e he => ((htab _ hq0).2 e he).1]
            refine Tups.rows ?_ hD6
            rw [four_set hq0]
            exact tups7 (by simp) (by simp) (by simp) (by simp) (by simp) (by simp) (by simp)
          have G := G.to (congrArg (· ++ fz6) (four_set hq0 its6 c6))
          dsimp only [List.cons_append] at G
          walk_at "go"
          refine r_last hne ?_
          obtain ⟨oR, ls, hoR1, hoR2, hoR3⟩ := Rds.ex
          obtain ⟨its3, c3, hls1, hls2⟩ := hoR3 _ hq0
          have hmR : (Dr, oR) ∈ R' := hRR _ (hR0 _ (hfz _ hoR1))
          have hmL : (ls (lastN cur.2), listOf its3 c3) ∈ R' := hRR _ (hR0 _ (hfz _ hls1))
          refine r_dictItem (k := S [lastN cur.2]) G (List.mem_append_right [_, _, _, _, _, _, _] (List.mem_append_left _ hmR)) hoR2 (strKind_is _ _ _ _) (road_at ls hq0) ?_
          walk_at "go"
          obtain ⟨hrd2, hrdok⟩ := hR _ hq0
          have hits3 : its3.size = 2 := by have := hls2.length; simpa [hrd2] using this
          have hlnr : lnr.length ≤ 700000 := Nat.le_trans (Nat.le_trans (Nat.le_succ _) (mu_len (ln := cur :: lnr) (tab := tab))) hInv.size
          have hxm := hR0 _ HM.hx
          refine for_list (its := its3) C.hn G (fun k m' nw => ∃ (itsK : Array Value) (cK : Nat), nw = (dx, dictOf (mes w k1 k2 k3 k4 ln tl st tw P) 4) :: (T, listOf #[.int ((p : Nat) : Int) tp] c) :: (P, listOf itsK cK) ::
              (lq 97, listOf ((fun z => if z = lastN cur.2 then its6 else iq z) 97) ((fun z => if z = lastN cur.2 then c6 else cq z) 97)) :: (lq 98, listOf ((fun z => if z = lastN cur.2 then its6 else iq z) 98) ((fun z => if z = lastN cur.2 then c6 else cq z) 98)) ::
              (lq 99, listOf ((fun z => if z = lastN cur.2 then its6 else iq z) 99) ((fun z => if z = lastN cur.2 then c6 else cq z) 99)) :: (lq 100, listOf ((fun z => if z = lastN cur.2 then its6 else iq z) 100) ((fun z => if z = lastN cur.2 then c6 else cq z) 100)) :: (R' ++ fz6) ∧
            DatAll [] itsK.toList (strsD ((lnr ++ (((rd (lastN cur.2)).take k).filter (fun p => decide (p.1 ∉ cur.2))).map (ext cur)).map rowS)) ∧
            m' "tables" = some (.ref Dt) ∧ m' "figures" = some (.ref fa) ∧ m' "roads" = some (.ref Dr) ∧ m' "turn" = some (.int ((u : Nat) : Int) tu) ∧ m' "row" = some (.str (S (rowS cur)) tr) ∧ m' "way" = some (.str (S cur.2) t1)) ?_
            ⟨its, cP, rfl, by rw [List.take_zero]; simpa using hP, mt, mf, mr, mu', mrow, mway⟩ ?_ ?_
          · rintro k m' nw ⟨itsK, cK, rfl, -⟩
            exact .inr ⟨_, .tail _ (.tail _ (.tail _ (.tail _ (.tail _ (.tail _ (.tail _ (List.mem_append_left _ hmL))))))), rfl, _, rfl⟩
          · rintro I3 k v h10 t10 m10 nw oI3 hk hv ⟨itsK, cK, enw25, hPk, mt, mf, mr, mu', mrow, mway⟩ GG
            have G := GG.to1 enw25
            obtain ⟨dv, hdv, hdi⟩ := DatAll.at hls2 (i := k) (v := v) (by simpa using hv)
            rw [List.getElem?_map] at hdv
            obtain ⟨pp, hpp, rfl⟩ := Option.map_eq_some_iff.mp hdv
            obtain ⟨hpq, hp1, hp3⟩ := hrdok _ (List.mem_of_getElem? hpp)
            obtain ⟨T2, va2, vb2, cu2, rfl, hm2, ha2, hb2⟩ := pair_of hdi
            obtain ⟨ta2, rfl⟩ := str_of ha2
            obtain ⟨tb2, rfl⟩ := int_of hb2
            have hm4 : (T2, tupO [.str (S [pp.1]) ta2, .int (pp.2 : Int) tb2] cu2) ∈ R' ++ fz6 := List.mem_append_left _ (hRR _ (hR0 _ (hfz _ hm2)))
            refine hideT fun Z4 hZ4 => ?_
            refine r_unpack2 C.hn G (by walk_at "mem") ?_
            intro h11 G
            walk_at "go"
            refine r_notIn ?_
            walk_at "go"
            by_cases hin : pp.1 ∈ cur.2
            · rw [decide_eq_true hin]
              refine ite_neg (by simp) ?_
              walk_at "go"
              refine hZ4 _ _ ⟨_, _, _, _, rfl, G, itsK, cK, rfl, ?_, mt, mf, mr, mu', mrow, mway⟩
              rw [List.take_add_one, hpp]
              simpa [List.filter_append, hin] using hPk
            · rw [decide_eq_false hin]
              refine ite_pos rfl ?_
              walk_at "go"
              refine r_addS (by unfold rowS; simp; omega) ?_
              intro t12 k12
              walk_at "go"
              refine r_range1 G ?_
              intro r h13 t13 u1 u2 u3 hr G
              have hplx : ∀ z ∈ cur.2 ++ [pp.1], z ∈ places := by
                intro z hz
                rcases List.mem_append.mp hz with hz | hz
                · exact hpl _ hz
                · rw [List.mem_singleton.mp hz]; exact hpq
              have hs0 : rowS cur ++ [pp.1] = rowS (cur.1 + 0, cur.2 ++ [pp.1]) := by unfold rowS; simp
              refine for_range (N := pp.2) C.hn G hr rfl (by omega) (fun i m' nw => ∃ tsn, nw = (I3, oI3) :: (dx, dictOf (mes w k1 k2 k3 k4 ln tl st tw P) 4) :: (T, listOf #[.int ((p : Nat) : Int) tp] c) :: (P, listOf itsK cK) ::
                  (lq 97, listOf ((fun z => if z = lastN cur.2 then its6 else iq z) 97) ((fun z => if z = lastN cur.2 then c6 else cq z) 97)) :: (lq 98, listOf ((fun z => if z = lastN cur.2 then its6 else iq z) 98) ((fun z => if z = lastN cur.2 then c6 else cq z) 98)) ::
                  (lq 99, listOf ((fun z => if z = lastN cur.2 then its6 else iq z) 99) ((fun z => if z = lastN cur.2 then c6 else cq z) 99)) :: (lq 100, listOf ((fun z => if z = lastN cur.2 then its6 else iq z) 100) ((fun z => if z = lastN cur.2 then c6 else cq z) 100)) :: (R' ++ fz6) ∧
                  m' "sent" = some (.str (S (rowS (cur.1 + i, cur.2 ++ [pp.1]))) tsn) ∧
                  m' "tables" = some (.ref Dt) ∧ m' "figures" = some (.ref fa) ∧ m' "roads" = some (.ref Dr) ∧ m' "turn" = some (.int ((u : Nat) : Int) tu) ∧ m' "row" = some (.str (S (rowS cur)) tr) ∧ m' "way" = some (.str (S cur.2) t1)) ?_ ?_ ?_
              · refine ⟨t12, rfl, ?_, mt, mf, mr, mu', mrow, mway⟩
                exact (show some (Value.str (S (rowS cur ++ [pp.1])) t12) = _ from congrArg (fun z => some (Value.str (S z) t12)) hs0)
              · rintro I4 i tv h14 t14 m14 nw oI4 hi ⟨tsn, enw26, ms, mt, mf, mr, mu', mrow, mway⟩ GG
                have G := GG.to1 enw26
                refine hideT fun Z5 hZ5 => ?_
                walk_at "go"
                refine quotedata_flat (x := rowS (cur.1 + i, cur.2 ++ [pp.1])) C G (flat_row hplx) (by unfold rowS; simp; omega) ?_
                intro h15 k15 u15 G
                walk_at "go"
                refine hZ5 _ _ ⟨_, _, _, _, rfl, G, u15, rfl, ?_, mt, mf, mr, mu', mrow, mway⟩
                exact (show some (Value.str (S (dbl true (rowS (cur.1 + i, cur.2 ++ [pp.1])))) u15) = _ from congrArg (fun z => some (Value.str (S z) u15)) (dbl_row hplx (by show 1 ≤ cur.1 + i; omega)))
              · rintro h14 t14 m14 nw ⟨tsn, enw27, ms, mt, mf, mr, mu', mrow, mway⟩ GG
                have G := GG.to enw27
                dsimp only
                have hce2 : (ca, o3) ∈ R' ++ fz6 := List.mem_append_left _ (hRR _ (hR0 _ hce))
                have hxm2 : (x, instObj 76 dx) ∈ R' ++ fz6 := List.mem_append_left _ (hRR _ hxm)
                walk_at "go"
                refine push_token (i := 3) C G (by walk_at "mem") (by walk_at "mem") rfl ?_ ?_
                · have := hPk.length
                  simp only [strsD, Array.length_toList, List.length_map, List.length_append] at this
                  have h2 := List.length_filter_le (fun p => decide (p.1 ∉ cur.2)) ((rd (lastN cur.2)).take k)
                  rw [List.length_take] at h2
                  omega
                intro h16 t16 c16 G
                dsimp only [List.set_cons_succ, List.set_cons_zero] at G
                walk_at "go"
                refine hZ4 _ _ ⟨_, _, _, _, rfl, G, _, _, rfl, ?_, mt, mf, mr, mu', mrow, mway⟩
                have e3 : (lnr ++ (((rd (lastN cur.2)).take (k + 1)).filter (fun p => decide (p.1 ∉ cur.2))).map (ext cur)).map rowS = (lnr ++ (((rd (lastN cur.2)).take k).filter (fun p => decide (p.1 ∉ cur.2))).map (ext cur)).map rowS ++ [rowS (cur.1 + pp.2, cur.2 ++ [pp.1])] := by
                  rw [List.take_add_one, hpp]
                  simp [List.filter_append, hin, ext]
                rw [Array.toList_push, e3]
                exact strs_snoc hPk
          · rintro h10 t10 m10 nw ⟨itsK, cK, enw28, hPk, mt, mf, mr, mu', mrow, mway⟩ GG
            have G := GG.to enw28
            dsimp only
            walk_at "go"
            rw [hits3, ← hrd2, List.take_length] at hPk
            obtain ⟨hI2, hmu2⟩ := hInv.better hR hbt
            refine hZ2 _ _ ⟨rfl, _, _, _, itsK, cK, (fun z => if z = lastN cur.2 then its6 else iq z), (fun z => if z = lastN cur.2 then c6 else cq z), R' ++ fz6, _, _, rfl, G, fun _ h => List.mem_append_left _ (hRR _ h), hPk, hI2, hmu2, ?_, mt, mf, mr, mu'⟩
            intro q hq'
            by_cases e : q = lastN cur.2
            · subst e
              dsimp only
              rw [if_pos rfl]
              exact hD6'
            · dsimp only
              rw [if_neg e, hrows_other e]
              exact DatAll.mono (fun _ h => List.mem_append_left _ (hRR _ h)) (hT q hq')
        · refine ite_neg hbt ?_
          rw [hb, Bool.not_eq_true] at hbt
          walk_at "go"
          obtain ⟨hI2, hmu2⟩ := hInv.worse hR hbt
          refine hZ2 _ _ ⟨rfl, _, _, _, its, cP, iq, cq, R', _, _, rfl, G, hRR, hP, hI2, hmu2, ?_, mt, mf, mr, mu'⟩
          exact fun q hq' => DatAll.mono hRR (hT q hq')
    · rintro f s' ⟨rfl, h, t, m', its, cP, iq, cq, R', lnr', tab', rfl, G, hRR, hP, hInv', hmu, hT, mt, mf, mr, mu'⟩
      dsimp only
      have hfa' := hRR _ (hR0 _ hfa)
      have hce' := hRR _ (hR0 _ hce)
      have hxm' := hRR _ (hR0 _ HM.hx)
      walk_at "go"
      refine len_list (items := fs) (G.lst (.tail _ (.tail _ (.tail _ (.tail _ (.tail _ (.tail _ (.tail _ hfa')))))))) (by omega) ?_
      walk_at "go"
      have hfsn : ((fs.size : Nat) : Int) ≠ 0 := by omega
      refine mod_int' hfsn ?_
      obtain ⟨j, hj, ej⟩ := fmod_lt (u : Int) fs.size (by omega)
      rw [ej]
      obtain ⟨vf, hvf⟩ : ∃ v, fs[j]? = some v := ⟨_, Array.getElem?_eq_getElem hj⟩
      obtain ⟨a, ta, rfl, ha⟩ := hfi j _ hvf
      refine r_itemB (its := fs) (G.lst (.tail _ (.tail _ (.tail _ (.tail _ (.tail _ (.tail _ (.tail _ hfa')))))))) (by omega) (by omega) hvf ?_
      walk_at "go"
      refine r_range1 G ?_
      intro r h13 t13 u1 u2 u3 hr G
      have hlnr' : lnr'.length ≤ 700000 := Nat.le_trans mu_len hInv'.size
      have HM' : Mach w R x dx st T tx := HM.mono hR0
      refine for_range (N := a) C.hn G hr rfl (by omega) (fun i m' nw => ∃ (ln : Int) (tl tp : Tok) (p c : Nat) (itsK : Array Value) (cK : Nat) (ys : List (List Nat)) (Rk : List (Addr × Obj)), nw = (dx, dictOf (mes w k1 k2 k3 k4 ln tl st tw P) 4) :: (T, listOf #[.int ((p : Nat) : Int) tp] c) :: (P, listOf itsK cK) ::
          (lq 97, listOf (iq 97) (cq 97)) :: (lq 98, listOf (iq 98) (cq 98)) :: (lq 99, listOf (iq 99) (cq 99)) :: (lq 100, listOf (iq 100) (cq 100)) :: Rk ∧ (∀ a ∈ R', a ∈ Rk) ∧ p ≤ tx.length ∧ tx.cps.toList.drop p = [] ∧
          DatAll [] itsK.toList (strsD ys) ∧ ((∃ l : List Row, ys = l.map rowS ∧ lnr'.Perm l) ∨ (lnr' = [] ∧ ys = [[]])) ∧
          m' "tables" = some (.ref Dt) ∧ m' "figures" = some (.ref fa) ∧ m' "roads" = some (.ref Dr) ∧ m' "turn" = some (.int ((u : Nat) : Int) tu)) ?_ ?_ ?_
      · exact ⟨_, _, _, _, _, _, _, _, _, rfl, fun _ h => h, hp, hdr, hP, .inl ⟨_, rfl, .refl _⟩, mt, mf, mr, mu'⟩
      · rintro I i tv h14 t14 m14 nw oI hi ⟨ln, tl, tp, p, c, itsK, cK, ys, Rk, enw29, hRk, hp, hdr, hPk, hys, mt, mf, mr, mu'⟩ GG
        have G := GG.to1 enw29
        have hce2 := hRk _ hce'
        have hxm2 := hRk _ hxm'
        have hyl : ys.length ≤ 700001 := by
          rcases hys with ⟨l, rfl, hl⟩ | ⟨_, rfl⟩
          · rw [List.length_map, ← hl.length_eq]; omega
          · decide
        refine hideT fun Z6 hZ6 => ?_
        walk_at "go"
        have G1 := G.back 7
        refine tok_next (R := Rk) (l := [(lq 97, listOf (iq 97) (cq 97)), (lq 98, listOf (iq 98) (cq 98)), (lq 99, listOf (iq 99) (cq 99)), (lq 100, listOf (iq 100) (cq 100)), (I, oI)]) C G1 (HM'.mono fun _ h => hRk _ (hRR _ h)) hp hdr hPk (by omega) ?_
        intro h15 t15 t1 t2 t3 ln' p' c' cP' its' fz' hp' hd' hD' G
        have hxm3 : (x, instObj 76 dx) ∈ fz' ++ Rk := List.mem_append_right _ hxm2
        dsimp only [List.cons_append, List.nil_append] at G
        walk_at "go"
        refine push_token (i := 2) C G (by walk_at "mem") (by walk_at "mem") rfl ?_ ?_
        · have := hD'.length
          simp only [strsD, Array.length_toList, List.length_map, List.length_tail] at this
          omega
        intro h16 t16 c16 G
        dsimp only [List.set_cons_succ, List.set_cons_zero] at G
        walk_at "go"
        have G2 := G.front 7 rfl
        refine hZ6 _ _ ⟨_, _, _, _, rfl, G2, ln', t1, t2, p', c', _, _, ys.tail ++ [ys.headD []], fz' ++ Rk, rfl, fun _ h => List.mem_append_right _ (hRk _ h), hp', hd', ?_, ?_, mt, mf, mr, mu'⟩
        · rw [Array.toList_push]
          exact strs_snoc hD'
        · rcases hys with ⟨l, rfl, hl⟩ | ⟨e, rfl⟩
          · cases l with
            | nil => exact .inr ⟨hl.eq_nil, rfl⟩
            | cons r l => exact .inl ⟨l ++ [r], by simp, hl.trans (List.perm_append_comm (l₁ := [r]) (l₂ := l))⟩
          · exact .inr ⟨e, rfl⟩
      · rintro h14 t14 m14 nw ⟨ln, tl, tp, p, c, itsK, cK, ys, Rk, enw30, hRk, hp, hdr, hPk, hys, mt, mf, mr, mu'⟩ GG
        have G := GG.to enw30
        have hce2 := hRk _ hce'
        have hxm2 := hRk _ hxm'
        have hyl : ys.length ≤ 700001 := by
          rcases hys with ⟨l, rfl, hl⟩ | ⟨_, rfl⟩
          · rw [List.length_map, ← hl.length_eq]; omega
          · decide
        dsimp only
        walk_at "go"
        refine tok_next (R := Rk) (l := [(lq 97, listOf (iq 97) (cq 97)), (lq 98, listOf (iq 98) (cq 98)), (lq 99, listOf (iq 99) (cq 99)), (lq 100, listOf (iq 100) (cq 100))]) C G (HM'.mono fun _ h => hRk _ (hRR _ h)) hp hdr hPk (by omega) ?_
        intro h15 t15 t1 t2 t3 ln' p' c' cP' its' fz' hp' hd' hD' G
        have hxm3 : (x, instObj 76 dx) ∈ fz' ++ Rk := List.mem_append_right _ hxm2
        dsimp only [List.cons_append, List.nil_append] at G
        walk_at "go"
        have htu : ((u : Nat) : Int) + 1 = ((u + 1 : Nat) : Int) := by omega
        rcases hys with ⟨l, rfl, hl⟩ | ⟨e, rfl⟩
        · cases l with
          | nil =>
            have hI0 : Inv rd [] tab' := hInv'.perm hl
            refine hZ1 _ _ ⟨0, by omega, _, _, _, ln', t1, t2, p', c', its', cP', iq, cq, fz' ++ Rk, none, lnr', tab', t3, _, u + 1, rfl, G, fun _ h => List.mem_append_right _ (hRk _ (hRR _ (hR0 _ h))), hp', hd', fun q hq => DatAll.mono (fun _ h => List.mem_append_right _ (hRk _ h)) (hT q hq), mt, mf, mr, congrArg (fun z => some (Value.int z _)) htu, rfl, hI0, rfl⟩
          | cons r l =>
            refine hZ1 _ _ ⟨mu (r :: l) tab' + 1, by rw [← mu_perm hl]; omega, _, _, _, ln', t1, t2, p', c', its', cP', iq, cq, fz' ++ Rk, some r, l, tab', t3, _, u + 1, rfl, G, fun _ h => List.mem_append_right _ (hRk _ (hRR _ (hR0 _ h))), hp', hd', fun q hq => DatAll.mono (fun _ h => List.mem_append_right _ (hRk _ h)) (hT q hq), mt, mf, mr, congrArg (fun z => some (Value.int z _)) htu, rfl, hD', hInv'.perm hl, rfl⟩
        · have hI0 : Inv rd [] tab' := e ▸ hInv'
          refine hZ1 _ _ ⟨0, by omega, _, _, _, ln', t1, t2, p', c', its', cP', iq, cq, fz' ++ Rk, none, lnr', tab', t3, _, u + 1, rfl, G, fun _ h => List.mem_append_right _ (hRk _ (hRR _ (hR0 _ h))), hp', hd', fun q hq => DatAll.mono (fun _ h => List.mem_append_right _ (hRk _ h)) (hT q hq), mt, mf, mr, congrArg (fun z => some (Value.int z _)) htu, rfl, hI0, rfl⟩
end
end
-- N8
section
theorem fillN8 : hd.heap_1 = hd.heap_1 ∧ PySem.Challenge.rw_pe0228_02 = PySem.Challenge.rw_pe0228_02 := by
  k_fill
  exact ⟨rfl, rfl⟩
section
variable {pr : Program} {loose : List Str} {mean : ExcName → Option Value} {mg mb : Str → Option Value} {prog : Program} {w : World} {n : Nat} {A : Around} {env : Env} {L : Addr} {h₀ : Heap}
  {m : Str → Option Value} {news : List (Addr × Obj)} {s : Shared} {E : Value → Shared → Prop}
set_option maxHeartbeats 20000000
theorem flood {Q : Value → Shared → Prop} {Dr fa : Addr} {rd : Nat → List (Nat × Nat)} {fz : List (Addr × Obj)} {fs : Array Value} {cf : Nat}
    (C : Cx (hd.heap_1 w.params) pr loose mean mg mb (n + 8) A env L h₀) (G : Lg h₀ L s.heap m ((236, tabObj #[]) :: news)) (hcd : CodeHd h₀ 240 236)
    (R : RoadsAt prog w fz Dr rd) (hfz : ∀ p ∈ fz, p ∈ news) (hfa : (fa, listOf fs cf) ∈ news) (hfs : 4 ≤ fs.size ∧ fs.size ≤ 100) (hfi : ∀ (i : Nat) (v : Value), fs[i]? = some v → ∃ (a : Nat) (t : Tok), v = Value.int (a : Int) t ∧ a ≤ 2)
    (h : ∀ (Dt : Addr) (oD : Obj) (hq dq lq : Nat → Addr) (kq : Nat → Tok) (iq : Nat → Array Value) (cq : Nat → Nat) (tab : Tab) (h' : Heap) (t : Nat) (nw : List (Addr × Obj)), oD.IsDictOf (strKind prog w) ([97, 98, 99, 100].map fun q => (S [q], Value.ref (hq q))) →
      (Dt, oD) ∈ nw → (∀ q ∈ places, (hq q, instObj 230 (dq q)) ∈ nw ∧ (dq q, dictOf (hes w (kq q) (lq q)) 1) ∈ nw ∧ (lq q, listOf (iq q) (cq q)) ∈ nw ∧ DatAll nw (iq q).toList ((hrows tab q).map rowD)) → Inv rd [] tab → (∀ a ∈ news, a ∈ nw) → (∃ ps, (236, tabObj ps) ∈ nw) →
      Lg h₀ L h' m nw → Q (.ref Dt) { s with heap := h', toks := t }) :
    wpAny (model prog w) A (call (.ref 258) [.ref Dr, .ref fa]) Q E s := by
  refine enterL (binds := [(Str.ofString "roads", .ref Dr), (Str.ofString "figures", .ref fa)]) C G (by k_is) (by k_is) (BindsTo.of_eq rfl) ?_ (by decide +kernel) rfl rfl rfl ?_
  · intro n x hx
    simp only [List.mem_cons, List.not_mem_nil, or_false] at hx
    rcases hx with rfl | rfl <;> exact .inl rfl
  intro g L' h₁ tk cells C st' Y G
  refine hideQ fun Y0 hY => ?_
  have hcd' : CodeHd g 240 236 := hcd.keeps st'
  obtain ⟨oc, rfl, d1⟩ := CellsAre.one (c := L' + 1) (n := Str.ofString "line") Y
  dsimp only [List.cons_append, List.nil_append] at G
  have G := G.front 1 rfl
  dsimp only [List.eraseIdx_cons_succ, List.eraseIdx_cons_zero] at G
  walk_at "go"
  refine law_machine C G hcd' (by decide +kernel) ?_
  intro x dx st T P h2 t2 k1 k2 k3 k4 tl tw tp fzm HM ⟨ps0, hps0⟩ G
  have hHM := HM
  have G := G.perm (b := (dx, dictOf (mes w k1 k2 k3 k4 1 tl st tw P) 4) :: (T, listOf #[.int ((0 : Nat) : Int) tp] 0) :: (P, listOf #[] 0) :: (L' + 1, oc) :: (fzm ++ news)) (.cons _ (.cons _ (.cons _ List.perm_middle)))
  refine r_storeC (i := 3) G rfl rfl d1 ?_
  intro h3 o3 e3 G
  dsimp only [List.set_cons_succ, List.set_cons_zero] at G
  dsimp only
  walk_at "go"
  refine kdn_str (by rfl) G.F G.N C.T.nolimit (by rfl) (by rfl) (by simp) (by decide) ?_
  intro Dt h4 oD0 F4 N4 l4 lo hoD0
  have G := G.cons F4 N4 l4
  dsimp only
  refine evalPairs_cons ?_
  walk_at "go"
  refine wpAny_bind ?_
  walk_at "go"
  refine make_headers C G ?_
  intro h0 d0 l0 h5 t5 ka G
  refine wpAny_bind (wpAny_standAt (wpAny_pure ?_))
  dsimp only
  refine evalPairs_cons ?_
  walk_at "go"
  refine wpAny_bind ?_
  walk_at "go"
  refine make_headers C G ?_
  intro h1 d1' l1 h6 t6 kb G
  refine wpAny_bind (wpAny_standAt (wpAny_pure ?_))
  dsimp only
  refine evalPairs_cons ?_
  walk_at "go"
  refine wpAny_bind ?_
  walk_at "go"
  refine make_headers C G ?_
  intro h2' d2 l2 h7 t7 kc G
  refine wpAny_bind (wpAny_standAt (wpAny_pure ?_))
  dsimp only
  refine evalPairs_cons ?_
  walk_at "go"
  refine wpAny_bind ?_
  walk_at "go"
  refine make_headers C G ?_
  intro h3' d3 l3 h8 t8 kd G
  refine wpAny_bind (wpAny_standAt (wpAny_pure ?_))
  dsimp only
  refine evalPairs_nil ?_
  refine kdn_made_str G.F G.N (updF_at (i := 12) rfl G.nd) hoD0 (by rfl) (by show ([Str.ofString "a", Str.ofString "b", Str.ofString "c", Str.ofString "d"] : List Str).Nodup; decide +kernel) ?_
  intro h9 oD F9 N9 hoD
  have G := G.reset (i := 12) rfl F9 N9
  dsimp only [List.set_cons_succ, List.set_cons_zero] at G
  have hoD : oD.IsDictOf (strKind prog w) ([97, 98, 99, 100].map fun q => (S [q], Value.ref (by4 h0 h1 h2' h3' q))) := by
    have e1 : (Str.ofString "a") = S [97] := by decide +kernel
    have e2 : (Str.ofString "b") = S [98] := by decide +kernel
    have e3 : (Str.ofString "c") = S [99] := by decide +kernel
    have e4 : (Str.ofString "d") = S [100] := by decide +kernel
    show oD.IsDictOf (strKind prog w) [(S [97], Value.ref h0), (S [98], Value.ref h1), (S [99], Value.ref h2'), (S [100], Value.ref h3')]
    rw [← e1, ← e2, ← e3, ← e4]
    exact hoD
  have G := (((((G.front 3 rfl).front 6 rfl).front 9 rfl).front 15 rfl).front 15 rfl).front 15 rfl
  dsimp only [List.eraseIdx_cons_succ, List.eraseIdx_cons_zero] at G
  dsimp only
  walk_at "go"
  obtain ⟨rest, hrest⟩ : ∃ rest, rest = (h3', instObj 230 d3) :: (d3, dictOf (hes w kd l3) 1) :: (h2', instObj 230 d2) :: (d2, dictOf (hes w kc l2) 1) :: (h1, instObj 230 d1') :: (d1', dictOf (hes w kb l1) 1) :: (h0, instObj 230 d0) :: (d0, dictOf (hes w ka l0) 1) :: (Dt, oD) :: (L' + 1, o3) :: (fzm ++ news) := ⟨_, rfl⟩
  have HM2 : Mach w rest x dx st T (Str.ofString ".a \".b\"\n\\.c .d\n") := HM.mono fun p hp => by
    rw [hrest]
    exact .tail _ (.tail _ (.tail _ (.tail _ (.tail _ (.tail _ (.tail _ (.tail _ (.tail _ (.tail _ (List.mem_append_left _ hp))))))))))
  have hps1 : (236, tabObj ps0) ∈ rest := by
    rw [hrest]
    exact .tail _ (.tail _ (.tail _ (.tail _ (.tail _ (.tail _ (.tail _ (.tail _ (.tail _ (.tail _ (List.mem_append_left _ hps0))))))))))
  have hnr : ∀ p ∈ news, p ∈ rest := fun p hp => by
    rw [hrest]
    exact .tail _ (.tail _ (.tail _ (.tail _ (.tail _ (.tail _ (.tail _ (.tail _ (.tail _ (.tail _ (List.mem_append_right _ hp))))))))))
  have hDt : (Dt, oD) ∈ rest := by rw [hrest]; walk_at "mem"
  have hce : (L' + 1, o3) ∈ rest := by rw [hrest]; walk_at "mem"
  have hH : ∀ q ∈ [97, 98, 99, 100], (by4 h0 h1 h2' h3' q, instObj 230 (by4 d0 d1' d2 d3 q)) ∈ rest ∧ (by4 d0 d1' d2 d3 q, dictOf (hes w (by4 ka kb kc kd q) (by4 l0 l1 l2 l3 q)) 1) ∈ rest := by
    intro q hq
    rw [hrest]
    simp only [List.mem_cons, List.not_mem_nil, or_false] at hq
    rcases hq with rfl | rfl | rfl | rfl
    · exact ⟨by show (h0, instObj 230 d0) ∈ _; walk_at "mem", by show (d0, dictOf (hes w ka l0) 1) ∈ _; walk_at "mem"⟩
    · exact ⟨by show (h1, instObj 230 d1') ∈ _; walk_at "mem", by show (d1', dictOf (hes w kb l1) 1) ∈ _; walk_at "mem"⟩
    · exact ⟨by show (h2', instObj 230 d2) ∈ _; walk_at "mem", by show (d2, dictOf (hes w kc l2) 1) ∈ _; walk_at "mem"⟩
    · exact ⟨by show (h3', instObj 230 d3) ∈ _; walk_at "mem", by show (d3, dictOf (hes w kd l3) 1) ∈ _; walk_at "mem"⟩
  rw [← hrest] at G
  generalize htx : Str.ofString ".a \".b\"\n\\.c .d\n" = tx at *
  have htx1 : tx.cps.toList = remT 0 := by rw [← htx]; exact text_T
  have htx2 : tx.length = 15 := by rw [← htx]; exact text_len
  refine assign_U G rfl rfl rfl rfl rfl (by decide) rfl (by decide) rfl ?_
  walk_at "go"
  refine r_range1 G ?_
  intro r h10 t10 u1 u2 u3 hr G
  refine src_range (N := 4) C.hn G hr rfl (by decide) ?_
  rintro I s2 ⟨h11, rfl⟩ Z
  refine ⟨I, _, _, _, _, rfl, by decide, Z, fun i ys nw => ∃ (ln : Int) (tl tp : Tok) (p c : Nat) (r2 : List (Addr × Obj)), nw = (dx, dictOf (mes w k1 k2 k3 k4 ln tl st tw P) 4) :: (T, listOf #[.int ((p : Nat) : Int) tp] c) :: (P, listOf #[] 0) :: (l0, listOf #[] 0) :: (l1, listOf #[] 0) :: (l2, listOf #[] 0) :: (l3, listOf #[] 0) :: (r2 ++ rest) ∧
    p ≤ tx.length ∧ tx.cps.toList.drop p = remT i ∧ i ≤ 4 ∧ DatAll [] ys (strsD ((List.range i).map fun q => [46, 97 + q])), fun _ _ _ _ => trivial, ⟨1, tl, tp, 0, 0, [], rfl, Nat.zero_le _, by simpa using htx1, by decide, .nil⟩, ?_, ?_⟩
  · intro I i v ys h12 t12 nw oI Cc oC Dl m₂ hi pt1 hC hm2 pt2 GG
    refine hideQ fun Z0 hZ => ?_
    obtain ⟨tv, rfl⟩ := pt1
    obtain ⟨ln, tl, tp, p, c, r2, enw21, hp, hdr, -, hys⟩ := pt2
    have G := GG.to3 enw21
    have hce2 : (L' + 1, o3) ∈ r2 ++ rest := List.mem_append_right _ hce
    have hx2 : (x, instObj 76 dx) ∈ r2 ++ rest := List.mem_append_right _ HM2.hx
    walk_at "go"
    have G2 := ((G.front 5 rfl).front 5 rfl).front 5 rfl
    dsimp only [List.eraseIdx_cons_succ, List.eraseIdx_cons_zero] at G2
    refine get_token_read C G2 (HM2.mono fun p hp => .tail _ (.tail _ (.tail _ (.tail _ (.tail _ (.tail _ (.tail _ (List.mem_append_right _ hp)))))))) hp ?_
    intro h13 t13 t1 t2 t3 ln' p' c' fz2 hp' hdr' _ G
    rw [hdr, tok_T i hi] at hdr' ⊢
    have G3 := G.perm (perm_tok [(dx, _), (T, _), (P, _)] [(I, oI), (Cc, oC), (Dl, _)] [(l0, _), (l1, _), (l2, _), (l3, _)] fz2 (r2 ++ rest))
    refine hZ _ _ ⟨_, _, _, rfl, G3, ln', t1, t2, p', c', fz2 ++ r2, ?_, hp', hdr', hi, ?_⟩
    · simp
    · rw [List.range_succ, List.map_append]
      exact strs_snoc hys
  · rintro De h12 t12 ys nw ⟨ln, tl, tp, p, c, r2, enw22, hp, hdr, -, hys⟩ GG
    have G := GG.to1 enw22
    have hce2 : (L' + 1, o3) ∈ r2 ++ rest := List.mem_append_right _ hce
    have hx2 : (x, instObj 76 dx) ∈ r2 ++ rest := List.mem_append_right _ HM2.hx
    have hys4 : ys.length = 4 := by have := hys.length; simpa [strsD] using this
    dsimp only
    walk_at "go"
    refine for_list (its := ys.toArray) C.hn G (fun j m' nw => ∃ (itsP : Array Value) (cP : Nat), nw = (De, LCg.lst ys) :: (dx, dictOf (mes w k1 k2 k3 k4 ln tl st tw P) 4) :: (T, listOf #[.int ((p : Nat) : Int) tp] c) :: (P, listOf itsP cP) ::
      (l0, listOf #[] 0) :: (l1, listOf #[] 0) :: (l2, listOf #[] 0) :: (l3, listOf #[] 0) :: (r2 ++ rest) ∧ DatAll [] itsP.toList (strsD ((List.range j).map fun q => [46, 97 + q])) ∧
      m' "tables" = some (.ref Dt) ∧ m' "figures" = some (.ref fa) ∧ m' "roads" = some (.ref Dr)) ?_ ⟨#[], 0, rfl, .nil, rfl, rfl, rfl⟩ ?_ ?_
    · rintro j m' nw ⟨itsP, cP, rfl, -⟩
      exact .inr ⟨_, .head _, rfl, _, rfl⟩
    · intro I j v h13 t13 m13 nw oI hj hv pt3 GG
      refine hideT fun Z0 hZ => ?_
      obtain ⟨itsP, cP, enw23, hP, mt, mf, mr⟩ := pt3
      have G := GG.to1 enw23
      obtain ⟨dv, hdv, hdi⟩ := DatAll.at hys (i := j) (v := v) (by simpa using hv)
      have hj4 : j < 4 := by rw [← hys4]; simpa using hj
      have hdv' : dv = Dat.str (S [46, 97 + j]) := by
        simp [strsD, hj4] at hdv
        exact hdv.symm
      subst hdv'
      obtain ⟨tv, rfl⟩ := str_of hdi
      walk_at "go"
      have hPs : itsP.size = j := by have := hP.length; simpa [strsD] using this
      refine push_token (i := 4) C G (by walk_at "mem") (by walk_at "mem") rfl (by omega) ?_
      intro h14 t14 c14 G
      dsimp only [List.set_cons_succ, List.set_cons_zero] at G
      dsimp only
      walk_at "go"
      refine hZ _ _ ⟨_, _, _, _, rfl, G, _, _, rfl, ?_, mt, mf, mr⟩
      rw [Array.toList_push, List.range_succ, List.map_append]
      exact strs_snoc hP
    · rintro h13 t13 m13 nw ⟨itsP, cP, enw24, hP, mt, mf, mr⟩ GG
      have G := GG.to enw24
      dsimp only
      walk_at "go"
      have G := G.back 7
      have hHR : ∀ p ∈ rest, p ∈ (De, LCg.lst ys) :: (r2 ++ rest) := fun p hp => .tail _ (List.mem_append_right _ hp)
      have hce3 := hHR _ hce
      have hx3 := hHR _ HM2.hx
      have hdr4 : tx.cps.toList.drop p = [] := hdr
      have hP4 : DatAll [] itsP.toList (strsD [[46, 97], [46, 98], [46, 99], [46, 100]]) := by
        have e : ys.toArray.size = 4 := by simpa using hys4
        rw [e] at hP
        exact hP
      refine tok_next (R := (De, LCg.lst ys) :: (r2 ++ rest)) (l := [(l0, listOf #[] 0), (l1, listOf #[] 0), (l2, listOf #[] 0), (l3, listOf #[] 0)]) C G (HM2.mono hHR) hp hdr4 hP4 (by simp) ?_
      intro h15 t15 t1 t2 t3 ln' p' c' cP' its' fz' hp' hd' hD' G
      dsimp only [List.cons_append, List.nil_append] at G
      walk_at "go"
      have hnr3 : ∀ p ∈ news, p ∈ fz' ++ (De, LCg.lst ys) :: (r2 ++ rest) := fun p hp => List.mem_append_right _ (hHR _ (hnr _ hp))
      have hps3 := List.mem_append_right fz' (hHR _ hps1)
      have hHR3 : ∀ p ∈ rest, p ∈ fz' ++ (De, LCg.lst ys) :: (r2 ++ rest) := fun p hp => List.mem_append_right _ (hHR _ hp)
      have hH3 : ∀ q ∈ places, (by4 h0 h1 h2' h3' q, instObj 230 (by4 d0 d1' d2 d3 q)) ∈ fz' ++ (De, LCg.lst ys) :: (r2 ++ rest) ∧ (by4 d0 d1' d2 d3 q, dictOf (hes w (by4 ka kb kc kd q) (by4 l0 l1 l2 l3 q)) 1) ∈ fz' ++ (De, LCg.lst ys) :: (r2 ++ rest) := fun q hq => ⟨hHR3 _ (hH q hq).1, hHR3 _ (hH q hq).2⟩
      generalize fz' ++ (De, LCg.lst ys) :: (r2 ++ rest) = R0 at *
      refine wpAny_While (codeAny_whileLoop (I := FloodI w g L' s rd fa Dr Dt dx T P st k1 k2 k3 k4 tw tx (by4 l0 l1 l2 l3) R0) ?_ (mu [(1, [97]), (1, [98]), (1, [99]), (1, [100])] (fun _ => []) + 1) ?_)
      · intro N sN IN
        refine wpAny_mono (flood_turn (fz := fz) (hE := fnAt_of (by k_is)) (hW := rfl) (hq := by4 h0 h1 h2' h3') (dq := by4 d0 d1' d2 d3) (kq := by4 ka kb kc kd) C (HM2.mono hHR3) (hHR3 _ hce) e3 (hHR3 _ hDt) hoD hH3 R (fun p hp => hnr3 _ (hfz _ hp)) (hnr3 _ hfa) hfs hfi IN) ?_ (fun _ _ x => x.elim)
        intro b s1 hb
        cases b with
        | true =>
          refine ite_pos rfl ?_
          rw [if_pos rfl] at hb
          refine wpAny_mono hb (fun f s3 hf => ?_) (fun _ _ x => x.elim)
          cases f with
          | next => exact hf
          | cont => exact hf
          | brk => exact hf.elim
          | ret v => exact hf.elim
        | false =>
          refine ite_neg (by simp) ?_
          rw [if_neg (by simp)] at hb
          obtain ⟨h20, t20, m20, ln2, tl2, tp2, p2, c2, its2, cP2, iq2, cq2, R2, cur2, lnr2, tab2, tr2, tu2, u2, rfl, G, hR2, _, _, hT2, mt2, mf2, mr2, _, _, hcur2⟩ := hb
          cases cur2 with
          | some r2 => exact absurd hcur2.2.2 (by omega)
          | none =>
            walk_at "go"
            refine hY _ _ ⟨_, _, G, fun G2 => h Dt oD (by4 h0 h1 h2' h3') (by4 d0 d1' d2 d3) (by4 l0 l1 l2 l3) (by4 ka kb kc kd) iq2 cq2 tab2 _ _ _ hoD ?_ ?_ hcur2.1 ?_ ⟨_, .tail _ (.tail _ (.tail _ (.tail _ (.tail _ (.tail _ (.tail _ (hR2 _ hps3)))))))⟩ G2⟩
            · exact .tail _ (.tail _ (.tail _ (.tail _ (.tail _ (.tail _ (.tail _ (hR2 _ (hHR3 _ hDt))))))))
            · intro q hq
              have h1 := hH3 q hq
              refine ⟨.tail _ (.tail _ (.tail _ (.tail _ (.tail _ (.tail _ (.tail _ (hR2 _ h1.1))))))), .tail _ (.tail _ (.tail _ (.tail _ (.tail _ (.tail _ (.tail _ (hR2 _ h1.2))))))), List.mem_of_getElem? (four_at (lq := by4 l0 l1 l2 l3) hq), ?_⟩
              exact DatAll.mono (fun _ h => .tail _ (.tail _ (.tail _ (.tail _ (.tail _ (.tail _ (.tail _ h))))))) (hT2 q hq)
            · exact fun a ha => .tail _ (.tail _ (.tail _ (.tail _ (.tail _ (.tail _ (.tail _ (hR2 _ (hnr3 _ ha))))))))
      · exact ⟨_, _, _, ln', t1, t2, p', c', its', cP', fun _ => #[], fun _ => 0, _, some (1, [97]), [(1, [98]), (1, [99]), (1, [100])], fun _ => [], t3, _, 0, rfl, G, fun _ h => h, hp', hd', fun _ _ => .nil, mt, mf, mr, rfl, rfl, hD', Inv.init rd, rfl⟩
end
end
-- P6
section
theorem look_put (bl : Best) (e f : Nat × Nat) (r : Row) : look (put bl e r) f = if f = e then some r else look bl f := by
  unfold look put
  by_cases ha : bl.any (fun b => b.1 = e) = true
  · rw [if_pos ha]
    induction bl with
    | nil => simp at ha
    | cons b bl ih =>
      rw [List.map_cons, List.find?_cons, List.find?_cons]
      by_cases hb : b.1 = e
      · rw [if_pos hb]
        by_cases hf : f = e
        · subst hf
          simp
        · rw [if_neg hf]
          have h1 : decide ((e, r).1 = f) = false := decide_eq_false fun x => hf x.symm
          have h2 : decide (b.1 = f) = false := decide_eq_false fun x => hf (by rw [← x, hb])
          rw [h1, h2]
          by_cases hr : bl.any (fun b => b.1 = e) = true
          · have := ih hr
            rw [if_neg hf] at this
            exact this
          · have hm : (bl.map fun b => if b.1 = e then (e, r) else b) = bl := by
              have : ∀ b ∈ bl, b.1 ≠ e := fun b hb q => hr (List.any_eq_true.mpr ⟨b, hb, by simp [q]⟩)
              conv => rhs; rw [← List.map_id bl]
              apply List.map_congr_left
              intro b hb
              rw [if_neg (this b hb)]; rfl
            simp only []
            rw [hm]
      · rw [if_neg hb]
        have hr : bl.any (fun b => b.1 = e) = true := by
          rw [List.any_cons] at ha
          simpa [hb] using ha
        have := ih hr
        by_cases hf : b.1 = f
        · have hfe : f ≠ e := fun x => hb (hf.trans x)
          rw [if_neg hfe]
          simp [hf]
        · rw [decide_eq_false hf]
          exact this
  · rw [if_neg ha, List.find?_append]
    by_cases hf : f = e
    · rw [if_pos hf, hf]
      have : bl.find? (fun b => decide (b.1 = e)) = none := by
        rw [List.find?_eq_none]
        intro b hb q
        exact ha (List.any_eq_true.mpr ⟨b, hb, q⟩)
      rw [this]
      simp
    · rw [if_neg hf]
      have h1 : ([(e, r)] : Best).find? (fun b => decide (b.1 = f)) = none := by
        rw [List.find?_cons, decide_eq_false (fun x : (e, r).1 = f => hf x.symm)]
        rfl
      rw [h1]
      simp
def BestOf (rows : List Row) (bl : Best) : Prop := ∀ e, (∀ r0, look bl e = some r0 → r0 ∈ rows ∧ ends r0 = e) ∧ (∀ r ∈ rows, ends r = e → ∃ r0, look bl e = some r0 ∧ leRow r0 r)
theorem BestOf.step {rows : List Row} {bl : Best} (h : BestOf rows bl) (r : Row) : BestOf (rows ++ [r]) (updB bl r) := by
  intro e
  have key : ∀ bl' : Best, (∀ f, look bl' f = if f = ends r then some r else look bl f) → (∀ r0, look bl (ends r) = some r0 → leRow r r0) →
      (∀ r0, look bl' e = some r0 → r0 ∈ rows ++ [r] ∧ ends r0 = e) ∧ (∀ x ∈ rows ++ [r], ends x = e → ∃ r0, look bl' e = some r0 ∧ leRow r0 x) := by
    intro bl' h1 h2
    rw [h1]
    by_cases he : e = ends r
    · rw [if_pos he]
      refine ⟨fun r0 hr0 => ?_, fun x hx hxe => ⟨r, rfl, ?_⟩⟩
      · cases hr0; exact ⟨List.mem_append_right _ (.head _), he.symm⟩
      · rcases List.mem_append.mp hx with hx | hx
        · obtain ⟨r0, h3, h4⟩ := (h e).2 x hx hxe
          rw [he] at h3
          exact leRow_trans (h2 r0 h3) h4
        · rw [List.mem_singleton.mp hx]; exact leRow_refl _
    · rw [if_neg he]
      refine ⟨fun r0 hr0 => ⟨List.mem_append_left _ ((h e).1 r0 hr0).1, ((h e).1 r0 hr0).2⟩, fun x hx hxe => ?_⟩
      rcases List.mem_append.mp hx with hx | hx
      · exact (h e).2 x hx hxe
      · rw [List.mem_singleton.mp hx] at hxe; exact absurd hxe.symm he
  unfold updB
  cases hl : look bl (ends r) with
  | none => exact key _ (fun f => look_put _ _ _ _) (fun r0 h0 => by rw [hl] at h0; cases h0)
  | some r0 =>
    dsimp only
    by_cases hlt : ltRow r r0 = true
    · rw [if_pos hlt]
      exact key _ (fun f => look_put _ _ _ _) (fun r1 h1 => by rw [hl] at h1; cases h1; exact leRow_lt.mpr (.inl hlt))
    · rw [if_neg hlt]
      refine ⟨fun r1 h1 => ⟨List.mem_append_left _ ((h e).1 r1 h1).1, ((h e).1 r1 h1).2⟩, fun x hx hxe => ?_⟩
      rcases List.mem_append.mp hx with hx | hx
      · exact (h e).2 x hx hxe
      · rw [List.mem_singleton.mp hx] at hxe ⊢
        exact ⟨r0, hxe ▸ hl, leRow_iff.mpr hlt⟩
theorem BestOf.fold {rows : List Row} : ∀ {l : List Row} {bl : Best}, BestOf rows bl → BestOf (rows ++ l) (l.foldl updB bl) := by
  intro l
  induction l generalizing rows with
  | nil => intro bl h; rw [List.append_nil]; exact h
  | cons r l ih =>
    intro bl h
    rw [show rows ++ r :: l = (rows ++ [r]) ++ l by simp]
    exact ih (h.step r)
theorem best_of (rd : Nat → List (Nat × Nat)) : ∀ n, BestOf ((List.range n).flatMap (waysAt rd)) (bestUp rd n)
  | 0 => fun e => ⟨fun r0 h => by simp [bestUp, look] at h, fun r h => by simp at h⟩
  | n + 1 => by
    rw [List.range_succ, List.flatMap_append]
    have := (best_of rd n).fold (l := waysAt rd n)
    simpa [bestUp] using this
theorem put_nodup {bl : Best} {e : Nat × Nat} {r : Row} (h : (bl.map (·.1)).Nodup) : ((put bl e r).map (·.1)).Nodup := by
  unfold put
  split
  · rw [List.map_map]
    have : (bl.map ((·.1) ∘ fun b => if b.1 = e then (e, r) else b)) = bl.map (·.1) := by
      apply List.map_congr_left
      intro b _
      show (if b.1 = e then (e, r) else b).1 = b.1
      split
      · rename_i x; exact x.symm
      · rfl
    rw [this]; exact h
  · rename_i hn
    rw [List.map_append, List.nodup_append]
    refine ⟨h, by simp, ?_⟩
    intro a ha b hb q
    obtain ⟨x, hx, rfl⟩ := List.mem_map.mp ha
    simp at hb
    exact hn (List.any_eq_true.mpr ⟨x, hx, by simp [q, hb]⟩)
theorem fold_nodup : ∀ (l : List Row) {bl : Best}, (bl.map (·.1)).Nodup → ((l.foldl updB bl).map (·.1)).Nodup
  | [], _, h => h
  | r :: l, bl, h => by
    refine fold_nodup l ?_
    unfold updB
    split
    · exact put_nodup h
    · split
      · exact put_nodup h
      · exact h
theorem best_nodup (rd : Nat → List (Nat × Nat)) : ∀ n, ((bestUp rd n).map (·.1)).Nodup
  | 0 => by simp [bestUp]
  | n + 1 => fold_nodup _ (best_nodup rd n)
theorem find_nodup {α β : Type} [DecidableEq α] : ∀ {l : List (α × β)} {k : α} {r : β}, (l.map (·.1)).Nodup → ((l.find? fun e => e.1 = k).map (·.2) = some r ↔ (k, r) ∈ l)
  | [], _, _, _ => by simp
  | b :: l, k, r, h => by
    rw [List.map_cons, List.nodup_cons] at h
    have ih := find_nodup (k := k) (r := r) h.2
    rw [List.find?_cons]
    by_cases hb : b.1 = k
    · rw [decide_eq_true hb]
      simp only [Option.map_some, Option.some.injEq, List.mem_cons]
      constructor
      · rintro rfl; exact .inl (Prod.ext hb.symm rfl)
      · rintro (x | x)
        · rw [← x]
        · exact absurd (List.mem_map.mpr ⟨_, x, hb.symm⟩) h.1
    · rw [decide_eq_false hb, List.mem_cons]
      simp only []
      rw [ih]
      constructor
      · exact .inr
      · rintro (x | x)
        · exact absurd (by rw [← x]) hb
        · exact x
/-- a good row has beaten beginnings -/
theorem Good.pre {rd : Nat → List (Nat × Nat)} (R : RdOk rd) {tab : Tab} {k q : Nat} {r : Row} (h : Good rd tab k q r) (hb : beaten tab k q r) : ∀ z ∈ r.2, beaten tab k z r := by
  induction h with
  | base hk =>
    intro z hz
    rw [List.mem_singleton.mp hz]
    exact hb
  | @step q r r0 p g hp hn hk hl ih =>
    intro z hz
    rcases List.mem_append.mp hz with hz | hz
    · obtain ⟨r1, h1, h2⟩ := ih ⟨r0, hk, hl⟩ z hz
      exact ⟨r1, h1, leRow_more h2 ((R _ (g.info R).qp).2 p hp).2.1⟩
    · rw [List.mem_singleton.mp hz]; exact hb
theorem ends_ext {r : Row} (h : r.2 ≠ []) (p : Nat × Nat) : ends (ext r p) = ((ends r).1, p.1) :=
  Prod.ext (headN_snoc _ h) (lastN_snoc _ _)
/-- every way is beaten at the end -/
theorem Inv.all {rd : Nat → List (Nat × Nat)} (R : RdOk rd) {tab : Tab} (I : Inv rd [] tab) : ∀ i, ∀ r ∈ waysAt rd i, beaten tab (ends r).1 (ends r).2 r
  | 0, r, h => by
    simp only [waysAt, List.mem_cons, List.not_mem_nil, or_false] at h
    have : ∀ k ∈ places, beaten tab k k (1, [k]) := fun k hk => (I.start k hk).resolve_right (by simp)
    rcases h with rfl | rfl | rfl | rfl
    · exact this 97 (by simp)
    · exact this 98 (by simp)
    · exact this 99 (by simp)
    · exact this 100 (by simp)
  | i + 1, r, h => by
    obtain ⟨r', h0, h1⟩ := List.mem_flatMap.mp h
    obtain ⟨p, hp, rfl⟩ := List.mem_map.mp h1
    obtain ⟨hne, hla⟩ := way_last R h0
    obtain ⟨r0, hk, hl⟩ := Inv.all R I i r' h0
    rw [ends_ext hne]
    have hp1 := ((R _ hla).2 p hp).2.1
    have hkm : ((ends r').1, r0) ∈ tab (lastN r'.2) := (find_nodup (I.nd _ hla)).mp hk
    have g := I.keys _ hla _ hkm
    by_cases hin : p.1 ∈ r0.2
    · obtain ⟨r1, h3, h4⟩ := g.pre R ⟨r0, hk, leRow_refl _⟩ p.1 hin
      exact ⟨r1, h3, leRow_more (leRow_trans h4 hl) hp1⟩
    · obtain ⟨r1, h3, h4⟩ := (I.done _ hla _ hkm p hp hin).resolve_right (by simp)
      exact ⟨r1, h3, leRow_trans h4 (leRow_ext p hl)⟩
/-- a good row is a way -/
theorem Good.way {rd : Nat → List (Nat × Nat)} (R : RdOk rd) {tab : Tab} {k q : Nat} {r : Row} (h : Good rd tab k q r) : r ∈ waysAt rd (r.2.length - 1) := by
  induction h with
  | base hk =>
    simp only [places, List.mem_cons, List.not_mem_nil, or_false] at hk
    rcases hk with rfl | rfl | rfl | rfl <;> simp [waysAt]
  | @step q r r0 p g hp hn hk hl ih =>
    have gi := g.info R
    have h1 : (ext r p).2.length - 1 = (r.2.length - 1) + 1 := by
      have := List.length_pos_iff.mpr gi.ne
      show (r.2 ++ [p.1]).length - 1 = _
      rw [List.length_append, List.length_singleton]
      omega
    rw [h1]
    exact List.mem_flatMap.mpr ⟨r, ih, List.mem_map.mpr ⟨p, by rw [gi.la]; exact hp, rfl⟩⟩
theorem Inv.best {rd : Nat → List (Nat × Nat)} (R : RdOk rd) {tab : Tab} (I : Inv rd [] tab) {q : Nat} (hq : q ∈ places) (k : Nat) : knownAt (tab q) k = look (bestUp rd 4) (k, q) := by
  have B := best_of rd 4 (k, q)
  have low : ∀ r0, knownAt (tab q) k = some r0 → ∃ r1, look (bestUp rd 4) (k, q) = some r1 ∧ leRow r1 r0 := by
    intro r0 h0
    have g := I.keys _ hq _ ((find_nodup (I.nd _ hq)).mp h0)
    have gi := g.info R
    refine B.2 r0 (List.mem_flatMap.mpr ⟨_, List.mem_range.mpr ?_, g.way R⟩) (Prod.ext gi.hd gi.la)
    have := gi.ok.2.2.2.2
    omega
  have up : ∀ r1, look (bestUp rd 4) (k, q) = some r1 → ∃ r0, knownAt (tab q) k = some r0 ∧ leRow r0 r1 := by
    intro r1 h1
    obtain ⟨h2, h3⟩ := B.1 r1 h1
    obtain ⟨i, hi, h4⟩ := List.mem_flatMap.mp h2
    have := I.all R i r1 h4
    rw [h3] at this
    exact this
  cases h0 : knownAt (tab q) k with
  | none =>
    cases h1 : look (bestUp rd 4) (k, q) with
    | none => rfl
    | some r1 => obtain ⟨r0, h2, -⟩ := up r1 h1; rw [h0] at h2; cases h2
  | some r0 =>
    obtain ⟨r1, h1, h2⟩ := low r0 h0
    obtain ⟨r2, h3, h4⟩ := up r1 h1
    rw [h0] at h3
    cases h3
    rw [h1, leRow_antisymm h2 h4]
/-- what is due at a place -/
def dueAt (rd : Nat → List (Nat × Nat)) (q : Nat) : List (List Nat × List Nat) := ((bestUp rd 4).filter fun b => decide (b.1.2 = q)).map fun b => ([b.1.1], rowS b.2)
theorem nodup_of_map {α β : Type} {f : α → β} : ∀ {l : List α}, (l.map f).Nodup → l.Nodup
  | [], _ => List.nodup_nil
  | a :: l, h => by
    rw [List.map_cons, List.nodup_cons] at h
    exact List.nodup_cons.mpr ⟨fun x => h.1 (List.mem_map.mpr ⟨a, x, rfl⟩), nodup_of_map h.2⟩
theorem due_perm {rd : Nat → List (Nat × Nat)} (R : RdOk rd) {tab : Tab} (I : Inv rd [] tab) {q : Nat} (hq : q ∈ places) : (hrows tab q).Perm (dueAt rd q) := by
  have h1 : (tab q).Perm (((bestUp rd 4).filter fun b => decide (b.1.2 = q)).map fun b => (b.1.1, b.2)) := by
    rw [List.perm_ext_iff_of_nodup]
    · rintro ⟨k, r⟩
      rw [← find_nodup (I.nd _ hq)]
      show knownAt (tab q) k = some r ↔ _
      rw [I.best R hq k]
      have := find_nodup (k := (k, q)) (r := r) (best_nodup rd 4)
      show look (bestUp rd 4) (k, q) = some r ↔ _
      unfold look
      rw [this, List.mem_map]
      constructor
      · intro h
        exact ⟨_, List.mem_filter.mpr ⟨h, by simp⟩, rfl⟩
      · rintro ⟨b, hb, e⟩
        obtain ⟨hb1, hb2⟩ := List.mem_filter.mp hb
        obtain ⟨⟨k', q'⟩, r'⟩ := b
        simp only [decide_eq_true_eq, Prod.mk.injEq] at hb2 e
        obtain ⟨rfl, rfl⟩ := e
        subst hb2
        exact hb1
    · exact nodup_of_map (I.nd _ hq)
    · have hn : ((bestUp rd 4).filter fun b => decide (b.1.2 = q)).Nodup := (nodup_of_map (best_nodup rd 4)).filter _
      rw [List.nodup_iff_pairwise_ne, List.pairwise_map]
      have hn2 := best_nodup rd 4
      rw [List.nodup_iff_pairwise_ne, List.pairwise_map] at hn2
      have hn3 := hn2.filter fun b => decide (b.1.2 = q)
      refine List.Pairwise.imp_of_mem ?_ hn3
      intro a b ha hb hab e
      have h2 := (List.mem_filter.mp ha).2
      have h3 := (List.mem_filter.mp hb).2
      simp only [decide_eq_true_eq] at h2 h3
      exact hab (Prod.ext (Prod.mk.inj e).1 (h2.trans h3.symm))
  have h2 := h1.map fun e : Nat × Row => (([e.1], rowS e.2) : List Nat × List Nat)
  unfold hrows dueAt
  rw [List.map_map] at h2
  exact h2
end
-- T1
section
/-- the sort's run, its questions answered by lt -/
def runT {α : Type} (lt : Nat → Nat → Bool) : KasT α → α
  | .ret a => a
  | .ask i j k => runT lt (k (lt i j))
/-- no question outside the list -/
def askT {α : Type} (n : Nat) (lt : Nat → Nat → Bool) : KasT α → Bool
  | .ret _ => true
  | .ask i j k => decide (i < n) && (decide (j < n) && (decide (i ≠ j) && askT n lt (k (lt i j))))
theorem runT_wp {α : Type} {n : Nat} {cmp : Nat → Nat → (Bool → Shared → Prop) → Shared → Prop} {lt : Nat → Nat → Bool} {Q : α → Shared → Prop} {s : Shared} (hc : ∀ i j (C : Bool → Shared → Prop), i < n → j < n → i ≠ j → C (lt i j) s → cmp i j C s) :
    ∀ (t : KasT α), askT n lt t = true → Q (runT lt t) s → t.kasWp cmp Q s
  | .ret _, _, k => k
  | .ask i j f, h, k => by
    unfold askT at h
    simp only [Bool.and_eq_true, decide_eq_true_eq] at h
    exact hc i j _ h.1 h.2.1 h.2.2.1 (runT_wp hc (f (lt i j)) h.2.2.2 k)
def ltK (ks : List Nat) (i j : Nat) : Bool := decide (ks.getD i 0 < ks.getD j 0)
def upTo : Nat → List (List Nat)
  | 0 => [[]]
  | n + 1 => places.flatMap fun a => (upTo n).map (a :: ·)
theorem mem_upTo : ∀ {l : List Nat}, (∀ x ∈ l, x ∈ places) → l ∈ upTo l.length
  | [], _ => .head _
  | a :: l, h => List.mem_flatMap.mpr ⟨a, h a (.head _), List.mem_map.mpr ⟨l, mem_upTo fun x hx => h x (.tail _ hx), rfl⟩⟩
def okSort (ks : List Nat) : Bool := !(decide ks.Nodup) || (askT ks.length (ltK ks) (kas_sort ks.length) && let p := (runT (ltK ks) (kas_sort ks.length)).toList; (p.all fun i => decide (i < ks.length)) && (p.map fun i => ks.getD i 0) == places.filter fun k => ks.contains k)
theorem ok2 : (upTo 2).all okSort = true := by decide +kernel
theorem ok3 : (upTo 3).all okSort = true := by decide +kernel
theorem ok4 : (upTo 4).all okSort = true := by decide +kernel
theorem sort_ok {ks : List Nat} (hp : ∀ x ∈ ks, x ∈ places) (hn : ks.Nodup) (h2 : 2 ≤ ks.length) :
    askT ks.length (ltK ks) (kas_sort ks.length) = true ∧
    (∀ i ∈ (runT (ltK ks) (kas_sort ks.length)).toList, i < ks.length) ∧ ((runT (ltK ks) (kas_sort ks.length)).toList.map fun i => ks.getD i 0) = places.filter fun k => ks.contains k := by
  have h4 : ks.length ≤ 4 := sub_len ks places hn hp
  have hm := mem_upTo hp
  have hok : okSort ks = true := by
    rcases (by omega : ks.length = 2 ∨ ks.length = 3 ∨ ks.length = 4) with e | e | e <;> rw [e] at hm
    · exact List.all_eq_true.mp ok2 _ hm
    · exact List.all_eq_true.mp ok3 _ hm
    · exact List.all_eq_true.mp ok4 _ hm
  unfold okSort at hok
  rw [decide_eq_true hn] at hok
  simp only [Bool.not_true, Bool.false_or, Bool.and_eq_true, List.all_eq_true, decide_eq_true_eq, beq_iff_eq] at hok
  exact hok
section
variable {pr : Program} {loose : List Str} {mean : ExcName → Option Value} {mg mb : Str → Option Value} {prog : Program} {w : World} {n : Nat} {A : Around} {env : Env} {L : Addr} {h₀ : Heap}
  {m : Str → Option Value} {news : List (Addr × Obj)} {s : Shared} {E : Value → Shared → Prop}
/-- the rows of a place: a letter and a way -/
abbrev rowsOf (rs : List (Nat × List Nat)) : List (List Nat × List Nat) := rs.map fun e => ([e.1], e.2)
theorem tups_first : ∀ {vs : List Value} {rs : List (Nat × List Nat)} {h : Heap}, News h₀ L h news → DatAll news vs ((rowsOf rs).map rowD) → ∃ fs : List Value, KatTups h vs fs ∧ fs.length = rs.length ∧ ∀ v ∈ fs, ∃ x t, v = Value.str x t
  | [], [], _, _, _ => ⟨[], .nil, rfl, fun _ h => by cases h⟩
  | [], _ :: _, _, _, h => by cases h
  | _ :: _, [], _, _, h => by cases h
  | v :: vs, e :: rs, h, N, hd => by
    cases hd with
    | cons h1 h2 =>
      obtain ⟨fs, a1, a2, a3⟩ := tups_first (rs := rs) N h2
      obtain ⟨t, a, b, c, rfl, hm, ha, hb⟩ := pair_of h1
      obtain ⟨ta, rfl⟩ := str_of ha
      refine ⟨.str (S [e.1]) ta :: fs, KatTups.cons (N _ hm).1 rfl rfl rfl a1, by simp [a2], ?_⟩
      intro v hv
      rcases List.mem_cons.mp hv with rfl | hv
      · exact ⟨_, _, rfl⟩
      · exact a3 v hv
theorem row_at : ∀ {vs : List Value} {rs : List (Nat × List Nat)} {i : Nat}, DatAll news vs ((rowsOf rs).map rowD) → i < rs.length → DatIn news (vs.getD i .none) (rowD ([(rs.getD i (0, [])).1], (rs.getD i (0, [])).2))
  | [], [], _, _, h => absurd h (Nat.not_lt_zero _)
  | [], _ :: _, _, h, _ => by cases h
  | _ :: _, [], _, h, _ => by cases h
  | v :: vs, e :: rs, i, hd, hi => by
    cases hd with
    | cons h1 h2 =>
      cases i with
      | zero => exact h1
      | succ i => exact row_at (rs := rs) h2 (Nat.lt_of_succ_lt_succ hi)
theorem rows_at {vs : List Value} {rs : List (Nat × List Nat)} (hd : DatAll news vs ((rowsOf rs).map rowD)) : ∀ {p : List Nat}, (∀ i ∈ p, i < rs.length) → DatAll news (p.map fun i => vs.getD i .none) ((rowsOf (p.map fun i => rs.getD i (0, []))).map rowD)
  | [], _ => .nil
  | i :: p, h => .cons (row_at hd (h i (.head _))) (rows_at hd fun j hj => h j (.tail _ hj))
theorem str_lt1 {a b : Nat} : decide ((S [a]).cps.toList < (S [b]).cps.toList) = decide (a < b) := by
  show decide ([a] < [b]) = _
  rw [decide_eq_decide, List.cons_lt_cons_iff]
  simp [List.lt_irrefl]
end
end
-- T2
section
section
variable {pr : Program} {loose : List Str} {mean : ExcName → Option Value} {mg mb : Str → Option Value} {prog : Program} {w : World} {n : Nat} {A : Around} {env : Env} {L : Addr} {h₀ : Heap}
  {m : Str → Option Value} {news : List (Addr × Obj)} {s : Shared} {E : Value → Shared → Prop}
theorem getD_at {α : Type} {l : List α} {i : Nat} {d : α} (h : i < l.length) : l.getD i d = l[i] := by simp [List.getD, h]
theorem sorted_two {Q : Value → Shared → Prop} {l : Addr} {its : Array Value} {c : Nat} {rs : List (Nat × List Nat)} (G : Lg h₀ L s.heap m news) (hl : (l, listOf its c) ∈ news) (hD : DatAll news its.toList ((rowsOf rs).map rowD))
    (hp : ∀ e ∈ rs, e.1 ∈ places) (hn : (rs.map (·.1)).Nodup) (h2 : 2 ≤ rs.length)
    (h : ∀ D h' t its' c' rs', Lg h₀ L h' m ((D, listOf its' c') :: news) → DatAll news its'.toList ((rowsOf rs').map rowD) → (∀ e ∈ rs', e ∈ rs) → rs'.map (·.1) = (places.filter fun k => (rs.map (·.1)).contains k) → Q (.ref D) { s with heap := h', toks := t }) :
    wpAny (model prog w) A (call (.builtin "sorted") [.ref l]) Q E s := by
  have hlen : its.toList.length = rs.length := by have := hD.length; simpa using this
  have hk : ∀ x ∈ rs.map (·.1), x ∈ places := by
    intro x hx
    obtain ⟨e, he, rfl⟩ := List.mem_map.mp hx
    exact hp e he
  have h4 : rs.length ≤ 4 := by have := sub_len _ _ hn hk; rw [List.length_map] at this; exact this
  obtain ⟨k1, k2, k3⟩ := sort_ok hk hn (by rw [List.length_map]; exact h2)
  rw [List.length_map] at k1 k2 k3
  refine kat_sorted (vs := its.toList) G.F G.N (by rw [Array.toArray_toList]; exact G.lst hl) (by omega) (by omega) ?_
  intro D e1 h' F' N' hlo
  obtain ⟨fs, a1, a2, a3⟩ := tups_first (fun p hp => N' p (.tail _ hp)) hD
  refine kat_kind a1 (by omega) (T := .type "str") ?_ (by decide) ?_
  · intro v hv
    obtain ⟨x, t, rfl⟩ := a3 v hv
    exact Looks.of_pure rfl
  rw [hlen]
  refine runT_wp (n := rs.length) (lt := ltK (rs.map (·.1))) ?_ _ k1 ?_
  · intro i j C hi hj hij hC
    unfold kas_ask
    obtain ⟨t1, u1, v1, n1, e1', hm1, ha1, hb1⟩ := pair_of (row_at hD hi)
    obtain ⟨t2, u2, v2, n2, e2', hm2, ha2, hb2⟩ := pair_of (row_at hD hj)
    obtain ⟨ta1, rfl⟩ := str_of ha1
    obtain ⟨ta2, rfl⟩ := str_of ha2
    obtain ⟨tb1, rfl⟩ := str_of hb1
    obtain ⟨tb2, rfl⟩ := str_of hb2
    rw [e1', e2']
    refine kat_lt (N' _ (.tail _ hm1)).1 rfl (N' _ (.tail _ hm2)).1 rfl ?_
    have hlt : ltK (rs.map (·.1)) i j = decide ((rs.getD i (0, [])).1 < (rs.getD j (0, [])).1) := by
      unfold ltK
      have : ∀ k, k < rs.length → (rs.map (·.1)).getD k 0 = (rs.getD k (0, [])).1 := by
        intro k hk
        simp [List.getD, hk]
      rw [this i hi, this j hj]
    refine kat_cons (eqBool_str ?_)
    have hne : (rs.getD i (0, [])).1 ≠ (rs.getD j (0, [])).1 := by
      intro e
      rw [List.nodup_iff_pairwise_ne, List.pairwise_map] at hn
      rw [getD_at hi, getD_at hj] at e
      rcases Nat.lt_or_gt_of_ne hij with x | x
      · exact List.pairwise_iff_getElem.mp hn i j hi hj x e
      · exact List.pairwise_iff_getElem.mp hn j i hj hi x e.symm
    have hf : (S [(rs.getD i (0, [])).1] == S [(rs.getD j (0, [])).1]) = false := by
      rw [beq_eq_false_iff_ne]
      intro e
      exact hne (by simpa using S_inj e)
    rw [hf]
    refine kat_no ?_
    refine oneLt_str ?_
    rw [str_lt1, ← hlt]
    exact hC
  · have G' := G.cons F' N' hlo
    refine KasFin.intro F' N' (updF_at (i := 0) rfl G'.nd) ?_
    intro h'' c' F'' N''
    refine h D h'' s.toks _ c' ((runT (ltK (rs.map (·.1))) (kas_sort rs.length)).toList.map fun i => rs.getD i (0, [])) ⟨F'', N'', G'.nd⟩ ?_ ?_ ?_
    · rw [List.toList_toArray]
      exact rows_at hD k2
    · intro e he
      obtain ⟨i, hi, rfl⟩ := List.mem_map.mp he
      rw [getD_at (k2 i hi)]
      exact List.getElem_mem _
    · rw [List.map_map, ← k3]
      apply List.map_congr_left
      intro i hi
      have := k2 i hi
      simp [List.getD, this]
theorem list_sort_one {a : Addr} {v : Value} {k : Nat} {P : PySem.Fin → Shared → Prop} (ho : s.heap.get? a = some (seqObj "list" #[v] k)) (h : P (.done (.ret .none)) { s with heap := sortedHeap s.heap a [v] #[v] }) :
    wpAny (model prog w) A (Builtin.«list.sort» ⟨[.ref a], []⟩) P E s := by
  rw [list_sort_plain]
  have ha : a < s.heap.objs.size := Heap.lt_size ho
  obtain ⟨e1, ho1⟩ : ∃ e1, (s.heap.update a (Obj.mapSeq fun _ => #[])).get? a = some (seqObj "list" #[] e1) := ⟨_, get?_update_seq ho (fun _ => #[])⟩
  have ho6 : (((s.heap.update a (Obj.mapSeq fun _ => #[])).push (seqObj "tuple" #[v] 0)).push (seqObj "list" #[] 0)).get? a = some (seqObj "list" #[] e1) := Heap.get?_push_of_some _ (Heap.get?_push_of_some _ ho1)
  refine wpAny_bind (listItems_at ho rfl (wpAny_bind (listUpdate_at ho rfl ?_ (Nat.le_of_ble_eq_true rfl) (Nat.zero_le _))))
  refine wpAny_bind (seqEpoch_at ho1 rfl (wpAny_bind (wpAny_newTuple (wpAny_bind (wpAny_newList (wpAny_holding ?_) (Nat.zero_le _))) (Nat.le_of_ble_eq_true rfl))))
  dsimp only
  rw [if_pos (by simp), if_pos (by simp)]
  refine wpAny_bind (wpAny_pure ?_)
  rw [StateT.run_pure]
  refine wpAny_bind (wpAny_pure ?_)
  dsimp only
  have hout : (arrOf (SortSt.mk' general' (#[v].zip #[v]) #[] 7 none)).map (·.2) = #[v] := by
    show (#[v].zip #[v]).map (·.2) = #[v]
    simp
  refine wpAny_bind (seqEpoch_at ho6 rfl (wpAny_bind (listUpdate_at ho6 rfl ?_ (Nat.zero_le _) (by rw [hout]; exact Nat.le_of_ble_eq_true rfl))))
  simp only [bne_self_eq_false, Bool.false_eq_true, if_false]
  rw [hout]
  exact wpAny_pure h
theorem sorted_one {Q : Value → Shared → Prop} {l : Addr} {v : Value} {c : Nat} (G : Lg h₀ L s.heap m news) (hl : (l, listOf #[v] c) ∈ news)
    (h : ∀ D h' t c', Lg h₀ L h' m ((D, listOf #[v] c') :: news) → Q (.ref D) { s with heap := h', toks := t }) :
    wpAny (model prog w) A (call (.builtin "sorted") [.ref l]) Q E s := by
  refine Calls.call_function_entry kind_sorted plain_sorted entry_sorted (args_sorted1 _) ?_
  unfold Builtin.«sorted»
  refine wpAny_bind (m := checkCount "sorted" 1 1 _) (wpAny_pure ?_)
  refine wpAny_bind (collect_list (G.lst hl) ?_ (Nat.le_of_ble_eq_true rfl))
  refine wpAny_bind (wpAny_newList ?_ (Nat.le_of_ble_eq_true rfl))
  have hsz : ((s.heap.push (seqObj "list" #[] 0)).update s.heap.objs.size (Obj.mapSeq (· ++ [v].toArray))).objs.size = s.heap.objs.size + 1 := by
    rw [Heap.size_update, size_push']
  have hoL : (((s.heap.push (seqObj "list" #[] 0)).update s.heap.objs.size (Obj.mapSeq (· ++ [v].toArray))).push (seqObj "list" [v].toArray 0)).get? (s.heap.objs.size + 1) = some (seqObj "list" [v].toArray 0) := by
    rw [← hsz]; exact Heap.get?_push_size _ rfl
  show wpAny _ _ _ _ _ { s with heap := ((s.heap.push (seqObj "list" #[] 0)).update s.heap.objs.size (Obj.mapSeq (· ++ [v].toArray))).push (seqObj "list" [v].toArray 0) }
  rw [hsz]
  refine wpAny_bind (wpAny_holding (wpAny_call_entry slot_list_sort ⟨_, hoL, rfl⟩ entry_list_sort (list_sort_one (s := { s with heap := _ }) hoL ⟨_, rfl, ?_⟩) (args_list_sort _)))
  refine wpAny_pure ⟨_, rfl, ?_⟩
  obtain ⟨e, he⟩ := sortedAll_at s.heap [v] #[v]
  have N' := G.N.kept_cons G.F (fun _ _ => sortedAll_old (vs := [v]) (out := #[v])) (Nat.le_succ _) he
  exact h _ _ _ e (G.cons (G.F.kept fun _ _ => sortedAll_old) N' fun q hq => Nat.lt_succ_of_lt (Heap.lt_size (G.N q hq).1))
theorem sorted_rows {Q : Value → Shared → Prop} {l : Addr} {its : Array Value} {c : Nat} {rs : List (Nat × List Nat)} (G : Lg h₀ L s.heap m news) (hl : (l, listOf its c) ∈ news) (hD : DatAll news its.toList ((rowsOf rs).map rowD))
    (hp : ∀ e ∈ rs, e.1 ∈ places) (hn : (rs.map (·.1)).Nodup) (h1 : 1 ≤ rs.length)
    (h : ∀ D h' t its' c' rs', Lg h₀ L h' m ((D, listOf its' c') :: news) → DatAll news its'.toList ((rowsOf rs').map rowD) → (∀ e ∈ rs', e ∈ rs) → rs'.map (·.1) = (places.filter fun k => (rs.map (·.1)).contains k) → Q (.ref D) { s with heap := h', toks := t }) :
    wpAny (model prog w) A (call (.builtin "sorted") [.ref l]) Q E s := by
  by_cases h2 : 2 ≤ rs.length
  · exact sorted_two G hl hD hp hn h2 h
  · obtain ⟨e, rfl⟩ := List.length_eq_one_iff.mp (by omega : rs.length = 1)
    obtain ⟨vs, rfl⟩ : ∃ vs : List Value, its = vs.toArray := ⟨its.toList, rfl⟩
    have hD' := hD
    rw [List.toList_toArray] at hD'
    cases hD' with
    | @cons v d vs ds h3 h4 =>
      cases h4
      refine sorted_one (v := v) G hl ?_
      intro D h' t c' G
      refine h D h' t _ c' [e] G hD (fun _ h => h) ?_
      have he := hp e (.head _)
      obtain ⟨k, x⟩ := e
      show [k] = places.filter fun z => [k].contains z
      rcases (by simpa using he : k = 97 ∨ k = 98 ∨ k = 99 ∨ k = 100) with rfl | rfl | rfl | rfl <;> decide
/-- two sorted lists of the same rows are the same -/
theorem same_rows {S X Y : List (Nat × List Nat)} (hn : (S.map (·.1)).Nodup) (hX : ∀ e ∈ X, e ∈ S) (hY : ∀ e ∈ Y, e ∈ S) (h : X.map (·.1) = Y.map (·.1)) : X = Y := by
  induction X generalizing Y with
  | nil =>
    cases Y with
    | nil => rfl
    | cons b Y => simp at h
  | cons a X ih =>
    cases Y with
    | nil => simp at h
    | cons b Y =>
      simp only [List.map_cons, List.cons.injEq] at h
      have e : a = b := by
        have h1 := (find_nodup (k := a.1) (r := a.2) hn).mpr (hX a (.head _))
        have h2 := (find_nodup (k := b.1) (r := b.2) hn).mpr (hY b (.head _))
        rw [h.1, h2] at h1
        exact Prod.ext h.1 (Option.some.inj h1).symm
      rw [e, ih (fun x hx => hX x (.tail _ hx)) (fun x hx => hY x (.tail _ hx)) h.2]
end
end
-- T3
section
/-- the rows of a table of the machine, and those that are due -/
def rsH (tab : Tab) (q : Nat) : List (Nat × List Nat) := (tab q).map fun e => (e.1, rowS e.2)
def rsD (rd : Nat → List (Nat × Nat)) (q : Nat) : List (Nat × List Nat) := ((bestUp rd 4).filter fun b => decide (b.1.2 = q)).map fun b => (b.1.1, rowS b.2)
theorem rsH_rows (tab : Tab) (q : Nat) : rowsOf (rsH tab q) = hrows tab q := by
  unfold rowsOf rsH hrows
  rw [List.map_map]; rfl
theorem rsD_rows (rd : Nat → List (Nat × Nat)) (q : Nat) : rowsOf (rsD rd q) = dueAt rd q := by
  unfold rowsOf rsD dueAt
  rw [List.map_map]; rfl
theorem rows_back (rs : List (Nat × List Nat)) : (rowsOf rs).map (fun p => (p.1.headD 0, p.2)) = rs := by
  unfold rowsOf
  rw [List.map_map]
  conv => rhs; rw [← List.map_id rs]
  rfl
theorem rs_perm {rd : Nat → List (Nat × Nat)} (R : RdOk rd) {tab : Tab} (I : Inv rd [] tab) {q : Nat} (hq : q ∈ places) : (rsH tab q).Perm (rsD rd q) := by
  have h := due_perm R I hq
  rw [← rsH_rows, ← rsD_rows] at h
  have := h.map fun p : List Nat × List Nat => (p.1.headD 0, p.2)
  rwa [rows_back, rows_back] at this
theorem rsH_key {tab : Tab} {q : Nat} : (rsH tab q).map (·.1) = (tab q).map (·.1) := by
  unfold rsH
  rw [List.map_map]; rfl
theorem rsH_nd {rd : Nat → List (Nat × Nat)} {tab : Tab} (I : Inv rd [] tab) {q : Nat} (hq : q ∈ places) : ((rsH tab q).map (·.1)).Nodup := by
  rw [rsH_key]; exact I.nd q hq
theorem rsH_pl {rd : Nat → List (Nat × Nat)} (R : RdOk rd) {tab : Tab} (I : Inv rd [] tab) {q : Nat} (hq : q ∈ places) : ∀ e ∈ rsH tab q, e.1 ∈ places := by
  intro e he
  obtain ⟨e0, h0, rfl⟩ := List.mem_map.mp he
  exact (Good.info R (I.keys q hq e0 h0)).kp
theorem rsH_one {rd : Nat → List (Nat × Nat)} {tab : Tab} (I : Inv rd [] tab) {q : Nat} (hq : q ∈ places) : 1 ≤ (rsH tab q).length := by
  obtain ⟨r0, h0, -⟩ := (I.start q hq).resolve_right (by simp)
  have := (find_nodup (k := q) (r := r0) (I.nd q hq)).mp h0
  unfold rsH
  rw [List.length_map]
  exact List.length_pos_of_mem this
/-- both sorted are the same -/
theorem sorted_same {rd : Nat → List (Nat × Nat)} (R : RdOk rd) {tab : Tab} (I : Inv rd [] tab) {q : Nat} (hq : q ∈ places) {X Y : List (Nat × List Nat)}
    (hX : ∀ e ∈ X, e ∈ rsH tab q) (hXk : X.map (·.1) = places.filter fun k => ((rsH tab q).map (·.1)).contains k)
    (hY : ∀ e ∈ Y, e ∈ rsD rd q) (hYk : Y.map (·.1) = places.filter fun k => ((rsD rd q).map (·.1)).contains k) : X = Y := by
  have p := rs_perm R I hq
  refine same_rows (S := rsD rd q) (((p.map _).nodup_iff).mp (rsH_nd I hq)) (fun e he => p.mem_iff.mp (hX e he)) hY ?_
  rw [hXk, hYk]
  apply List.filter_congr
  intro k _
  have := (p.map (·.1)).mem_iff (a := k)
  rw [Bool.eq_iff_iff]
  simpa using this
theorem strOk_S {l : List Nat} (h : ∀ c ∈ l, c < 0x110000) : PyData.strOk (S l) = true := by
  unfold PyData.strOk S
  rw [← Array.all_toList]
  rw [List.all_eq_true]
  intro c hc
  exact decide_eq_true (h c (by simpa using hc))
theorem place_lt {k : Nat} (h : k ∈ places) : k < 0x110000 := by
  simp only [places, List.mem_cons, List.not_mem_nil, or_false] at h
  omega
theorem kq_rows {rd : Nat → List (Nat × Nat)} (R : RdOk rd) {tab : Tab} (I : Inv rd [] tab) {q : Nat} (hq : q ∈ places) {X : List (Nat × List Nat)} (hX : ∀ e ∈ X, e ∈ rsH tab q) : ∀ d ∈ (rowsOf X).map rowD, kqdOk 8 d = true := by
  intro d hd
  obtain ⟨e, he, rfl⟩ := List.mem_map.mp hd
  obtain ⟨f, hf, rfl⟩ := List.mem_map.mp he
  have h1 := rsH_pl R I hq f (hX f hf)
  obtain ⟨g, hg, rfl⟩ := List.mem_map.mp (hX f hf)
  have h2 := Good.info R (I.keys q hq g hg)
  have a1 : PyData.strOk (S [g.1]) = true := strOk_S (by intro c hc; rw [List.mem_singleton.mp hc]; exact place_lt h1)
  have a2 : PyData.strOk (S (rowS g.2)) = true := strOk_S (by
    intro c hc
    unfold rowS at hc
    rcases List.mem_append.mp hc with hc | hc
    · rw [(List.mem_replicate.mp hc).2]; decide
    · exact place_lt (h2.pl c hc))
  simp [rowD, kqdOk, a1, a2]
theorem rsH_four {rd : Nat → List (Nat × Nat)} (R : RdOk rd) {tab : Tab} (I : Inv rd [] tab) {q : Nat} (hq : q ∈ places) : (hrows tab q).length ≤ 4 := by
  have := sub_len _ _ (rsH_nd I hq) (by
    intro x hx
    obtain ⟨e, he, rfl⟩ := List.mem_map.mp hx
    exact rsH_pl R I hq e he)
  rw [rsH_key, List.length_map] at this
  unfold hrows
  rw [List.length_map]
  exact this
section
variable {prog : Program} {w : World} {A : Around} {L : Addr} {h₀ : Heap} {m : Str → Option Value} {news : List (Addr × Obj)} {s : Shared} {E : Value → Shared → Prop}
theorem r_sameNe {a b : Addr} {xs ys : Array Value} {ka kb : Nat} {ds : List Dat} {Q : Value → Shared → Prop} (G : Lg h₀ L s.heap m news) (ma : (a, listOf xs ka) ∈ news) (mb : (b, listOf ys kb) ∈ news)
    (Da : DatAll news xs.toList ds) (Db : DatAll news ys.toList ds) (hk : ∀ d ∈ ds, kqdOk 8 d = true) (hu : A.units + 64 < cLine) (h : Q (.bool false) s) : wpAny (model prog w) A (compareOp .NotEq (.ref a) (.ref b)) Q E s := by
  refine kqd_ne G.N ma rfl rfl Da (fun _ h => h) mb rfl rfl Db (fun _ h => h) hk hk hu ?_
  simpa using h
end
end
-- L6
section
section
variable {K : Frag} {pr : Program} {loose : List Str} {mean : ExcName → Option Value} {mg mb : Str → Option Value} {prog : Program} {w : World} {n : Nat} {A : Around} {env : Env} {L : Addr} {h₀ : Heap}
  {m : Str → Option Value} {news : List (Addr × Obj)} {s : Shared} {E : Value → Shared → Prop}
/-- the keys of a dict as a source -/
theorem src_dict {Kk : Type} [DecidableEq Kk] {knd : KeyKind prog w Kk} {d : Addr} {o : Obj} {kvs : List (Kk × Value)} {Q : Value → Shared → Prop} (hh : A.handled = none) (G : Lg h₀ L s.heap m news) (hp : (d, o) ∈ news) (hd : o.IsDictOf knd kvs) (lo : (d == sysModules) = false)
    (h : ∀ I s₂, (∃ h', s₂ = { s with heap := h' }) → Src prog w A h₀ L m I kvs.length (fun i v => ∃ k x, kvs[i]? = some (k, x) ∧ knd.is k v = true) (fun nw => (d, o) ∈ nw) news s₂ → Q (.ref I) s₂) : wpAny (model prog w) A (pyIter (.ref d)) Q E s := by
  obtain ⟨ep, hat⟩ := KdkAt.of hd
  have hm := hat.dictAt (G.N _ hp).1
  have hlt : d < s.heap.objs.size := Heap.lt_size (G.N _ hp).1
  refine wpAny_pyIter_dict lo hm (h _ _ ⟨_, rfl⟩ ⟨⟨_, _, Walks.dictKeys hh s.heap.objs.size d (Nat.ne_of_lt hlt) kvs ep, (fun i h st => by obtain ⟨o, e, _⟩ := st.1; exact ⟨o, e⟩), ?_, ⟨⟨_, Heap.get?_push_size _ rfl, rfl, rfl⟩, hm.push _⟩, fun b hb => ?_⟩, G.more _, Nat.ne_of_lt G.F.ns.lt, next_is_new G.F, fun p hp => Nat.ne_of_lt (Heap.lt_size (G.N p hp).1)⟩)
  · intro i h h' oi nw st e e' _ N' hS
    refine ⟨?_, hat.dictAt (N' _ hS).1⟩
    obtain ⟨o', q, r⟩ := st.1
    rw [e] at q; cases q
    exact ⟨_, e', r⟩
  · show b < (s.heap.push _).objs.size
    rw [Heap.size_push]
    rcases List.mem_cons.mp hb with rfl | hb
    · exact Nat.lt_succ_self _
    · rw [List.mem_singleton.mp hb]; exact Nat.lt_succ_of_lt hlt
end
end
-- L7
section
section
variable {prog : Program} {w : World} {A : Around} {s : Shared} {E : Value → Shared → Prop}
theorem mul_S (c d : Nat) : Txt.mul (S [c]) (d : Int) = S (List.replicate d c) := by
  apply Str.ext'
  apply Array.ext'
  have := mul_one_list c (d : Int)
  rw [Int.toNat_natCast] at this
  exact this
/-- one sign, so often -/
theorem r_mulC {x : Str} {c d : Nat} {t u : Tok} {Q : Value → Shared → Prop} (hx : x = S [c]) (hd : d ≤ 1000000) (h : ∀ t' k, Q (.str (S (List.replicate d c)) t') { s with toks := k }) :
    wpAny (model prog w) A (binaryOp .Mult (.str x t) (.int (d : Int) u)) Q E s := by
  subst hx
  exact SB.mul (mulOk_of 16 1048576 (by rw [S_len]; exact Nat.le_of_ble_eq_true rfl) (by omega) (by omega) (by decide) (by decide)) fun t' k => by rw [mul_S]; exact h t' k
end
end
-- N9
section
theorem fillN9 : hd.heap_1 = hd.heap_1 ∧ PySem.Challenge.rw_pe0228_02 = PySem.Challenge.rw_pe0228_02 := by
  k_fill
  exact ⟨rfl, rfl⟩
theorem Lg.named {L : Addr} {h₀ h : Heap} {m : Str → Option Value} {p : Addr × Obj} {l : List (Addr × Obj)} (G : Lg h₀ L h m (p :: l)) : ∃ l', l = l' ∧ Lg h₀ L h m (p :: l') := ⟨l, rfl, G⟩
theorem perm_law {α : Type} (a b c d x y z : α) (l : List α) : (a :: b :: c :: d :: (l ++ [x, y, z])).Perm (z :: x :: y :: a :: b :: c :: d :: l) := by
  have h1 : (a :: b :: c :: d :: (l ++ [x, y, z])).Perm ([x, y, z] ++ (a :: b :: c :: d :: l)) := List.perm_append_comm (l₁ := a :: b :: c :: d :: l) (l₂ := [x, y, z])
  have h2 : ([x, y, z] : List α).Perm [z, x, y] := List.perm_append_comm (l₁ := [x, y]) (l₂ := [z])
  exact h1.trans (h2.append_right _)
theorem fig_ok {t0 t1 t2 t3 : Tok} {ys : List Value} (h : ∀ v ∈ ys, ∃ (a : Nat) (t : Tok), v = Value.int (a : Int) t ∧ a ≤ 2) {i : Nat} {v : Value} (hv : ([.int 0 t0, .int 1 t1, .int 0 t2, .int 2 t3] ++ ys : List Value).toArray[i]? = some v) :
    ∃ (a : Nat) (t : Tok), v = Value.int (a : Int) t ∧ a ≤ 2 := by
  rw [List.getElem?_toArray] at hv
  have hm := List.mem_of_getElem? hv
  simp only [List.cons_append, List.nil_append, List.mem_cons] at hm
  rcases hm with rfl | rfl | rfl | rfl | hm
  · exact ⟨0, _, rfl, by decide⟩
  · exact ⟨1, _, rfl, by decide⟩
  · exact ⟨0, _, rfl, by decide⟩
  · exact ⟨2, _, rfl, by decide⟩
  · exact h v hm
/-- a cell of the ledger, taken to the front -/
theorem Lg.pull {L : Addr} {h₀ h : Heap} {m : Str → Option Value} {p : Addr × Obj} {l : List (Addr × Obj)} (G : Lg h₀ L h m l) (hp : p ∈ l) {cv : Option Value} (hc : p.2.data = .cell cv) :
    ∃ R, Lg h₀ L h m (p :: R) ∧ (∀ q ∈ l, (∀ v, q.2.data ≠ .cell v) → q ∈ R) ∧ ∀ q ∈ l, q ≠ p → q ∈ R := by
  obtain ⟨a, b, rfl⟩ := List.append_of_mem hp
  have key : ∀ q ∈ a ++ p :: b, q ≠ p → q ∈ a ++ b := by
    intro q hq hn
    rcases List.mem_append.mp hq with hq | hq
    · exact List.mem_append_left _ hq
    · rcases List.mem_cons.mp hq with hq | hq
      · exact absurd hq hn
      · exact List.mem_append_right _ hq
  exact ⟨a ++ b, G.perm List.perm_middle, fun q hq hn => key q hq fun e => hn cv (e ▸ hc), key⟩
theorem best_row {rd : Nat → List (Nat × Nat)} (R : RdOk rd) {e : Nat × Nat} {r : Row} (h : look (bestUp rd 4) e = some r) : r.1 ≤ 10 ∧ r.2.length ≤ 4 := by
  obtain ⟨h1, -⟩ := (best_of rd 4 e).1 r h
  obtain ⟨i, hi, h2⟩ := List.mem_flatMap.mp h1
  have hi := List.mem_range.mp hi
  obtain ⟨a, -, -, b⟩ := way_ok R i r h2
  omega
/-- the due rows among the first i best ways -/
def dueUp (rd : Nat → List (Nat × Nat)) (q i : Nat) : List (List Nat × List Nat) := (((bestUp rd 4).take i).filter fun b => decide (b.1.2 = q)).map fun b => ([b.1.1], rowS b.2)
theorem due_skip {rd : Nat → List (Nat × Nat)} {q i : Nat} {b : (Nat × Nat) × Row} (hb : (bestUp rd 4)[i]? = some b) (h : ¬ b.1.2 = q) : dueUp rd q (i + 1) = dueUp rd q i := by
  unfold dueUp
  rw [List.take_add_one, hb]
  simp [List.filter_append, h]
theorem due_take {rd : Nat → List (Nat × Nat)} {q i : Nat} {b : (Nat × Nat) × Row} (hb : (bestUp rd 4)[i]? = some b) (h : b.1.2 = q) : dueUp rd q (i + 1) = dueUp rd q i ++ [([b.1.1], rowS b.2)] := by
  unfold dueUp
  rw [List.take_add_one, hb]
  simp [List.filter_append, h]
theorem with_Cx {K : Frag} {pr : Program} {loose : List Str} {mean : ExcName → Option Value} {mg mb : Str → Option Value} {n : Nat} {prog : Program} {w : World} {A : Around} {env : Env} {L : Addr} {h₀ : Heap} {body : List Stmt} {Q : Flow → Shared → Prop} {E : Value → Shared → Prop} {s : Shared}
    (C : Cx K pr loose mean mg mb n A env L h₀) (h : Cx K pr loose mean mg mb n A env L h₀ → wpAny (model prog w) A (execs body env) Q E s) : wpAny (model prog w) A (execs body env) Q E s := h C
set_option maxHeartbeats 20000000
theorem T : PySem.Challenge.rw_pe0228_02.Holds := hd (by
  k_go0
  rename News _ _ _ _ => N'
  rename Fr _ _ _ _ => F'
  rename Below _ _ _ _ => K'
  rename Top topProg _ _ _ _ _ => T'
  rename Frag.In _ _ => X'
  rename CodeHd _ _ _ => hcd
  rename Heap.IsList _ _ _ => hS
  rename IntsAre _ _ => hI
  rename (¬ (_ : Int) < _) => hlen
  rename (236 < _) => l0
  rename_i ww s0 s1 mgg mbb G0 Y0 fa o pm cdd doc ho hcd0 hg X0a V0 T0a B0a TE0 TW0 ns hs hlay0 hL1 hr1 hl2 xx6 xx5 sa vs xx2 hL0 ra w1 r0 hr hcT hD h1 tk1 oc1 oc2 d1 d2 X0
  refine with_Cx (n := 20) ⟨⟨_, _, _, K', rfl⟩, rfl, rfl, rfl, X', T', Nat.le_of_ble_eq_true rfl, Nat.le_of_ble_eq_true rfl, rfl⟩ ?_
  intro C
  have hnd : ([s1.heap.objs.size + 1 + 1, s1.heap.objs.size + 1, 236] : List Nat).Nodup := by
    simp
    omega
  have G : Lg _ _ _ _ _ := ⟨F', N', hnd⟩
  refine hideQ fun Y0 hY => ?_
  walk_at "go"
  refine law_roads C G hS hI (by omega) ?_
  intro Dr h2 t2 fz rd Rds G
  walk_at "go"
  rename Addr => Df
  refine comp_U G rfl (by decide) rfl (by decide) rfl ?_
  walk_at "go"
  refine wpAny_Slice (evalPart_none_step (evalPart_some_step ?_))
  walk_at "go"
  refine evalPart_none_step ?_
  refine r_part G (by obtain ⟨o, e, r⟩ := hS; exact ⟨o, G.F.keep _ _ e, r⟩) .none (.int 4 _) (by rw [List.size_toArray, hI.length]; omega) ?_
  intro D2 h3 G
  dsimp only
  walk_at "go"
  have hI2 : IntsAre (slicePick vs.toArray none (some 4) none).toList (ns.take 4) := slice_ints_uptoW hI (by decide)
  have hsz2 : (slicePick vs.toArray none (some 4) none).size = (ns.take 4).length := by rw [← hI2.length]; simp
  generalize slicePick vs.toArray none (some 4) none = sp at *
  have hN4 : sp.size ≤ 4 := by rw [hsz2, List.length_take]; omega
  obtain ⟨nw1, hnw1, G⟩ := G.named
  refine src_list C.hn G (.inr ⟨_, .head _, rfl, _, rfl⟩) ?_
  rintro I s2 ⟨h5, rfl⟩ Z
  refine ⟨I, _, _, _, _, rfl, Nat.le_trans hN4 (by decide), Z, fun i ys nw => nw = (D2, listOf sp 0) :: nw1 ∧ ys.length = i ∧ ∀ v ∈ ys, ∃ (a : Nat) (t : Tok), v = Value.int (a : Int) t ∧ a ≤ 2, ?_, ⟨rfl, rfl, by simp⟩, ?_, ?_⟩
  · rintro i ys nw ⟨rfl, -⟩
    exact .inr ⟨_, .head _, rfl, _, rfl⟩
  · intro I i v ys h6 t6 nw oI Cc oC Dl m₂ _ hv hC hm2 pt1 GG
    refine hideQ fun Z0 hZ => ?_
    obtain ⟨enw31, hyl, hya⟩ := pt1
    have G := GG.to3 enw31
    obtain ⟨a, ta, rfl⟩ : ∃ a ta, v = Value.int a ta := by
      obtain ⟨a, t, e, -⟩ := IntsAre.at hI2 i v (by rw [Array.getElem?_toList]; exact hv)
      exact ⟨a, t, e⟩
    walk_at "go"
    obtain ⟨j, hj, ej⟩ := fmod_lt a 3 (by decide)
    refine hZ _ _ ⟨_, _, _, rfl, G, rfl, by simp [hyl], ?_⟩
    intro v hv
    rcases List.mem_append.mp hv with hv | hv
    · exact hya v hv
    · rw [List.mem_singleton.mp hv]
      exact ⟨j, _, congrArg (fun z => Value.int z _) ej, by omega⟩
  · rintro De h7 t7 ys nw ⟨enw32, hyl, hya⟩ GG
    have G := GG.to1 enw32
    subst hnw1
    dsimp only
    refine kmk_add_lit G.F G.N (G.lst (.tail _ (.tail _ (.head _)))) (G.lst (.head _)) rfl ?_ (by rw [sizeLine_eq]; simp; omega)
    intro fl h8 F8 N8 l8
    have G := G.cons F8 N8 l8
    dsimp only
    walk_at "go"
    have G := G.perm (perm_law _ _ _ _ _ _ _ _)
    obtain ⟨nw2, hnw2, G⟩ := G.named
    have hys4 : ys.length ≤ 4 := by omega
    refine flood (fz := fz) C G hcd Rds (fun p hp => by rw [← hnw2]; exact .tail _ (.tail _ (.tail _ (.tail _ (.tail _ (.tail _ hp)))))) (by rw [← hnw2]; exact .tail _ (.tail _ (.head _))) ?_ ?_ ?_
    · simp; omega
    · intro i v hv
      exact fig_ok hya hv
    intro Dt oD hq dq lq kq iq cq tab h9 t9 nw3 hoD hDt hH hInv hsub ⟨ps3, hps3⟩ G
    walk_at "go"
    refine law_best (fz := fz) C G Rds (fun p hp => hsub _ (by rw [← hnw2]; exact .tail _ (.tail _ (.tail _ (.tail _ (.tail _ (.tail _ hp))))))) ?_
    intro Db oB ad h10 t10 tl lo hoB hBI G
    walk_at "go"
    have hc1 : (s1.heap.objs.size + 1 + 1, oc1) ∈ nw3 := hsub _ (by rw [← hnw2]; exact .head _)
    have hc2 : (s1.heap.objs.size + 1, oc2) ∈ nw3 := hsub _ (by rw [← hnw2]; exact .tail _ (.head _))
    obtain ⟨R1, G, hR1, hR1'⟩ := G.pull (.tail _ (List.mem_append_right _ hc2)) d2
    refine r_storeC (i := 0) G rfl rfl d2 ?_
    intro h11 o2 e2 G
    dsimp only [List.set_cons_zero] at G
    dsimp only
    walk_at "go"
    have hc1' : (s1.heap.objs.size + 1 + 1, oc1) ∈ R1 := hR1' _ (.tail _ (List.mem_append_right _ hc1)) (by
      intro e
      have := congrArg Prod.fst e
      simp at this)
    obtain ⟨R2, G, hR2, hR2'⟩ := G.pull (.tail _ hc1') d1
    have hsize : ∀ q ∈ (Db, oB) :: (tl ++ nw3), (∀ v, q.2.data ≠ .cell v) → q ∈ R2 := fun q hq hv => hR2 _ (.tail _ (hR1 _ hq hv)) hv
    have hDbR2 : (Db, oB) ∈ R2 := hsize _ (.head _) (by
      intro v e
      obtain ⟨es, ep, -, e2, -⟩ := hoB
      rw [e2] at e
      cases e)
    have hbest : (s1.heap.objs.size + 1, o2) ∈ R2 := hR2' _ (.head _) (by
      intro e
      have := congrArg Prod.fst e
      simp at this)
    have htup : Tups (tl ++ nw3) R2 := fun t vs n hm => hsize _ (.tail _ hm) (by intro v e; cases e)
    refine for_str C.hn G (fun j m' nw => ∃ (oP : Obj) (cv : Option Value) (R : List (Addr × Obj)), nw = (s1.heap.objs.size + 1 + 1, oP) :: R ∧ oP.data = .cell cv ∧ (∀ a ∈ R2, a ∈ R) ∧ m' "tables" = some (.ref Dt)) ⟨_, _, _, rfl, d1, fun _ h => h, rfl⟩ ?_ ?_
    · intro I j v h12 t12 m12 nw oI hj hv pt2 GG
      refine hideT fun Z0 hZ => ?_
      obtain ⟨oP, cv, R, enw33, dP, hR, mt⟩ := pt2
      have G := GG.to1 enw33
      walk_at "go"
      refine r_storeC (i := 1) G rfl rfl dP ?_
      intro h13 o3 e3 G
      dsimp only [List.set_cons_succ, List.set_cons_zero] at G
      dsimp only
      walk_at "go"
      obtain ⟨cq, uq, hcq, rfl⟩ := hv
      have hj4 : j < 4 := hj
      have hc97 : cq = 97 + j := by
        have e : (Str.ofString "abcd").cps = #[97, 98, 99, 100] := by decide +kernel
        rw [e] at hcq
        rcases (by omega : j = 0 ∨ j = 1 ∨ j = 2 ∨ j = 3) with rfl | rfl | rfl | rfl <;> (cases hcq; rfl)
      subst hc97
      have hbest2 : (s1.heap.objs.size + 1, o2) ∈ R := hR _ hbest
      refine assign_T G rfl rfl rfl rfl rfl (by decide) rfl (by decide) rfl ?_
      walk_at "go"
      have hDbR : (Db, oB) ∈ R := hR _ hDbR2
      refine src_dict C.hn G (.tail _ (.tail _ hDbR)) hoB lo ?_
      rintro I2 s2 ⟨h14, rfl⟩ Z
      refine ⟨I2, _, _, _, _, rfl, by rw [List.length_map]; exact Nat.le_trans (best_len Rds.ok 4) (by decide), Z, fun i ys nw => ∃ tl2 : List (Addr × Obj), nw = tl2 ++ ((I, oI) :: (s1.heap.objs.size + 1 + 1, o3) :: R) ∧ DatAll tl2 ys ((dueUp rd (97 + j) i).map rowD), ?_, ⟨[], rfl, .nil⟩, ?_, ?_⟩
      · rintro i ys nw ⟨tl2, rfl, -⟩
        exact List.mem_append_right _ (.tail _ (.tail _ hDbR))
      · intro I3 i v ys h15 t15 nw oI3 Cc oC Dl m₂ hi pt3 hC hm2 pt4 GG
        refine hideQ fun Z0 hZ => ?_
        obtain ⟨k, xv, hkx, hkv⟩ := pt3
        obtain ⟨tl2, enw34, hys⟩ := pt4
        have G := GG.to3 enw34
        rw [List.getElem?_map] at hkx
        obtain ⟨b, hb, hbe⟩ := Option.map_eq_some_iff.mp hkx
        cases hbe
        obtain ⟨tk, rfl⟩ := Value.isStrOf_shape hkv
        have hb3 : (s1.heap.objs.size + 1 + 1, o3) ∈ tl2 ++ ((I, oI) :: (s1.heap.objs.size + 1 + 1, o3) :: R) := List.mem_append_right _ (.tail _ (.head _))
        have hb4 : (s1.heap.objs.size + 1, o2) ∈ tl2 ++ ((I, oI) :: (s1.heap.objs.size + 1 + 1, o3) :: R) := List.mem_append_right _ (.tail _ (.tail _ hbest2))
        walk_at "go"
        refine r_sign (x := S [b.1.1, b.1.2]) (c := b.1.2) rfl rfl ?_
        walk_at "go"
        by_cases hq2 : b.1.2 = 97 + j
        · refine hZ _ _ (ite_pos (by rw [hq2]; exact beq_self_eq_true _) ?_)
          refine hideQ fun Z1 hZ1 => ?_
          walk_at "go"
          refine r_first (y := [b.1.1, b.1.2]) (by simp) ?_
          walk_at "go"
          have hlk : look (bestUp rd 4) b.1 = some b.2 := (find_nodup (best_nodup rd 4)).mpr (List.mem_of_getElem? hb)
          have hva : valueAt ((bestUp rd 4).map (kvB ad)) (S [b.1.1, b.1.2]) = some (.ref (ad b.1)) := by rw [valueAt_kv, hlk]; rfl
          have hDb4 : (Db, oB) ∈ tl2 ++ ((I, oI) :: (s1.heap.objs.size + 1 + 1, o3) :: R) := List.mem_append_right _ (.tail _ (.tail _ hDbR))
          refine r_dictItem (k := S [b.1.1, b.1.2]) G (by walk_at "mem") hoB (strKind_is _ _ _ _) hva ?_
          obtain ⟨T0, va0, vb0, vc0, c0, e0, hm0, ha0, hb0, hc0⟩ := triple_of (hBI.at hlk)
          cases e0
          obtain ⟨ta0, rfl⟩ := int_of ha0
          obtain ⟨tb0, rfl⟩ := int_of hb0
          obtain ⟨tc0, rfl⟩ := str_of hc0
          have hT4 := List.mem_append_right tl2 (List.Mem.tail (I, oI) (.tail (s1.heap.objs.size + 1 + 1, o3) (hR _ (htup _ _ _ (List.mem_append_left _ hm0)))))
          walk_at "go"
          refine r_tup (j := 0) G (by walk_at "mem") (by decide) (by decide) rfl rfl ?_
          walk_at "go"
          have hb2 := best_row Rds.ok hlk
          refine r_mulC (c := 46) rfl (by omega) ?_
          intro t16 k16
          walk_at "go"
          refine r_dictItem (k := S [b.1.1, b.1.2]) G (by walk_at "mem") hoB (strKind_is _ _ _ _) hva ?_
          walk_at "go"
          refine r_tup (j := 2) G (by walk_at "mem") (by decide) (by decide) rfl rfl ?_
          walk_at "go"
          refine r_addS (by rw [List.length_replicate]; omega) ?_
          intro t17 k17
          walk_at "go"
          refine hZ1 _ _ ⟨_, _, _, rfl, G.back3, (D, _) :: tl2, rfl, ?_⟩
          rw [due_take hb hq2]
          exact DatAll.snocMap hys (fun _ h => .tail _ h) (.tuple (.head _) (.cons (.str _ _) (.cons (.str _ _) .nil)))
        · refine hZ _ _ (ite_neg (fun e => hq2 (by simpa using S_inj (beq_iff_eq.mp e))) ?_)
          refine ⟨_, _, _, rfl, G, tl2, rfl, ?_⟩
          rw [due_skip hb hq2]
          exact hys
      · rintro De h16 t16 ys nw ⟨tl2, enw35, hys⟩ GG
        have G := GG.to1 enw35
        rw [List.length_map] at hys
        have hb5 : (s1.heap.objs.size + 1 + 1, o3) ∈ tl2 ++ ((I, oI) :: (s1.heap.objs.size + 1 + 1, o3) :: R) := List.mem_append_right _ (.tail _ (.head _))
        dsimp only
        walk_at "go"
        have hqp : 97 + j ∈ places := by
          rcases (by omega : j = 0 ∨ j = 1 ∨ j = 2 ∨ j = 3) with rfl | rfl | rfl | rfl <;> simp
        obtain ⟨hq1, hq2, hq3, hq4⟩ := hH _ hqp
        have up : ∀ q ∈ nw3, (∀ v, q.2.data ≠ .cell v) → q ∈ tl2 ++ ((I, oI) :: (s1.heap.objs.size + 1 + 1, o3) :: R) := fun q hq hv => List.mem_append_right _ (.tail _ (.tail _ (hR _ (hsize q (.tail _ (List.mem_append_right _ hq)) hv))))
        have gDt := up _ hDt (by
          intro v e
          obtain ⟨es, ep, -, e2, -⟩ := hoD
          rw [e2] at e
          cases e)
        have g1 := up _ hq1 (by intro v e; cases e)
        have g2 := up _ hq2 (by intro v e; cases e)
        have g3 := up _ hq3 (by intro v e; cases e)
        refine r_dictItem (k := S [97 + j]) G (by walk_at "mem") hoD (strKind_is _ _ _ _) (road_at hq hqp) ?_
        walk_at "go"
        have hszq : (iq (97 + j)).size ≤ 4 := by
          have h1 := hq4.length
          have h2 := rsH_four Rds.ok hInv hqp
          simp only [Array.length_toList, List.length_map] at h1
          omega
        have upT : Tups nw3 (tl2 ++ ((I, oI) :: (s1.heap.objs.size + 1 + 1, o3) :: R)) := fun t vs n hm => up _ hm (by intro v e; cases e)
        refine headers_items C G (.tail _ g1) (.tail _ g2) (.tail _ g3) (by omega) ?_
        intro Di h17 t17 G
        dsimp only
        walk_at "go"
        refine sorted_rows (rs := rsH tab (97 + j)) G (.head _) (by rw [rsH_rows]; exact (upT.rows hq4).mono (fun _ h => .tail _ (.tail _ h))) (rsH_pl Rds.ok hInv hqp) (rsH_nd hInv hqp) (rsH_one hInv hqp) ?_
        intro Ds1 h18 t18 its1 c1 X G hX1 hX2 hX3
        dsimp only
        walk_at "go"
        have hysD : DatAll tl2 ys ((rowsOf (rsD rd (97 + j))).map rowD) := by
          rw [rsD_rows]
          unfold dueUp at hys
          rw [List.take_length] at hys
          exact hys
        have hpm := rs_perm Rds.ok hInv hqp
        refine sorted_rows (l := De) (its := ys.toArray) (c := ys.length) (rs := rsD rd (97 + j)) G (.tail _ (.tail _ (.head _))) (DatAll.mono (fun _ h => .tail _ (.tail _ (.tail _ (List.mem_append_left _ h)))) hysD) (fun e he => rsH_pl Rds.ok hInv hqp e (hpm.mem_iff.mpr he)) (((hpm.map _).nodup_iff).mp (rsH_nd hInv hqp)) (by rw [← hpm.length_eq]; exact rsH_one hInv hqp) ?_
        intro Ds2 h19 t19 its2 c2 Y G hY1 hY2 hY3
        have hXY := sorted_same Rds.ok hInv hqp hX2 hX3 hY2 hY3
        subst hXY
        dsimp only
        walk_at "go"
        refine r_sameNe G (.tail _ (.head _)) (.head _) (DatAll.mono (fun _ h => .tail _ (.tail _ h)) hX1) (DatAll.mono (fun _ h => .tail _ h) hY1) (kq_rows Rds.ok hInv hqp hX2) (Nat.lt_of_le_of_lt (Nat.add_le_add_left (Nat.le_of_ble_eq_true rfl) _) C.un) ?_
        walk_at "go"
        exact hZ _ _ ⟨_, _, _, _, rfl, G.sub (((((List.sublist_append_right tl2 _).cons _).cons _).cons _).cons _), _, _, R, rfl, e3, hR, mt⟩
    · rintro h12 t12 m12 nw ⟨oP, cv, R, enw36, dP, hR, mt⟩ GG
      have G := GG.to enw36
      walk_at "go"
      have hps4 := hR _ (hsize _ (.tail _ (List.mem_append_right _ hps3)) (by intro v e; cases e))
      refine hY _ _ ⟨goodW_bool (s₁ := { s1 with heap := ghostOf s1.heap [(240, 236)] }) G.F hg (raisesW_false ?_) ?_, GrownAt.of G.N (.tail _ hps4), True.intro⟩
      · wrow_none_raised
      · kc_post)
end
end Mine
theorem PySem.Challenge.cw_pe0228_02_holds : PySem.Challenge.rw_pe0228_02.Holds :=
  Mine.T
