import PyProof.Rows.All
import Wide.All
import OpenK.AllK
import Wide.FinOn
import PySem.Challenge.RW_pe0228_01
set_option Elab.async false
set_option maxRecDepth 100000
set_option linter.unusedVariables false
open PySem PySem.W PyProof.Rows PySem.Calls PySem.Spec
namespace Mine
-- Top_01
section
set_option maxHeartbeats 0
theorem said01 : PySem.Challenge.rw_pe0228_01.wellSaid = true := by kernel_rfl
/-- the opening and the top, walked with the library's quick twins of its own functions -/
noncomputable def openTw (p : Program) (w : World) (N : Nat) : Option Shared := (Fast.tw10274390034422433532 Fast.tw14364793385576792824 (opening p) w N (Fast.tw1435165496053646825 (opening p)).1 (Fast.tw1435165496053646825 (opening p)).2).bind (fenceModules? p)
theorem open_tw (p : Program) (w : World) (N : Nat) : fencedOpening treeTable p w N = openTw p w N := by
  unfold fencedOpening openTw
  rw [← Fast.te10274390034422433532, ← Fast.te14364793385576792824, ← Fast.te1435165496053646825]
noncomputable def stubTw (p : Program) : Thread := ⟨Fast.tw17154629097778926822 p.main >>= fun code => newBodyFrame code mainNs mainNs >>= fun frame => run (.body (behindTheImports p) { scope := p.main.scope, locals := mainNs, globals := mainNs, cells := [], code := code, frame := some frame }) >>= fun _ => ret Value.none, .builtin "claim.caller" {}, default, []⟩
theorem stub_tw (p : Program) : topStub p = stubTw p := by
  unfold topStub stubTw
  rw [← Fast.te17154629097778926822]
noncomputable def runTw (p : Program) (w : World) (N : Nat) (s₀ : Shared) : Option Shared := match s₀.heap.isNs mainGlobals && s₀.gens.size == 0 with
  | true => Fast.tw14082659384304107361 Fast.tw14364793385576792824 p w s₀.heap.objs.size (s₀.heap.nsMap mainGlobals "__annotations__") N s₀ (stubTw p)
  | false => none
noncomputable def fromTw (p : Program) (w : World) (N : Nat) (s₀ : Shared) : Option Shared := (runTw p w N s₀).bind fun s₁ => match staticsOk (importedModules p.main.body) s₀.heap s₁.heap && namesBound p s₁.heap && gensDone s₁ && laidKept s₀.heap s₁.heap with
  | true => some s₁
  | false => none
theorem from_tw (p : Program) (w : World) (N : Nat) (s₀ : Shared) : topFrom treeTable p w N s₀ = fromTw p w N s₀ := by
  unfold topFrom fromTw runTw
  rw [← Fast.te14082659384304107361, ← Fast.te14364793385576792824, ← stub_tw]
  cases s₀.heap.isNs mainGlobals && s₀.gens.size == 0 <;> rfl
theorem left_tw {p q : Program} {loose : List Str} {Xt : Shared → Bool} {α : Type} {Yf : Shared → α} {Ya : World → α} {N : Nat}
    (h : ∀ w, ((openTw p w N).bind (fromTw p w N)).map (fun s => (Fast.tw4187177175401517315 q loose (importedModules p.main.body) Xt true s, Yf s)) = some (openGood q loose, Ya w)) : LeftO p q loose Xt Yf Ya N := fun w => by
  have e := h w
  rw [← Fast.te4187177175401517315] at e
  unfold openEnds
  rw [open_tw, show topFrom treeTable p w N = fromTw p w N from funext (from_tw p w N)]
  exact e
/-- the program, its loose statements left out -/
def view : Program := { PySem.Challenge.rw_pe0228_01.prog with main := { PySem.Challenge.rw_pe0228_01.prog.main with body := [0, 1, 3, 5, 6, 7, 8, 10, 11, 12, 14, 16, 17, 18, 19, 20, 21, 22].filterMap fun i => PySem.Challenge.rw_pe0228_01.prog.main.body[i]? } }
-- the head at once: the library's own road parts the top in pieces, whose compiled file is too large
local macro_rules | `(tactic| o_head $H) => do
  let hl := Lean.mkIdent `hl
  let hw := Lean.mkIdent `hw
  let hc := Lean.mkIdent `hc
  `(tactic| (refine holds_open (q := view) (loose := [Str.ofString "_twin_re_1", Str.ofString "_twin_re_2", Str.ofString "tspecials", Str.ofString "_name_disallowed_re", Str.ofString "_value_disallowed_re", Str.ofString "_formatparam"]) (Xt := fun s => xlAt view [] s && recOk (RowW.records (OpenRow.toRowW PySem.Challenge.rw_pe0228_01.row)) s) (XP := XL view []) (Yf := Hook.obs $H) (Ya := Hook.val $H) (YP := Hook.says $H) (N := 3716) ?$hl (Hook.of $H) (Hook.keeps $H) (fun s e => xl_of s (Bool.and_eq_true_iff.mp e).1) XL.keeps (by rfl) (by rfl) (by rfl) (fun s e => recFacts_of (Bool.and_eq_true_iff.mp e).2) (by rfl) (by first | assumption | decide +kernel) (by decide +kernel) ⟨rfl, rfl, rfl, rfl, rfl, by decide +kernel⟩ ?$hw ?$hc; (case $hl:ident => (refine left_tw fun w => ?_; kernel_rfl))))
local macro_rules | `(tactic| o_law) => `(tactic| refine holds_law said01 fun said => ?_)
open_top hd for PySem.Challenge.rw_pe0228_01
end
-- B0
section

/-- the frame at hand and its ledger -/
structure Lg (h₀ : Heap) (L : Addr) (h : Heap) (m : Str → Option Value) (news : List (Addr × Obj)) : Prop where
  F : Fr h₀ L h m
  N : News h₀ L h news
  nd : (news.map (·.1)).Nodup

/-- the standing facts of a frame: n calls may still be opened -/
structure Cx (K : Frag) (pr : Program) (loose : List Str) (mean : ExcName → Option Value) (mg mb : Str → Option Value)
    (n : Nat) (A : Around) (env : Env) (L : Addr) (h₀ : Heap) : Prop where
  B : ∃ A₀ base outer, Below A₀ base outer h₀ ∧ A.frames = some (env :: outer)
  ef : env.frame = some L
  el : env.locals = L
  ek : env.scope.kind = .function
  X : K.In h₀
  T : Top pr loose mean mg mb h₀
  dp : A.depth + 4 * n < 1000
  un : A.units + 40 * n < 9900
  hn : A.handled = none

theorem Lg.perm {h₀ h : Heap} {L : Addr} {m : Str → Option Value} {a b : List (Addr × Obj)} (G : Lg h₀ L h m a) (p : a.Perm b) : Lg h₀ L h m b :=
  ⟨G.F, fun q hq => G.N q (p.mem_iff.mpr hq), (p.map _).nodup_iff.mp G.nd⟩
theorem Lg.sub {h₀ h : Heap} {L : Addr} {m : Str → Option Value} {a b : List (Addr × Obj)} (G : Lg h₀ L h m a) (p : b.Sublist a) : Lg h₀ L h m b :=
  ⟨G.F, fun q hq => G.N q (p.subset hq), (p.map _).nodup G.nd⟩

theorem Lg.set {h₀ h h' : Heap} {L D : Addr} {m : Str → Option Value} {news : List (Addr × Obj)} {o o' : Obj} (G : Lg h₀ L h m news) (i : Nat) (hi : news[i]? = some (D, o))
    (hs : Heap.SameBut D h h') (ho : h'.get? D = some o') : Lg h₀ L h' m (news.set i (D, o')) := by
  have hm := G.N _ (List.mem_of_getElem? hi)
  have e : (news.set i (D, o')).map (·.1) = news.map (·.1) := by
    rw [List.map_set]
    obtain ⟨hl, he⟩ := List.getElem?_eq_some_iff.mp hi
    apply List.ext_getElem?
    intro j
    by_cases hj : i = j
    · subst hj; rw [List.getElem?_set_self (by simpa using hl), List.getElem?_map, hi]; rfl
    · rw [List.getElem?_set_ne hj]
  refine ⟨G.F.change hs hm.2.1 hm.2.2, fun p hp => ?_, by rw [e]; exact G.nd⟩
  rcases List.mem_or_eq_of_mem_set hp with hp' | rfl
  · by_cases hd : p.1 = D
    · -- the same address: then it stands at place i, and has been replaced
      obtain ⟨j, hl, hj⟩ := List.getElem_of_mem hp
      rw [List.length_set] at hl
      by_cases hij : i = j
      · subst hij
        have : p = (D, o') := by rw [← hj]; simp
        subst this
        exact ⟨ho, hm.2⟩
      · exfalso
        have hj2 : news[j] = p := by rw [← hj, List.getElem_set_ne hij]
        obtain ⟨hli, hei⟩ := List.getElem?_eq_some_iff.mp hi
        have nd := List.pairwise_iff_getElem.mp G.nd
        rcases Nat.lt_or_gt_of_ne hij with q | q
        · exact nd i j (by simpa using hli) (by simpa using hl) q (by simp only [List.getElem_map, hei, hj2, hd])
        · exact nd j i (by simpa using hl) (by simpa using hli) q (by simp only [List.getElem_map, hei, hj2, hd])
    · have z := G.N p hp'
      exact ⟨(hs.2 _ hd).trans z.1, z.2⟩
  · exact ⟨ho, hm.2⟩

theorem Lg.cons {h₀ h h' : Heap} {L : Addr} {m : Str → Option Value} {news : List (Addr × Obj)} {a : Addr} {o : Obj} (G : Lg h₀ L h m news) (F' : Fr h₀ L h' m) (N' : News h₀ L h' ((a, o) :: news))
    (hl : ∀ p ∈ news, p.1 < a) : Lg h₀ L h' m ((a, o) :: news) :=
  ⟨F', N', by
    rw [List.map_cons, List.nodup_cons]
    refine ⟨fun hm => ?_, G.nd⟩
    obtain ⟨p, hp, e⟩ := List.mem_map.mp hm
    exact absurd (hl p hp) (by rw [e]; exact Nat.lt_irrefl _)⟩

theorem Lg.push {h₀ h : Heap} {L : Addr} {m : Str → Option Value} {news : List (Addr × Obj)} (G : Lg h₀ L h m news) (o : Obj) (hf : o.isFreed = false := by rfl) :
    Lg h₀ L (h.push o) m ((h.objs.size, o) :: news) :=
  G.cons (G.F.push o) (G.N.push G.F o hf) fun p hp => Heap.lt_size (G.N p hp).1

section
variable {K : Frag} {pr : Program} {loose : List Str} {mean : ExcName → Option Value} {mg mb : Str → Option Value} {prog : Program} {w : World} {n : Nat} {A : Around} {env : Env} {L : Addr} {h₀ : Heap}
  {m : Str → Option Value} {news : List (Addr × Obj)} {s : Shared} {E : Value → Shared → Prop}

/-- what a frame hands back -/
def Back (h₀ : Heap) (L : Addr) (m : Str → Option Value) (g : Heap) (L' : Addr) (Q : Value → Shared → Prop) (v : Value) (s' : Shared) : Prop :=
  ∃ m' news', Lg g L' s'.heap m' news' ∧ (Lg h₀ L s'.heap m news' → Q v s')

def rv : Flow → Value
  | .ret v => v
  | _ => .none

/-- what a call's end has to meet -/
abbrev RQ (Q E : Value → Shared → Prop) : Result → Shared → Prop := fun r s' => match r with | .ok (.ret v) => Q v s' | .ok _ => False | .error e => E e s'

theorem enterC {Q : Value → Shared → Prop} {name qual : Str} {params : Arguments} {body : List Stmt} {scope : Scope} {dV kV doc pm cdv ct oc : Value} {an od : Option Addr} {osl : Array (Option Value)} {f : Addr}
    {args : List Value} {kw : List (Str × Value)} {binds : List (Str × Value)}
    (C : Cx K pr loose mean mg mb (n + 1) A env L h₀) (G : Lg h₀ L s.heap m news)
    (ho : K.lookup f = some ⟨oc, od, .func (fnOf name qual params body scope dV kV doc pm an cdv ct), osl⟩) (hcd : codeIn K cdv qual = true)
    (hbind : BindsTo s (fnOf name qual params body scope dV kV doc pm an cdv ct) ⟨args, kw⟩ binds) (hloc : ∀ y ∈ binds, scope.names.lookup y.1 = some .local)
    (hco : scope.isCoroutine = false) (hgen : scope.isGenerator = false) (hk : scope.kind = .function) (hcell : ∀ x ∈ scope.names, x.2 ≠ .cell)
    (h : ∀ g L' h₁, Cx K pr loose mean mg mb n (A.deeper (envOf qual scope L' f cdv)) (envOf qual scope L' f cdv) L' g → h₀.StaysIn g →
      Lg g L' h₁ (fun y => binds.reverse.lookup y) news →
      wpAny (model prog w) (A.deeper (envOf qual scope L' f cdv)) (execs body (envOf qual scope L' f cdv)) (fun fl s' => Back h₀ L m g L' Q (rv fl) s') (fun _ _ => False)
        { s with heap := h₁, toks := s.toks + binds.length }) :
    codeAny (model prog w) A (.call (.ref f) ⟨args, kw⟩) (RQ Q E) s := by
  obtain ⟨A₀, base, outer, B, hA⟩ := C.B
  have hr : A.depth < recursionLimit := by have := C.dp; show A.depth < 1000; omega
  refine (callX_plain (cl := []) B G.F G.N C.T.nolimit hA C.ef C.ek ((C.X.keeps G.F.keep) _ _ ho) rfl (codeRec_of (C.X.keeps G.F.keep) hcd) hr hbind hloc ?_ hcell hco hgen hk)
  intro g L' h₁ FG F' N' B' st lt
  have C' : Cx K pr loose mean mg mb n (A.deeper (envOf qual scope L' f cdv)) (envOf qual scope L' f cdv) L' g := by
    refine ⟨⟨A, base, env :: outer, B', Around.frames_deeper hA⟩, rfl, rfl, hk, C.X.keeps st, C.T.keeps st, ?_, ?_, C.hn⟩
    · have := C.dp; show A.depth + 1 + 4 * n < 1000; omega
    · have := C.un; show A.units + 3 + 40 * n < 9900; omega
  refine wpAny_mono (h g L' h₁ C' st ⟨F', N', G.nd⟩) (fun fl s' hb => ?_) fun _ _ x => x.elim
  obtain ⟨m', news', G', k⟩ := hb
  refine ⟨L', m', news', G'.F, G'.N, fun F₂ N₂ => ?_⟩
  have := k ⟨F₂, N₂, G'.nd⟩
  cases fl <;> exact this

theorem enter {Q : Value → Shared → Prop} {name qual : Str} {params : Arguments} {body : List Stmt} {scope : Scope} {dV kV doc pm cdv ct oc : Value} {an od : Option Addr} {osl : Array (Option Value)} {f : Addr}
    {args : List Value} {kw : List (Str × Value)} {binds : List (Str × Value)}
    (C : Cx K pr loose mean mg mb (n + 1) A env L h₀) (G : Lg h₀ L s.heap m news)
    (ho : K.lookup f = some ⟨oc, od, .func (fnOf name qual params body scope dV kV doc pm an cdv ct), osl⟩) (hcd : codeIn K cdv qual = true)
    (hbind : BindsTo s (fnOf name qual params body scope dV kV doc pm an cdv ct) ⟨args, kw⟩ binds) (hloc : ∀ y ∈ binds, scope.names.lookup y.1 = some .local)
    (hco : scope.isCoroutine = false) (hgen : scope.isGenerator = false) (hk : scope.kind = .function) (hcell : ∀ x ∈ scope.names, x.2 ≠ .cell)
    (h : ∀ g L' h₁, Cx K pr loose mean mg mb n (A.deeper (envOf qual scope L' f cdv)) (envOf qual scope L' f cdv) L' g → h₀.StaysIn g →
      Lg g L' h₁ (fun y => binds.reverse.lookup y) news →
      wpAny (model prog w) (A.deeper (envOf qual scope L' f cdv)) (execs body (envOf qual scope L' f cdv)) (fun fl s' => Back h₀ L m g L' Q (rv fl) s') (fun _ _ => False)
        { s with heap := h₁, toks := s.toks + binds.length }) :
    wpAny (model prog w) A (call (.ref f) args kw) Q E s := wpAny_call (enterC C G ho hcd hbind hloc hco hgen hk hcell h)

theorem Cx.in1 (C : Cx K pr loose mean mg mb (n + 1) A env L h₀) : Cx K pr loose mean mg mb n A.in1 env L h₀ := by
  obtain ⟨B, ef, el, ek, X, T, dp, un, hn⟩ := C
  exact ⟨B, ef, el, ek, X, T, by show A.depth + _ < _; omega, by show A.units + 1 + _ < _; omega, hn⟩
theorem Cx.less (C : Cx K pr loose mean mg mb (n + 1) A env L h₀) : Cx K pr loose mean mg mb n A env L h₀ := by
  obtain ⟨B, ef, el, ek, X, T, dp, un, hn⟩ := C
  exact ⟨B, ef, el, ek, X, T, by omega, by omega, hn⟩
end
end
-- B1
section

section
variable {K : Frag} {pr : Program} {loose : List Str} {mean : ExcName → Option Value} {mg mb : Str → Option Value} {prog : Program} {w : World} {n : Nat} {A : Around} {env : Env} {L : Addr} {h₀ : Heap}
  {m : Str → Option Value} {news : List (Addr × Obj)} {s : Shared} {E : Value → Shared → Prop} {M : Model}

theorem Lg.mem {a : Addr} {o : Obj} {h : Heap} (G : Lg h₀ L h m news) (hm : (a, o) ∈ news) : h.get? a = some o := (G.N _ hm).1
theorem Lg.lst {a : Addr} {its : Array Value} {c : Nat} {h : Heap} (G : Lg h₀ L h m news) (hm : (a, listOf its c) ∈ news) : h.IsList a its := ⟨_, G.mem hm, rfl, c, rfl⟩
theorem Lg.of2 {h h' : Heap} {m' : Str → Option Value} (G : Lg h₀ L h m news) (F' : Fr h₀ L h' m') (N' : News h₀ L h' news) : Lg h₀ L h' m' news := ⟨F', N', G.nd⟩

/-- a local name stored -/
theorem r_store {cn : Str} {cs : Scope} {a : Addr} {ccd : Value} {cl : List (Str × Addr)} {x : Str} {v : Value} {Q : Unit → Shared → Prop} (G : Lg h₀ L s.heap m news)
    (h : ∀ h', Lg h₀ L h' (fun y => if y = x then some v else m y) news → Q () { s with heap := h', toks := s.toks + 1 })
    (hk : cs.kind = .function := by rfl) (hx : (envX cn cs L a ccd cl).kindOf x = some .local := by rfl) : wpAny M A (storeName (envX cn cs L a ccd cl) x v) Q E s :=
  storeX_L G.F G.N (fun h' F' N' => h h' ⟨F', N', G.nd⟩) hk hx

theorem r_item {value slice : PySem.Expr} {l : Addr} {its : Array Value} {c : Nat} {k : Int} {u : Tok} {v : Value} {Q : Value → Shared → Prop}
    (G : Lg h₀ L s.heap m news) (hm : (l, listOf its c) ∈ news) (h0 : 0 ≤ k) (hhi : k < 2 ^ 63) (hx : its[k.toNat]? = some v) (h : Q v s)
    (hs : subscripted slice false (.ref l) (.int k u) = operate [.ref l, .int k u] (getItem (.ref l) (.int k u)) := by with_unfolding_all rfl) :
    wpAny (model prog w) A (subscriptTail value slice (.ref l) (.int k u)) Q E s :=
  tail_any (G.lst hm).typeIs slot_list_getitem.lookup (wpAny_getItem_list (G.lst hm) h0 hhi hx h) hs

theorem r_setItem {l : Addr} {its : Array Value} {c i : Nat} {k : Int} {u : Tok} {v : Value} {Q : Unit → Shared → Prop}
    (G : Lg h₀ L s.heap m news) (hi : news[i]? = some (l, listOf its c)) (h0 : 0 ≤ k) (hhi : k < 2 ^ 63) (hn : k < its.size)
    (h : ∀ h', Lg h₀ L h' m (news.set i (l, listOf (its.setIfInBounds k.toNat v) c)) → Q () { s with heap := h' }) :
    wpAny (model prog w) A (setItem (.ref l) (.int k u) v) Q E s := by
  have ho := G.mem (List.mem_of_getElem? hi)
  refine ki_setAt ho h0 hhi hn (h _ ?_)
  have e : Obj.mapSeq (·.setIfInBounds k.toNat v) (listOf its c) = listOf (its.setIfInBounds k.toNat v) c := by simp [Obj.mapSeq]
  refine G.set i hi (Heap.SameBut.update ..) ?_
  rw [Heap.get?_update_self _ ho (by rw [e]; rfl), e]
end
end
-- M1_1
section
theorem fill : hd.heap_1 = hd.heap_1 ∧ PySem.Challenge.rw_pe0228_01 = PySem.Challenge.rw_pe0228_01 := by
  k_fill
  exact ⟨rfl, rfl⟩

/-- the body of the def at an address of the written part -/
def bodyAt (K : Frag) (a : Addr) : List Stmt := match K.lookup a with
  | some ⟨_, _, .func fd, _⟩ => (match fd.body with | .stmts b => b | _ => [])
  | _ => []
/-- the def that stands as the i-th statement of that body -/
def defIn (K : Frag) (a i : Nat) : Str × Arguments × List Stmt × Scope := match (bodyAt K a)[i]? with
  | some (.FunctionDef nm p b _ _ _ sc _ _ _) => (nm, p, b, sc)
  | _ => ("", ⟨[], [], none, [], [], none, []⟩, [], default)

theorem defIn_of {K : Frag} {a i : Nat} {name qual : Str} {params : Arguments} {body : List Stmt} {scope : Scope} {dV kV doc pm cdv ct oc : Value} {an od : Option Addr} {osl : Array (Option Value)}
    {nm : Str} {p : Arguments} {b : List Stmt} {ds : List PySem.Expr} {r : Option PySem.Expr} {tps : List TypeParam} {sc : Scope} {ts : Option Scope} {bind : Str} {pos : Pos}
    (ho : K.lookup a = some ⟨oc, od, .func (fnOf name qual params body scope dV kV doc pm an cdv ct), osl⟩) (hi : body[i]? = some (.FunctionDef nm p b ds r tps sc ts bind pos)) : defIn K a i = (nm, p, b, sc) := by
  unfold defIn bodyAt
  rw [ho]
  dsimp only
  rw [hi]

/-- the sign at a place of a text: one sign, or none behind its end -/
def sgn (x : Str) (p : Nat) : Str := ⟨((x.cps.toList.drop p).take 1).toArray⟩
theorem sgn_slice (x : Str) (p : Nat) (hp : p ≤ x.length) : Txt.slice x (some (p : Int)) (some ((p : Int) + 1)) = sgn x p := by
  have hl : x.cps.toList.length = x.length := by simp [Str.length]
  by_cases h : p + 1 ≤ x.length
  · have := beq_iff_eq.mp (slice_closes (x := x) (i := (p : Int)) (j := (p : Int) + 1) ⟨by omega, by omega, by rw [hl]; omega⟩)
    rw [this]
    unfold sgn
    rw [show ((p : Int) + 1 - p).toNat = 1 by omega, Int.toNat_natCast]
  · have e : p = x.length := by omega
    have h0 : ¬ ((x.length : Int) < 0) := by omega
    have h1 : ¬ ((x.length : Int) + 1 < 0) := by omega
    have hi : Builtin.Str.strSliceIndices (some (x.length : Int)) (some ((x.length : Int) + 1)) 1 x.length = [] := by
      simp only [Builtin.Str.strSliceIndices, h0, h1, if_false, show (1 : Int) > 0 by decide, if_true, sliceRange]
      rw [show max 0 (min (x.length : Int) x.length) = x.length by omega, show max 0 (min ((x.length : Int) + 1) x.length) = x.length by omega]
      simp
    subst e
    unfold Txt.slice sgn
    rw [hi]
    have hd : x.cps.toList.drop x.length = [] := by rw [← hl]; simp
    rw [hd]
    split
    · rename_i q
      have : x.length = 0 := by simpa using (eq_comm.mp (by simpa using q : (0 : Nat) = x.length))
      have hx : x.cps = #[] := Array.size_eq_zero_iff.mp this
      obtain ⟨c⟩ := x
      simp only at hx
      rw [hx]; rfl
    · rfl
theorem sgn_len (x : Str) (p : Nat) : (sgn x p).length ≤ 1 := by
  show ((x.cps.toList.drop p).take 1).toArray.size ≤ 1
  rw [List.size_toArray, List.length_take]; omega

section
variable {pr : Program} {loose : List Str} {mean : ExcName → Option Value} {mg mb : Str → Option Value} {prog : Program} {w : World} {n : Nat} {A : Around} {env : Env} {L : Addr} {h₀ : Heap}
  {m : Str → Option Value} {news : List (Addr × Obj)} {s : Shared} {E : Value → Shared → Prop}

theorem enterN {K : Frag} {Q : Value → Shared → Prop} {name qual : Str} {params : Arguments} {body : List Stmt} {scope : Scope} {cl : List (Str × Addr)} {doc pm ctv : Value} {c' f : Addr} {oc : Obj} {vs : Array Value} {tq : Tok}
    {args : List Value} {kw : List (Str × Value)} {binds : List (Str × Value)}
    (C : Cx K pr loose mean mg mb (n + 1) A env L h₀) (G : Lg h₀ L s.heap m news)
    (ho : (f, fnMade name qual params body scope cl doc pm c' ctv) ∈ news) (hoc : (c', oc) ∈ news) (hod : oc.data = .fields vs) (hov : vs[1]? = some (.str qual tq))
    (hbind : BindsTo s (fnX name qual params body scope cl .none .none doc pm none (.ref c') ctv) ⟨args, kw⟩ binds) (hloc : ∀ y ∈ binds, scope.names.lookup y.1 = some .local)
    (hco : scope.isCoroutine = false) (hgen : scope.isGenerator = false) (hk : scope.kind = .function) (hcell : ∀ x ∈ scope.names, x.2 ≠ .cell)
    (h : ∀ g L' h₁, Cx K pr loose mean mg mb n (A.deeper (envX qual scope L' f (.ref c') cl)) (envX qual scope L' f (.ref c') cl) L' g → h₀.StaysIn g →
      Lg g L' h₁ (fun y => binds.reverse.lookup y) news →
      wpAny (model prog w) (A.deeper (envX qual scope L' f (.ref c') cl)) (execs body (envX qual scope L' f (.ref c') cl)) (fun fl s' => Back h₀ L m g L' Q (rv fl) s') (fun _ _ => False)
        { s with heap := h₁, toks := s.toks + binds.length }) :
    wpAny (model prog w) A (call (.ref f) args kw) Q E s := by
  obtain ⟨A₀, base, outer, B, hA⟩ := C.B
  have hr : A.depth < recursionLimit := by have := C.dp; show A.depth < 1000; omega
  refine wpAny_call (callX_plain (cl := cl) B G.F G.N C.T.nolimit hA C.ef C.ek (G.mem ho) rfl (codeRec_news G.N hoc hod hov) hr hbind hloc ?_ hcell hco hgen hk)
  intro g L' h₁ FG F' N' B' st lt
  have C' : Cx K pr loose mean mg mb n (A.deeper (envX qual scope L' f (.ref c') cl)) (envX qual scope L' f (.ref c') cl) L' g := by
    refine ⟨⟨A, base, env :: outer, B', Around.frames_deeper hA⟩, rfl, rfl, hk, C.X.keeps st, C.T.keeps st, ?_, ?_, C.hn⟩
    · have := C.dp; show A.depth + 1 + 4 * n < 1000; omega
    · have := C.un; show A.units + 3 + 40 * n < 9900; omega
  refine wpAny_mono (h g L' h₁ C' st ⟨F', N', G.nd⟩) (fun fl s' hb => ?_) fun _ _ x => x.elim
  obtain ⟨m', news', G', k⟩ := hb
  refine ⟨L', m', news', G'.F, G'.N, fun F₂ N₂ => ?_⟩
  have := k ⟨F₂, N₂, G'.nd⟩
  cases fl <;> exact this

set_option maxHeartbeats 1000000
theorem read_on_spec {Q : Value → Shared → Prop} {rf c' ca cb T : Addr} {qual : Str} {doc pm ctv : Value} {oc oca ocb : Obj} {vs : Array Value} {tq : Tok} {text : Str} {tt tp ts : Tok} {p i c : Nat}
    (C : Cx (hd.heap_1 w.params) pr loose mean mg mb (n + 1) A env L h₀) (G : Lg h₀ L s.heap m news)
    (hr : (rf, fnMade (defIn (hd.heap_1 w.params) 254 1).1 qual (defIn (hd.heap_1 w.params) 254 1).2.1 (defIn (hd.heap_1 w.params) 254 1).2.2.1 (defIn (hd.heap_1 w.params) 254 1).2.2.2 [(Str.ofString "text", ca), (Str.ofString "at", cb)] doc pm c' ctv) ∈ news)
    (hoc : (c', oc) ∈ news) (hod : oc.data = .fields vs) (hov : vs[1]? = some (.str qual tq))
    (ha : (ca, oca) ∈ news) (had : oca.data = .cell (some (.str text tt))) (hb : (cb, ocb) ∈ news) (hbd : ocb.data = .cell (some (.ref T)))
    (hT : news[i]? = some (T, listOf #[.int (p : Int) tp] c)) (hp : p ≤ text.length) (hl : text.length ≤ 1000000)
    (h : ∀ h' t t1 t2, Lg h₀ L h' m (news.set i (T, listOf #[.int ((p : Int) + ((sgn text p).length : Int)) t1] c)) → Q (.str (sgn text p) t2) { s with heap := h', toks := t }) :
    wpAny (model prog w) A (call (.ref rf) [.int 1 ts]) Q E s := by
  rw [defIn_of (by k_is) (by rfl)] at hr
  refine enterN (binds := [(Str.ofString "size", .int 1 ts)]) C G hr hoc hod hov (BindsTo.of_eq rfl) (locs rfl) rfl rfl rfl (by decide) ?_
  intro g L' h₁ C G' 
  intro G
  refine wpAny_execs_cons (wpAny_Assign_Name ?_)
  refine Subscript_ ?_
  refine nameX_F G.N rfl ha had ?_
  refine wpAny_Slice ?_
  refine evalPart_some_step ?_
  refine Subscript_ ?_
  refine nameX_F G.N rfl hb hbd ?_
  refine wpAny_Constant_int ?_
  refine r_item G (List.mem_of_getElem? hT) (by decide) (by decide) rfl ?_
  refine evalPart_some_step ?_
  refine wpAny_BinOp ?_
  refine Subscript_ ?_
  refine nameX_F G.N rfl hb hbd ?_
  refine wpAny_Constant_int ?_
  refine r_item G (List.mem_of_getElem? hT) (by decide) (by decide) rfl ?_
  refine nameX_L G.F rfl ?_
  refine add_int ?_
  refine evalPart_none_step ?_
  refine slice_strN_ss (s := ⟨_, _, _, _, _⟩) (hsz := Nat.le_trans hl (by decide)) G.F G.N ?_
  intro h2 t2 k2 F2 N2
  have G := G.of2 F2 N2
  rw [sgn_slice _ _ hp]
  refine r_store G ?_
  intro h3 G
  dsimp only
  refine wpAny_execs_cons (wpAny_Assign_Subscript ?_)
  refine wpAny_BinOp ?_
  refine Subscript_ ?_
  refine nameX_F G.N rfl hb hbd ?_
  refine wpAny_Constant_int ?_
  refine r_item G (List.mem_of_getElem? hT) (by decide) (by decide) rfl ?_
  refine Call_ ?_
  refine nameX_B G.F C.X (topRead_of C.T) (by k_is) (by boot_fast) (by decide) ?_
  refine callWith_method1 ?_
  refine spliced_more ?_
  refine nameX_L G.F rfl ?_
  refine spliced_none ?_
  refine len_str (by have := sgn_len text p; omega) ?_
  refine add_int ?_
  refine nameX_F G.N rfl hb hbd ?_
  refine wpAny_Constant_int ?_
  refine r_setItem G hT (by decide) (by decide) (by show (0:Int) < 1; decide) ?_
  intro h4 G
  dsimp only
  refine wpAny_execs_cons (wpAny_Return_some ?_)
  refine nameX_L G.F rfl ?_
  exact ⟨_, _, G, fun G2 => h _ _ _ _ G2⟩
end
end
-- F1
section
set_option maxHeartbeats 1000000
theorem fn_ga : typeLookup (.type "function") "__getattribute__" = pure (some (.builtin "object.__getattribute__")) := by rw [typeLookup_type, builtinLookup_eq_fast]; kernel_rfl
theorem fn_noGetattr : typeLookup (.type "function") "__getattr__" = pure none := by rw [typeLookup_type, builtinLookup_eq_fast]; kernel_rfl
theorem fn_read : typeLookup (.type "function") "read" = pure none := by rw [typeLookup_type, builtinLookup_eq_fast]; kernel_rfl
theorem slot_fn_ga : Slot "function" "__getattribute__" "object.__getattribute__" :=
  .of (owner := "object") (n := "__getattribute__") (by rw [typeLookup_type, builtinLookup_eq_fast]; kernel_rfl) (by decide +kernel) (by decide +kernel) (by decide +kernel)
    (by first | exact .inl (by decide +kernel) | exact .inr (by decide +kernel)) (by rw [isSubtype_type]; kernel_rfl)
theorem entry_oga : entryFor table "object.__getattribute__" = some Builtin.«object.__getattribute__» := entryFor_of_tree (by kernel_rfl)
theorem args_oga (a b : Value) : argsOk "object.__getattribute__" ⟨[a, b], []⟩ := by unfold argsOk; kernel_rfl

section
variable {prog : Program} {w : World} {A : Around} {s : Shared} {E : Value → Shared → Prop}
theorem oga_fn {st sd : Addr} {fd : FuncData} {sl : Array (Option Value)} {es : List DictEntry} {k : Nat} {v : Value} {name : Str} {u : Tok} {Q : Fin → Shared → Prop}
    (hst : s.heap.get? st = some ⟨.type "function", some sd, .func fd, sl⟩) (hsd : s.heap.get? sd = some (dictOf es k)) (hnone : typeLookup (.type "function") name = pure none)
    (hl : getL name es = some (some v)) (h : Q (.done (.ret v)) s) :
    wpAny (model prog w) A (Builtin.«object.__getattribute__» ⟨[.ref st, .str name u], []⟩) Q E s := by
  have hT : s.TypeIs (.ref st) "function" := ⟨_, hst, rfl⟩
  have hnl : nsLook name (dictOf es k) = pure (some v) := nsLook_of hl
  unfold Builtin.«object.__getattribute__»
  repeat (any_goals (first | assumption | wp_step))

theorem getAttr_fn {st sd : Addr} {fd : FuncData} {sl : Array (Option Value)} {es : List DictEntry} {k : Nat} {v : Value} {name : Str} {b : Bool} {Q : Value → Shared → Prop}
    (hst : s.heap.get? st = some ⟨.type "function", some sd, .func fd, sl⟩) (hsd : s.heap.get? sd = some (dictOf es k)) (hnone : typeLookup (.type "function") name = pure none)
    (hl : getL name es = some (some v)) (hv : handedIn v = true) (h : Q v { s with toks := s.toks + 1 }) :
    wpAny (model prog w) A (getAttr (.ref st) name b) Q E s := by
  have hT : ∀ tk, ({ s with toks := tk } : Shared).TypeIs (.ref st) "function" := fun _ => ⟨_, hst, rfl⟩
  unfold getAttr
  refine wpAny_bind (wpAny_mkText ?_)
  unfold getAttrBy
  refine wpAny_holding (wpAny_bind (wpAny_typeOf (hT _) ?_))
  refine wpAny_bind (wpAny_of_eq fn_ga ?_)
  show wpAny _ _ (getAttrByItsOwn _ _ _ _ _ _) _ _ _
  unfold getAttrByItsOwn
  refine wpAny_bind (wpAny_pure ?_)
  refine wpAny_bind (wpAny_attempt (wpAny_holding ?_))
  unfold callGetattribute
  rw [show (b && onTheHeap (Value.builtin "object.__getattribute__")) = false by cases b <;> rfl]
  show wpAny _ _ (boundAndCalled _ _ _) _ _ _
  unfold boundAndCalled
  refine wpAny_bind (wpAny_of_eq (slot_fn_ga.bind (.ref st)) ?_)
  refine wpAny_call_entry slot_fn_ga (hT _) entry_oga (oga_fn (s := { s with toks := s.toks + 1 }) hst hsd hnone hl ⟨v, rfl, ?_⟩) (args_oga _ _)
  show wpAny _ _ (handedOut v) _ _ _
  rw [handedOut_of hv]
  exact wpAny_pure h

theorem getMethod_fn {st sd : Addr} {fd : FuncData} {sl : Array (Option Value)} {es : List DictEntry} {k : Nat} {v : Value} {name : Str} {pl : Sem Bool} {Q : Value × List Value → Shared → Prop}
    (hst : s.heap.get? st = some ⟨.type "function", some sd, .func fd, sl⟩) (hsd : s.heap.get? sd = some (dictOf es k)) (hnone : typeLookup (.type "function") name = pure none)
    (hl : getL name es = some (some v)) (hv : handedIn v = true) (h : Q (v, []) { s with toks := s.toks + 1 }) :
    wpAny (model prog w) A (getMethod (.ref st) name pl) Q E s := by
  have hT : s.TypeIs (.ref st) "function" := ⟨_, hst, rfl⟩
  unfold getMethod
  refine wpAny_bind (wpAny_specialOf hT fn_ga ?_)
  show wpAny _ _ (if (Manifest.canonical "object.__getattribute__" != "object.__getattribute__") = true then _ else _) Q E s
  rw [PySem.F.canon_object_ga, if_neg Bool.false_ne_true]
  refine wpAny_bind (wpAny_specialOf hT fn_noGetattr ?_)
  refine wpAny_bind (wpAny_specialOf hT hnone ?_)
  exact wpAny_bind (getAttr_fn hst hsd hnone hl hv (wpAny_pure h))
end
end
-- M2_1
section
theorem fill2 : hd.heap_1 = hd.heap_1 ∧ PySem.Challenge.rw_pe0228_01 = PySem.Challenge.rw_pe0228_01 := by
  k_fill
  exact ⟨rfl, rfl⟩

theorem upd_at {D : Addr} {o o' : Obj} : ∀ {news : List (Addr × Obj)} {i : Nat}, news[i]? = some (D, o) → (news.map (·.1)).Nodup → Upd D o o' news (news.set i (D, o'))
  | [], _, h, _ => by simp at h
  | p :: r, 0, h, nd => by
    simp only [List.getElem?_cons_zero, Option.some.injEq] at h
    subst h
    rw [List.map_cons, List.nodup_cons] at nd
    exact Upd.head fun q hq e => nd.1 (List.mem_map.mpr ⟨q, hq, e⟩)
  | p :: r, i + 1, h, nd => by
    rw [List.map_cons, List.nodup_cons] at nd
    have h' : r[i]? = some (D, o) := by simpa using h
    refine Upd.tail (fun e => nd.1 ?_) (upd_at h' nd.2)
    rw [e]
    exact List.mem_map.mpr ⟨(D, o), List.mem_of_getElem? h', rfl⟩

/-- the table of a reader's attributes -/
def mes (w : World) (k1 k2 k3 k4 : Tok) (ln : Int) (tl : Tok) (st : Addr) (tw : Tok) (P : Addr) : List DictEntry :=
  [⟨PyData.keyHash w.params "lineno", .str "lineno" k1, .int ln tl⟩, ⟨PyData.keyHash w.params "instream", .str "instream" k2, .ref st⟩,
   ⟨PyData.keyHash w.params "whitespace", .str "whitespace" k3, .str "\n\t\r " tw⟩, ⟨PyData.keyHash w.params "pushback", .str "pushback" k4, .ref P⟩]

/-- what of a reader stays as it is -/
structure Mach (w : World) (fz : List (Addr × Obj)) (x dx st T : Addr) (text : Str) : Prop where
  hx : (x, instObj 76 dx) ∈ fz
  hst : ∃ sd fd sl rf kr c' ca cb oc oca ocb vs qual tq tt doc pm ctv, (st, (⟨.type "function", some sd, .func fd, sl⟩ : Obj)) ∈ fz ∧
    (sd, dictOf [⟨PyData.keyHash w.params "read", .str "read" kr, .ref rf⟩] 1) ∈ fz ∧
    (rf, fnMade (defIn (hd.heap_1 w.params) 254 1).1 qual (defIn (hd.heap_1 w.params) 254 1).2.1 (defIn (hd.heap_1 w.params) 254 1).2.2.1 (defIn (hd.heap_1 w.params) 254 1).2.2.2
      [(Str.ofString "text", ca), (Str.ofString "at", cb)] doc pm c' ctv) ∈ fz ∧
    (c', oc) ∈ fz ∧ oc.data = .fields vs ∧ vs[1]? = some (.str qual tq) ∧ (ca, oca) ∈ fz ∧ oca.data = .cell (some (.str text tt)) ∧ (cb, ocb) ∈ fz ∧ ocb.data = .cell (some (.ref T))
  len : text.length ≤ 1000000

theorem Mach.mono {w : World} {fz fz' : List (Addr × Obj)} {x dx st T : Addr} {text : Str} (H : Mach w fz x dx st T text) (k : ∀ p ∈ fz, p ∈ fz') : Mach w fz' x dx st T text := by
  obtain ⟨hx, ⟨sd, fd, sl, rf, kr, c', ca, cb, oc, oca, ocb, vs, qual, tq, tt, doc, pm, ctv, a1, a2, a3, a4, a5, a6, a7, a8, a9, a10⟩, hl⟩ := H
  exact ⟨k _ hx, ⟨sd, fd, sl, rf, kr, c', ca, cb, oc, oca, ocb, vs, qual, tq, tt, doc, pm, ctv, k _ a1, k _ a2, k _ a3, k _ a4, a5, a6, k _ a7, a8, k _ a9, a10⟩, hl⟩

section
variable {pr : Program} {loose : List Str} {mean : ExcName → Option Value} {mg mb : Str → Option Value} {prog : Program} {w : World} {n : Nat} {A : Around} {env : Env} {L : Addr} {h₀ : Heap}
  {m : Str → Option Value} {news : List (Addr × Obj)} {s : Shared} {E : Value → Shared → Prop}

theorem r_setAttr {K : Frag} {Q : Unit → Shared → Prop} {x dx Cc : Addr} {i k k' : Nat} {es es' : List DictEntry} {name : Str} {v : Value}
    (C : Cx K pr loose mean mg mb n A env L h₀) (G : Lg h₀ L s.heap m news) (hx : (x, instObj Cc dx) ∈ news) (hi : news[i]? = some (dx, dictOf es k))
    (hs : findIn K (.ref Cc) "__setattr__" = some (some (.builtin "object.__setattr__"))) (hp : plainOver K Cc = true) (ht : takerIn K Cc name = some none) (hh : hasDictIn K Cc = true)
    (hl : (getL name es).isSome = true) (e : (putL name (PyData.keyHash w.params name) (.str name (s.toks + 1)) v es, putN name es k) = (es', k')) (hz : es'.length ≤ 1000)
    (h : ∀ h', Lg h₀ L h' m (news.set i (dx, dictOf es' k')) → Q () { s with heap := h', toks := s.toks + 2 }) :
    wpAny (model prog w) A (setAttr (.ref x) name v) Q E s :=
  set_dict G.F C.X G.N (InstAt.of_news G.N hx (List.mem_of_getElem? hi)) rfl hs hp ht hh hl e (upd_at hi G.nd) hz fun h' F' N' => h h' ⟨F', N', by
    rw [List.map_set]
    have : (news.map (·.1)).set i dx = news.map (·.1) := by
      apply List.ext_getElem?
      intro j
      by_cases hj : i = j
      · subst hj
        obtain ⟨hl, he⟩ := List.getElem?_eq_some_iff.mp hi
        rw [List.getElem?_set_self (by simpa using hl), List.getElem?_map, hi]; rfl
      · rw [List.getElem?_set_ne hj]
    rw [this]; exact G.nd⟩

set_option maxHeartbeats 1000000
theorem read_char_code {Q : Value → Shared → Prop} {x dx st T P : Addr} {text : Str} {k1 k2 k3 k4 tl tw tp : Tok} {ln : Int} {p c : Nat} {rest : List (Addr × Obj)}
    (C : Cx (hd.heap_1 w.params) pr loose mean mg mb (n + 2) A env L h₀)
    (G : Lg h₀ L s.heap m ((dx, dictOf (mes w k1 k2 k3 k4 ln tl st tw P) 4) :: (T, listOf #[.int (p : Int) tp] c) :: rest))
    (H : Mach w rest x dx st T text) (hp : p ≤ text.length)
    (h : ∀ h' t t1 t2 t3 ln', ln' = (if sgn text p = "\n" then ln + 1 else ln) → Lg h₀ L h' m ((dx, dictOf (mes w k1 k2 k3 k4 ln' t3 st tw P) 4) :: (T, listOf #[.int ((p : Int) + ((sgn text p).length : Int)) t1] c) :: rest) → Q (.str (sgn text p) t2) { s with heap := h', toks := t }) :
    codeAny (model prog w) A (.call (.ref 59) ⟨[.ref x], []⟩) (RQ Q E) s := by
  obtain ⟨hx, ⟨sd, fd, sl, rf, kr, c', ca, cb, oc, oca, ocb, vs, qual, tq, tt, doc, pm, ctv, a1, a2, a3, a4, a5, a6, a7, a8, a9, a10⟩, hl⟩ := H
  refine enterC (binds := [(Str.ofString "self", .ref x)]) C G (by k_is) (by k_is) (BindsTo.of_eq rfl) (locs rfl) rfl rfl rfl (by decide) ?_
  intro g L' h₁ C st' G
  refine wpAny_execs_cons (wpAny_Assign_Name ?_)
  refine MethodCall_ ?_
  refine Attribute_name ?_
  refine nameX_L G.F rfl ?_
  refine get_own G.F C.X (InstAt.of_news G.N (.tail _ (.tail _ hx)) (.head _)) (by k_is) (by k_is) (by k_is) (by k_is) (by rfl) rfl ?_
  refine getMethod_fn (G.mem (.tail _ (.tail _ a1))) (G.mem (.tail _ (.tail _ a2))) fn_read rfl rfl ?_
  refine callWith_F (FnAt.of G.N (.tail _ (.tail _ a3))) ?_
  refine spliced_more ?_
  refine wpAny_Constant_int ?_
  refine spliced_none ?_
  refine ⟨FnAt.of G.N (.tail _ (.tail _ a3)), ?_⟩
  refine read_on_spec (i := 1) C G (.tail _ (.tail _ a3)) (.tail _ (.tail _ a4)) a5 a6 (.tail _ (.tail _ a7)) a8 (.tail _ (.tail _ a9)) a10 rfl hp hl ?_
  intro h2 t u1 u2 G
  dsimp only [List.set_cons_succ, List.set_cons_zero] at G
  dsimp only
  refine r_store G ?_
  intro h3 G
  dsimp only
  refine wpAny_execs_cons (wpAny_If ?_)
  refine wpAny_isTrue_Compare1 ?_
  refine nameX_L G.F rfl ?_
  refine Calls.Constant_str ?_
  refine eq_str ?_
  refine wpAny_truthy_bool ?_
  by_cases hn : sgn text p = "\n"
  · refine ite_pos (by rw [hn]; exact beq_self_eq_true _) ?_
    refine wpAny_execs_cons (wpAny_AugAssign_AttributeAny ?_)
    refine nameX_L G.F rfl ?_
    refine get_own G.F C.X (InstAt.of_news G.N (.tail _ (.tail _ hx)) (.head _)) (by k_is) (by k_is) (by k_is) (by k_is) (by rfl) rfl ?_
    refine wpAny_Constant_int ?_
    refine iadd_int ?_
    refine r_setAttr (i := 0) C G (.tail _ (.tail _ hx)) rfl (by k_is) (by k_is) (by k_is) (by k_is) rfl rfl (by show (4 : Nat) ≤ 1000; decide) ?_
    intro h4 G
    refine wpAny_execs_nil ?_
    dsimp only
    refine wpAny_execs_cons (wpAny_Return_some ?_)
    refine nameX_L G.F rfl ?_
    exact ⟨_, _, G, fun G2 => h _ _ _ _ _ _ (by rw [if_pos hn]) G2⟩
  · refine ite_neg (fun e => hn (eq_of_beq e)) ?_
    refine wpAny_execs_nil ?_
    dsimp only
    refine wpAny_execs_cons (wpAny_Return_some ?_)
    refine nameX_L G.F rfl ?_
    exact ⟨_, _, G, fun G2 => h _ _ _ _ _ _ (by rw [if_neg hn]) G2⟩
end
end
-- F2
section
set_option maxHeartbeats 1000000
theorem slot_cit_next : Slot "callable_iterator" "__next__" "callable_iterator.__next__" :=
  .of (owner := "callable_iterator") (n := "__next__") (by rw [typeLookup_type, builtinLookup_eq_fast]; kernel_rfl) (by decide +kernel) (by decide +kernel) (by decide +kernel)
    (by first | exact .inl (by decide +kernel) | exact .inr (by decide +kernel)) (by rw [isSubtype_type]; kernel_rfl)
theorem slot_cit_iter : Slot "callable_iterator" "__iter__" "callable_iterator.__iter__" :=
  .of (owner := "callable_iterator") (n := "__iter__") (by rw [typeLookup_type, builtinLookup_eq_fast]; kernel_rfl) (by decide +kernel) (by decide +kernel) (by decide +kernel)
    (by first | exact .inl (by decide +kernel) | exact .inr (by decide +kernel)) (by rw [isSubtype_type]; kernel_rfl)
theorem entry_cit_next : entryFor table "callable_iterator.__next__" = some Builtin.«callable_iterator.__next__» := entryFor_of_tree (by kernel_rfl)
theorem args_cit_next (a : Value) : argsOk "callable_iterator.__next__" ⟨[a], []⟩ := by unfold argsOk; kernel_rfl
theorem args_cit_iter (a : Value) : argsOk "callable_iterator.__iter__" ⟨[a], []⟩ := by unfold argsOk; kernel_rfl

abbrev cit (f sen : Value) (b : Bool) : Obj := { cls := .type "callable_iterator", data := .fields #[f, sen, .bool b] }

section
variable {prog : Program} {w : World} {A : Around} {s : Shared} {E : Value → Shared → Prop}

theorem borrows_method {M : Model} {q f : Addr} {self : Value} {fo : Obj} {fd : FuncData} {Q : Bool → Shared → Prop} (hq : s.heap.get? q = some (methodObj (.ref f) self)) (hf : s.heap.get? f = some fo) (hd : fo.data = .func fd) (h : Q true s) :
    wpAny M A (borrowsExactly (.ref q)) Q E s := by
  unfold borrowsExactly
  refine wpAny_bind (wpAny_load hq ?_)
  show wpAny M A (load f >>= _) Q E s
  refine wpAny_bind (wpAny_load hf ?_)
  rw [hd]
  exact wpAny_pure h

theorem wpAny_callBorrowed {f : Value} {pos : List Value} {Q : Value → Shared → Prop}
    (hc : codeAny (model prog w) A (.call f ⟨pos, []⟩) (fun r s' => match r with | .ok (.ret v) => Q v s' | .ok _ => False | .error e => E e s') s) :
    wpAny (model prog w) A (callBorrowed f pos) Q E s := by
  unfold callBorrowed
  refine X.x_call (hd := none) (codeAny_mono hc ?_) (by intro x; cases x)
  intro r s' z
  rcases r with e | (v | _ | _ | _)
  · exact wpAny_throw z
  · exact z.elim
  · exact z.elim
  · exact z.elim
  · exact wpAny_pure z

theorem stop_it {α : Type} {Q : α → Shared → Prop} {E' : Value → Shared → Prop} (hh : A.handled = none)
    (hE : ∀ e h', s.heap.objs.size ≤ h'.objs.size → (∀ b o, s.heap.get? b = some o → h'.get? b = some o) → (∃ o, h'.get? e = some o ∧ o.cls = .type "StopIteration") → E' (.ref e) { s with heap := h' }) :
    wpAny (model prog w) A (Builtin.SmallTypes.stopIteration : Sem α) Q E' s := by
  unfold Builtin.SmallTypes.stopIteration
  refine wpAny_bind ?_
  simp only [newExc, newTuple]
  refine wpAny_bind (wpAny_newObj_type ?_ (by size_fits))
  refine wpAny_bind (m := firstArgMember _ _) (wpAny_of_eq (a := Value.none) (by first | rfl | (simp only [firstArgMember]; rfl)) ?_)
  refine wpAny_newObj_type ?_ (by size_fits)
  simp only [raiseNew]
  refine wpAny_bind (wpAny_handled ?_)
  rw [hh]
  refine wpAny_bind (wpAny_pure (wpAny_throw (hE _ _ ?_ ?_ ?_)))
  · rw [Heap.size_push, Heap.size_push]; omega
  · exact fun b o e => Heap.get?_push_of_some _ (Heap.get?_push_of_some _ e)
  · exact ⟨_, Heap.get?_push_size _ rfl, rfl⟩

/-- a walk over a callable up to a sentinel, ended before -/
theorem next_cit_over {it : Addr} {f sen : Value} {Q : Option Value → Shared → Prop} (hh : A.handled = none) (hit : s.heap.get? it = some (cit f sen true))
    (hQ : ∀ h', (∀ b o, s.heap.get? b = some o → h'.get? b = some o) → Q none { s with heap := h' }) : wpAny (model prog w) A (pyNext (.ref it)) Q E s := by
  have hT : s.TypeIs (.ref it) "callable_iterator" := ⟨_, hit, rfl⟩
  unfold pyNext
  refine wpAny_bind (wpAny_attempt (wpAny_callSpecial?_slot (name := Str.ofString "__next__") hT slot_cit_next
    (wpAny_call_entry slot_cit_next hT entry_cit_next ?_ (args_cit_next _))))
  show wpAny _ _ (field (.ref it) 2 >>= _) _ _ s
  refine wpAny_bind (wpAny_field hit rfl (x := .bool true) rfl ?_)
  rw [if_pos (by rfl)]
  refine wpAny_bind (wpAny_rule (wpAny_bind (stop_it (A := A.in1) hh ?_)))
  intro e h' _ hk ⟨o, ho, hc⟩
  refine wpAny_bind (wpAny_isInstance (T := "StopIteration") (b := true) ⟨_, ho, hc⟩ isSubtype_stop ?_)
  exact wpAny_pure (hQ _ hk)

/-- one more step of such a walk -/
theorem next_cit {it q f : Addr} {self : Value} {sen : Str} {ts : Tok} {fo : Obj} {fd : FuncData} {Q : Option Value → Shared → Prop} (hh : A.handled = none)
    (hit : s.heap.get? it = some (cit (.ref q) (.str sen ts) false)) (hq : s.heap.get? q = some (methodObj (.ref f) self)) (hf : s.heap.get? f = some fo) (hfd : fo.data = .func fd)
    (hc : codeAny (model prog w) A.in1 (.call (.ref f) ⟨[self], []⟩) (fun r s' => match r with
      | .ok (.ret v) => ∃ x t, v = .str x t ∧ s'.heap.get? it = some (cit (.ref q) (.str sen ts) false) ∧ s'.heap.get? q = some (methodObj (.ref f) self) ∧ s'.heap.get? f = some fo ∧
          (x ≠ sen → Q (some (.str x t)) s') ∧ (x = sen → ∀ h₁ h', Heap.SameBut it s'.heap h₁ → h₁.get? it = some (cit .none .none true) → (∀ b o, h₁.get? b = some o → h'.get? b = some o) → Q none { s' with heap := h' })
      | .ok _ => False
      | .error _ => False) s) : wpAny (model prog w) A (pyNext (.ref it)) Q E s := by
  have hT : s.TypeIs (.ref it) "callable_iterator" := ⟨_, hit, rfl⟩
  unfold pyNext
  refine wpAny_bind (wpAny_attempt (wpAny_callSpecial?_slot (name := Str.ofString "__next__") hT slot_cit_next
    (wpAny_call_entry slot_cit_next hT entry_cit_next ?_ (args_cit_next _))))
  show wpAny _ _ (field (.ref it) 2 >>= _) _ _ s
  refine wpAny_bind (wpAny_field hit rfl (x := .bool false) rfl ?_)
  rw [if_neg (by intro e; cases e)]
  show wpAny _ _ (field (.ref it) 0 >>= _) _ _ s
  refine wpAny_bind (wpAny_field hit rfl (x := .ref q) rfl ?_)
  refine wpAny_bind (wpAny_attempt ?_)
  unfold callOutOfASlot
  refine wpAny_bind (borrows_method hq hf hfd ?_)
  refine wpAny_callBorrowed (method_call hq (codeAny_mono hc ?_))
  intro r s' z
  rcases r with e | (_ | _ | _ | v)
  · exact z.elim
  · exact z.elim
  · exact z.elim
  · exact z.elim
  · obtain ⟨x, t, rfl, i1, i2, i3, z1, z2⟩ := z
    show wpAny _ _ (field (.ref it) 2 >>= _) _ _ s'
    refine wpAny_bind (wpAny_field i1 rfl (x := .bool false) rfl ?_)
    rw [if_neg (by intro e; cases e)]
    show wpAny _ _ (field (.ref it) 1 >>= _) _ _ s'
    refine wpAny_bind (wpAny_field i1 rfl (x := .str sen ts) rfl ?_)
    refine wpAny_bind (wpAny_holding (eqBool_str ?_))
    by_cases hx : x = sen
    · subst hx
      rw [if_neg (by simp)]
      refine wpAny_bind (wpAny_rule ?_)
      refine wpAny_bind ?_
      k_node
      refine wpAny_bind (wpAny_field i1 rfl (x := .ref q) rfl ?_)
      refine wpAny_bind ?_
      unfold slotLetsGo
      refine wpAny_bind (borrows_method i2 i3 hfd ?_)
      refine wpAny_pure ?_
      refine wpAny_bind (wpAny_setField i1 rfl (by simp) ?_)
      refine wpAny_bind (wpAny_setField (Heap.get?_update_self _ i1 rfl) rfl (by simp) ?_)
      refine wpAny_setField (Heap.get?_update_self _ (Heap.get?_update_self _ i1 rfl) rfl) rfl (by simp) ?_
      refine stop_it (A := A.in1) hh ?_
      intro e h' _ hk ⟨o, ho, hc⟩
      refine wpAny_bind (wpAny_isInstance (T := "StopIteration") (b := true) ⟨_, ho, hc⟩ isSubtype_stop ?_)
      refine wpAny_pure (z2 rfl _ _ ?_ ?_ hk)
      · exact ((Heap.SameBut.update ..).trans (Heap.SameBut.update ..)).trans (Heap.SameBut.update ..)
      · exact Heap.get?_update_self _ (Heap.get?_update_self _ (Heap.get?_update_self _ i1 rfl) rfl) rfl
    · rw [if_pos (by simpa using fun e => hx e.symm)]
      exact wpAny_bind (wpAny_pure (wpAny_pure ⟨_, rfl, wpAny_pure (z1 hx)⟩))
end
end
-- F3
section
set_option maxHeartbeats 1000000
theorem kind_iter : builtinKind "iter" = none := by decide +kernel
theorem plain_iter : plainId "iter" = true := by decide +kernel
theorem entry_iter : entryFor table "iter" = some Builtin.«iter» := entryFor_of_tree (by kernel_rfl)
theorem args_iter2 (a b : Value) : argsOk "iter" ⟨[a, b], []⟩ := by unfold argsOk; kernel_rfl
theorem meth_call : typeLookup (.type "method") "__call__" = pure (some (.builtin "method.__call__")) := by rw [typeLookup_type, builtinLookup_eq_fast]; kernel_rfl
theorem entry_cit_iter : entryFor table "callable_iterator.__iter__" = some Builtin.«dict_keyiterator.__iter__» :=
  entryFor_alias (id' := "dict_keyiterator.__iter__") (by kernel_rfl) rfl (by decide +kernel) (by kernel_rfl)
section
variable {prog : Program} {w : World} {A : Around} {s : Shared} {E : Value → Shared → Prop}
theorem r_iter2 {q : Addr} {f self sen : Value} {Q : Value → Shared → Prop} (hq : s.heap.get? q = some (methodObj f self))
    (h : Q (.ref s.heap.objs.size) { s with heap := s.heap.push (cit (.ref q) sen false) }) : wpAny (model prog w) A (call (.builtin "iter") [.ref q, sen]) Q E s := by
  have hT : s.TypeIs (.ref q) "method" := ⟨_, hq, rfl⟩
  refine Calls.call_function_entry kind_iter plain_iter entry_iter (args_iter2 _ _) ?_
  unfold Builtin.«iter»
  refine wpAny_bind (wpAny_of_eq (a := [.ref q, sen]) (by rfl) ?_)
  refine wpAny_bind (wpAny_specialOf hT meth_call ?_)
  refine wpAny_bind (wpAny_rule (wpAny_bind (wpAny_newObj_type (wpAny_pure ⟨_, rfl, h⟩))))
theorem iter_cit {it : Addr} {f sen : Value} {b : Bool} {Q : Value → Shared → Prop} (hit : s.heap.get? it = some (cit f sen b)) (h : Q (.ref it) s) :
    wpAny (model prog w) A (pyIter (.ref it)) Q E s := by
  have hT : s.TypeIs (.ref it) "callable_iterator" := ⟨_, hit, rfl⟩
  refine wpAny_pyIter_slot hT slot_cit_iter (wpAny_call_entry slot_cit_iter hT entry_cit_iter ?_ (args_cit_iter _))
  show wpAny _ _ (ret (.ref it)) _ _ s
  exact wpAny_pure ⟨_, rfl, "callable_iterator", _, hT, slot_cit_next.lookup, h⟩

/-- a for whose turns raise nothing -/
theorem forL {target : PySem.Expr} {it : Value} {body : List Stmt} {env : Env} {Q : Flow → Shared → Prop} (I : Nat → Shared → Prop)
    (turn : ∀ n s, I n s → wpAny (model prog w) A (pyNext it) (fun r s₁ => match r with
      | none => Q .next s₁
      | some v => wpAny (model prog w) A (assign target env v) (fun _ s₂ => wpAny (model prog w) A (execs body env) (fun f s₃ => match f with
          | .next | .cont => ∃ m, m < n ∧ I m s₃
          | .brk => Q .next s₃
          | .ret v => Q (.ret v) s₃) (fun _ _ => False) s₂) (fun _ _ => False) s₁) (fun _ _ => False) s)
    (n : Nat) (h : I n s) (ht : ∀ v, letOwnedTupleGo target it v = pure () := by intro _; rfl) :
    codeAny (model prog w) A (.forLoop target it body [] env) (fun r s' => match r with | .ok f => Q f s' | .error e => cameBackBy (model prog w) A env E e s') s := by
  refine codeAny_forLoop I (fun n s hI => wpAny_mono (turn n s hI) (fun r s₁ h₁ => ?_) fun _ _ x => x.elim) n h ht
  cases r with
  | none => exact wpAny_execs_nil h₁
  | some v => exact wpAny_mono h₁ (fun _ s₂ h₂ => wpAny_mono h₂ (fun f s₃ h₃ => by cases f <;> exact h₃) fun _ _ x => x.elim) fun _ _ x => x.elim

end
end
-- L1_1
section
section
variable {K : Frag} {pr : Program} {loose : List Str} {mean : ExcName → Option Value} {mg mb : Str → Option Value} {prog : Program} {w : World} {n : Nat} {A : Around} {env : Env} {L : Addr} {h₀ : Heap}
  {m : Str → Option Value} {news : List (Addr × Obj)} {s : Shared} {E : Value → Shared → Prop}

/-- the end of a turn: the iterator lies where it lay, the invariant holds -/
def TurnEnd (h₀ : Heap) (L : Addr) (s : Shared) (I : Addr) (oI : Obj) (J : (Str → Option Value) → List (Addr × Obj) → Prop) (Q : Flow → Shared → Prop) (f : Flow) (s₃ : Shared) : Prop :=
  match f with
  | .next | .cont => ∃ h' t m' nw, s₃ = { s with heap := h', toks := t } ∧ Lg h₀ L h' m' ((I, oI) :: nw) ∧ J m' nw
  | .brk => Q .next s₃
  | .ret v => Q (.ret v) s₃

theorem lg_but {h h' : Heap} {I : Addr} (G : Lg h₀ L h m news) (hk : ∀ b o, b ∉ [I] → h.get? b = some o → h'.get? b = some o) (hL : L ≠ I) (hI : h₀.get? I = none) (off : ∀ p ∈ news, p.1 ≠ I) : Lg h₀ L h' m news :=
  ⟨LCg.fr_but G.F hk hL hI, LCg.news_but G.N hk off, G.nd⟩

theorem for_walk {target : PySem.Expr} {body : List Stmt} {I : Addr} {fp : List Addr} {N : Nat} {P : Nat → Value → Prop} {St : Nat → Heap → Prop} {S : List (Addr × Obj) → Prop} {Q : Flow → Shared → Prop}
    (W : Walks prog w A I fp [I] N P St)
    (hgo : ∀ i v (s : Shared) (Q : Unit → Shared → Prop) (E : Value → Shared → Prop), St i s.heap → Q () s → wpAny (model prog w) A (letOwnedTupleGo target (.ref I) v) Q E s)
    (hIo : ∀ i h, St i h → ∃ o, h.get? I = some o)
    (hSt : ∀ i h h' o nw, St i h → h.get? I = some o → h'.get? I = some o → (∀ b o, h₀.get? b = some o → h'.get? b = some o) → News h₀ L h' nw → S nw → St i h')
    (J : Nat → (Str → Option Value) → List (Addr × Obj) → Prop) (hJS : ∀ i m nw, J i m nw → S nw)
    (hI0 : h₀.get? I = none) (hIL : L ≠ I) (G : Lg h₀ L s.heap m news) (hoff : ∀ p ∈ news, p.1 ≠ I) (hst : St 0 s.heap) (h0 : J 0 m news)
    (turn : ∀ i v h' t m' nw oI, i < N → P i v → J i m' nw → Lg h₀ L h' m' ((I, oI) :: nw) →
      wpAny (model prog w) A (assign target env v) (fun _ s₂ => wpAny (model prog w) A (execs body env) (TurnEnd h₀ L s I oI (J (i + 1)) Q) (fun _ _ => False) s₂) (fun _ _ => False) { s with heap := h', toks := t })
    (hend : ∀ h' t m' nw, J N m' nw → Lg h₀ L h' m' nw → Q .next { s with heap := h', toks := t }) :
    codeAny (model prog w) A (.forLoop target (.ref I) body [] env) (fun r s' => match r with | .ok f => Q f s' | .error e => cameBackBy (model prog w) A env E e s') s := by
  refine codeAny_forLoop_any (fun k s' => ∃ i h' t m' nw, s' = { s with heap := h', toks := t } ∧ Lg h₀ L h' m' nw ∧ (∀ p ∈ nw, p.1 ≠ I) ∧ St i h' ∧ J i m' nw ∧ i ≤ N ∧ k = N - i) ?_ N ⟨0, _, _, m, news, rfl, G, hoff, hst, h0, Nat.zero_le _, rfl⟩
  rintro k s' ⟨i, h', t, m', nw, rfl, G', off, st, hJ, hi, rfl⟩
  by_cases hlt : i < N
  · refine W.item i _ _ _ hlt st fun v h₁ tk hP st₁ hk => ?_
    refine hgo (i + 1) v _ _ _ st₁ ?_
    obtain ⟨oI, hoI⟩ := hIo _ _ st₁
    have G₁ : Lg h₀ L h₁ m' nw := lg_but G' hk hIL hI0 off
    have G₂ : Lg h₀ L h₁ m' ((I, oI) :: nw) := by
      refine ⟨G₁.F, fun p hp => ?_, ?_⟩
      · rcases List.mem_cons.mp hp with rfl | hp
        · exact ⟨hoI, fun e => hIL e.symm, hI0⟩
        · exact G₁.N p hp
      · rw [List.map_cons, List.nodup_cons]
        refine ⟨fun hm => ?_, G₁.nd⟩
        obtain ⟨p, hp, e⟩ := List.mem_map.mp hm
        exact off p hp e
    refine wpAny_mono (turn i v h₁ tk m' nw oI hlt hP hJ G₂) (fun _ s₂ h₂ => wpAny_mono h₂ (fun f s₃ h₃ => ?_) fun _ _ x => x.elim) fun _ _ x => x.elim
    have go : (∃ h' t m' nw, s₃ = { s with heap := h', toks := t } ∧ Lg h₀ L h' m' ((I, oI) :: nw) ∧ J (i + 1) m' nw) → ∃ m, m < N - i ∧ ∃ i h' t m' nw, s₃ = { s with heap := h', toks := t } ∧ Lg h₀ L h' m' nw ∧ (∀ p ∈ nw, p.1 ≠ I) ∧ St i h' ∧ J i m' nw ∧ i ≤ N ∧ m = N - i := by
      rintro ⟨h'', t'', m'', nw', rfl, G₃, hJ₃⟩
      have nd := G₃.nd
      rw [List.map_cons, List.nodup_cons] at nd
      exact ⟨N - (i + 1), by omega, i + 1, h'', t'', m'', nw', rfl, G₃.sub (List.sublist_cons_self _ _), fun p hp e => nd.1 (List.mem_map.mpr ⟨p, hp, e⟩),
        hSt _ _ _ oI nw' st₁ hoI (G₃.mem (.head _)) G₃.F.keep (fun p hp => G₃.N p (.tail _ hp)) (hJS _ _ _ hJ₃), hJ₃, by omega, rfl⟩
    cases f with
    | next => exact go h₃
    | cont => exact go h₃
    | brk => exact h₃
    | ret v => exact h₃
  · have hin : i = N := by omega
    subst hin
    refine W.done _ _ _ st fun h₁ tk₁ hk₁ => wpAny_execs_nil ?_
    exact hend _ _ _ _ hJ (lg_but G' hk₁ hIL hI0 off)

/-- over a list of the ledger or of the heap that the frame found -/
theorem for_list {target : PySem.Expr} {body : List Stmt} {l : Addr} {its : Array Value} {Q : Flow → Shared → Prop} (hh : A.handled = none) (G : Lg h₀ L s.heap m news)
    (J : Nat → (Str → Option Value) → List (Addr × Obj) → Prop) (hJS : ∀ i m nw, J i m nw → LCg.SrcAt h₀ l its nw) (h0 : J 0 m news)
    (turn : ∀ I i v h' t m' nw oI, i < its.size → its[i]? = some v → J i m' nw → Lg h₀ L h' m' ((I, oI) :: nw) →
      wpAny (model prog w) A (assign target env v) (fun _ s₂ => wpAny (model prog w) A (execs body env) (TurnEnd h₀ L s I oI (J (i + 1)) Q) (fun _ _ => False) s₂) (fun _ _ => False) { s with heap := h', toks := t })
    (hend : ∀ h' t m' nw, J its.size m' nw → Lg h₀ L h' m' nw → Q .next { s with heap := h', toks := t }) :
    wpAny (model prog w) A (pyIter (.ref l)) (fun it s₂ => codeAny (model prog w) A (.forLoop target it body [] env) (fun r s' => match r with | .ok f => Q f s' | .error e => cameBackBy (model prog w) A env E e s') s₂) E s := by
  have hl := (hJS _ _ _ h0).list G.F.keep G.N
  have hlt : l < s.heap.objs.size := by obtain ⟨_, e, _⟩ := hl; exact Heap.lt_size e
  refine wpAny_pyIter_list hl ?_
  refine for_walk (S := LCg.SrcAt h₀ l its) (Walks.list hh s.heap.objs.size l (Nat.ne_of_lt hlt) its) (fun i v s Q E st q => letGo_listiter st.1 q) (fun i h st => by obtain ⟨o, e, _⟩ := st.1; exact ⟨o, e⟩) LCg.list_st J hJS
    (next_is_new G.F) (Nat.ne_of_lt G.F.ns.lt) (G.sub (List.Sublist.refl _) |> fun G => ⟨G.F.push _, G.N.grown fun _ _ e => Heap.get?_push_of_some _ e, G.nd⟩) (fun p hp => Nat.ne_of_lt (Heap.lt_size (G.N p hp).1)) ⟨⟨_, Heap.get?_push_size _ rfl, rfl, rfl⟩, hl.push _⟩ h0 ?_ ?_
  · intro i v h' t m' nw oI hi hv hJ G'
    exact turn _ i v h' t m' nw oI hi hv hJ G'
  · exact hend
end
end
-- L2_1
section
section
variable {K : Frag} {pr : Program} {loose : List Str} {mean : ExcName → Option Value} {mg mb : Str → Option Value} {prog : Program} {w : World} {n : Nat} {A : Around} {env : Env} {L : Addr} {h₀ : Heap}
  {m : Str → Option Value} {news : List (Addr × Obj)} {s : Shared} {E : Value → Shared → Prop}

theorem cells_apart : ∀ (names : List (Str × NameKind)) (k : Nat) (acc : List (Str × Addr)) (lo : Nat), (acc.map (·.2)).Nodup → (∀ p ∈ acc, lo ≤ p.2 ∧ p.2 < k) → lo ≤ k →
    ((cellsFrom k names acc).map (·.2)).Nodup ∧ ∀ p ∈ cellsFrom k names acc, lo ≤ p.2
  | [], _, _, _, h, hb, _ => ⟨h, fun p hp => (hb p hp).1⟩
  | (y, kd) :: r, k, acc, lo, h, hb, hl => by
    unfold cellsFrom
    split
    · refine cells_apart r (k + 1) _ lo ?_ ?_ (Nat.le_succ_of_le hl)
      · rw [List.map_cons, List.nodup_cons]
        refine ⟨fun hm => ?_, h⟩
        obtain ⟨p, hp, e⟩ := List.mem_map.mp hm
        have := (hb p hp).2
        exact absurd this (by rw [e]; exact Nat.lt_irrefl _)
      · intro p hp
        rcases List.mem_cons.mp hp with rfl | hp
        · exact ⟨hl, Nat.lt_succ_self _⟩
        · exact ⟨(hb p hp).1, Nat.lt_succ_of_lt (hb p hp).2⟩
    · exact cells_apart r k acc lo h hb hl
theorem cells_map {cm : Str → Option Value} : ∀ {cs : List (Str × Addr)} {cells : List (Addr × Obj)}, CellsAre cm cs cells → cells.map (·.1) = cs.map (·.2)
  | _, _, .nil => rfl
  | _, _, .cons _ r => by rw [List.map_cons, List.map_cons, cells_map r]

theorem enterLC {Q : Value → Shared → Prop} {name qual : Str} {params : Arguments} {body : List Stmt} {scope : Scope} {dV kV doc pm cdv ct oc : Value} {an od : Option Addr} {osl : Array (Option Value)} {f : Addr}
    {args : List Value} {kw : List (Str × Value)} {binds : List (Str × Value)}
    (C : Cx K pr loose mean mg mb (n + 1) A env L h₀) (G : Lg h₀ L s.heap m news)
    (ho : K.lookup f = some ⟨oc, od, .func (fnOf name qual params body scope dV kV doc pm an cdv ct), osl⟩) (hcd : codeIn K cdv qual = true)
    (hbind : BindsTo s (fnOf name qual params body scope dV kV doc pm an cdv ct) ⟨args, kw⟩ binds)
    (hkind : ∀ n, ∀ x ∈ binds, scope.names.lookup x.1 = some .local ∨ (scope.names.lookup x.1 = some .cell ∧ ((cellsFrom n scope.names []).lookup x.1).isSome = true))
    (hnd : ((cellsFrom 0 scope.names []).map (·.1)).Nodup)
    (hco : scope.isCoroutine = false) (hgen : scope.isGenerator = false) (hk : scope.kind = .function)
    (h : ∀ g L' h₁ tk cells, Cx K pr loose mean mg mb n (A.deeper (envX qual scope L' f cdv (cellsFrom (L' + 1) scope.names []))) (envX qual scope L' f cdv (cellsFrom (L' + 1) scope.names [])) L' g → h₀.StaysIn g →
      CellsAre (bindC (envX qual scope L' f cdv (cellsFrom (L' + 1) scope.names [])).kindOf binds fun _ => none) (cellsFrom (L' + 1) scope.names []) cells →
      Lg g L' h₁ (bindL (envX qual scope L' f cdv (cellsFrom (L' + 1) scope.names [])).kindOf binds fun _ => none) (cells ++ news) →
      wpAny (model prog w) (A.deeper (envX qual scope L' f cdv (cellsFrom (L' + 1) scope.names []))) (execs body (envX qual scope L' f cdv (cellsFrom (L' + 1) scope.names []))) (fun fl s' => Back h₀ L m g L' Q (rv fl) s') (fun _ _ => False)
        { s with heap := h₁, toks := tk }) :
    codeAny (model prog w) A (.call (.ref f) ⟨args, kw⟩) (RQ Q E) s := by
  obtain ⟨A₀, base, outer, B, hA⟩ := C.B
  have hr : A.depth < recursionLimit := by have := C.dp; show A.depth < 1000; omega
  refine (callX_cells B G.F G.N C.T.nolimit hA C.ef C.ek ((C.X.keeps G.F.keep) _ _ ho) rfl (codeRec_of (C.X.keeps G.F.keep) hcd) hr hbind hkind hnd ?_ hco hgen hk)
  intro g L' h₁ tk cells FG F' N' Y B' st lt
  have C' : Cx K pr loose mean mg mb n (A.deeper (envX qual scope L' f cdv (cellsFrom (L' + 1) scope.names []))) (envX qual scope L' f cdv (cellsFrom (L' + 1) scope.names [])) L' g := by
    refine ⟨⟨A, base, env :: outer, B', Around.frames_deeper hA⟩, rfl, rfl, hk, C.X.keeps st, C.T.keeps st, ?_, ?_, C.hn⟩
    · have := C.dp; show A.depth + 1 + 4 * n < 1000; omega
    · have := C.un; show A.units + 3 + 40 * n < 9900; omega
  have ap := cells_apart scope.names (L' + 1) [] (L' + 1) List.nodup_nil (fun _ h => nomatch h) (Nat.le_refl _)
  have nd : ((cells ++ news).map (·.1)).Nodup := by
    rw [List.map_append, List.nodup_append]
    refine ⟨by rw [cells_map Y]; exact ap.1, G.nd, ?_⟩
    intro a ha b hb e
    subst e
    rw [cells_map Y] at ha
    obtain ⟨p, hp, rfl⟩ := List.mem_map.mp ha
    obtain ⟨q, hq, e⟩ := List.mem_map.mp hb
    have h1 := ap.2 p hp
    have h2 := lt q hq
    rw [e] at h2
    exact absurd (Nat.lt_of_lt_of_le h2 (Nat.le_of_succ_le h1)) (Nat.lt_irrefl _)
  refine wpAny_mono (h g L' h₁ tk cells C' st Y ⟨F', N', nd⟩) (fun fl s' hb => ?_) fun _ _ x => x.elim
  obtain ⟨m', news', G', k⟩ := hb
  refine ⟨L', m', news', G'.F, G'.N, fun F₂ N₂ => ?_⟩
  have := k ⟨F₂, N₂, G'.nd⟩
  cases fl <;> exact this

theorem enterL {Q : Value → Shared → Prop} {name qual : Str} {params : Arguments} {body : List Stmt} {scope : Scope} {dV kV doc pm cdv ct oc : Value} {an od : Option Addr} {osl : Array (Option Value)} {f : Addr}
    {args : List Value} {kw : List (Str × Value)} {binds : List (Str × Value)}
    (C : Cx K pr loose mean mg mb (n + 1) A env L h₀) (G : Lg h₀ L s.heap m news)
    (ho : K.lookup f = some ⟨oc, od, .func (fnOf name qual params body scope dV kV doc pm an cdv ct), osl⟩) (hcd : codeIn K cdv qual = true)
    (hbind : BindsTo s (fnOf name qual params body scope dV kV doc pm an cdv ct) ⟨args, kw⟩ binds)
    (hkind : ∀ n, ∀ x ∈ binds, scope.names.lookup x.1 = some .local ∨ (scope.names.lookup x.1 = some .cell ∧ ((cellsFrom n scope.names []).lookup x.1).isSome = true))
    (hnd : ((cellsFrom 0 scope.names []).map (·.1)).Nodup)
    (hco : scope.isCoroutine = false) (hgen : scope.isGenerator = false) (hk : scope.kind = .function)
    (h : ∀ g L' h₁ tk cells, Cx K pr loose mean mg mb n (A.deeper (envX qual scope L' f cdv (cellsFrom (L' + 1) scope.names []))) (envX qual scope L' f cdv (cellsFrom (L' + 1) scope.names [])) L' g → h₀.StaysIn g →
      CellsAre (bindC (envX qual scope L' f cdv (cellsFrom (L' + 1) scope.names [])).kindOf binds fun _ => none) (cellsFrom (L' + 1) scope.names []) cells →
      Lg g L' h₁ (bindL (envX qual scope L' f cdv (cellsFrom (L' + 1) scope.names [])).kindOf binds fun _ => none) (cells ++ news) →
      wpAny (model prog w) (A.deeper (envX qual scope L' f cdv (cellsFrom (L' + 1) scope.names []))) (execs body (envX qual scope L' f cdv (cellsFrom (L' + 1) scope.names []))) (fun fl s' => Back h₀ L m g L' Q (rv fl) s') (fun _ _ => False)
        { s with heap := h₁, toks := tk }) :
    wpAny (model prog w) A (call (.ref f) args kw) Q E s := wpAny_call (enterLC C G ho hcd hbind hkind hnd hco hgen hk h)

/-- a cell's name stored -/
theorem r_storeC {cn : Str} {cs : Scope} {a : Addr} {ccd : Value} {cl : List (Str × Addr)} {x : Str} {v : Value} {v₀ : Option Value} {c : Addr} {o : Obj} {i : Nat} {M : Model} {Q : Unit → Shared → Prop} (G : Lg h₀ L s.heap m news)
    (hc : cl.lookup x = some c) (hi : news[i]? = some (c, o)) (hd : o.data = .cell v₀)
    (h : ∀ h' o', o'.data = .cell (some v) → Lg h₀ L h' m (news.set i (c, o')) → Q () { s with heap := h' })
    (hk : cs.kind = .function := by rfl) (hx : (envX cn cs L a ccd cl).kindOf x = some .cell := by rfl) : wpAny M A (storeName (envX cn cs L a ccd cl) x v) Q E s := by
  refine wpAny_storeName_cell hk hx hc ⟨o, G.mem (List.mem_of_getElem? hi), hd⟩ fun h' hv hs => ?_
  obtain ⟨o', ho', hd'⟩ := hv
  exact h h' o' hd' (G.set i hi hs ho')

theorem str_any {x : Str} {t : Tok} {Q : Value → Shared → Prop} (hh : A.handled = none)
    (hQ : ∀ (o : Obj) (ty : String), Walks prog w A s.heap.objs.size [s.heap.objs.size] [s.heap.objs.size] x.cps.size (SignAt x) (fun i h => h.IsStrIter s.heap.objs.size ty x t i) → (s.heap.push o).IsStrIter s.heap.objs.size ty x t 0 →
      (ty = "str_ascii_iterator" ∨ ty = "str_iterator") → Q (.ref s.heap.objs.size) { s with heap := s.heap.push o }) : wpAny (model prog w) A (pyIter (.str x t)) Q E s := by
  cases ha : x.cps.all (· < 128)
  · exact wpAny_pyIter_wide ha (hQ _ _ (Walks.strWide hh _ x t) ⟨_, Heap.get?_push_size _ rfl, rfl, rfl⟩ (.inr rfl))
  · exact wpAny_pyIter_ascii ha (hQ _ _ (Walks.strAscii hh _ x t) ⟨_, Heap.get?_push_size _ rfl, rfl, rfl⟩ (.inl rfl))

theorem Lg.more {h : Heap} (G : Lg h₀ L h m news) (o : Obj) : Lg h₀ L (h.push o) m news := ⟨G.F.push _, G.N.grown fun _ _ e => Heap.get?_push_of_some _ e, G.nd⟩

/-- over a text -/
theorem for_str {x : Str} {px : Pos} {y : Str} {t₀ : Tok} {body : List Stmt} {Q : Flow → Shared → Prop} (hh : A.handled = none) (G : Lg h₀ L s.heap m news)
    (J : Nat → (Str → Option Value) → List (Addr × Obj) → Prop) (h0 : J 0 m news)
    (turn : ∀ I i v h' t m' nw oI, i < x.cps.size → SignAt x i v → J i m' nw → Lg h₀ L h' m' ((I, oI) :: nw) →
      wpAny (model prog w) A (assign (.Name y px) env v) (fun _ s₂ => wpAny (model prog w) A (execs body env) (TurnEnd h₀ L s I oI (J (i + 1)) Q) (fun _ _ => False) s₂) (fun _ _ => False) { s with heap := h', toks := t })
    (hend : ∀ h' t m' nw, J x.cps.size m' nw → Lg h₀ L h' m' nw → Q .next { s with heap := h', toks := t }) :
    wpAny (model prog w) A (pyIter (.str x t₀)) (fun it s₂ => codeAny (model prog w) A (.forLoop (.Name y px) it body [] env) (fun r s' => match r with | .ok f => Q f s' | .error e => cameBackBy (model prog w) A env E e s') s₂) E s := by
  refine str_any hh fun o ty W st _ => ?_
  refine for_walk (S := fun _ => True) W (fun i v s Q E st q => wpAny_pure q) (fun i h st => by obtain ⟨o, e, _⟩ := st; exact ⟨o, e⟩) (fun i h h' o nw st e e' _ _ _ => by obtain ⟨o', q, r⟩ := st; rw [e] at q; cases q; exact ⟨o, e', r⟩) J (fun _ _ _ _ => trivial)
    (next_is_new G.F) (Nat.ne_of_lt G.F.ns.lt) (G.more _) (fun p hp => Nat.ne_of_lt (Heap.lt_size (G.N p hp).1)) st h0 ?_ ?_
  · intro i v h' t m' nw oI hi hv hJ G'
    exact turn _ i v h' t m' nw oI hi hv hJ G'
  · exact hend

/-- over a range from 0 -/
theorem for_range {r : Addr} {b : Int} {px : Pos} {y : Str} {t u v' : Tok} {N : Nat} {body : List Stmt} {Q : Flow → Shared → Prop} (hh : A.handled = none) (G : Lg h₀ L s.heap m news)
    (hr : IsRange s.heap r 0 b 1 t u v') (hb : b = (N : Int)) (hN : N < 2 ^ 62)
    (J : Nat → (Str → Option Value) → List (Addr × Obj) → Prop) (h0 : J 0 m news)
    (turn : ∀ I i tv h' t m' nw oI, i < N → J i m' nw → Lg h₀ L h' m' ((I, oI) :: nw) →
      wpAny (model prog w) A (assign (.Name y px) env (.int ((i : Nat) : Int) tv)) (fun _ s₂ => wpAny (model prog w) A (execs body env) (TurnEnd h₀ L s I oI (J (i + 1)) Q) (fun _ _ => False) s₂) (fun _ _ => False) { s with heap := h', toks := t })
    (hend : ∀ h' t m' nw, J N m' nw → Lg h₀ L h' m' nw → Q .next { s with heap := h', toks := t }) :
    wpAny (model prog w) A (pyIter (.ref r)) (fun it s₂ => codeAny (model prog w) A (.forLoop (.Name y px) it body [] env) (fun r s' => match r with | .ok f => Q f s' | .error e => cameBackBy (model prog w) A env E e s') s₂) E s := by
  subst hb
  have hs : Builtin.Range.rangeSize 0 (N : Int) 1 = (N : Int) := by rw [rangeSize_one]; split <;> omega
  refine wpAny_pyIter_range hr (small_one (by decide) (by decide) (by omega) (by omega)) ?_
  refine for_walk (S := fun _ => True) (LCg.range_walks hh 0 N) (fun i v s Q E st q => wpAny_pure q) (fun i h st => ⟨_, st⟩) LCg.range_st J (fun _ _ _ _ => trivial)
    (next_is_new G.F) (Nat.ne_of_lt G.F.ns.lt) (G.more _) (fun p hp => Nat.ne_of_lt (Heap.lt_size (G.N p hp).1)) (by show IsRangeIter _ _ _ _ _; rw [hs]; simpa using Heap.get?_push_size _ rfl) h0 ?_ ?_
  · rintro i v h' t m' nw oI hi ⟨tv, rfl⟩ hJ G'
    rw [Int.zero_add]
    exact turn _ i tv h' t m' nw oI hi hJ G'
  · exact hend
end
end
-- L3_1
section
section
variable {K : Frag} {pr : Program} {loose : List Str} {mean : ExcName → Option Value} {mg mb : Str → Option Value} {prog : Program} {w : World} {n : Nat} {A : Around} {env : Env} {L : Addr} {h₀ : Heap}
  {m : Str → Option Value} {news : List (Addr × Obj)} {s : Shared} {E : Value → Shared → Prop}
open LCg (NsObj lst Off3 Off1)

/-- the end of a turn of a block that makes a list -/
def CT (h₀ : Heap) (L : Addr) (m : Str → Option Value) (s : Shared) (I : Addr) (oI : Obj) (C : Addr) (oC : Obj) (D : Addr) (ys : List Value) (J : List (Addr × Obj) → Prop) (s' : Shared) : Prop :=
  ∃ h t nw, s' = { s with heap := h, toks := t } ∧ Lg h₀ L h m ((I, oI) :: (C, oC) :: (D, lst ys) :: nw) ∧ J nw

theorem lg_of3 {h : Heap} {I C D : Addr} {oI oC oD : Obj} {nw : List (Addr × Obj)} (F : Fr h₀ L h m) (N : News h₀ L h ((I, oI) :: (C, oC) :: (D, oD) :: nw)) (off : Off3 I C D nw) (hne : (@Ne Nat I C) ∧ (@Ne Nat I D) ∧ (@Ne Nat C D)) (nd : (nw.map (·.1)).Nodup) :
    Lg h₀ L h m ((I, oI) :: (C, oC) :: (D, oD) :: nw) := by
  refine ⟨F, N, ?_⟩
  have o := off.mem
  simp only [List.map_cons, List.nodup_cons, List.mem_cons, List.mem_map, not_or]
  refine ⟨⟨hne.1, hne.2.1, ?_⟩, ⟨hne.2.2, ?_⟩, ?_, nd⟩
  · rintro ⟨p, hp, e⟩; exact (o p hp).1 e
  · rintro ⟨p, hp, e⟩; exact (o p hp).2.1 e
  · rintro ⟨p, hp, e⟩; exact (o p hp).2.2 e
theorem off_of3 {h : Heap} {I C D : Addr} {oI oC oD : Obj} {nw : List (Addr × Obj)} (G : Lg h₀ L h m ((I, oI) :: (C, oC) :: (D, oD) :: nw)) : Off3 I C D nw ∧ (nw.map (·.1)).Nodup := by
  have nd := G.nd
  simp only [List.map_cons, List.nodup_cons, List.mem_cons, List.mem_map, not_or] at nd
  refine ⟨Off3.of fun p hp => ⟨fun e => nd.1.2.2 ⟨p, hp, e⟩, fun e => nd.2.1.2 ⟨p, hp, e⟩, fun e => nd.2.2.1 ⟨p, hp, e⟩⟩, nd.2.2.2⟩

/-- what a block's walk needs to know of its source -/
structure Src (prog : Program) (w : World) (A : Around) (h₀ : Heap) (L : Addr) (m : Str → Option Value) (I : Addr) (N : Nat) (P : Nat → Value → Prop) (S : List (Addr × Obj) → Prop) (news : List (Addr × Obj)) (s : Shared) : Prop where
  ex : ∃ fp St, Walks prog w A I fp [I] N P St ∧ (∀ i h, St i h → ∃ o, h.get? I = some o) ∧
    (∀ i h h' o nw, St i h → h.get? I = some o → h'.get? I = some o → (∀ b o, h₀.get? b = some o → h'.get? b = some o) → News h₀ L h' nw → S nw → St i h') ∧ St 0 s.heap ∧ ∀ b ∈ fp, b < s.heap.objs.size
  G : Lg h₀ L s.heap m news
  hL : L ≠ I
  hI : h₀.get? I = none
  off : ∀ p ∈ news, p.1 ≠ I

theorem src_list {l : Addr} {its : Array Value} {Q : Value → Shared → Prop} (hh : A.handled = none) (G : Lg h₀ L s.heap m news) (hS : LCg.SrcAt h₀ l its news)
    (h : ∀ I s₂, (∃ h', s₂ = { s with heap := h' }) → Src prog w A h₀ L m I its.size (fun i v => its[i]? = some v) (LCg.SrcAt h₀ l its) news s₂ → Q (.ref I) s₂) : wpAny (model prog w) A (pyIter (.ref l)) Q E s := by
  have hl := hS.list G.F.keep G.N
  have hlt : l < s.heap.objs.size := by obtain ⟨_, e, _⟩ := hl; exact Heap.lt_size e
  refine wpAny_pyIter_list hl (h _ _ ⟨_, rfl⟩ ⟨⟨_, _, Walks.list hh s.heap.objs.size l (Nat.ne_of_lt hlt) its, (fun i h st => by obtain ⟨o, e, _⟩ := st.1; exact ⟨o, e⟩), LCg.list_st, ⟨⟨_, Heap.get?_push_size _ rfl, rfl, rfl⟩, hl.push _⟩, fun b hb => ?_⟩, G.more _, Nat.ne_of_lt G.F.ns.lt, next_is_new G.F, fun p hp => Nat.ne_of_lt (Heap.lt_size (G.N p hp).1)⟩)
  show b < (s.heap.push _).objs.size
  rw [Heap.size_push]
  rcases List.mem_cons.mp hb with rfl | hb
  · exact Nat.lt_succ_self _
  · rw [List.mem_singleton.mp hb]; exact Nat.lt_succ_of_lt hlt
theorem src_range {r : Addr} {b : Int} {t u v' : Tok} {N : Nat} {Q : Value → Shared → Prop} (hh : A.handled = none) (G : Lg h₀ L s.heap m news) (hr : IsRange s.heap r 0 b 1 t u v') (hb : b = (N : Int)) (hN : N < 2 ^ 62)
    (h : ∀ I s₂, (∃ h', s₂ = { s with heap := h' }) → Src prog w A h₀ L m I N (fun i v => ∃ t, v = .int (0 + (i : Int)) t) (fun _ => True) news s₂ → Q (.ref I) s₂) : wpAny (model prog w) A (pyIter (.ref r)) Q E s := by
  subst hb
  have hs : Builtin.Range.rangeSize 0 (N : Int) 1 = (N : Int) := by rw [rangeSize_one]; split <;> omega
  refine wpAny_pyIter_range hr (small_one (by decide) (by decide) (by omega) (by omega)) (h _ _ ⟨_, rfl⟩ ⟨⟨_, _, LCg.range_walks hh 0 N, fun i h st => ⟨_, st⟩, LCg.range_st, ?_, fun b hb => ?_⟩, G.more _, Nat.ne_of_lt G.F.ns.lt, next_is_new G.F, fun p hp => Nat.ne_of_lt (Heap.lt_size (G.N p hp).1)⟩)
  · show IsRangeIter _ _ _ _ _; rw [hs]; simpa using Heap.get?_push_size _ rfl
  · rw [List.mem_singleton.mp hb]
    show s.heap.objs.size < (s.heap.push _).objs.size
    rw [Heap.size_push]; exact Nat.lt_succ_self _
theorem off1_mem {D : Addr} : ∀ {l : List (Addr × Obj)}, Off1 D l → ∀ p ∈ l, p.1 ≠ D
  | [], _, _, h => nomatch h
  | _ :: _, x, p, h => by
    rcases List.mem_cons.mp h with rfl | h
    · exact x.1
    · exact off1_mem x.2 p h

theorem comp_U {elt iter : PySem.Expr} {x : Str} {px : Pos} {scope : Scope} {cl : List (Str × Addr)} {pos : Pos} {Q : Value → Shared → Prop}
    {news₀ : List (Addr × Obj)} (_G₀ : Lg h₀ L s.heap m news₀) (hclos : closureFor scope env = pure cl) (hcell : ∀ y ∈ scope.names, y.2 ≠ .cell) (hkind : scope.kind = .function)
    (hnames : ∀ y ∈ scope.names, y.2 = .local → scope.names.lookup y.1 = some .local) (hx : scope.names.lookup x = some .local)
    (h : wpAny (model prog w) A (eval iter env) (fun xv s₁ => wpAny (model prog w) A (pyIter xv) (fun it s₂ => ∃ I N P S news, it = .ref I ∧ N ≤ sizeLine ∧ Src prog w A h₀ L m I N P S news s₂ ∧
      ∃ J : Nat → List Value → List (Addr × Obj) → Prop, (∀ i ys nw, J i ys nw → S nw) ∧ J 0 [] news ∧
        (∀ I i v ys h t nw oI C oC D m₂, i < N → P i v → NsObj oC m₂ → m₂ x = some v → J i ys nw → Lg h₀ L h m ((I, oI) :: (C, oC) :: (D, lst ys) :: nw) →
          wpAny (model prog w) A (eval elt (compEnvC scope cl C env)) (fun y s'' => CT h₀ L m s₂ I oI C oC D ys (J (i + 1) (ys ++ [y])) s'') (fun _ _ => False) { s₂ with heap := h, toks := t }) ∧
        ∀ D h t ys nw, J N ys nw → Lg h₀ L h m ((D, lst ys) :: nw) → Q (.ref D) { s₂ with heap := h, toks := t }) E s₁) E s)
    (hs : ∀ x, foldedSetIterable iter env x = pure x := by intro _; rfl) :
    wpAny (model prog w) A (eval (.ListComp elt [⟨.Name x px, iter, [], 0⟩] scope pos) env) Q E s := by
  rw [eval_ListComp]
  refine wpAny_comprehension_free (use := none) rfl hs hclos hkind hnames (wpAny_mono h (fun xv s₁ h₁ => wpAny_mono h₁ (fun it s₂ h₂ => ?_) fun _ _ e => e) fun _ _ e => e)
  obtain ⟨I, N, P, S, news, rfl, hN, Z, J, hJS, h0, turn, fin⟩ := h₂
  obtain ⟨fp, St, W, hIo, hSt, st, hfp⟩ := Z.ex
  refine LCg.block_U (S := fun nw => S nw ∧ (nw.map (·.1)).Nodup) (Fin := fun ys nw => J N ys nw ∧ (nw.map (·.1)).Nodup) W hN hIo (fun i h h' o nw a b c d e f => hSt i h h' o nw a b c d e f.1) hcell hkind hx st hfp Z.G.F Z.G.N Z.hL Z.hI Z.off ⟨hJS _ _ _ h0, Z.G.nd⟩ ?_ ?_
  · have key : ∀ k i ys nw, i + k = N → J i ys nw → (nw.map (·.1)).Nodup → LCg.CompRest prog w A h₀ L m env elt x scope cl s₂ (fun nw => S nw ∧ (nw.map (·.1)).Nodup) P (fun ys nw => J N ys nw ∧ (nw.map (·.1)).Nodup) k i ys nw := by
      intro k
      induction k with
      | zero => intro i ys nw hi hJ nd; have e : i = N := by omega
                subst e; exact ⟨hJ, nd⟩
      | succ k ih =>
        intro i ys nw hi hJ nd
        intro v I' oI C oC D m₂ h t E' hP hO hm F' N' off hne
        refine wpAny_mono (turn I' i v ys h t nw oI C oC D m₂ (by omega) hP hO hm hJ (lg_of3 F' N' off hne nd)) (fun y s'' hct => ?_) fun _ _ z => z.elim
        obtain ⟨h', t', nw', rfl, G', hJ'⟩ := hct
        obtain ⟨o3, nd'⟩ := off_of3 G'
        exact ⟨h', t', nw', rfl, G'.F, G'.N, o3, ⟨hJS _ _ _ hJ', nd'⟩, ih (i + 1) _ nw' (by omega) hJ' nd'⟩
    exact key N 0 [] news (by omega) h0 Z.G.nd
  · intro D C h tk m' ys news' F' N' o1 hn hC₀ hD₀ hCL hDL hCD offC hfin
    refine ⟨m', hn, fun h'' hs'' => fin D h'' tk ys news' hfin.1 ?_⟩
    have N'' : News h₀ L h'' ((D, lst ys) :: news') := fun p hp => by
      refine ⟨hs''.extBut _ _ ?_ (N' p hp).1, (N' p hp).2⟩
      rcases List.mem_cons.mp hp with rfl | hp
      · exact Ne.symm hCD
      · exact offC p hp
    refine ⟨F'.change hs'' hCL hC₀, N'', ?_⟩
    rw [List.map_cons, List.nodup_cons]
    refine ⟨fun hm => ?_, hfin.2⟩
    obtain ⟨p, hp, e⟩ := List.mem_map.mp hm
    exact off1_mem o1 p hp e
end
end
-- S1_1
section
set_option maxHeartbeats 1000000
theorem slot_fn_sa : Slot "function" "__setattr__" "object.__setattr__" :=
  .of (owner := "object") (n := "__setattr__") (by rw [typeLookup_type, builtinLookup_eq_fast]; kernel_rfl) (by decide +kernel) (by decide +kernel) (by decide +kernel)
    (by first | exact .inl (by decide +kernel) | exact .inr (by decide +kernel)) (by rw [isSubtype_type]; kernel_rfl)
theorem fn_mro : mroOf (.type "function") = pure [.type "function", .type "object"] := by kernel_rfl
theorem fn_ref (self : Value) : refuseLoop self "__setattr__" [.type "function", .type "object"] = pure () := by kernel_rfl
section
variable {prog : Program} {w : World} {A : Around} {s : Shared} {E : Value → Shared → Prop}
theorem osa_fn {st : Addr} {fd : FuncData} {v : Value} {name : Str} {u : Tok} {Q : PySem.Fin → Shared → Prop}
    (hst : s.heap.get? st = some ⟨.type "function", none, .func fd, #[]⟩) (hnone : typeLookup (.type "function") name = pure none)
    (h : ∀ h' k, (∀ b o, b ≠ st → s.heap.get? b = some o → h'.get? b = some o) → h'.get? st = some ⟨.type "function", some s.heap.objs.size, .func fd, #[]⟩ →
      h'.get? s.heap.objs.size = some (dictOf [⟨PyData.keyHash w.params name, .str name k, v⟩] 1) → Q (.done (.ret .none)) { s with heap := h', toks := s.toks + 1 }) :
    wpAny (model prog w) A (Builtin.«object.__setattr__» ⟨[.ref st, .str name u, v], []⟩) Q E s := by
  have hT : s.TypeIs (.ref st) "function" := ⟨_, hst, rfl⟩
  rw [osa_eq, refuse_eq]
  refine wpAny_bind (wpAny_bind (wpAny_typeOf hT (wpAny_bind ?_)))
  rw [fn_mro]
  refine wpAny_pure ?_
  try dsimp only
  rw [fn_ref]
  refine wpAny_pure (wpAny_bind (wpAny_typeOf hT ?_))
  rw [hnone]
  refine wpAny_bind (wpAny_pure (wpAny_bind (wpAny_pure ?_)))
  try dsimp only
  unfold Builtin.ObjectAttr.storeInOwnDict
  refine wpAny_bind (wpAny_pure ?_)
  rw [if_neg (by decide)]
  refine wpAny_bind ?_
  unfold Builtin.ObjectAttr.ownDictForStores instanceDict
  try dsimp only
  refine wpAny_bind (wpAny_loadPart hst ?_)
  try dsimp only
  rw [if_neg (by decide)]
  refine wpAny_bind (wpAny_alloc ?_)
  refine wpAny_bind (wpAny_update (o := ⟨.type "function", none, .func fd, #[]⟩) ?_ ?_)
  · show (s.heap.push _).get? st = _
    exact Heap.get?_push_of_some _ hst
  unfold dictMade
  dsimp only
  have hf : finalisedInACycleAlone "function" = false := by decide +kernel
  rw [hf, if_neg Bool.false_ne_true]
  refine wpAny_bind (wpAny_pure (wpAny_pure ?_))
  dsimp only
  have hlt : st < s.heap.objs.size := Heap.lt_size hst
  generalize hH : (s.heap.push ({ cls := .type "dict", data := .dict #[] } : Obj)).update st (fun o => { o with dict := some s.heap.objs.size }) = H
  have hD : H.get? s.heap.objs.size = some ({ cls := .type "dict", data := .dict #[] } : Obj) := by
    rw [← hH, Heap.get?_update_ne _ _ _ _ (Nat.ne_of_gt hlt)]
    exact Heap.get?_push_size _ rfl
  have hS : H.get? st = some ⟨.type "function", some s.heap.objs.size, .func fd, #[]⟩ := by
    rw [← hH]
    exact Heap.get?_update_self _ (Heap.get?_push_of_some _ hst) rfl
  have hK : ∀ b o, b ≠ st → s.heap.get? b = some o → H.get? b = some o := by
    intro b o hb e
    rw [← hH, Heap.get?_update_ne _ _ _ _ hb]
    exact Heap.get?_push_of_some _ e
  unfold Builtin.ObjectAttr.storeInDict
  refine wpAny_bind (wpAny_pure ?_)
  refine wpAny_bind ?_
  unfold nsSet
  refine wpAny_bind (wpAny_bind (wpAny_askSetting (wpAny_pure ?_)))
  refine wpAny_bind (wpAny_mkText ?_)
  refine wpAny_bind (wpAny_loadPart hD ?_)
  try dsimp only
  rw [show aRefKeyMayBeTheName name #[] = false from by rw [aRefKeyMayBeTheName_at]; simp, if_neg Bool.false_ne_true]
  refine wpAny_updatePart hD ?_
  dsimp only
  generalize hH2 : H.update s.heap.objs.size (Obj.putName name (if name.cps.isEmpty = true then 0 else reduceHash ((model prog w).w.params.strHash name.cps)) (.str name s.toks) v) = H2
  have hD2 : H2.get? s.heap.objs.size = some (dictOf [⟨PyData.keyHash w.params name, .str name s.toks, v⟩] 1) := by
    rw [← hH2, Heap.get?_update_self _ hD (by rw [show ({ cls := .type "dict", data := .dict #[] } : Obj) = dictOf [] 0 from rfl, putName_dict]; rfl)]
    rw [show ({ cls := .type "dict", data := .dict #[] } : Obj) = dictOf [] 0 from rfl, putName_dict]
    rfl
  have hne : st ≠ s.heap.objs.size := Nat.ne_of_lt hlt
  refine wpAny_bind ?_
  refine wpAny_lookBehind hD2 (pastItsLine_dict (by rw [sizeLine_eq]; show (1 : Nat) ≤ _; decide)) ?_
  refine wpAny_pure (h _ _ ?_ ?_ hD2)
  · intro b o hb e
    rw [← hH2, Heap.get?_update_ne _ _ _ _ (Nat.ne_of_lt (Heap.lt_size e))]
    exact hK b o hb e
  · rw [← hH2, Heap.get?_update_ne _ _ _ _ hne]
    exact hS

theorem setAttr_fn {st : Addr} {fd : FuncData} {v : Value} {name : Str} {Q : Unit → Shared → Prop}
    (hst : s.heap.get? st = some ⟨.type "function", none, .func fd, #[]⟩) (hnone : typeLookup (.type "function") name = pure none)
    (h : ∀ h' k t, (∀ b o, b ≠ st → s.heap.get? b = some o → h'.get? b = some o) → h'.get? st = some ⟨.type "function", some s.heap.objs.size, .func fd, #[]⟩ →
      h'.get? s.heap.objs.size = some (dictOf [⟨PyData.keyHash w.params name, .str name k, v⟩] 1) → Q () { s with heap := h', toks := t }) :
    wpAny (model prog w) A (setAttr (.ref st) name v) Q E s := by
  have hT : ({ s with toks := s.toks + 1 } : Shared).TypeIs (.ref st) "function" := ⟨_, hst, rfl⟩
  refine wpAny_bind (wpAny_mkText (wpAny_bind ?_))
  refine wpAny_callSpecial?_slot (name := Str.ofString "__setattr__") hT slot_fn_sa (wpAny_call_entry slot_fn_sa hT PySem.F.store_object.entry ?_ (PySem.F.store_object.args _ _ _))
  refine osa_fn (s := { s with toks := s.toks + 1 }) hst hnone ?_
  intro h' k a b c
  refine ⟨_, rfl, wpAny_pure (h _ _ _ a b c)⟩
end
section
variable {prog : Program} {w : World} {A : Around} {s : Shared} {E : Value → Shared → Prop} {L : Addr} {h₀ : Heap} {m : Str → Option Value} {news : List (Addr × Obj)}
theorem r_setFn {st : Addr} {fd : FuncData} {v : Value} {name : Str} {i : Nat} {Q : Unit → Shared → Prop} (G : Lg h₀ L s.heap m news)
    (hi : news[i]? = some (st, ⟨.type "function", none, .func fd, #[]⟩)) (hnone : typeLookup (.type "function") name = pure none)
    (h : ∀ D h' k t, Lg h₀ L h' m ((D, dictOf [⟨PyData.keyHash w.params name, .str name k, v⟩] 1) :: news.set i (st, ⟨.type "function", some D, .func fd, #[]⟩)) → Q () { s with heap := h', toks := t }) :
    wpAny (model prog w) A (setAttr (.ref st) name v) Q E s := by
  have hm := List.mem_of_getElem? hi
  have hst := (G.N _ hm).1
  refine setAttr_fn hst hnone fun h' k t a b c => h s.heap.objs.size h' k t ?_
  have hlt : st < s.heap.objs.size := Heap.lt_size hst
  have hn : h₀.get? s.heap.objs.size = none := next_is_new G.F
  have hL : L < s.heap.objs.size := G.F.ns.lt
  have key : ∀ p ∈ news.set i (st, (⟨.type "function", some s.heap.objs.size, .func fd, #[]⟩ : Obj)), h'.get? p.1 = some p.2 ∧ p.1 ≠ L ∧ h₀.get? p.1 = none := by
    intro p hp
    rcases List.mem_or_eq_of_mem_set hp with hp' | rfl
    · by_cases e : p.1 = st
      · -- the same address stands at place i alone
        obtain ⟨j, hl, hj⟩ := List.getElem_of_mem hp
        rw [List.length_set] at hl
        by_cases hij : i = j
        · subst hij
          have : p = (st, ⟨.type "function", some s.heap.objs.size, .func fd, #[]⟩) := by rw [← hj]; simp
          subst this
          exact ⟨b, (G.N _ hm).2⟩
        · exfalso
          have hj2 : news[j] = p := by rw [← hj, List.getElem_set_ne hij]
          obtain ⟨hli, hei⟩ := List.getElem?_eq_some_iff.mp hi
          have nd := List.pairwise_iff_getElem.mp G.nd
          rcases Nat.lt_or_gt_of_ne hij with q | q
          · exact nd i j (by simpa using hli) (by simpa using hl) q (by simp only [List.getElem_map, hei, hj2, e])
          · exact nd j i (by simpa using hl) (by simpa using hli) q (by simp only [List.getElem_map, hei, hj2, e])
      · exact ⟨a _ _ e (G.N p hp').1, (G.N p hp').2⟩
    · exact ⟨b, (G.N _ hm).2⟩
  have e : (news.set i (st, (⟨.type "function", some s.heap.objs.size, .func fd, #[]⟩ : Obj))).map (·.1) = news.map (·.1) := by
    rw [List.map_set]
    apply List.ext_getElem?
    intro j
    by_cases hj : i = j
    · subst hj
      obtain ⟨hl, he⟩ := List.getElem?_eq_some_iff.mp hi
      rw [List.getElem?_set_self (by simpa using hl), List.getElem?_map, hi]; rfl
    · rw [List.getElem?_set_ne hj]
  refine ⟨LCg.fr_but (I := st) G.F (fun b' o hb e' => a b' o (by simpa using hb) e') (G.N _ hm).2.1.symm (G.N _ hm).2.2, fun p hp => ?_, ?_⟩
  · rcases List.mem_cons.mp hp with rfl | hp
    · exact ⟨c, fun e => absurd hL (by rw [← e]; exact Nat.lt_irrefl _), hn⟩
    · exact key p hp
  · rw [List.map_cons, List.nodup_cons, e]
    refine ⟨fun hx => ?_, G.nd⟩
    obtain ⟨p, hp, e'⟩ := List.mem_map.mp hx
    have := Heap.lt_size (G.N p hp).1
    rw [e'] at this
    exact absurd this (Nat.lt_irrefl _)
end
end
-- R1
section
open PySem.Sre (M)

theorem run_done {m : M} (h : m.outcome.isSome = true) : ∀ n, M.runFor n m = m
  | 0 => rfl
  | n + 1 => by rw [M.runFor, if_pos h]
theorem run_add (a : Nat) : ∀ (b : Nat) (m : M), M.runFor (a + b) m = M.runFor b (M.runFor a m) := by
  induction a with
  | zero => intro b m; rw [Nat.zero_add]; rfl
  | succ a ih =>
    intro b m
    rw [Nat.succ_add, M.runFor, M.runFor]
    split
    · rename_i h; rw [run_done h]
    · exact ih b _
theorem run_to {m m' : M} {k : Nat} (h : M.runFor k m = m') (ho : m'.outcome.isSome = true) {j : Nat} (hj : k ≤ j) : M.runFor j m = m' := by
  obtain ⟨d, rfl⟩ := Nat.le.dest hj
  rw [run_add, h, run_done ho]

section
variable {Mo : Model} {A : Around} {s : Shared} {E : Value → Shared → Prop}
theorem wpAny_reDrive {Q : M → Shared → Prop} {m' : M} (ho : m'.outcome.isSome = true) (h : Q m' s) : ∀ (t k : Nat) (m : M), M.runFor k m = m' → k ≤ 4 * (t + 1) → wpAny Mo A (Builtin.Re.reDrive (t + 1) m) Q E s
  | t, k, m, hk, hle => by
    unfold Builtin.Re.reDrive
    by_cases h4 : (M.runFor Builtin.Re.reTurnSteps m).outcome.isSome = true
    · have e : M.runFor Builtin.Re.reTurnSteps m = m' := by
        have a := run_to (rfl : M.runFor 4 m = _) h4 (j := 4 + k) (by omega)
        have b := run_to hk ho (j := 4 + k) (by omega)
        exact (a.symm.trans b)
      dsimp only
      rw [if_pos h4, e]
      exact wpAny_pure h
    · dsimp only
      rw [if_neg h4]
      refine wpAny_bind (wpAny_rule ?_)
      have hk4 : 4 < k := by
        rcases Nat.lt_or_ge 4 k with q | q
        · exact q
        · exact absurd (by rw [show M.runFor Builtin.Re.reTurnSteps m = m' from run_to hk ho q]; exact ho) h4
      cases t with
      | zero => omega
      | succ t =>
        refine wpAny_reDrive ho h t (k - 4) _ ?_ (by omega)
        rw [← run_add]
        rw [show Builtin.Re.reTurnSteps + (k - 4) = k from by show 4 + (k - 4) = k; omega]
        exact hk

theorem wpAny_rules {α : Type} (f : α → PUnit → Sem (ForInStep PUnit)) (hf : ∀ x u, f x u = pure (.yield ⟨⟩) ∨ ∃ t, f x u = (rule t >>= fun _ => pure (.yield ⟨⟩))) {Q : PUnit → Shared → Prop} (h : Q ⟨⟩ s) (l : List α) :
    wpAny Mo A (forIn l ⟨⟩ f) Q E s := by
  refine wpAny_forIn_list f (fun _ _ s' => s' = s) Q (fun x rest b s' e => ?_) (fun b s' e => e ▸ h) l ⟨⟩ rfl
  subst e
  rcases hf x b with e | ⟨t, e⟩
  · rw [e]; exact wpAny_pure rfl
  · rw [e]; exact wpAny_bind (wpAny_rule (wpAny_pure rfl))

theorem wpAny_reRun {Q : Option M → Shared → Prop} {m m' : M} {k : Nat} (hk : M.runFor k m = m') (hle : k ≤ 2 ^ 60)
    (h : (m'.outcome = some .matched ∧ Q (some m') s) ∨ (m'.outcome = some .failed ∧ Q none s)) : wpAny Mo A (Builtin.Re.reRunToEnd m) Q E s := by
  unfold Builtin.Re.reRunToEnd
  have ho : m'.outcome.isSome = true := by rcases h with ⟨e, _⟩ | ⟨e, _⟩ <;> rw [e] <;> rfl
  refine wpAny_bind (wpAny_reDrive ho ?_ (2 ^ 64 - 1) k m hk (by omega))
  refine wpAny_bind (wpAny_rules _ (fun x u => ?_) ?_ _)
  · split
    · exact .inr ⟨_, rfl⟩
    · exact .inl rfl
  · rcases h with ⟨e, q⟩ | ⟨e, q⟩
    · rw [e]; exact wpAny_pure q
    · rw [e]; exact wpAny_pure q
end
end
-- R2
section
open PySem.Sre (M)

abbrev cName : Array Nat := #[14, 10, 4, 1, 1, 22, 0, 31, 16, 127, 0, 13, 7, 22, 0, 31, 16, 127, 0, 1]
abbrev cVal : Array Nat := #[14, 14, 4, 1, 1, 9, 4294966783, 0, 0, 2147483648, 0, 0, 0, 0, 0, 13, 11, 9, 4294966783, 0, 0, 2147483648, 0, 0, 0, 0, 0, 1]

/-- the machine at the start of a search -/
abbrev M0 (C text : Array Nat) (lim s p : Nat) (must : Bool) (sn : Sre.Seen) : M := { code := C, text := text, lim := lim, start := s, lastStart := lim, pc := p, pos := s, handed := s, marks := #[], mustAdvance := must, seen := sn }
def Starts (C : Array Nat) (p : Nat) : Prop := ∀ (text : Array Nat) (s lim : Nat) (must : Bool),
  (s < lim → ∃ sn, Sre.forSearch C text 0 s lim must = (M0 C text lim s p must sn).attemptFrom s true) ∧ (¬ s < lim → (M.runFor 1 (Sre.forSearch C text 0 s lim must)).outcome = some .failed)
/-- a pattern that is one set of signs -/
structure OneSet (C : Array Nat) (bad : Nat → Bool) (p w : Nat) : Prop where
  srch : Starts C p
  fst : C.getD 2 0 = 4
  inf : Sre.ops[C.getD 0 0]? = some .INFO
  set1 : ∀ c sn, ∃ sn', Sre.inSet C c C.size 5 true sn = .ok (bad c, sn')
  acc : ∀ c sn, ∃ sn', Sre.accepts C p c sn = .ok (bad c, sn')
  op0 : Sre.ops[C.getD p 0]? = some .IN
  wid : Sre.itemWidth C p = w
  op1 : Sre.ops[C.getD (p + w) 0]? = some .SUCCESS
  lt0 : p < C.size
  lt1 : p + w < C.size

def badName (c : Nat) : Bool := decide (c ≤ 31) || c == 127

theorem ex_ok {x : Except String (Bool × Sre.Seen)} {b b' : Bool} {sn : Sre.Seen} (h : x = .ok (b, sn)) (e : b = b') : ∃ sn', x = .ok (b', sn') := ⟨sn, by rw [h, e]⟩
theorem name_set5 (c : Nat) (sn : Sre.Seen) : ∃ sn', Sre.inSet cName c cName.size 5 true sn = .ok (badName c, sn') := by
  have e : Sre.inSet cName c cName.size 5 true sn = (if (decide (0 ≤ c) && decide (c ≤ 31)) = true then _ else if (c == 127) = true then _ else _) := rfl
  by_cases c1 : c ≤ 31
  · rw [if_pos (by simp [c1])] at e
    exact ex_ok e (by simp [badName, c1])
  · rw [if_neg (by simp [c1])] at e
    by_cases c2 : c = 127
    · rw [if_pos (by simp [c2])] at e
      exact ex_ok e (by simp [badName, c2])
    · rw [if_neg (by simp [c2])] at e
      exact ex_ok (e.trans rfl) (by simp [badName, c1, c2])
theorem name_set13 (c : Nat) (sn : Sre.Seen) : ∃ sn', Sre.inSet cName c cName.size 13 true sn = .ok (badName c, sn') := by
  have e : Sre.inSet cName c cName.size 13 true sn = (if (decide (0 ≤ c) && decide (c ≤ 31)) = true then _ else if (c == 127) = true then _ else _) := rfl
  by_cases c1 : c ≤ 31
  · rw [if_pos (by simp [c1])] at e
    exact ex_ok e (by simp [badName, c1])
  · rw [if_neg (by simp [c1])] at e
    by_cases c2 : c = 127
    · rw [if_pos (by simp [c2])] at e
      exact ex_ok e (by simp [badName, c2])
    · rw [if_neg (by simp [c2])] at e
      exact ex_ok (e.trans rfl) (by simp [badName, c1, c2])
theorem starts_name : Starts cName 11 := fun text s lim must => by
  have e : Sre.forSearch cName text 0 s lim must = (if (decide (s > lim) || decide (lim - s < 1)) = true then _ else (M0 cName text lim s 11 must _).attemptFrom s true) := rfl
  refine ⟨fun h => ?_, fun h => ?_⟩
  · rw [if_neg (by simp; omega)] at e
    exact ⟨_, e⟩
  · rw [if_pos (by simp; omega)] at e
    rw [e]; rfl
theorem oneName : OneSet cName badName 11 8 where
  srch := starts_name
  fst := rfl
  inf := rfl
  set1 := name_set5
  acc := fun c sn => name_set13 c sn
  op0 := rfl
  wid := rfl
  op1 := rfl
  lt0 := by decide
  lt1 := by decide

def badVal (c : Nat) : Bool := decide (c < 256) && (cVal.getD (6 + c / 32) 0).testBit (c % 32)
theorem val_w5 : ∀ k < 8, cVal.getD (5 + (1 + k)) 0 = cVal.getD (6 + k) 0 := by decide
theorem val_w17 : ∀ k < 8, cVal.getD (17 + (1 + k)) 0 = cVal.getD (6 + k) 0 := by decide
theorem val_set5 (c : Nat) (sn : Sre.Seen) : ∃ sn', Sre.inSet cVal c cVal.size 5 true sn = .ok (badVal c, sn') := by
  have e : (decide (c < 256) && (cVal.getD (5 + (1 + c / 32)) 0).testBit (c % 32)) = badVal c := by
    unfold badVal
    by_cases h : c < 256
    · rw [val_w5 (c / 32) (by omega)]
    · simp [h]
  have e1 : Sre.inSet cVal c cVal.size 5 true sn = (if (decide (c < 256) && (cVal.getD (5 + (1 + c / 32)) 0).testBit (c % 32)) = true then _ else _) := rfl
  rw [e] at e1
  by_cases h : badVal c = true
  · rw [if_pos h] at e1
    exact ex_ok e1 h.symm
  · rw [if_neg h] at e1
    exact ex_ok (e1.trans rfl) (by simpa using h)
theorem val_set17 (c : Nat) (sn : Sre.Seen) : ∃ sn', Sre.inSet cVal c cVal.size 17 true sn = .ok (badVal c, sn') := by
  have e : (decide (c < 256) && (cVal.getD (17 + (1 + c / 32)) 0).testBit (c % 32)) = badVal c := by
    unfold badVal
    by_cases h : c < 256
    · rw [val_w17 (c / 32) (by omega)]
    · simp [h]
  have e1 : Sre.inSet cVal c cVal.size 17 true sn = (if (decide (c < 256) && (cVal.getD (17 + (1 + c / 32)) 0).testBit (c % 32)) = true then _ else _) := rfl
  rw [e] at e1
  by_cases h : badVal c = true
  · rw [if_pos h] at e1
    exact ex_ok e1 h.symm
  · rw [if_neg h] at e1
    exact ex_ok (e1.trans rfl) (by simpa using h)
theorem starts_val : Starts cVal 15 := fun text s lim must => by
  have e : Sre.forSearch cVal text 0 s lim must = (if (decide (s > lim) || decide (lim - s < 1)) = true then _ else (M0 cVal text lim s 15 must _).attemptFrom s true) := rfl
  refine ⟨fun h => ?_, fun h => ?_⟩
  · rw [if_neg (by simp; omega)] at e
    exact ⟨_, e⟩
  · rw [if_pos (by simp; omega)] at e
    rw [e]; rfl
theorem oneVal : OneSet cVal badVal 15 12 where
  srch := starts_val
  fst := rfl
  inf := rfl
  set1 := val_set5
  acc := fun c sn => val_set17 c sn
  op0 := rfl
  wid := rfl
  op1 := rfl
  lt0 := by decide
  lt1 := by decide

/-- the machine at a place -/
abbrev mAt (C text : Array Nat) (lim q p : Nat) (sn : Sre.Seen) : M := { code := C, text := text, lim := lim, start := q, lastStart := lim, pc := p, pos := q, handed := q, marks := #[], mustAdvance := false, seen := sn, frames := [{ wait := .nextStart, pc := p, pos := q, outermost := true }], weight := 1 }
section
variable {C : Array Nat} {bad : Nat → Bool} {p w : Nat} (O : OneSet C bad p w)
include O
theorem adm_none {m : M} (hc : m.code = C) : ∀ (f s : Nat) (sn : Sre.Seen), (∀ i, s ≤ i → i < m.lim → bad (m.text.getD i 0) = false) → ∃ sn', M.admitted m f s sn = .ok (none, sn')
  | 0, s, sn, _ => ⟨sn, rfl⟩
  | f + 1, s, sn, h => by
    unfold M.admitted
    by_cases hs : s ≥ m.lim
    · rw [if_pos hs]; exact ⟨sn, rfl⟩
    · rw [if_neg hs, hc]
      obtain ⟨sn1, e⟩ := O.set1 (m.text.getD s 0) sn
      rw [e, h s (Nat.le_refl _) (by omega)]
      exact adm_none hc f (s + 1) sn1 fun i hi => h i (by omega)
theorem adm_some {m : M} (hc : m.code = C) {q : Nat} (hq : q < m.lim) (hb : bad (m.text.getD q 0) = true) : ∀ (f s : Nat) (sn : Sre.Seen), s ≤ q → q - s < f → (∀ i, s ≤ i → i < q → bad (m.text.getD i 0) = false) → ∃ sn', M.admitted m f s sn = .ok (some q, sn')
  | 0, s, sn, _, h, _ => by omega
  | f + 1, s, sn, h1, h2, h => by
    unfold M.admitted
    rw [if_neg (by omega), hc]
    obtain ⟨sn1, e⟩ := O.set1 (m.text.getD s 0) sn
    rw [e]
    by_cases hs : s = q
    · subst hs
      rw [hb]
      exact ⟨sn1, rfl⟩
    · rw [h s (Nat.le_refl _) (by omega)]
      exact adm_some hc hq hb f (s + 1) sn1 (by omega) (by omega) fun i hi => h i (by omega)

/-- nothing to be found -/
theorem search_none {text : Array Nat} {s lim : Nat} (h : ∀ i, s ≤ i → i < lim → bad (text.getD i 0) = false) : (M.runFor 1 (Sre.forSearch C text 0 s lim false)).outcome = some .failed := by
  by_cases hs : s < lim
  · obtain ⟨sn, e⟩ := (O.srch text s lim false).1 hs
    rw [e]
    unfold M.attemptFrom
    have hf : (M0 C text lim s p false sn).hasFirstSet = true := by unfold M.hasFirstSet; dsimp only; rw [O.inf, O.fst]; rfl
    rw [if_neg (by rw [hf]; decide)]
    obtain ⟨sn', e⟩ := adm_none O (m := M0 C text lim s p false sn) rfl (lim + 1 - s) s sn h
    rw [e]
    rfl
  · exact (O.srch text s lim false).2 hs

/-- the first sign of the set is found -/
theorem search_some {text : Array Nat} {s lim q : Nat} (hs : s ≤ q) (hq : q < lim) (hb : bad (text.getD q 0) = true) (h : ∀ i, s ≤ i → i < q → bad (text.getD i 0) = false) :
    ∃ m', M.runFor 5 (Sre.forSearch C text 0 s lim false) = m' ∧ m'.outcome = some .matched ∧ m'.start = q ∧ m'.handed = q + 1 ∧ m'.lastmark = -1 := by
  obtain ⟨sn, e⟩ := (O.srch text s lim false).1 (by omega)
  rw [e]
  unfold M.attemptFrom
  have hf : (M0 C text lim s p false sn).hasFirstSet = true := by unfold M.hasFirstSet; dsimp only; rw [O.inf, O.fst]; rfl
  rw [if_neg (by rw [hf]; decide)]
  obtain ⟨sn', e⟩ := adm_some O (m := M0 C text lim s p false sn) rfl hq hb (lim + 1 - s) s sn hs (by omega) h
  rw [e]
  show ∃ m', M.runFor 5 (mAt C text lim q p sn') = m' ∧ _
  have e1 : ∃ sn2, M.step (mAt C text lim q p sn') = { mAt C text lim q p sn' with seen := sn2, pc := p + w, pos := q + 1 } := by
    obtain ⟨sn2, ea⟩ := O.acc (text.getD q 0) (sn'.add (C.getD p 0))
    refine ⟨sn2, ?_⟩
    show (if p < C.size then M.exec _ else _) = _
    rw [if_pos O.lt0]
    unfold M.exec
    simp only [M.word, Nat.add_zero, O.op0]
    rw [if_neg (by show ¬ q ≥ lim; omega), ea, hb]
    simp only [O.wid]
  obtain ⟨sn2, e1⟩ := e1
  have e2 : ∃ sn3, M.step { mAt C text lim q p sn' with seen := sn2, pc := p + w, pos := q + 1 } = { mAt C text lim q p sn' with seen := sn3, pc := p + w, pos := q + 1, handed := q + 1, answer := some true } := by
    refine ⟨sn2.add (C.getD (p + w) 0), ?_⟩
    show (if p + w < C.size then M.exec _ else _) = _
    rw [if_pos O.lt1]
    unfold M.exec
    simp only [M.word, Nat.add_zero, O.op1]
    rfl
  obtain ⟨sn3, e2⟩ := e2
  refine ⟨_, rfl, ?_⟩
  rw [show (5 : Nat) = 1 + (1 + 3) from rfl, run_add, run_add]
  rw [show M.runFor 1 (mAt C text lim q p sn') = M.step (mAt C text lim q p sn') from rfl, e1]
  rw [show M.runFor 1 { mAt C text lim q p sn' with seen := sn2, pc := p + w, pos := q + 1 } = M.step { mAt C text lim q p sn' with seen := sn2, pc := p + w, pos := q + 1 } from rfl, e2]
  exact ⟨rfl, rfl, rfl, rfl⟩
end
end
-- RF
section
set_option maxHeartbeats 1000000
open PySem.Sre (M)
open PySem.Builtin.Re

theorem slot_pat_search : Slot "re.Pattern" "search" "re.Pattern.search" :=
  .of (owner := "re.Pattern") (n := "search") (by rw [typeLookup_type, builtinLookup_eq_fast]; kernel_rfl) (by decide +kernel) (by decide +kernel) (by decide +kernel)
    (by first | exact .inl (by decide +kernel) | exact .inr (by decide +kernel)) (by rw [isSubtype_type]; kernel_rfl)
theorem type_pat_search : typeOf (.builtin "re.Pattern.search") = pure (.type "method_descriptor") := by show builtinType _ = _; rw [builtinType_eq_fast]; kernel_rfl
theorem entry_pat_search : entryFor table "re.Pattern.search" = some Builtin.«re.Pattern.search» := entryFor_of_tree (by kernel_rfl)
theorem args_pat_search (a b : Value) : argsOk "re.Pattern.search" ⟨[a, b], []⟩ := by unfold argsOk; kernel_rfl
theorem slot_pat_sub : Slot "re.Pattern" "sub" "re.Pattern.sub" :=
  .of (owner := "re.Pattern") (n := "sub") (by rw [typeLookup_type, builtinLookup_eq_fast]; kernel_rfl) (by decide +kernel) (by decide +kernel) (by decide +kernel)
    (by first | exact .inl (by decide +kernel) | exact .inr (by decide +kernel)) (by rw [isSubtype_type]; kernel_rfl)
theorem type_pat_sub : typeOf (.builtin "re.Pattern.sub") = pure (.type "method_descriptor") := by show builtinType _ = _; rw [builtinType_eq_fast]; kernel_rfl
theorem entry_pat_sub : entryFor table "re.Pattern.sub" = some Builtin.«re.Pattern.sub» := entryFor_of_tree (by kernel_rfl)
theorem entry_pat_loop : entryFor table "re.Pattern.sub.loop" = some Builtin.«re.Pattern.sub.loop» := entryFor_of_tree (by kernel_rfl)
theorem args_pat_sub (a b c : Value) : argsOk "re.Pattern.sub" ⟨[a, b, c], []⟩ := by unfold argsOk; kernel_rfl
theorem plainAttrs_pat : PlainAttrs "re.Pattern" :=
  ⟨⟨"object.__getattribute__", by rw [typeLookup_type, builtinLookup_eq_fast]; kernel_rfl, by decide +kernel⟩, by rw [typeLookup_type, builtinLookup_eq_fast]; kernel_rfl⟩

end
-- R3
section
set_option maxHeartbeats 1000000
open PySem.Sre (M)
open PySem.Builtin.Re

/-- a compiled pattern without groups, over texts -/
structure PatAt (h : Heap) (pa : Addr) (C : Array Nat) : Prop where
  ex : ∃ v0 v1 v3 v4 t2 t6 ta ot n vs, h.get? pa = some { cls := .type "re.Pattern", data := .fields #[v0, v1, .int 0 t2, v3, v4, .ref ta, .int 0 t6] } ∧ h.get? ta = some ot ∧ ot.data = .seq vs n ∧ (vs.map reRawOf).map (fun x => x.toNat) = C
theorem PatAt.keeps {h h' : Heap} {pa : Addr} {C : Array Nat} (H : PatAt h pa C) (k : ∀ b o, h.get? b = some o → h'.get? b = some o) : PatAt h' pa C := by
  obtain ⟨v0, v1, v3, v4, t2, t6, ta, ot, n, vs, a, b, c, d⟩ := H.ex
  exact ⟨v0, v1, v3, v4, t2, t6, ta, ot, n, vs, k _ _ a, k _ _ b, c, d⟩
theorem PatAt.typ {s : Shared} {pa : Addr} {C : Array Nat} (H : PatAt s.heap pa C) : s.TypeIs (.ref pa) "re.Pattern" := by
  obtain ⟨v0, v1, v3, v4, t2, t6, ta, ot, n, vs, a, b, c, d⟩ := H.ex
  exact ⟨_, a, rfl⟩
section
variable {prog : Program} {w : World} {A : Around} {s : Shared} {E : Value → Shared → Prop}
theorem named_search (x : Value) : reNamed "re.Pattern.search" "search" ["string", "pos", "endpos"] 1 [x] [] = pure [some x, none, none] := by rfl
theorem pat_target {pa : Addr} {C : Array Nat} {x : Str} {t : Tok} {Q : ReTarget → Shared → Prop} (H : PatAt s.heap pa C) (hl : x.length ≤ 1000000)
    (h : Q { pattern := .ref pa, string := .str x t, code := C, text := x.cps, kind := 0, groups := 0, pos := 0, lim := x.cps.size } s) :
    wpAny (model prog w) A (reTarget "re.Pattern.search" "search" ⟨[.ref pa, .str x t], []⟩) Q E s := by
  obtain ⟨v0, v1, v3, v4, t2, t6, ta, ot, n, vs, a, b, c, d⟩ := H.ex
  unfold reTarget
  refine wpAny_bind (m := reNamed "re.Pattern.search" "search" ["string", "pos", "endpos"] 1 [.str x t] []) (wpAny_of_eq (named_search _) ?_)
  refine wpAny_bind (wpAny_pure ?_)
  refine wpAny_bind (wpAny_pure ?_)
  refine wpAny_bind (wpAny_fieldsOf a rfl ?_)
  refine wpAny_bind ?_
  unfold reTextOf
  refine wpAny_bind (wpAny_of_eq (a := some x) (by rfl) ?_)
  refine wpAny_pure ?_
  refine wpAny_bind (wpAny_pure ?_)
  dsimp only
  refine wpAny_bind (m := reRawItems (.ref ta)) ?_
  unfold reRawItems
  refine wpAny_bind (wpAny_seqItems b c ?_)
  refine wpAny_pure ?_
  refine wpAny_pure ?_
  have e1 : ((((some vs).getD #[]).map reRawOf).map fun x => x.toNat) = C := d
  have e2 : min ((2 ^ 63 - 1 : Int)).toNat x.cps.size = x.cps.size := Nat.min_eq_right (by have : x.cps.size ≤ 1000000 := hl; omega)
  have e3 : min ((0 : Int)).toNat x.cps.size = 0 := by simp
  rw [e1, e2, e3]
  exact h

/-- a search by such a pattern for signs of a set: none -/
theorem pat_search_none {pa : Addr} {C : Array Nat} {bad : Nat → Bool} {p0 w0 : Nat} (O : OneSet C bad p0 w0) {x : Str} {t : Tok} {Q : Value → Shared → Prop} (H : PatAt s.heap pa C) (hl : x.length ≤ 1000000)
    (hb : ∀ i, i < x.cps.size → bad (x.cps.getD i 0) = false) (h : Q .none s) : wpAny (model prog w) A (call (.builtin "re.Pattern.search") [.ref pa, .str x t]) Q E s := by
  refine wpAny_call_entry slot_pat_search H.typ entry_pat_search ?_ (args_pat_search _ _)
  unfold Builtin.«re.Pattern.search»
  refine wpAny_bind (pat_target H hl ?_)
  unfold reAnswer
  refine wpAny_bind (wpAny_reRun (m' := _) (k := 1) rfl (by decide) (.inr ⟨search_none O fun i _ hi => hb i hi, ?_⟩))
  exact wpAny_pure ⟨_, rfl, h⟩

/-- .. or one, and a match is made -/
theorem pat_search_some {pa : Addr} {C : Array Nat} {bad : Nat → Bool} {p0 w0 : Nat} (O : OneSet C bad p0 w0) {x : Str} {t : Tok} {Q : Value → Shared → Prop} (H : PatAt s.heap pa C) (hl : x.length ≤ 1000000)
    {i : Nat} (hi : i < x.cps.size) (hb : bad (x.cps.getD i 0) = true)
    (h : ∀ m o h', h'.get? m = some o → o.cls = .type "re.Match" → s.heap.get? m = none → (∀ b o, s.heap.get? b = some o → h'.get? b = some o) → Q (.ref m) { s with heap := h' }) :
    wpAny (model prog w) A (call (.builtin "re.Pattern.search") [.ref pa, .str x t]) Q E s := by
  refine wpAny_call_entry slot_pat_search H.typ entry_pat_search ?_ (args_pat_search _ _)
  unfold Builtin.«re.Pattern.search»
  refine wpAny_bind (pat_target H hl ?_)
  unfold reAnswer
  obtain ⟨q, hq, hbq, hmin⟩ : ∃ q, q < x.cps.size ∧ bad (x.cps.getD q 0) = true ∧ ∀ j, j < q → bad (x.cps.getD j 0) = false := by
    clear h
    induction i using Nat.strongRecOn with
    | ind i ih =>
      by_cases hx : ∃ j, j < i ∧ bad (x.cps.getD j 0) = true
      · obtain ⟨j, hj, hjb⟩ := hx
        exact ih j hj (by omega) hjb
      · exact ⟨i, hi, hb, fun j hj => by
          cases e : bad (x.cps.getD j 0) with
          | false => rfl
          | true => exact absurd ⟨j, hj, e⟩ hx⟩
  obtain ⟨m', e1, e2, e3, e4, e5⟩ := search_some O (Nat.zero_le q) hq hbq fun j _ hj => hmin j hj
  refine wpAny_bind (wpAny_reRun (m' := m') (k := 5) e1 (by decide) (.inl ⟨e2, ?_⟩))
  refine wpAny_bind ?_
  unfold reNewMatch
  refine wpAny_ite (ite_neg (by simp) ?_)
  refine wpAny_bind ?_
  unfold newTuple
  refine wpAny_newObj_type ?_ (by show (2 : Nat) ≤ sizeLine; decide)
  refine wpAny_newObj_type ?_
  refine wpAny_pure ⟨_, rfl, h _ _ _ (Heap.get?_push_size _ rfl) rfl ?_ fun b o e => Heap.get?_push_of_some _ (Heap.get?_push_of_some _ e)⟩
  exact Heap.get?_none_of_le (by dsimp only; rw [Heap.size_push]; omega)
end
end
-- R4_1
section
set_option maxHeartbeats 1000000
open PySem.Sre (M)
open PySem.Builtin.Re

/-- where the next match from a place lies -/
def FindsAt (C text : Array Nat) (s : Nat) : Option (Nat × Nat) → Prop
  | some (a, b) => s ≤ a ∧ a < b ∧ b ≤ text.size ∧ ∃ k m', k ≤ 2 ^ 60 ∧ M.runFor k (Sre.forSearch C text 0 s text.size false) = m' ∧ m'.outcome = some .matched ∧ m'.start = a ∧ m'.handed = b
  | none => ∃ k m', k ≤ 2 ^ 60 ∧ M.runFor k (Sre.forSearch C text 0 s text.size false) = m' ∧ m'.outcome = some .failed
/-- the text with each match replaced -/
def subst (text : Array Nat) (find : Nat → Option (Nat × Nat)) (repl : List Nat) : Nat → Nat → List Nat
  | 0, _ => []
  | f + 1, s => match find s with
    | some (a, b) => (text.extract s a).toList ++ repl ++ subst text find repl f b
    | none => (text.extract s text.size).toList

def cat (ys : List Str) : List Nat := ys.flatMap fun y => y.cps.toList
theorem cat_append (a b : List Str) : cat (a ++ b) = cat a ++ cat b := by simp [cat]
theorem strs_push {its : Array Value} {ys : List Str} {y : Str} {t : Tok} (h : StrsAre its.toList ys) : StrsAre (its.push (.str y t)).toList (ys ++ [y]) := by
  rw [Array.toList_push]
  generalize its.toList = l at h
  induction h with
  | nil => exact .cons y t .nil
  | cons z u _ ih => exact .cons z u ih

theorem strs_len {l : List Value} {ys : List Str} (h : StrsAre l ys) : l.length = ys.length := by
  induction h with
  | nil => rfl
  | cons y t _ ih => simp [ih]
theorem cat_one (y : Str) : cat [y] = y.cps.toList := by simp [cat]
theorem mk_len (l : List Nat) : (⟨l.toArray⟩ : Str).length = l.length := by simp [Str.length]
theorem ext0 (a : Array Nat) : (⟨a.extract 0 0⟩ : Str).length = 0 := by simp [Str.length]
theorem join_cat (a : Array Nat) (ys : List Str) : Txt.join ⟨a.extract 0 0⟩ ys = ⟨(cat ys).toArray⟩ := by
  rw [eq_of_beq (join_plain_closes _ ys)]
  have e : (⟨a.extract 0 0⟩ : Str) = ⟨#[]⟩ := by simp
  rw [e]
  induction ys with
  | nil => rfl
  | cons y r ih =>
    cases r with
    | nil => simp [Str.join, cat]
    | cons z r =>
      show y ++ ⟨#[]⟩ ++ Str.join ⟨#[]⟩ (z :: r) = _
      rw [ih]
      apply Str.ext'
      simp [Str.cps_append, cat]

section
variable {prog : Program} {w : World} {A : Around} {s : Shared} {E : Value → Shared → Prop}
theorem whole_target {pa : Addr} {C : Array Nat} {x : Str} {t : Tok} {Q : ReTarget → Shared → Prop} (H : PatAt s.heap pa C)
    (h : Q { pattern := .ref pa, string := .str x t, code := C, text := x.cps, kind := 0, groups := 0, pos := 0, lim := x.cps.size } s) :
    wpAny (model prog w) A (reWholeTarget (.ref pa) (.str x t)) Q E s := by
  obtain ⟨v0, v1, v3, v4, t2, t6, ta, ot, n, vs, a, b, c, d⟩ := H.ex
  unfold reWholeTarget
  refine wpAny_bind (wpAny_fieldsOf a rfl ?_)
  refine wpAny_bind ?_
  unfold reTextOf
  refine wpAny_bind (wpAny_of_eq (a := some x) (by rfl) ?_)
  refine wpAny_pure ?_
  refine wpAny_bind (wpAny_pure ?_)
  refine wpAny_bind (m := reRawItems (.ref ta)) ?_
  unfold reRawItems
  refine wpAny_bind (wpAny_seqItems b c ?_)
  refine wpAny_pure ?_
  refine wpAny_pure ?_
  have e1 : ((((some vs).getD #[]).map reRawOf).map fun x => x.toNat) = C := d
  rw [e1]
  exact h

theorem mkStr_at {M : Model} {y : Str} {Q : Value → Shared → Prop} (hy : y.length ≤ sizeLine) (h : ∀ t k, Q (.str y t) { s with toks := k }) : wpAny M A (mkStr y) Q E s := by
  unfold mkStr
  rw [if_neg (by omega)]
  exact fun _ _ _ => h _ _

theorem push_at {M : Model} {D : Addr} {its : Array Value} {c : Nat} {v : Value} {Q : Unit → Shared → Prop} (ho : s.heap.get? D = some (W.listOf its c)) (hz : its.size ≤ 4000000)
    (h : ∀ h', Heap.SameBut D s.heap h' → h'.get? D = some (W.listOf (its.push v) (c + 1)) → Q () { s with heap := h' }) : wpAny M A (updateSeq D (·.push v)) Q E s := by
  refine wpAny_updateSeq ho rfl (h _ (Heap.SameBut.update ..) ?_) (Nat.le_trans hz (by decide)) (by rw [Array.size_push]; have : sizeLine = 16777216 := rfl; omega)
  rw [Heap.get?_update_self _ ho (by rw [mapSeq_push]; rfl), mapSeq_push]

theorem sub_loop {pa D : Addr} {C : Array Nat} {x : Str} {tx tr : Tok} {repl : List Nat} {find : Nat → Option (Nat × Nat)} {h0 : Heap} {Q : Value → Shared → Prop} {Ok : Nat → Prop} (HO : ∀ s a b, Ok s → find s = some (a, b) → Ok b) (HF : ∀ s, s ≤ x.cps.size → Ok s → FindsAt C x.cps s (find s)) (hl : x.length ≤ 1000000) (hrl : repl.length ≤ 2) :
    ∀ (f p : Nat) (nn : Int) (its : Array Value) (ys : List Str) (c : Nat) (s : Shared), PatAt h0 pa C → (∀ b o, h0.get? b = some o → s.heap.get? b = some o) → h0.get? D = none → s.heap.get? D = some (W.listOf its c) → StrsAre its.toList ys → Ok p →
      p ≤ x.cps.size → x.cps.size - p < f → ys.length ≤ 2 * p → (ys.map (·.length)).sum ≤ 2 * p →
      (∀ h' t k, (∀ b o, h0.get? b = some o → h'.get? b = some o) → Q (.str ⟨(cat ys ++ subst x.cps find repl f p).toArray⟩ t) { s with heap := h', toks := k }) →
      codeAny (model prog w) A (.builtin "re.Pattern.sub.loop" ⟨[.ref pa, .str x tx, .str ⟨repl.toArray⟩ tr, rawInt 0, rawInt 0, rawInt nn, rawInt p, rawInt p, .bool false, .ref D, .bool false], []⟩) (RQ Q E) s := by
  intro f
  induction f with
  | zero => intro p nn its ys c s _ _ _ _ _ _ _ h; omega
  | succ f ih =>
    intro p nn its ys c s H keep hD ho hs hOk hp hf hn1 hn2 h
    refine codeAny_builtin entry_pat_loop ?_
    unfold Builtin.«re.Pattern.sub.loop»
    refine wpAny_bind (whole_target (H.keeps keep) ?_)
    refine wpAny_ite (ite_pos (by rfl) ?_)
    refine wpAny_bind (wpAny_of_eq (a := ()) (by rfl) ?_)
    refine wpAny_bind (wpAny_ite (ite_neg (by intro e; cases e) ?_))
    unfold reNextFound
    have HFp := HF p hp hOk
    rw [show ((p : Int)).toNat = p from rfl]
    cases hfind : find p with
    | some ab =>
      obtain ⟨a, b⟩ := ab
      rw [hfind] at HFp
      obtain ⟨h1, h2, h3, k, m', hk, e1, e2, e3, e4⟩ := HFp
      refine wpAny_reRun (m' := m') (k := k) e1 hk (.inl ⟨e2, ?_⟩)
      dsimp only
      rw [e3]
      have h3' := h3
      by_cases hpa : p < a
      · refine wpAny_ite (ite_pos hpa ?_)
        have hsl : (⟨x.cps.extract p a⟩ : Str).length = a - p := by show (x.cps.extract p a).size = a - p; rw [Array.size_extract]; omega
        refine wpAny_bind (m := reSlice x.cps 0 p a) (mkStr_at (y := ⟨x.cps.extract p a⟩) (by rw [hsl]; have : x.cps.size ≤ 1000000 := hl; have : sizeLine = 16777216 := rfl; omega) ?_)
        intro t1 k1
        refine wpAny_bind (push_at ho (by rw [← Array.length_toList, strs_len hs]; have : x.cps.size ≤ 1000000 := hl; omega) ?_)
        intro h5 hs5 ho5
        refine wpAny_ite (ite_pos (by rfl) ?_)
        refine wpAny_bind (wpAny_pure ?_)
        refine wpAny_ite (ite_pos (by rfl) ?_)
        refine wpAny_bind (push_at ho5 (by rw [Array.size_push, ← Array.length_toList, strs_len hs]; have : x.cps.size ≤ 1000000 := hl; omega) ?_)
        intro h3 hs3 ho3
        refine wpAny_pure ⟨Code.quiet_builtin _ (by decide +kernel), ?_⟩
        rw [e4, show (b == a) = false by simp; omega]
        refine ih b (nn + 1) _ _ _ _ H (fun bb oo e => (hs3.2 bb (by rintro rfl; rw [hD] at e; cases e)).trans ((fun bb oo e => (hs5.2 bb (by rintro rfl; rw [hD] at e; cases e)).trans (keep bb oo e)) bb oo e)) hD ho3 (strs_push (strs_push hs)) (HO p a b hOk hfind) h3' (by omega) (by simp only [List.length_append, List.length_cons, List.length_nil]; omega) (by simp only [List.map_append, List.sum_append, List.map_cons, List.map_nil, List.sum_cons, List.sum_nil, hsl, mk_len]; omega) ?_
        intro h4 t4 k4 hk4
        have := h h4 t4 k4 hk4
        rw [show cat ys ++ subst x.cps find repl (f + 1) p = cat (ys ++ [⟨x.cps.extract p a⟩] ++ [⟨repl.toArray⟩]) ++ subst x.cps find repl f b from by simp only [cat_append, cat_one, subst, hfind, List.append_assoc]] at this
        exact this

      · refine wpAny_ite (ite_neg hpa ?_)
        have hpa' : p = a := by omega
        refine wpAny_ite (ite_pos (by rfl) ?_)
        refine wpAny_bind (wpAny_pure ?_)
        refine wpAny_ite (ite_pos (by rfl) ?_)
        refine wpAny_bind (push_at ho (by rw [← Array.length_toList, strs_len hs]; have : x.cps.size ≤ 1000000 := hl; omega) ?_)
        intro h3 hs3 ho3
        refine wpAny_pure ⟨Code.quiet_builtin _ (by decide +kernel), ?_⟩
        rw [e4, show (b == a) = false by simp; omega]
        refine ih b (nn + 1) _ _ _ _ H (fun bb oo e => (hs3.2 bb (by rintro rfl; rw [hD] at e; cases e)).trans (keep bb oo e)) hD ho3 (strs_push hs) (HO p a b hOk hfind) h3' (by omega) (by simp only [List.length_append, List.length_cons, List.length_nil]; omega) (by simp only [List.map_append, List.sum_append, List.map_cons, List.map_nil, List.sum_cons, List.sum_nil, mk_len]; omega) ?_
        intro h4 t4 k4 hk4
        have := h h4 t4 k4 hk4
        rw [show cat ys ++ subst x.cps find repl (f + 1) p = cat (ys ++ [⟨repl.toArray⟩]) ++ subst x.cps find repl f b from by simp only [cat_append, cat_one, subst, hfind, List.append_assoc]; rw [hpa']; simp] at this
        exact this
    | none =>
      rw [hfind] at HFp
      obtain ⟨k, m', hk, e1, e2⟩ := HFp
      refine wpAny_reRun (m' := m') (k := k) e1 hk (.inr ⟨e2, ?_⟩)
      dsimp only
      by_cases hpl : p < x.cps.size
      · refine wpAny_ite (ite_pos hpl ?_)
        have hsl : (⟨x.cps.extract p x.cps.size⟩ : Str).length = x.cps.size - p := by show (x.cps.extract p x.cps.size).size = _; rw [Array.size_extract]; omega
        refine wpAny_bind (m := reSlice x.cps 0 p x.cps.size) (mkStr_at (y := ⟨x.cps.extract p x.cps.size⟩) (by rw [hsl]; have : x.cps.size ≤ 1000000 := hl; have : sizeLine = 16777216 := rfl; omega) ?_)
        intro t1 k1
        refine wpAny_bind (push_at ho (by rw [← Array.length_toList, strs_len hs]; have : x.cps.size ≤ 1000000 := hl; omega) ?_)
        intro h5 hs5 ho5
        refine wpAny_bind (m := reSlice x.cps 0 0 0) (mkStr_at (y := ⟨x.cps.extract 0 0⟩) (by show (x.cps.extract 0 0).size ≤ sizeLine; rw [Array.size_extract]; have : sizeLine = 16777216 := rfl; omega) ?_)
        intro t7 k7
        refine wpAny_bind (wpAny_seqItems ho5 rfl ?_)

        refine wpAny_ite (ite_neg ?_ ?_)
        · simp
        refine wpAny_bind (join_list (ys := (ys ++ [⟨x.cps.extract p x.cps.size⟩])) ⟨_, ho5, rfl, _, rfl⟩ (strs_push hs) (by have : x.cps.size ≤ 1000000 := hl; simp only [List.map_append, List.sum_append, List.map_cons, List.map_nil, List.sum_cons, List.sum_nil, hsl, ext0, List.length_append, List.length_cons, List.length_nil]; omega) ?_)
        intro t8 k8
        refine wpAny_ite (ite_neg (by intro e; cases e) ?_)
        refine wpAny_pure ?_
        have := h _ t8 k8 (fun bb oo e => (hs5.2 bb (by rintro rfl; rw [hD] at e; cases e)).trans (keep bb oo e))
        rw [show (⟨(cat ys ++ subst x.cps find repl (f + 1) p).toArray⟩ : Str) = Txt.join ⟨x.cps.extract 0 0⟩ (ys ++ [⟨x.cps.extract p x.cps.size⟩]) from by rw [join_cat, cat_append, cat_one]; simp only [subst, hfind]] at this
        exact this

      · refine wpAny_ite (ite_neg hpl ?_)
        have hpl' : p = x.cps.size := by omega
        have hsub : subst x.cps find repl (f + 1) p = [] := by simp only [subst, hfind]; rw [hpl']; simp
        refine wpAny_bind (m := reSlice x.cps 0 0 0) (mkStr_at (y := ⟨x.cps.extract 0 0⟩) (by show (x.cps.extract 0 0).size ≤ sizeLine; rw [Array.size_extract]; have : sizeLine = 16777216 := rfl; omega) ?_)
        intro t7 k7
        refine wpAny_bind (wpAny_seqItems ho rfl ?_)

        cases ys with
        | nil =>
          have hits : its = #[] := by cases its; cases hs; rfl
          subst hits
          refine wpAny_ite (ite_pos (by rfl) ?_)
          refine wpAny_bind (wpAny_pure ?_)
          refine wpAny_ite (ite_neg (by intro e; cases e) ?_)
          refine wpAny_pure ?_
          have := h _ t7 k7 keep
          rw [show (⟨(cat ([] : List Str) ++ subst x.cps find repl (f + 1) p).toArray⟩ : Str) = ⟨x.cps.extract 0 0⟩ from by rw [hsub]; simp [cat]] at this
          exact this
        | cons y0 ys0 =>
          refine wpAny_ite (ite_neg ?_ ?_)
          · intro e; have := strs_len hs; simp at e; subst e; simp at this
          refine wpAny_bind (join_list (ys := (y0 :: ys0)) ⟨_, ho, rfl, _, rfl⟩ hs (by have : x.cps.size ≤ 1000000 := hl; simp only [ext0]; omega) ?_)
          intro t8 k8
          refine wpAny_ite (ite_neg (by intro e; cases e) ?_)
          refine wpAny_pure ?_
          have := h _ t8 k8 keep
          rw [show (⟨(cat (y0 :: ys0) ++ subst x.cps find repl (f + 1) p).toArray⟩ : Str) = Txt.join ⟨x.cps.extract 0 0⟩ (y0 :: ys0) from by rw [join_cat, hsub, List.append_nil]] at this
          exact this
end
end
-- R5_1
section
set_option maxHeartbeats 1000000
open PySem.Sre (M)
open PySem.Builtin.Re
theorem str_nocall : typeLookup (.type "str") "__call__" = pure none := by rw [typeLookup_type, builtinLookup_eq_fast]; kernel_rfl
theorem named_sub (x y : Value) : reNamed "re.Pattern.sub" "sub" ["repl", "string", "count"] 2 [x, y] [] = pure [some x, some y, none] := by rfl
section
variable {prog : Program} {w : World} {A : Around} {s : Shared} {E : Value → Shared → Prop}
theorem pat_subO {Ok : Nat → Prop} {pa : Addr} {C : Array Nat} {x : Str} {tx tr : Tok} {repl : List Nat} {find : Nat → Option (Nat × Nat)} {Q : Value → Shared → Prop} (H : PatAt s.heap pa C) (h0 : Ok 0) (HO : ∀ s a b, Ok s → find s = some (a, b) → Ok b) (HF : ∀ s, s ≤ x.cps.size → Ok s → FindsAt C x.cps s (find s))
    (hl : x.length ≤ 1000000) (hrl : repl.length ≤ 2) (hb : (!(repl.toArray.contains 92)) = true)
    (h : ∀ h' t k, (∀ b o, s.heap.get? b = some o → h'.get? b = some o) → Q (.str ⟨(subst x.cps find repl (x.cps.size + 1) 0).toArray⟩ t) { s with heap := h', toks := k }) :
    wpAny (model prog w) A (call (.builtin "re.Pattern.sub") [.ref pa, .str ⟨repl.toArray⟩ tr, .str x tx]) Q E s := by
  refine wpAny_call (codeAny_call_builtin slot_pat_sub.plain entry_pat_sub (slot_pat_sub.check _ _ _ _ _ _ _ _ H.typ (args_pat_sub _ _ _) ?_))
  unfold Builtin.«re.Pattern.sub» reSubstitute
  refine wpAny_bind (m := reNamed "re.Pattern.sub" "sub" ["repl", "string", "count"] 2 [.str ⟨repl.toArray⟩ tr, .str x tx] []) (wpAny_of_eq (named_sub _ _) ?_)
  refine wpAny_bind (wpAny_pure ?_)
  refine wpAny_bind (wpAny_specialOf (typeIs_str s _ _) str_nocall ?_)
  refine wpAny_ite (ite_neg (by intro e; cases e) ?_)
  refine wpAny_bind ?_
  refine wpAny_bind (wpAny_of_eq (a := some (Str.mk repl.toArray)) (by rfl) ?_)
  refine wpAny_pure ?_
  refine wpAny_bind (wpAny_pure ?_)
  refine wpAny_ite (ite_neg (by intro e; cases e) ?_)
  refine wpAny_ite (ite_pos hb ?_)
  refine wpAny_bind (wpAny_pure ?_)
  refine wpAny_bind (wpAny_holding (whole_target H ?_))
  refine wpAny_ite (ite_neg (by intro e; cases e) ?_)
  refine wpAny_bind ?_
  unfold newList
  refine wpAny_newObj_type ?_ (by show (0 : Nat) ≤ sizeLine; decide)
  refine wpAny_pure ⟨Code.quiet_builtin _ (by decide +kernel), ?_⟩
  refine sub_loop (h0 := s.heap) HO HF hl hrl (x.cps.size + 1) 0 0 #[] [] 0 _ H (fun b o e => Heap.get?_push_of_some _ e) (Heap.get?_none_of_le (Nat.le_refl _)) (Heap.get?_push_size _ rfl) .nil h0 (Nat.zero_le _) (by omega) (by simp) (by simp) ?_
  intro h' t k hk
  exact h h' t k hk
theorem pat_sub {pa : Addr} {C : Array Nat} {x : Str} {tx tr : Tok} {repl : List Nat} {find : Nat → Option (Nat × Nat)} {Q : Value → Shared → Prop} (H : PatAt s.heap pa C) (HF : ∀ s, s ≤ x.cps.size → FindsAt C x.cps s (find s))
    (hl : x.length ≤ 1000000) (hrl : repl.length ≤ 2) (hb : (!(repl.toArray.contains 92)) = true)
    (h : ∀ h' t k, (∀ b o, s.heap.get? b = some o → h'.get? b = some o) → Q (.str ⟨(subst x.cps find repl (x.cps.size + 1) 0).toArray⟩ t) { s with heap := h', toks := k }) :
    wpAny (model prog w) A (call (.builtin "re.Pattern.sub") [.ref pa, .str ⟨repl.toArray⟩ tr, .str x tx]) Q E s := pat_subO (Ok := fun _ => True) H True.intro (fun _ _ _ _ _ => True.intro) (fun s hs _ => HF s hs) hl hrl hb h
end
end
-- R6_1
section
set_option maxHeartbeats 1000000
open PySem.Sre (M)

abbrev cDot : Array Nat := #[14, 4, 0, 1, 1, 6, 1, 16, 46, 1]
/-- does a row begin here -/
def bol (text : Array Nat) (q : Nat) : Bool := q == 0 || text.getD (q - 1) 0 == 10
abbrev dAt (text : Array Nat) (lim q : Nat) (f : Bool) (sn : Sre.Seen) : M := { code := cDot, text := text, lim := lim, start := q, lastStart := lim, pc := 5, pos := q, handed := q, outermost := f, marks := #[], seen := sn, frames := [{ wait := .nextStart, pc := 5, pos := q, outermost := f }], weight := 1 }

theorem dot_starts (text : Array Nat) (s lim : Nat) : (s < lim → ∃ sn, Sre.forSearch cDot text 0 s lim false = dAt text lim s true sn) ∧ (¬ s < lim → (M.runFor 1 (Sre.forSearch cDot text 0 s lim false)).outcome = some .failed) := by
  have e : Sre.forSearch cDot text 0 s lim false = (if (decide (s > lim) || decide (lim - s < 1)) = true then _ else dAt text lim s true _) := rfl
  refine ⟨fun h => ?_, fun h => ?_⟩
  · rw [if_neg (by simp; omega)] at e
    exact ⟨_, e⟩
  · rw [if_pos (by simp; omega)] at e
    rw [e]; rfl

section
variable {text : Array Nat} {lim q : Nat} {f : Bool} {sn : Sre.Seen}
theorem dot_at (text : Array Nat) (lim q : Nat) (f : Bool) (sn : Sre.Seen) : ∃ sn', M.step (dAt text lim q f sn) = (if bol text q = true then { dAt text lim q f sn with seen := sn', pc := 7 } else { dAt text lim q f sn with seen := sn', answer := some false }) := ⟨_, rfl⟩
theorem dot_lit (text : Array Nat) (lim q : Nat) (f : Bool) (sn : Sre.Seen) : ∃ sn', M.step { dAt text lim q f sn with pc := 7 } = (if q ≥ lim then { dAt text lim q f sn with seen := sn', pc := 7, answer := some false } else
    if (text.getD q 0 == 46) = true then { dAt text lim q f sn with seen := sn', pc := 9, pos := q + 1 } else { dAt text lim q f sn with seen := sn', pc := 7, answer := some false }) := by
  have e : ∃ sn', M.step { dAt text lim q f sn with pc := 7 } = (if q ≥ lim then { dAt text lim q f sn with seen := sn', pc := 7, answer := some false } else
    (match (Except.ok (text.getD q 0 == 46, sn') : Except String (Bool × Sre.Seen)) with
      | .error why => ({ dAt text lim q f sn with seen := sn', pc := 7 } : M).stick why
      | .ok (false, sn1) => { dAt text lim q f sn with seen := sn1, pc := 7, answer := some false }
      | .ok (true, sn1) => { dAt text lim q f sn with seen := sn1, pc := 9, pos := q + 1 })) := ⟨_, rfl⟩
  obtain ⟨sn', e⟩ := e
  refine ⟨sn', e.trans ?_⟩
  cases text.getD q 0 == 46 <;> rfl

/-- no match here: on to the next place -/
theorem dot_on (hq : q < lim) (hn : (bol text q && text.getD q 0 == 46) = false) : ∃ k sn', k ≤ 3 ∧ M.runFor k (dAt text lim q f sn) = dAt text lim (q + 1) false sn' := by
  obtain ⟨s1, e1⟩ := dot_at text lim q f sn
  have back : ∀ sn2 pc, M.step { dAt text lim q f sn2 with pc := pc, answer := some false } = dAt text lim (q + 1) false sn2 := by
    intro sn2 pc
    have e : M.step { dAt text lim q f sn2 with pc := pc, answer := some false } = (if q < lim then dAt text lim (q + 1) false sn2 else _) := rfl
    rw [e, if_pos hq]
  cases hb : bol text q with
  | false =>
    rw [hb, if_neg Bool.false_ne_true] at e1
    refine ⟨2, s1, by omega, ?_⟩
    show M.runFor 1 (M.step (dAt text lim q f sn)) = _
    rw [e1]
    exact back s1 5
  | true =>
    rw [hb, if_pos rfl] at e1
    rw [hb, Bool.true_and] at hn
    obtain ⟨s2, e2⟩ := dot_lit text lim q f s1
    rw [if_neg (by omega), if_neg (by rw [hn]; decide)] at e2
    refine ⟨3, s2, by omega, ?_⟩
    show M.runFor 2 (M.step (dAt text lim q f sn)) = _
    rw [e1]
    show M.runFor 1 (M.step { dAt text lim q f s1 with pc := 7 }) = _
    rw [e2]
    exact back s2 7
/-- a match here -/
theorem dot_hit (hq : q < lim) (hn : (bol text q && text.getD q 0 == 46) = true) : ∃ m', M.runFor 5 (dAt text lim q f sn) = m' ∧ m'.outcome = some .matched ∧ m'.start = q ∧ m'.handed = q + 1 := by
  obtain ⟨hb, hc⟩ := Bool.and_eq_true_iff.mp hn
  obtain ⟨s1, e1⟩ := dot_at text lim q f sn
  rw [if_pos hb] at e1
  obtain ⟨s2, e2⟩ := dot_lit text lim q f s1
  rw [if_neg (by omega), if_pos hc] at e2
  refine ⟨_, rfl, ?_⟩
  rw [show M.runFor 5 (dAt text lim q f sn) = M.runFor 4 (M.step (dAt text lim q f sn)) from rfl, e1]
  rw [show M.runFor 4 { dAt text lim q f s1 with pc := 7 } = M.runFor 3 (M.step { dAt text lim q f s1 with pc := 7 }) from rfl, e2]
  cases f <;> exact ⟨rfl, rfl, rfl⟩
/-- the text's end -/
theorem dot_end : ∃ m', M.runFor 4 (dAt text lim lim f sn) = m' ∧ m'.outcome = some .failed := by
  obtain ⟨s1, e1⟩ := dot_at text lim lim f sn
  have back : ∀ sn2 pc, M.step { dAt text lim lim f sn2 with pc := pc, answer := some false } = { dAt text lim lim f sn2 with frames := [], weight := 0, answer := some false } := by
    intro sn2 pc
    have e : M.step { dAt text lim lim f sn2 with pc := pc, answer := some false } = (if lim < lim then _ else { dAt text lim lim f sn2 with frames := [], weight := 0, answer := some false }) := rfl
    rw [e, if_neg (by omega)]
  refine ⟨_, rfl, ?_⟩
  rw [show M.runFor 4 (dAt text lim lim f sn) = M.runFor 3 (M.step (dAt text lim lim f sn)) from rfl, e1]
  cases hb : bol text lim with
  | false =>
    rw [if_neg Bool.false_ne_true]
    rw [show M.runFor 3 { dAt text lim lim f s1 with answer := some false } = M.runFor 2 (M.step { dAt text lim lim f s1 with pc := 5, answer := some false }) from rfl, back s1 5]
    rfl
  | true =>
    rw [if_pos rfl]
    obtain ⟨s2, e2⟩ := dot_lit text lim lim f s1
    rw [if_pos (by omega)] at e2
    rw [show M.runFor 3 { dAt text lim lim f s1 with pc := 7 } = M.runFor 2 (M.step { dAt text lim lim f s1 with pc := 7 }) from rfl, e2]
    rw [show M.runFor 2 { dAt text lim lim f s2 with pc := 7, answer := some false } = M.runFor 1 (M.step { dAt text lim lim f s2 with pc := 7, answer := some false }) from rfl, back s2 7]
    rfl
end
end
-- R7_1
section
set_option maxHeartbeats 1000000
open PySem.Sre (M)

def dfind (text : Array Nat) : Nat → Nat → Option (Nat × Nat)
  | 0, _ => none
  | f + 1, q => if (bol text q && text.getD q 0 == 46) = true then some (q, q + 1) else dfind text f (q + 1)
def dotFind (text : Array Nat) (s : Nat) : Option (Nat × Nat) := dfind text (text.size - s) s
/-- the dot at the head of each row doubled; b: a row begins -/
def dbl : Bool → List Nat → List Nat
  | _, [] => []
  | b, c :: r => (if (b && c == 46) = true then [46, 46] else [c]) ++ dbl (c == 10) r

theorem dot_runs (text : Array Nat) : ∀ (f q : Nat) (b : Bool) (sn : Sre.Seen), q + f = text.size → match dfind text f q with
    | some (a, e) => q ≤ a ∧ a < e ∧ e ≤ text.size ∧ ∃ k m', k ≤ 3 * f + 5 ∧ M.runFor k (dAt text text.size q b sn) = m' ∧ m'.outcome = some .matched ∧ m'.start = a ∧ m'.handed = e
    | none => ∃ k m', k ≤ 3 * f + 5 ∧ M.runFor k (dAt text text.size q b sn) = m' ∧ m'.outcome = some .failed
  | 0, q, b, sn, h => by
    have e : q = text.size := by omega
    subst e
    obtain ⟨m', e1, e2⟩ := dot_end (text := text) (lim := text.size) (f := b) (sn := sn)
    exact ⟨4, m', by omega, e1, e2⟩
  | f + 1, q, b, sn, h => by
    unfold dfind
    by_cases hm : (bol text q && text.getD q 0 == 46) = true
    · rw [if_pos hm]
      obtain ⟨m', e1, e2, e3, e4⟩ := dot_hit (f := b) (sn := sn) (show q < text.size by omega) hm
      exact ⟨Nat.le_refl _, by omega, by omega, 5, m', by omega, e1, e2, e3, e4⟩
    · rw [if_neg hm]
      obtain ⟨k, s1, hk, e1⟩ := dot_on (f := b) (sn := sn) (show q < text.size by omega) (Bool.not_eq_true _ |>.mp hm)
      have ih := dot_runs text f (q + 1) false s1 (by omega)
      cases hd : dfind text f (q + 1) with
      | some ab =>
        obtain ⟨a, e⟩ := ab
        rw [hd] at ih
        obtain ⟨i1, i2, i3, k', m', hk', j1, j2, j3, j4⟩ := ih
        exact ⟨by omega, i2, i3, k + k', m', by omega, by rw [run_add, e1, j1], j2, j3, j4⟩
      | none =>
        rw [hd] at ih
        obtain ⟨k', m', hk', j1, j2⟩ := ih
        exact ⟨k + k', m', by omega, by rw [run_add, e1, j1], j2⟩

theorem dot_finds (text : Array Nat) (hl : text.size ≤ 1000000) (s : Nat) (hs : s ≤ text.size) : FindsAt cDot text s (dotFind text s) := by
  unfold dotFind
  by_cases h : s < text.size
  · obtain ⟨sn, e⟩ := (dot_starts text s text.size).1 h
    have r := dot_runs text (text.size - s) s true sn (by omega)
    cases hd : dfind text (text.size - s) s with
    | some ab =>
      obtain ⟨a, b⟩ := ab
      rw [hd] at r
      obtain ⟨i1, i2, i3, k', m', hk', j1, j2, j3, j4⟩ := r
      exact ⟨i1, i2, i3, k', m', by omega, by rw [e, j1], j2, j3, j4⟩
    | none =>
      rw [hd] at r
      obtain ⟨k', m', hk', j1, j2⟩ := r
      exact ⟨k', m', by omega, by rw [e, j1], j2⟩
  · rw [show text.size - s = 0 by omega]
    exact ⟨1, _, by decide, rfl, (dot_starts text s text.size).2 h⟩

theorem bol_next (text : Array Nat) (q : Nat) : bol text (q + 1) = (text.getD q 0 == 10) := by simp [bol]
theorem drop_cons {text : Array Nat} {q : Nat} (h : q < text.size) : text.toList.drop q = text.getD q 0 :: text.toList.drop (q + 1) := by
  rw [List.drop_eq_getElem_cons (by simpa using h)]
  congr 1
  rw [Array.getD_eq_getD_getElem?, Array.getElem?_eq_getElem h]
  simp
theorem ext_nil (text : Array Nat) (q : Nat) : (text.extract q q).toList = [] := by simp
theorem ext_cons {text : Array Nat} {q a : Nat} (h : q < a) (ha : a ≤ text.size) : (text.extract q a).toList = text.getD q 0 :: (text.extract (q + 1) a).toList := by
  rw [Array.toList_extract, Array.toList_extract]
  simp only [List.extract_eq_take_drop]
  rw [drop_cons (show q < text.size by omega)]
  rw [show a - q = (a - (q + 1)) + 1 by omega, List.take_succ_cons]

theorem dbl_find (text : Array Nat) : ∀ (f q : Nat), q + f = text.size → match dfind text f q with
    | some (a, e) => e = a + 1 ∧ q ≤ a ∧ a < text.size ∧ dbl (bol text q) (text.toList.drop q) = (text.extract q a).toList ++ [46, 46] ++ dbl (bol text e) (text.toList.drop e)
    | none => dbl (bol text q) (text.toList.drop q) = (text.extract q text.size).toList
  | 0, q, h => by
    have e : q = text.size := by omega
    subst e
    show dbl _ (text.toList.drop text.size) = (text.extract text.size text.size).toList
    rw [show text.toList.drop text.size = [] by simp]
    simp [dbl]
  | f + 1, q, h => by
    have hq : q < text.size := by omega
    unfold dfind
    by_cases hm : (bol text q && text.getD q 0 == 46) = true
    · rw [if_pos hm]
      refine ⟨rfl, Nat.le_refl _, hq, ?_⟩
      rw [drop_cons hq, dbl, if_pos hm, ext_nil, bol_next]
      rfl
    · rw [if_neg hm]
      have ih := dbl_find text f (q + 1) (by omega)
      cases hd : dfind text f (q + 1) with
      | some ab =>
        obtain ⟨a, e⟩ := ab
        rw [hd] at ih
        obtain ⟨i0, i1, i2, i3⟩ := ih
        refine ⟨i0, by omega, i2, ?_⟩
        rw [drop_cons hq, dbl, if_neg hm, ← bol_next, i3, ext_cons (show q < a by omega) (by omega)]
        simp
      | none =>
        rw [hd] at ih
        show dbl _ _ = _
        rw [drop_cons hq, dbl, if_neg hm, ← bol_next, ih, ext_cons hq (Nat.le_refl _)]
        rfl

theorem dot_subst (text : Array Nat) : ∀ (f p : Nat), p ≤ text.size → text.size - p < f → subst text (dotFind text) [46, 46] f p = dbl (bol text p) (text.toList.drop p)
  | 0, p, _, h => by omega
  | f + 1, p, hp, h => by
    have r := dbl_find text (text.size - p) p (by omega)
    unfold subst
    rw [show dotFind text p = dfind text (text.size - p) p from rfl]
    cases hd : dfind text (text.size - p) p with
    | some ab =>
      obtain ⟨a, e⟩ := ab
      rw [hd] at r
      obtain ⟨i0, i1, i2, i3⟩ := r
      dsimp only
      rw [dot_subst text f e (by omega) (by omega), i3]
    | none =>
      rw [hd] at r
      exact r.symm
/-- the whole text -/
theorem dot_sub_is (text : Array Nat) : subst text (dotFind text) [46, 46] (text.size + 1) 0 = dbl true text.toList := by
  rw [dot_subst text (text.size + 1) 0 (Nat.zero_le _) (by omega)]
  rfl
end
-- R8_1
section
set_option maxHeartbeats 1000000
open PySem.Sre (M)

abbrev cNl : Array Nat := #[14, 9, 4, 1, 2, 16, 10, 16, 13, 0, 7, 7, 16, 13, 16, 10, 15, 18, 5, 16, 10, 15, 13, 11, 16, 13, 5, 5, 0, 16, 10, 1, 15, 2, 0, 1]
def isNl (c : Nat) : Bool := c == 10 || c == 13
theorem nl_set (c : Nat) (sn : Sre.Seen) : ∃ sn', Sre.inSet cNl c cNl.size 5 true sn = .ok (isNl c, sn') := by
  have e : Sre.inSet cNl c cNl.size 5 true sn = (if (c == 10) = true then _ else if (c == 13) = true then _ else _) := rfl
  by_cases c1 : c = 10
  · rw [if_pos (by simp [c1])] at e
    exact ex_ok e (by simp [isNl, c1])
  · rw [if_neg (by simp [c1])] at e
    by_cases c2 : c = 13
    · rw [if_pos (by simp [c2])] at e
      exact ex_ok e (by simp [isNl, c2])
    · rw [if_neg (by simp [c2])] at e
      exact ex_ok (e.trans rfl) (by simp [isNl, c1, c2])
theorem nl_starts : Starts cNl 10 := fun text s lim must => by
  have e : Sre.forSearch cNl text 0 s lim must = (if (decide (s > lim) || decide (lim - s < 1)) = true then _ else (M0 cNl text lim s 10 must _).attemptFrom s true) := rfl
  refine ⟨fun h => ?_, fun h => ?_⟩
  · rw [if_neg (by simp; omega)] at e
    exact ⟨_, e⟩
  · rw [if_pos (by simp; omega)] at e
    rw [e]; rfl
theorem nl_adm_none {m : M} (hc : m.code = cNl) : ∀ (f s : Nat) (sn : Sre.Seen), (∀ i, s ≤ i → i < m.lim → isNl (m.text.getD i 0) = false) → ∃ sn', M.admitted m f s sn = .ok (none, sn')
  | 0, s, sn, _ => ⟨sn, rfl⟩
  | f + 1, s, sn, h => by
    unfold M.admitted
    by_cases hs : s ≥ m.lim
    · rw [if_pos hs]; exact ⟨sn, rfl⟩
    · rw [if_neg hs, hc]
      obtain ⟨sn1, e⟩ := nl_set (m.text.getD s 0) sn
      rw [e, h s (Nat.le_refl _) (by omega)]
      exact nl_adm_none hc f (s + 1) sn1 fun i hi => h i (by omega)
theorem nl_adm_some {m : M} (hc : m.code = cNl) {q : Nat} (hq : q < m.lim) (hb : isNl (m.text.getD q 0) = true) : ∀ (f s : Nat) (sn : Sre.Seen), s ≤ q → q - s < f → (∀ i, s ≤ i → i < q → isNl (m.text.getD i 0) = false) → ∃ sn', M.admitted m f s sn = .ok (some q, sn')
  | 0, s, sn, _, h, _ => by omega
  | f + 1, s, sn, h1, h2, h => by
    unfold M.admitted
    rw [if_neg (by omega), hc]
    obtain ⟨sn1, e⟩ := nl_set (m.text.getD s 0) sn
    rw [e]
    by_cases hs : s = q
    · subst hs
      rw [hb]
      exact ⟨sn1, rfl⟩
    · rw [h s (Nat.le_refl _) (by omega)]
      exact nl_adm_some hc hq hb f (s + 1) sn1 (by omega) (by omega) fun i hi => h i (by omega)

theorem nl_none {text : Array Nat} {s lim : Nat} (h : ∀ i, s ≤ i → i < lim → isNl (text.getD i 0) = false) : (M.runFor 1 (Sre.forSearch cNl text 0 s lim false)).outcome = some .failed := by
  by_cases hs : s < lim
  · obtain ⟨sn, e⟩ := (nl_starts text s lim false).1 hs
    rw [e]
    unfold M.attemptFrom
    rw [if_neg (by rw [show (M0 cNl text lim s 10 false sn).hasFirstSet = true from rfl]; decide)]
    obtain ⟨sn', e⟩ := nl_adm_none (m := M0 cNl text lim s 10 false sn) rfl (lim + 1 - s) s sn h
    rw [e]
    rfl
  · exact (nl_starts text s lim false).2 hs

/-- the machine amid the branch \r\n -/
abbrev nAt (text : Array Nat) (lim q pc pos : Nat) (sn : Sre.Seen) : M := { code := cNl, text := text, lim := lim, start := q, lastStart := lim, pc := pc, pos := pos, handed := q, marks := #[], seen := sn, frames := [{ wait := .nextBranch, pc := 11, pos := q, outermost := true, kept := {} }, { wait := .nextStart, pc := 10, pos := q, outermost := true }], weight := 2 }
theorem nl_lit (text : Array Nat) (lim q pos pc c : Nat) (sn : Sre.Seen) (hp : pos < lim) (hc : text.getD pos 0 = c) (h : (pc = 12 ∧ c = 13) ∨ (pc = 14 ∧ c = 10)) : ∃ sn', M.step (nAt text lim q pc pos sn) = nAt text lim q (pc + 2) (pos + 1) sn' := by
  rcases h with ⟨rfl, rfl⟩ | ⟨rfl, rfl⟩
  · have e : ∃ sn', M.step (nAt text lim q 12 pos sn) = (if pos ≥ lim then _ else
      (match (Except.ok (text.getD pos 0 == 13, sn') : Except String (Bool × Sre.Seen)) with
        | .error why => (nAt text lim q 12 pos sn' : M).stick why
        | .ok (false, sn1) => { nAt text lim q 12 pos sn1 with answer := some false }
        | .ok (true, sn1) => nAt text lim q 14 (pos + 1) sn1)) := ⟨_, rfl⟩
    obtain ⟨sn', e⟩ := e
    rw [if_neg (by omega), hc] at e
    exact ⟨sn', e⟩
  · have e : ∃ sn', M.step (nAt text lim q 14 pos sn) = (if pos ≥ lim then _ else
      (match (Except.ok (text.getD pos 0 == 10, sn') : Except String (Bool × Sre.Seen)) with
        | .error why => (nAt text lim q 14 pos sn' : M).stick why
        | .ok (false, sn1) => { nAt text lim q 14 pos sn1 with answer := some false }
        | .ok (true, sn1) => nAt text lim q 16 (pos + 1) sn1)) := ⟨_, rfl⟩
    obtain ⟨sn', e⟩ := e
    rw [if_neg (by omega), hc] at e
    exact ⟨sn', e⟩

theorem run8 {a b c d e f g i : M} (ha : a.outcome.isSome = false) (hb : b.outcome.isSome = false) (hc : c.outcome.isSome = false) (hd : d.outcome.isSome = false) (he : e.outcome.isSome = false) (hf : f.outcome.isSome = false) (hg : g.outcome.isSome = false) (hi : i.outcome.isSome = false)
    {j : M} (e0 : M.step a = b) (e1 : M.step b = c) (e2 : M.step c = d) (e3 : M.step d = e) (e4 : M.step e = f) (e5 : M.step f = g) (e6 : M.step g = i) (e7 : M.step i = j) : M.runFor 8 a = j := by
  simp only [M.runFor, ha, e0, hb, e1, hc, e2, hd, e3, he, e4, hf, e5, hg, e6, hi, e7, Bool.false_eq_true, if_false]
theorem nl_some {text : Array Nat} {s lim q : Nat} (hs : s ≤ q) (hq : q + 1 < lim) (h13 : text.getD q 0 = 13) (h10 : text.getD (q + 1) 0 = 10) (h : ∀ i, s ≤ i → i < q → isNl (text.getD i 0) = false) :
    ∃ m', M.runFor 8 (Sre.forSearch cNl text 0 s lim false) = m' ∧ m'.outcome = some .matched ∧ m'.start = q ∧ m'.handed = q + 2 := by
  obtain ⟨sn, e⟩ := (nl_starts text s lim false).1 (by omega)
  rw [e]
  unfold M.attemptFrom
  rw [if_neg (by rw [show (M0 cNl text lim s 10 false sn).hasFirstSet = true from rfl]; decide)]
  obtain ⟨sn', e⟩ := nl_adm_some (m := M0 cNl text lim s 10 false sn) rfl (show q < lim by omega) (by show isNl (text.getD q 0) = true; rw [h13]; rfl) (lim + 1 - s) s sn hs (by omega) h
  rw [e]
  have e0 : ∃ sn2, M.step (mAt cNl text lim q 10 sn') = nAt text lim q 12 q sn2 := ⟨_, rfl⟩
  obtain ⟨sn2, e0⟩ := e0
  obtain ⟨sn3, e1⟩ := nl_lit text lim q q 12 13 sn2 (by omega) h13 (.inl ⟨rfl, rfl⟩)
  obtain ⟨sn4, e2⟩ := nl_lit text lim q (q + 1) 14 10 sn3 (by omega) h10 (.inr ⟨rfl, rfl⟩)
  have e3 : ∃ sn5, M.step (nAt text lim q 16 (q + 2) sn4) = nAt text lim q 35 (q + 2) sn5 := ⟨_, rfl⟩
  obtain ⟨sn5, e3⟩ := e3
  have e4 : ∃ sn6, M.step (nAt text lim q 35 (q + 2) sn5) = { nAt text lim q 35 (q + 2) sn6 with handed := q + 2, answer := some true } := ⟨_, rfl⟩
  obtain ⟨sn6, e4⟩ := e4
  have e5 : M.step { nAt text lim q 35 (q + 2) sn6 with handed := q + 2, answer := some true } = { nAt text lim q 11 q sn6 with handed := q + 2, answer := some true, frames := [{ wait := .nextStart, pc := 10, pos := q, outermost := true }], weight := 1 } := rfl
  have e6 : M.step { nAt text lim q 11 q sn6 with handed := q + 2, answer := some true, frames := [{ wait := .nextStart, pc := 10, pos := q, outermost := true }], weight := 1 } = { nAt text lim q 10 q sn6 with handed := q + 2, answer := some true, frames := [], weight := 0 } := rfl
  have e7 : M.step { nAt text lim q 10 q sn6 with handed := q + 2, answer := some true, frames := [], weight := 0 } = { nAt text lim q 10 q sn6 with handed := q + 2, answer := some true, frames := [], weight := 0, outcome := some .matched } := rfl
  exact ⟨_, run8 rfl rfl rfl rfl rfl rfl rfl rfl e0 e1 e2 e3 e4 e5 e6 e7, rfl, rfl, rfl⟩
end
-- Q1_1
section
theorem fillQ1 : hd.heap_1 = hd.heap_1 ∧ PySem.Challenge.rw_pe0228_01 = PySem.Challenge.rw_pe0228_01 := by
  k_fill
  exact ⟨rfl, rfl⟩
theorem dbl_len : ∀ (b : Bool) (l : List Nat), (dbl b l).length ≤ 2 * l.length
  | _, [] => by simp [dbl]
  | b, c :: r => by
    rw [dbl]
    have := dbl_len (c == 10) r
    split <;> simp <;> omega

section
variable {pr : Program} {loose : List Str} {mean : ExcName → Option Value} {mg mb : Str → Option Value} {prog : Program} {w : World} {n : Nat} {A : Around} {env : Env} {L : Addr} {h₀ : Heap}
  {m : Str → Option Value} {news : List (Addr × Obj)} {s : Shared} {E : Value → Shared → Prop}
theorem Lg.kept {h h' : Heap} (G : Lg h₀ L h m news) (hk : ∀ b o, h.get? b = some o → h'.get? b = some o) : Lg h₀ L h' m news :=
  ⟨G.F.keptAll hk, fun p hp => ⟨hk _ _ (G.N p hp).1, (G.N p hp).2⟩, G.nd⟩
theorem pat85 {h : Heap} (X : (hd.heap_1 w.params).In h) : PatAt h 85 cDot := ⟨_, _, _, _, _, _, _, _, _, _, X _ _ (by k_is), X _ _ (by k_is), rfl, by decide +kernel⟩
theorem pat90 {h : Heap} (X : (hd.heap_1 w.params).In h) : PatAt h 90 cNl := ⟨_, _, _, _, _, _, _, _, _, _, X _ _ (by k_is), X _ _ (by k_is), rfl, by decide +kernel⟩
theorem pat_meth {pa : Addr} {C : Array Nat} {pl : Sem Bool} {name : Str} {id : String} {Q : Value × List Value → Shared → Prop} (H : PatAt s.heap pa C) (slot : Slot "re.Pattern" name id) (hty : typeOf (.builtin id) = pure (.type "method_descriptor"))
    (h : Q (.builtin id, [.ref pa]) s) : wpAny (model prog w) A (getMethod (.ref pa) name pl) Q E s := by
  obtain ⟨v0, v1, v3, v4, t2, t6, ta, ot, k, vs, a, b, c, d⟩ := H.ex
  exact getMethod_builtin ⟨_, a, rfl⟩ plainAttrs_pat slot hty (fun z e => by cases e; exact ⟨_, a, rfl⟩) h

set_option maxHeartbeats 1000000
end
end
-- H1_1
section
theorem fillH1 : hd.heap_1 = hd.heap_1 ∧ PySem.Challenge.rw_pe0228_01 = PySem.Challenge.rw_pe0228_01 := by
  k_fill
  exact ⟨rfl, rfl⟩
section
variable {pr : Program} {loose : List Str} {mean : ExcName → Option Value} {mg mb : Str → Option Value} {prog : Program} {w : World} {n : Nat} {A : Around} {env : Env} {L : Addr} {h₀ : Heap}
  {m : Str → Option Value} {news : List (Addr × Obj)} {s : Shared} {E : Value → Shared → Prop}
theorem pat102 {h : Heap} (X : (hd.heap_1 w.params).In h) : PatAt h 107 cName := ⟨_, _, _, _, _, _, _, _, _, _, X _ _ (by k_is), X _ _ (by k_is), rfl, by decide +kernel⟩
theorem pat107 {h : Heap} (X : (hd.heap_1 w.params).In h) : PatAt h 112 cVal := ⟨_, _, _, _, _, _, _, _, _, _, X _ _ (by k_is), X _ _ (by k_is), rfl, by decide +kernel⟩
/-- a text without signs of a set -/
def free (bad : Nat → Bool) (l : List Nat) : Prop := ∀ c ∈ l, bad c = false
theorem free_at {bad : Nat → Bool} {l : List Nat} (h : free bad l) : ∀ i, i < l.toArray.size → bad (l.toArray.getD i 0) = false := by
  intro i hi
  refine h _ ?_
  rw [Array.getD_eq_getD_getElem?, Array.getElem?_eq_getElem hi]
  simp
set_option maxHeartbeats 1000000
theorem convert_name_pos {Q : Value → Shared → Prop} {x : Value} {l : List Nat} {t : Tok}
    (C : Cx (hd.heap_1 w.params) pr loose mean mg mb (n + 1) A env L h₀) (G : Lg h₀ L s.heap m news) (hf : free badName l) (hl : l.length ≤ 1000000)
    (h : ∀ h' k, 0 < k → Lg h₀ L h' m news → Q (.str ⟨l.toArray⟩ t) { s with heap := h', toks := k }) :
    wpAny (model prog w) A (call (.ref 142) [x, .str ⟨l.toArray⟩ t] [(Str.ofString "name", .bool true)]) Q E s := by
  refine enter (binds := [(Str.ofString "self", x), (Str.ofString "value", .str ⟨l.toArray⟩ t), (Str.ofString "name", .bool true)]) C G (by k_is) (by k_is) (BindsTo.of_eq rfl) (locs rfl) rfl rfl rfl (by decide) ?_
  intro g L' h₁ C st' G
  have hl1 : (⟨l.toArray⟩ : Str).length ≤ 1000000 := by simpa [Str.length] using hl
  refine wpAny_execs_cons (wpAny_If ?_)
  refine wpAny_isTrue_Compare1 ?_
  refine Call_ ?_
  refine nameX_B G.F C.X (topRead_of C.T) (by k_is) (by boot_fast) (by decide) ?_
  refine Pv.callWith_type1 ?_
  refine spliced_more ?_
  refine nameX_L G.F rfl ?_
  refine spliced_none ?_
  refine call_type_of (Tx := "str") rfl (by decide +kernel) ?_
  refine nameX_B G.F C.X (topRead_of C.T) (by k_is) (by boot_fast) (by decide) ?_
  refine wpAny_is_self (by rfl) ?_
  refine wpAny_truthy_bool ?_
  refine ite_pos rfl ?_
  try dsimp only
  refine wpAny_execs_cons (wpAny_Assign_Name ?_)
  refine IfExp_ ?_
  refine isTrue_plain ?_
  refine nameX_L G.F rfl ?_
  refine wpAny_truthy_bool ?_
  refine ite_pos rfl ?_
  refine nameX_K G.F C.X (topRead_of C.T) (by k_is) ?_
  refine r_store G ?_
  intro h2 G
  try dsimp only
  refine wpAny_execs_cons (wpAny_If ?_)
  refine isTrue_plain ?_
  refine MethodCall_ ?_
  refine nameX_L G.F rfl ?_
  refine pat_meth (pat102 (C.X.keeps G.F.keep)) slot_pat_search type_pat_search ?_
  refine callWith_method1 ?_
  refine spliced_more ?_
  refine nameX_L G.F rfl ?_
  refine spliced_none ?_
  refine pat_search_none oneName (pat102 (C.X.keeps G.F.keep)) hl1 (free_at hf) ?_
  refine truthy_none ?_
  refine ite_neg Bool.false_ne_true ?_
  refine wpAny_execs_nil ?_
  try dsimp only
  refine wpAny_execs_cons (wpAny_Return_some ?_)
  refine nameX_L G.F rfl ?_
  exact ⟨_, _, G, fun G2 => h _ _ (Nat.succ_pos _) G2⟩
theorem convert_name {Q : Value → Shared → Prop} {x : Value} {l : List Nat} {t : Tok}
    (C : Cx (hd.heap_1 w.params) pr loose mean mg mb (n + 1) A env L h₀) (G : Lg h₀ L s.heap m news) (hf : free badName l) (hl : l.length ≤ 1000000)
    (h : ∀ h' k, Lg h₀ L h' m news → Q (.str ⟨l.toArray⟩ t) { s with heap := h', toks := k }) :
    wpAny (model prog w) A (call (.ref 142) [x, .str ⟨l.toArray⟩ t] [(Str.ofString "name", .bool true)]) Q E s := convert_name_pos C G hf hl fun h' k _ => h h' k
theorem convert_val_pos {Q : Value → Shared → Prop} {x : Value} {l : List Nat} {t : Tok}
    (C : Cx (hd.heap_1 w.params) pr loose mean mg mb (n + 1) A env L h₀) (G : Lg h₀ L s.heap m news) (hf : free badVal l) (hl : l.length ≤ 1000000)
    (h : ∀ h' k, 0 < k → Lg h₀ L h' m news → Q (.str ⟨l.toArray⟩ t) { s with heap := h', toks := k }) :
    wpAny (model prog w) A (call (.ref 142) [x, .str ⟨l.toArray⟩ t] [(Str.ofString "name", .bool false)]) Q E s := by
  refine enter (binds := [(Str.ofString "self", x), (Str.ofString "value", .str ⟨l.toArray⟩ t), (Str.ofString "name", .bool false)]) C G (by k_is) (by k_is) (BindsTo.of_eq rfl) (locs rfl) rfl rfl rfl (by decide) ?_
  intro g L' h₁ C st' G
  have hl1 : (⟨l.toArray⟩ : Str).length ≤ 1000000 := by simpa [Str.length] using hl
  refine wpAny_execs_cons (wpAny_If ?_)
  refine wpAny_isTrue_Compare1 ?_
  refine Call_ ?_
  refine nameX_B G.F C.X (topRead_of C.T) (by k_is) (by boot_fast) (by decide) ?_
  refine Pv.callWith_type1 ?_
  refine spliced_more ?_
  refine nameX_L G.F rfl ?_
  refine spliced_none ?_
  refine call_type_of (Tx := "str") rfl (by decide +kernel) ?_
  refine nameX_B G.F C.X (topRead_of C.T) (by k_is) (by boot_fast) (by decide) ?_
  refine wpAny_is_self (by rfl) ?_
  refine wpAny_truthy_bool ?_
  refine ite_pos rfl ?_
  try dsimp only
  refine wpAny_execs_cons (wpAny_Assign_Name ?_)
  refine IfExp_ ?_
  refine isTrue_plain ?_
  refine nameX_L G.F rfl ?_
  refine wpAny_truthy_bool ?_
  refine ite_neg Bool.false_ne_true ?_
  refine nameX_K G.F C.X (topRead_of C.T) (by k_is) ?_
  refine r_store G ?_
  intro h2 G
  try dsimp only
  refine wpAny_execs_cons (wpAny_If ?_)
  refine isTrue_plain ?_
  refine MethodCall_ ?_
  refine nameX_L G.F rfl ?_
  refine pat_meth (pat107 (C.X.keeps G.F.keep)) slot_pat_search type_pat_search ?_
  refine callWith_method1 ?_
  refine spliced_more ?_
  refine nameX_L G.F rfl ?_
  refine spliced_none ?_
  refine pat_search_none oneVal (pat107 (C.X.keeps G.F.keep)) hl1 (free_at hf) ?_
  refine truthy_none ?_
  refine ite_neg Bool.false_ne_true ?_
  refine wpAny_execs_nil ?_
  try dsimp only
  refine wpAny_execs_cons (wpAny_Return_some ?_)
  refine nameX_L G.F rfl ?_
  exact ⟨_, _, G, fun G2 => h _ _ (Nat.succ_pos _) G2⟩
theorem convert_val {Q : Value → Shared → Prop} {x : Value} {l : List Nat} {t : Tok}
    (C : Cx (hd.heap_1 w.params) pr loose mean mg mb (n + 1) A env L h₀) (G : Lg h₀ L s.heap m news) (hf : free badVal l) (hl : l.length ≤ 1000000)
    (h : ∀ h' k, Lg h₀ L h' m news → Q (.str ⟨l.toArray⟩ t) { s with heap := h', toks := k }) :
    wpAny (model prog w) A (call (.ref 142) [x, .str ⟨l.toArray⟩ t] [(Str.ofString "name", .bool false)]) Q E s := convert_val_pos C G hf hl fun h' k _ => h h' k
end
end
-- W0_1
section
section
variable {K : Frag} {pr : Program} {loose : List Str} {mean : ExcName → Option Value} {mg mb : Str → Option Value} {prog : Program} {w : World} {n : Nat} {A : Around} {env : Env} {L : Addr} {h₀ : Heap}
  {m : Str → Option Value} {news : List (Addr × Obj)} {s : Shared} {E : Value → Shared → Prop}
theorem r_append {D : Addr} {its : Array Value} {c i : Nat} {v : Value} {Q : Value → Shared → Prop} (G : Lg h₀ L s.heap m news) (hi : news[i]? = some (D, listOf its c)) (hsz : its.size ≤ 1000000)
    (h : ∀ h' c', Lg h₀ L h' m (news.set i (D, listOf (its.push v) c')) → Q .none { s with heap := h' }) :
    wpAny (model prog w) A (call (.builtin "list.append") [.ref D, v]) Q E s := by
  have ho := G.mem (List.mem_of_getElem? hi)
  refine call_meets PySem.F.slot_list_append ⟨_, ho, rfl⟩ PySem.F.entry_list_append (PySem.F.args_list_append_2 _ _) (PySem.AutoListH.list_append_list_val_0 D its c v (Nat.le_trans hsz (by decide))) ⟨ho, ?_⟩
  obtain ⟨n', hd'⟩ := Obj.data_mapSeq (o := W.listOf its c) rfl (fun xs => xs.push v)
  refine h _ n' ?_
  refine G.set i hi (Heap.SameBut.update ..) ?_
  rw [Heap.get?_update_self _ ho (Obj.isFreed_of_seq hd')]
  rw [show Obj.mapSeq (fun xs => xs.push v) (W.listOf its c) = ⟨.type "list", none, (Obj.mapSeq (fun xs => xs.push v) (W.listOf its c)).data, #[]⟩ from by simp [Obj.mapSeq], hd']
theorem r_newList {vs : List Value} {Q : Value → Shared → Prop} (G : Lg h₀ L s.heap m news)
    (h : ∀ D h', Lg h₀ L h' m ((D, listOf vs.toArray 0) :: news) → Q (.ref D) { s with heap := h' }) (hsz : vs.length ≤ 1000000 := by exact Nat.le_of_ble_eq_true rfl) :
    wpAny (model prog w) A (newList vs) Q E s :=
  wpAny_newObj_type (h _ _ (G.push _)) (by show vs.toArray.size ≤ sizeLine; rw [List.size_toArray]; exact Nat.le_trans hsz (by decide))
theorem r_newTuple {vs : List Value} {Q : Value → Shared → Prop} (G : Lg h₀ L s.heap m news)
    (h : ∀ D h', Lg h₀ L h' m ((D, { cls := .type "tuple", data := .seq vs.toArray }) :: news) → Q (.ref D) { s with heap := h' }) (hsz : vs.length ≤ 1000000 := by exact Nat.le_of_ble_eq_true rfl) :
    wpAny (model prog w) A (newTuple vs) Q E s :=
  wpAny_newObj_type (h _ _ (G.push _)) (by show vs.toArray.size ≤ sizeLine; rw [List.size_toArray]; exact Nat.le_trans hsz (by decide))
end
section
variable {L : Addr} {h₀ h : Heap} {m : Str → Option Value} {news : List (Addr × Obj)}
theorem perm_front {α : Type} : ∀ {l : List α} {i : Nat} {p : α}, l[i]? = some p → l.Perm (p :: l.eraseIdx i)
  | [], _, _, h => by simp at h
  | a :: r, 0, p, h => by
    simp only [List.getElem?_cons_zero, Option.some.injEq] at h
    subst h
    exact List.Perm.refl _
  | a :: r, i + 1, p, h => by
    have := perm_front (l := r) (i := i) (p := p) (by simpa using h)
    rw [List.eraseIdx_cons_succ]
    exact (List.Perm.cons a this).trans (List.Perm.swap _ _ _)
theorem Lg.front {p : Addr × Obj} (G : Lg h₀ L h m news) (i : Nat) (hi : news[i]? = some p) : Lg h₀ L h m (p :: news.eraseIdx i) := by
  exact G.perm (perm_front hi)
end
theorem Lg.to {L : Addr} {h₀ h : Heap} {m : Str → Option Value} {a b : List (Addr × Obj)} (G : Lg h₀ L h m a) (e : a = b) : Lg h₀ L h m b := e ▸ G
theorem Lg.to1 {L : Addr} {h₀ h : Heap} {m : Str → Option Value} {x : Addr × Obj} {a b : List (Addr × Obj)} (G : Lg h₀ L h m (x :: a)) (e : a = b) : Lg h₀ L h m (x :: b) := e ▸ G
theorem Lg.to3 {L : Addr} {h₀ h : Heap} {m : Str → Option Value} {x y z : Addr × Obj} {a b : List (Addr × Obj)} (G : Lg h₀ L h m (x :: y :: z :: a)) (e : a = b) : Lg h₀ L h m (x :: y :: z :: b) := e ▸ G
section
variable {M : Model} {A : Around} {α β : Type} {E : Value → Shared → Prop} {s : Shared}
/-- what is to come is hidden behind a name: the proof's terms stay small -/
theorem hideQ {x : Sem α} {P : α → Shared → Prop} (h : ∀ T : α → Shared → Prop, (∀ a s', P a s' → T a s') → wpAny M A x T E s) : wpAny M A x P E s := h P fun _ _ z => z
theorem hideT {x : Sem α} {y : α → Sem β} {P : β → Shared → Prop} {F : Value → Shared → Prop} (h : ∀ T : β → Shared → Prop, (∀ a s', P a s' → T a s') → wpAny M A x (fun a s₂ => wpAny M A (y a) T F s₂) E s) :
    wpAny M A x (fun a s₂ => wpAny M A (y a) P F s₂) E s := h P fun _ _ z => z
end
end
-- G1_1
section
theorem fillG1 : hd.heap_1 = hd.heap_1 ∧ PySem.Challenge.rw_pe0228_01 = PySem.Challenge.rw_pe0228_01 := by
  k_fill
  exact ⟨rfl, rfl⟩

/-- blank, tab, line end -/
def isWs (c : Nat) : Bool := decide (c ∈ [10, 9, 13, 32])
/-- in marks: what is read, what is left -/
def tkQ (acc : List Nat) : List Nat → List Nat × List Nat
  | [] => (acc, [])
  | c :: r => if c = 34 then (acc, r) else if c = 92 then (match r with | [] => (acc, []) | d :: r' => tkQ (acc ++ [d]) r') else tkQ (acc ++ [c]) r
termination_by l => l.length
/-- a plain word -/
def tkP (acc : List Nat) : List Nat → List Nat × List Nat
  | [] => (acc, [])
  | c :: r => if isWs c = true then (acc, r) else if c = 92 then (match r with | [] => (acc, []) | d :: r' => tkP (acc ++ [d]) r') else tkP (acc ++ [c]) r
termination_by l => l.length
/-- one word -/
def tkS : List Nat → List Nat × List Nat
  | [] => ([], [])
  | c :: r => if isWs c = true then tkS r else if c = 34 then tkQ [] r else if c = 92 then (match r with | [] => ([], []) | d :: r' => tkP [d] r') else tkP [c] r

theorem tkQ_nil (a : List Nat) : tkQ a [] = (a, []) := by rw [tkQ]
theorem tkQ_end {a r : List Nat} {c : Nat} (h : c = 34) : tkQ a (c :: r) = (a, r) := by rw [tkQ.eq_def]; simp [h]
theorem tkQ_esc0 {a : List Nat} {c : Nat} (h1 : ¬ c = 34) (h : c = 92) : tkQ a [c] = (a, []) := by rw [tkQ.eq_def]; simp [h]
theorem tkQ_esc {a r : List Nat} {c d : Nat} (h1 : ¬ c = 34) (h : c = 92) : tkQ a (c :: d :: r) = tkQ (a ++ [d]) r := by rw [tkQ.eq_def]; simp [h]
theorem tkQ_on {a r : List Nat} {c : Nat} (h1 : ¬ c = 34) (h : ¬ c = 92) : tkQ a (c :: r) = tkQ (a ++ [c]) r := by rw [tkQ.eq_def]; simp [h, h1]
theorem tkP_nil (a : List Nat) : tkP a [] = (a, []) := by rw [tkP]
theorem tkP_end {a r : List Nat} {c : Nat} (h : isWs c = true) : tkP a (c :: r) = (a, r) := by rw [tkP.eq_def]; simp [h]
theorem tkP_esc0 {a : List Nat} {c : Nat} (h1 : ¬ isWs c = true) (h : c = 92) : tkP a [c] = (a, []) := by rw [tkP.eq_def]; simp only [if_neg h1, if_pos h]
theorem tkP_esc {a r : List Nat} {c d : Nat} (h1 : ¬ isWs c = true) (h : c = 92) : tkP a (c :: d :: r) = tkP (a ++ [d]) r := by rw [tkP.eq_def]; simp only [if_neg h1, if_pos h]
theorem tkP_on {a r : List Nat} {c : Nat} (h1 : ¬ isWs c = true) (h : ¬ c = 92) : tkP a (c :: r) = tkP (a ++ [c]) r := by rw [tkP.eq_def]; simp only [if_neg h1, if_neg h]
def nls (r : List Nat) : Nat := r.count 10
def S (l : List Nat) : Str := ⟨l.toArray⟩

section
variable {pr : Program} {loose : List Str} {mean : ExcName → Option Value} {mg mb : Str → Option Value} {prog : Program} {w : World} {n : Nat} {A : Around} {env : Env} {L : Addr} {h₀ : Heap}
  {m : Str → Option Value} {news : List (Addr × Obj)} {s : Shared} {E : Value → Shared → Prop}

/-- the reader amid a walk: b tells whether the walk is over; r is what is left of the text, tok the word so far -/
structure GS (w : World) (g : Heap) (L : Addr) (s₀ : Shared) (x dx st T it q P : Addr) (k1 k2 k3 k4 tw ts : Tok) (text : Str) (rest : List (Addr × Obj)) (N : Int) (b : Bool) (cv : Option Value) (r tok : List Nat) (s : Shared) : Prop where
  ex : ∃ h' t m' p ln tl tp c tk, s = { s₀ with heap := h', toks := t } ∧
    Lg g L h' m' ((dx, dictOf (mes w k1 k2 k3 k4 ln tl st tw P) 4) :: (T, listOf #[.int ((p : Nat) : Int) tp] c) :: (it, if b then cit .none .none true else cit (.ref q) (.str "" ts) false) :: rest) ∧
    m' "self" = some (.ref x) ∧ m' "token" = some (.str (S tok) tk) ∧ m' "fiter" = some (.ref it) ∧ m' "ch" = cv ∧ p ≤ text.length ∧ text.cps.toList.drop p = r ∧ ln + nls r = N ∧ tok.length + r.length ≤ text.length

theorem sgn_cons {text : Str} {p c : Nat} {r : List Nat} (h : text.cps.toList.drop p = c :: r) : sgn text p = S [c] := by unfold sgn S; rw [h]; rfl
theorem sgn_nil {text : Str} {p : Nat} (h : text.cps.toList.drop p = []) : sgn text p = S [] := by unfold sgn S; rw [h]; rfl
theorem drop_next {text : Str} {p c : Nat} {r : List Nat} (h : text.cps.toList.drop p = c :: r) : text.cps.toList.drop (p + 1) = r ∧ p + 1 ≤ text.length := by
  refine ⟨by rw [← List.drop_drop, h]; rfl, ?_⟩
  have : p < text.cps.toList.length := by
    rcases Nat.lt_or_ge p text.cps.toList.length with q | q
    · exact q
    · rw [List.drop_of_length_le q] at h; cases h
  have h2 : p < text.length := by simpa [Str.length] using this
  exact h2
theorem S_len (l : List Nat) : (S l).length = l.length := by simp [S, Str.length]
theorem S_append (a b : List Nat) : S a ++ S b = S (a ++ b) := by
  apply Str.ext'
  simp [S, Str.cps_append]
theorem S_inj {a b : List Nat} (h : S a = S b) : a = b := by
  have := congrArg (fun x : Str => x.cps.toList) h
  simpa [S] using this

set_option maxHeartbeats 1000000
variable {g : Heap} {s₀ : Shared} {x dx st T it q P : Addr} {k1 k2 k3 k4 tw ts : Tok} {text : Str} {rest : List (Addr × Obj)} {N : Int} {b : Bool} {cv : Option Value} {r tok : List Nat}
/-- a sign read by hand -/
theorem gs_read (C : Cx (hd.heap_1 w.params) pr loose mean mg mb (n + 2) A env L g) (H : Mach w rest x dx st T text) (I : GS w g L s₀ x dx st T it q P k1 k2 k3 k4 tw ts text rest N b cv r tok s) {Q : Value → Shared → Prop}
    (h : ∀ s' t, GS w g L s₀ x dx st T it q P k1 k2 k3 k4 tw ts text rest N b cv r.tail tok s' → Q (.str (S (r.take 1)) t) s') :
    codeAny (model prog w) A (.call (.ref 59) ⟨[.ref x], []⟩) (RQ Q E) s := by
  obtain ⟨h', t, m', p, ln, tl, tp, c, tk, rfl, G, m1, m2, m3, m4, hp, hr, hN, hl⟩ := I.ex
  refine read_char_code C G (H.mono fun p hp => .tail _ hp) hp ?_
  intro h2 t2 u1 u2 u3 ln' hln G
  cases r with
  | nil =>
    rw [sgn_nil hr] at G hln ⊢
    refine h _ _ ⟨_, _, m', p, ln', u3, u1, c, tk, rfl, ?_, m1, m2, m3, m4, hp, hr, ?_, hl⟩
    · rw [S_len] at G; simpa using G
    · rw [hln, if_neg (by decide)]; exact hN
  | cons d r' =>
    obtain ⟨e1, e2⟩ := drop_next hr
    rw [sgn_cons hr] at G hln ⊢
    refine h _ _ ⟨_, _, m', p + 1, ln', u3, u1, c, tk, rfl, ?_, m1, m2, m3, m4, e2, e1, ?_, ?_⟩
    · rw [S_len] at G; simpa using G
    · rw [hln]
      by_cases hd : d = 10
      · subst hd
        rw [if_pos (by rfl)]
        simp only [nls, List.count_cons_self, List.tail_cons] at hN ⊢
        omega
      · rw [if_neg (fun e => hd (by have := S_inj (a := [d]) (b := [10]) e; simpa using this))]
        simp only [nls, List.count_cons, List.tail_cons] at hN ⊢
        rw [if_neg (by simpa using hd)] at hN
        omega
    · simp only [List.length_cons, List.tail_cons] at hl ⊢; omega

/-- one step of the walk -/
theorem gs_next (C : Cx (hd.heap_1 w.params) pr loose mean mg mb (n + 3) A env L g) (H : Mach w rest x dx st T text) (hq : (q, methodObj (.ref 59) (.ref x)) ∈ rest)
    (I : GS w g L s₀ x dx st T it q P k1 k2 k3 k4 tw ts text rest N false cv r tok s) {Q : Option Value → Shared → Prop}
    (h1 : ∀ c r' s' t, r = c :: r' → GS w g L s₀ x dx st T it q P k1 k2 k3 k4 tw ts text rest N false cv r' tok s' → Q (some (.str (S [c]) t)) s')
    (h2 : ∀ s', r = [] → GS w g L s₀ x dx st T it q P k1 k2 k3 k4 tw ts text rest N true cv [] tok s' → Q none s') :
    wpAny (model prog w) A (pyNext (.ref it)) Q E s := by
  have I' := I
  obtain ⟨h', t, m', p, ln, tl, tp, c, tk, rfl, G, m1, m2, m3, m4, hp, hr, hN, hl⟩ := I'.ex
  have hK : ∃ fo fd, (hd.heap_1 w.params).lookup 59 = some fo ∧ fo.data = .func fd := ⟨_, _, by k_is, rfl⟩
  obtain ⟨fo, fd, hf, hfd⟩ := hK
  refine next_cit C.hn (G.mem (.tail _ (.tail _ (.head _)))) (G.mem (.tail _ (.tail _ (.tail _ hq)))) ((C.X.keeps G.F.keep) _ _ hf) hfd ?_
  refine codeAny_mono (gs_read (E := fun _ _ => False) C.in1 H I (Q := fun v s' => ∃ t, v = .str (S (r.take 1)) t ∧ GS w g L s₀ x dx st T it q P k1 k2 k3 k4 tw ts text rest N false cv r.tail tok s') fun s' t I' => ⟨t, rfl, I'⟩) ?_
  intro rr s' z
  rcases rr with e | (_ | _ | _ | v)
  · exact z
  · exact z
  · exact z
  · exact z
  obtain ⟨t', rfl, I2⟩ := z
  obtain ⟨h3, t3, m3', p3, ln3, tl3, tp3, c3, tk3, rfl, G3, n1, n2, n3, n4, hp3, hr3, hN3, hl3⟩ := I2.ex
  refine ⟨_, _, rfl, G3.mem (.tail _ (.tail _ (.head _))), G3.mem (.tail _ (.tail _ (.tail _ hq))), (C.X.keeps G3.F.keep) _ _ hf, fun hne => ?_, fun he h₁ h4 hs ho hk => ?_⟩
  · cases r with
    | nil => exact absurd rfl hne
    | cons d r' => exact h1 d r' _ _ rfl I2
  · cases r with
    | cons d r' => exact absurd (S_inj (a := [d]) (b := []) he) (by simp)
    | nil =>
      refine h2 _ rfl ⟨h4, t3, m3', p3, ln3, tl3, tp3, c3, tk3, rfl, ?_, n1, n2, n3, n4, hp3, hr3, hN3, hl3⟩
      have G4 := G3.set 2 rfl hs ho
      exact ⟨G4.F.keptAll hk, fun p hp => ⟨hk _ _ (G4.N p hp).1, (G4.N p hp).2⟩, G4.nd⟩

theorem gs_over (C : Cx (hd.heap_1 w.params) pr loose mean mg mb n A env L g)
    (I : GS w g L s₀ x dx st T it q P k1 k2 k3 k4 tw ts text rest N true cv r tok s) {Q : Option Value → Shared → Prop}
    (h2 : ∀ s', GS w g L s₀ x dx st T it q P k1 k2 k3 k4 tw ts text rest N true cv r tok s' → Q none s') :
    wpAny (model prog w) A (pyNext (.ref it)) Q E s := by
  obtain ⟨h', t, m', p, ln, tl, tp, c, tk, rfl, G, m1, m2, m3, m4, hp, hr, hN, hl⟩ := I.ex
  refine next_cit_over C.hn (G.mem (.tail _ (.tail _ (.head _)))) ?_
  intro h4 hk
  exact h2 _ ⟨h4, t, m', p, ln, tl, tp, c, tk, rfl, ⟨G.F.keptAll hk, fun p hp => ⟨hk _ _ (G.N p hp).1, (G.N p hp).2⟩, G.nd⟩, m1, m2, m3, m4, hp, hr, hN, hl⟩

theorem GS.toks (I : GS w g L s₀ x dx st T it q P k1 k2 k3 k4 tw ts text rest N b cv r tok s) (t : Nat) : GS w g L s₀ x dx st T it q P k1 k2 k3 k4 tw ts text rest N b cv r tok { s with toks := t } := by
  obtain ⟨h', t', m', p, ln, tl, tp, c, tk, rfl, R⟩ := I.ex
  exact ⟨h', t, m', p, ln, tl, tp, c, tk, rfl, R⟩

section
variable {cn : Str} {cs : Scope} {a : Addr} {ccd : Value} {cl : List (Str × Addr)} {pos : Pos} {v : Value}
theorem gs_ch {Q : Value → Shared → Prop} (I : GS w g L s₀ x dx st T it q P k1 k2 k3 k4 tw ts text rest N b (some v) r tok s) (h : Q v s) (hk : cs.kind = .function := by rfl) (hx : (envX cn cs L a ccd cl).kindOf "ch" = some .local := by rfl) :
    wpAny (model prog w) A (eval (.Name "ch" pos) (envX cn cs L a ccd cl)) Q E s := by
  obtain ⟨h', t', m', p, ln, tl, tp, c, tk, rfl, G, m1, m2, m3, m4, R⟩ := I.ex
  exact nameX_L G.F m4 h hk hx
theorem gs_self {Q : Value → Shared → Prop} (I : GS w g L s₀ x dx st T it q P k1 k2 k3 k4 tw ts text rest N b cv r tok s) (h : Q (.ref x) s) (hk : cs.kind = .function := by rfl) (hx : (envX cn cs L a ccd cl).kindOf "self" = some .local := by rfl) :
    wpAny (model prog w) A (eval (.Name "self" pos) (envX cn cs L a ccd cl)) Q E s := by
  obtain ⟨h', t', m', p, ln, tl, tp, c, tk, rfl, G, m1, m2, m3, m4, R⟩ := I.ex
  exact nameX_L G.F m1 h hk hx
theorem gs_tokn {Q : Value → Shared → Prop} (I : GS w g L s₀ x dx st T it q P k1 k2 k3 k4 tw ts text rest N b cv r tok s) (h : ∀ t, Q (.str (S tok) t) s) (hk : cs.kind = .function := by rfl) (hx : (envX cn cs L a ccd cl).kindOf "token" = some .local := by rfl) :
    wpAny (model prog w) A (loadName (envX cn cs L a ccd cl) "token") Q E s := by
  obtain ⟨h', t', m', p, ln, tl, tp, c, tk, rfl, G, m1, m2, m3, m4, R⟩ := I.ex
  exact wpAny_loadName_local hk hx G.F.ns m2 (h tk)
theorem gs_fiter {Q : Value → Shared → Prop} (I : GS w g L s₀ x dx st T it q P k1 k2 k3 k4 tw ts text rest N b cv r tok s) (h : Q (.ref it) s) (hk : cs.kind = .function := by rfl) (hx : (envX cn cs L a ccd cl).kindOf "fiter" = some .local := by rfl) :
    wpAny (model prog w) A (eval (.Name "fiter" pos) (envX cn cs L a ccd cl)) Q E s := by
  obtain ⟨h', t', m', p, ln, tl, tp, c, tk, rfl, G, m1, m2, m3, m4, R⟩ := I.ex
  exact nameX_L G.F m3 h hk hx
theorem gs_iter {Q : Value → Shared → Prop} (I : GS w g L s₀ x dx st T it q P k1 k2 k3 k4 tw ts text rest N b cv r tok s) (h : Q (.ref it) s) : wpAny (model prog w) A (pyIter (.ref it)) Q E s := by
  obtain ⟨h', t', m', p, ln, tl, tp, c, tk, rfl, G, m1, m2, m3, m4, R⟩ := I.ex
  cases b
  · exact iter_cit (G.mem (.tail _ (.tail _ (.head _)))) h
  · exact iter_cit (G.mem (.tail _ (.tail _ (.head _)))) h
theorem gs_storeCh {Q : Unit → Shared → Prop} (I : GS w g L s₀ x dx st T it q P k1 k2 k3 k4 tw ts text rest N b cv r tok s) (h : ∀ s', GS w g L s₀ x dx st T it q P k1 k2 k3 k4 tw ts text rest N b (some v) r tok s' → Q () s') (hk : cs.kind = .function := by rfl) (hx : (envX cn cs L a ccd cl).kindOf "ch" = some .local := by rfl) :
    wpAny (model prog w) A (storeName (envX cn cs L a ccd cl) "ch" v) Q E s := by
  obtain ⟨h', t', m', p, ln, tl, tp, c, tk, rfl, G, m1, m2, m3, m4, R⟩ := I.ex
  refine r_store G ?_ hk hx
  intro h2 G2
  exact h _ ⟨h2, _, _, p, ln, tl, tp, c, tk, rfl, G2, m1, m2, m3, rfl, R⟩
theorem gs_storeTok {Q : Unit → Shared → Prop} {tok' : List Nat} {t : Tok} (I : GS w g L s₀ x dx st T it q P k1 k2 k3 k4 tw ts text rest N b cv r tok s) (hl : tok'.length + r.length ≤ text.length) (h : ∀ s', GS w g L s₀ x dx st T it q P k1 k2 k3 k4 tw ts text rest N b cv r tok' s' → Q () s') (hk : cs.kind = .function := by rfl) (hx : (envX cn cs L a ccd cl).kindOf "token" = some .local := by rfl) :
    wpAny (model prog w) A (storeName (envX cn cs L a ccd cl) "token" (.str (S tok') t)) Q E s := by
  obtain ⟨h', t', m', p, ln, tl, tp, c, tk, rfl, G, m1, m2, m3, m4, hp, hr, hN, _⟩ := I.ex
  refine r_store G ?_ hk hx
  intro h2 G2
  exact h _ ⟨h2, _, _, p, ln, tl, tp, c, _, rfl, G2, m1, rfl, m3, m4, hp, hr, hN, hl⟩
theorem gs_ws {Q : Value → Shared → Prop} {expr : Bool} (C : Cx (hd.heap_1 w.params) pr loose mean mg mb n A env L g) (hx : (x, instObj 76 dx) ∈ rest) (I : GS w g L s₀ x dx st T it q P k1 k2 k3 k4 tw ts text rest N b cv r tok s) (h : ∀ t, Q (.str "\n\t\r " tw) { s with toks := t }) :
    wpAny (model prog w) A (getAttr (.ref x) "whitespace" expr) Q E s := by
  obtain ⟨h', t', m', p, ln, tl, tp, c, tk, rfl, G, m1, m2, m3, m4, R⟩ := I.ex
  exact get_own G.F C.X (InstAt.of_news G.N (.tail _ (.tail _ (.tail _ hx))) (.head _)) (by k_is) (by k_is) (by k_is) (by k_is) (by rfl) rfl (h _)
theorem gs_meth {Q : Value × List Value → Shared → Prop} {pl : Sem Bool} (C : Cx (hd.heap_1 w.params) pr loose mean mg mb n A env L g) (hx : (x, instObj 76 dx) ∈ rest) (I : GS w g L s₀ x dx st T it q P k1 k2 k3 k4 tw ts text rest N b cv r tok s) (h : Q (.ref 59, [.ref x]) s) :
    wpAny (model prog w) A (getMethod (.ref x) "_read_char" pl) Q E s := by
  obtain ⟨h', t', m', p, ln, tl, tp, c, tk, rfl, G, m1, m2, m3, m4, R⟩ := I.ex
  exact method_inst G.F C.X (InstAt.of_news G.N (.tail _ (.tail _ (.tail _ hx))) (.head _)) (by k_is) (by k_is) (by k_is) (by rfl) h
theorem gs_K (C : Cx (hd.heap_1 w.params) pr loose mean mg mb n A env L g) (I : GS w g L s₀ x dx st T it q P k1 k2 k3 k4 tw ts text rest N b cv r tok s) : (hd.heap_1 w.params).In s.heap := by
  obtain ⟨h', t', m', p, ln, tl, tp, c, tk, rfl, G, R⟩ := I.ex
  exact C.X.keeps G.F.keep
theorem gs_lit {Q : Value → Shared → Prop} {y : Str} {kk : Nat} {e' : Env} (I : GS w g L s₀ x dx st T it q P k1 k2 k3 k4 tw ts text rest N b cv r tok s) (h : ∀ t s', GS w g L s₀ x dx st T it q P k1 k2 k3 k4 tw ts text rest N b cv r tok s' → Q (.str y t) s') : wpAny (model prog w) A (eval (.Constant (.str y) kk pos) e') Q E s :=
  Calls.Constant_str (h _ _ (I.toks _))
theorem gs_room (I : GS w g L s₀ x dx st T it q P k1 k2 k3 k4 tw ts text rest N b cv r tok s) : tok.length + r.length ≤ text.length := by
  obtain ⟨h', t', m', p, ln, tl, tp, c, tk, rfl, G, m1, m2, m3, m4, hp, hr, hN, hl⟩ := I.ex
  exact hl
end

end
end
-- G2_1
section
theorem fillG2 : hd.heap_1 = hd.heap_1 ∧ PySem.Challenge.rw_pe0228_01 = PySem.Challenge.rw_pe0228_01 := by
  k_fill
  exact ⟨rfl, rfl⟩
section
variable {pr : Program} {loose : List Str} {mean : ExcName → Option Value} {mg mb : Str → Option Value} {prog : Program} {w : World} {n : Nat} {A : Around} {env : Env} {L : Addr} {h₀ : Heap}
  {m : Str → Option Value} {s : Shared} {E : Value → Shared → Prop} {x dx st T P : Addr} {k1 k2 k3 k4 tw : Tok} {text : Str} {rest : List (Addr × Obj)}
set_option maxHeartbeats 2000000
theorem ws_is (c : Nat) : (!(Builtin.Str.occurrences (Str.ofString "\n\t\r ") (S [c]) 0 (Str.ofString "\n\t\r ").length 1).isEmpty) = isWs c := by
  have := StrLaws.found_one (Str.ofString "\n\t\r ") c
  have e : (Str.ofString "\n\t\r ").cps.toList = [10, 9, 13, 32] := by decide +kernel
  rw [e] at this
  exact this
theorem one_is (c d : Nat) : ((S [c] : Str) == S [d]) = decide (c = d) := by
  rw [Bool.eq_iff_iff, beq_iff_eq, decide_eq_true_iff]
  exact ⟨fun e => by simpa using S_inj e, fun e => by rw [e]⟩

theorem r_iter2L {news : List (Addr × Obj)} {q : Addr} {f self sen : Value} {Q : Value → Shared → Prop} (G : Lg h₀ L s.heap m news) (hq : (q, methodObj f self) ∈ news)
    (h : ∀ it h', Lg h₀ L h' m ((it, cit (.ref q) sen false) :: news) → Q (.ref it) { s with heap := h' }) : wpAny (model prog w) A (call (.builtin "iter") [.ref q, sen]) Q E s :=
  r_iter2 (G.mem hq) (h _ _ (G.push _))

/-- no word waits: the text is read on -/
theorem get_token_read {Q : Value → Shared → Prop} {ln : Int} {tl tp : Tok} {p c cP : Nat}
    (C : Cx (hd.heap_1 w.params) pr loose mean mg mb (n + 5) A env L h₀)
    (G : Lg h₀ L s.heap m ((dx, dictOf (mes w k1 k2 k3 k4 ln tl st tw P) 4) :: (T, listOf #[.int (p : Int) tp] c) :: (P, listOf #[] cP) :: rest))
    (H : Mach w rest x dx st T text) (hp : p ≤ text.length)
    (h : ∀ h' t t1 t2 t3 ln' p' c' fz, p' ≤ text.length → text.cps.toList.drop p' = (tkS (text.cps.toList.drop p)).2 → ln' + nls (text.cps.toList.drop p') = ln + nls (text.cps.toList.drop p) →
      Lg h₀ L h' m ((dx, dictOf (mes w k1 k2 k3 k4 ln' t1 st tw P) 4) :: (T, listOf #[.int ((p' : Nat) : Int) t2] c') :: (P, listOf #[] cP) :: (fz ++ rest)) → Q (.str (S (tkS (text.cps.toList.drop p)).1) t3) { s with heap := h', toks := t }) :
    wpAny (model prog w) A (call (.ref 66) [.ref x]) Q E s := by
  have hx := H.hx
  refine enter (binds := [(Str.ofString "self", .ref x)]) C G (by k_is) (by k_is) (BindsTo.of_eq rfl) (locs rfl) rfl rfl rfl (by decide) ?_
  intro g L' h₁ C st' G
  refine wpAny_execs_cons (wpAny_If ?_)
  refine isTrue_plain ?_
  refine Attribute_name ?_
  refine nameX_L G.F rfl ?_
  refine get_own G.F C.X (InstAt.of_news G.N (.tail _ (.tail _ (.tail _ hx))) (.head _)) (by k_is) (by k_is) (by k_is) (by k_is) (by rfl) rfl ?_
  refine wpAny_truthy_list (G.lst (.tail _ (.tail _ (.head _)))) (by decide) ?_
  refine ite_neg (by decide) ?_
  refine wpAny_execs_nil ?_
  dsimp only
  refine wpAny_execs_cons (wpAny_Assign_Name ?_)
  refine Calls.Constant_str ?_
  refine r_store G ?_
  intro h2 G
  dsimp only
  refine wpAny_execs_cons (wpAny_Assign_Name ?_)
  refine Call_ ?_
  refine nameX_B G.F C.X (topRead_of C.T) (by k_is) (by boot_fast) (by decide) ?_
  refine callWith_method1 ?_
  refine spliced_more ?_
  refine Attribute_name ?_
  refine nameX_L G.F rfl ?_
  refine kbm_bound G.F C.X G.N (InstAt.of_news G.N (.tail _ (.tail _ (.tail _ hx))) (.head _)) (by k_is) (by k_is) (by k_is) (by k_is) (by k_is) (by k_is) (by decide +kernel) (by rfl) ?_
  intro q h3 F3 N3 lt3
  have G := G.cons F3 N3 lt3
  refine spliced_more ?_
  refine Calls.Constant_str ?_
  refine spliced_none ?_
  refine r_iter2L G (.head _) ?_
  intro it h4 G
  refine r_store G ?_
  intro h5 G
  dsimp only at G ⊢
  have G := G.perm (b := (dx, dictOf (mes w k1 k2 k3 k4 ln tl st tw P) 4) :: (T, listOf #[.int (p : Int) tp] c) :: (it, cit (.ref q) (.str (Str.ofString "") _) false) :: (q, methodObj (.ref 59) (.ref x)) :: (P, listOf #[] cP) :: rest)
    (by
      refine (List.perm_middle (l₁ := [_, _])).trans (List.Perm.cons _ ?_)
      exact (List.perm_middle (l₁ := [_, _])))
  generalize hr0 : text.cps.toList.drop p = r0 at *
  obtain ⟨TK, R, hTK⟩ : ∃ TK R, tkS r0 = (TK, R) := ⟨_, _, rfl⟩
  rw [hTK] at h
  have H' : Mach w ((q, methodObj (.ref 59) (.ref x)) :: (P, listOf #[] cP) :: rest) x dx st T text := H.mono fun _ hp => .tail _ (.tail _ hp)
  obtain ⟨ts, I0⟩ : ∃ ts, ∀ t, GS w g L' s x dx st T it q P k1 k2 k3 k4 tw ts text ((q, methodObj (.ref 59) (.ref x)) :: (P, listOf #[] cP) :: rest) (ln + nls r0) false none r0 [] { s with heap := h5, toks := t } :=
    ⟨_, fun t => ⟨h5, t, _, p, ln, tl, tp, c, _, rfl, G, rfl, rfl, rfl, rfl, hp, hr0, rfl, by rw [← hr0]; simp [Str.length]⟩⟩
  have hq : (q, methodObj (.ref 59) (.ref x)) ∈ ((q, methodObj (.ref 59) (.ref x)) :: (P, listOf #[] cP) :: rest) := .head _
  have gen : ∀ (b : Bool) (cv : Option Value) (s' : Shared), GS w g L' s x dx st T it q P k1 k2 k3 k4 tw ts text ((q, methodObj (.ref 59) (.ref x)) :: (P, listOf #[] cP) :: rest) (ln + nls r0) b cv R TK s' →
      ∃ tk m', Fr g L' s'.heap m' ∧ m' "token" = some (.str (S TK) tk) ∧ Back h₀ L m g L' Q (.str (S TK) tk) s' := by
    intro b cv s' I
    obtain ⟨h', t, m', p', ln', tl', tp', c', tk, rfl, G, m1, m2, m3, m4, hp', hr', hN', hl'⟩ := I.ex
    have G' := G.perm (b := (dx, dictOf (mes w k1 k2 k3 k4 ln' tl' st tw P) 4) :: (T, listOf #[.int ((p' : Nat) : Int) tp'] c') :: (P, listOf #[] cP) :: ([(it, if b then cit .none .none true else cit (.ref q) (.str "" ts) false), (q, methodObj (.ref 59) (.ref x))] ++ rest))
      (List.Perm.cons _ (List.Perm.cons _ (List.perm_middle (l₁ := [_, _]))))
    exact ⟨tk, m', G.F, m2, m', _, G', fun G2 => h _ _ _ _ _ _ _ _ _ hp' hr' (by rw [hr']; omega) G2⟩
  refine wpAny_execs_cons (wpAny_For ?_)
  refine nameX_L G.F rfl ?_
  refine iter_cit (G.mem (.tail _ (.tail _ (.head _)))) ?_
  refine forL (I := fun k s' => (∃ r cv, GS w g L' s x dx st T it q P k1 k2 k3 k4 tw ts text ((q, methodObj (.ref 59) (.ref x)) :: (P, listOf #[] cP) :: rest) (ln + nls r0) false cv r [] s' ∧ tkS r = (TK, R) ∧ k = r.length + 1) ∨
      (k = 0 ∧ R = [] ∧ ∃ cv, GS w g L' s x dx st T it q P k1 k2 k3 k4 tw ts text ((q, methodObj (.ref 59) (.ref x)) :: (P, listOf #[] cP) :: rest) (ln + nls r0) true cv [] TK s')) ?_ (r0.length + 1) (.inl ⟨r0, none, I0 _, hTK, rfl⟩)
  intro k s1 hI
  rcases hI with ⟨r, cv, I, hT, hk⟩ | ⟨hk, hR, cv, I⟩
  · refine gs_next C H' hq I ?_ ?_
    · intro c2 r1 s2 t2 hr I2
      subst hr
      have room1 := gs_room I
      simp only [List.length_cons, List.length_nil] at room1
      refine wpAny_assign_Name (gs_storeCh I2 ?_)
      intro s3 I3
      refine wpAny_execs_cons (wpAny_If ?_)
      refine wpAny_isTrue_Compare1 ?_
      refine gs_ch I3 ?_
      refine Attribute_name ?_
      refine gs_self I3 ?_
      refine gs_ws C H'.hx I3 ?_
      intro t11
      replace I3 := I3.toks t11
      refine in_str ?_
      refine wpAny_truthy_bool ?_
      rw [ws_is]
      by_cases hw : isWs c2 = true
      · refine ite_pos hw ?_
        refine wpAny_execs_cons (wpAny_Continue ?_)
        simp only [tkS, if_pos hw] at hT
        exact ⟨_, by rw [hk]; simp, .inl ⟨r1, _, I3, hT, rfl⟩⟩
      · refine ite_neg hw ?_
        refine wpAny_execs_nil ?_
        try dsimp only
        refine wpAny_execs_cons (wpAny_If ?_)
        refine wpAny_isTrue_Compare1 ?_
        refine gs_ch I3 ?_
        refine gs_lit I3 ?_
        intro t12 s12 I3
        refine eq_str ?_
        refine wpAny_truthy_bool ?_
        rw [show ((S [c2] : Str) == Str.ofString "\"") = decide (c2 = 34) from one_is c2 34]

        by_cases hq1 : c2 = 34
        · refine ite_pos (by simpa using hq1) ?_
          (unfold tkS at hT; rw [if_neg hw, if_pos hq1] at hT)
          refine wpAny_execs_cons (wpAny_For ?_)
          refine gs_fiter I3 ?_
          refine gs_iter I3 ?_
          refine forL (I := fun k s' => ∃ r tok cv, GS w g L' s x dx st T it q P k1 k2 k3 k4 tw ts text ((q, methodObj (.ref 59) (.ref x)) :: (P, listOf #[] cP) :: rest) (ln + nls r0) false cv r tok s' ∧ tkQ tok r = (TK, R) ∧ k = r.length + 1) ?_ (_ + 1) ⟨_, _, _, I3, hT, rfl⟩
          intro k5 s5 ⟨r5, tok5, cv5, I5, hT5, hk5⟩
          refine gs_next C H' hq I5 ?_ ?_
          · intro c2 r2 s6 t6 hr6 I6
            subst hr6
            have room5 := gs_room I5
            simp only [List.length_cons] at room5
            refine wpAny_assign_Name (gs_storeCh I6 ?_)
            intro s7 I7
            refine wpAny_execs_cons (wpAny_If ?_)
            refine wpAny_isTrue_Compare1 ?_
            refine gs_ch I7 ?_
            refine gs_lit I7 ?_
            intro t12 s12 I7
            refine eq_str ?_
            refine wpAny_truthy_bool ?_
            rw [show ((S [c2] : Str) == Str.ofString "\"") = decide (c2 = 34) from one_is c2 34]
            by_cases h1 : c2 = 34
            · refine ite_pos (by simpa using h1) ?_
              try dsimp only
              refine wpAny_execs_cons (wpAny_Return_some ?_)
              obtain ⟨rfl, rfl⟩ : tok5 = TK ∧ r2 = R := by rw [tkQ_end h1] at hT5; simpa using hT5
              obtain ⟨tk, m', F, m2, bk⟩ := gen _ _ _ I7
              exact nameX_L F m2 bk
            · refine ite_neg (by simpa using h1) ?_
              try dsimp only
              refine wpAny_execs_cons (wpAny_If ?_)
              refine wpAny_isTrue_Compare1 ?_
              refine gs_ch I7 ?_
              refine gs_lit I7 ?_
              intro t12 s12 I7
              refine eq_str ?_
              refine wpAny_truthy_bool ?_
              rw [show ((S [c2] : Str) == Str.ofString "\\") = decide (c2 = 92) from one_is c2 92]
              by_cases h2 : c2 = 92
              · refine ite_pos (by simpa using h2) ?_
                try dsimp only
                refine wpAny_execs_cons (wpAny_Assign_Name ?_)
                refine MethodCall_ ?_
                refine gs_self I7 ?_
                refine gs_meth C H'.hx I7 ?_
                refine callWith_K0 (gs_K C I7) (by k_is) ?_
                refine wpAny_call (gs_read C.less H' I7 ?_)
                intro s8 t8 I8
                refine gs_storeCh I8 ?_
                intro s10 I10
                refine wpAny_execs_nil ?_
                refine wpAny_execs_nil ?_
                try dsimp only
                refine wpAny_execs_cons (wpAny_AugAssign_Name ?_)
                refine gs_tokn I10 ?_
                intro tk9
                refine gs_ch I10 ?_
                refine SB.iadd (hsz := by rw [S_len, S_len]; have h9 := H.len; have h11 : sizeLine = 16777216 := rfl; simp only [List.length_cons, List.length_nil, List.length_take]; omega) ?_
                intro u9 v9
                replace I10 := I10.toks v9
                rw [S_append]
                refine gs_storeTok I10 (by simp only [List.length_append, List.length_cons, List.length_nil, List.length_take, List.length_tail]; omega) ?_
                intro s9 I10
                refine wpAny_execs_nil ?_

                cases r2 with
                | nil =>
                  refine ⟨1, ?_, [], tok5, _, by simpa using I10, ?_, rfl⟩
                  · rw [hk5]; simp
                  · rw [tkQ_esc0 h1 h2] at hT5; rw [tkQ_nil]; exact hT5
                | cons d r3 =>
                  refine ⟨r3.length + 1, ?_, r3, tok5 ++ [d], _, I10, ?_, rfl⟩
                  · rw [hk5]; simp
                  · rw [tkQ_esc h1 h2] at hT5; exact hT5
              · refine ite_neg (by simpa using h2) ?_
                refine wpAny_execs_nil ?_
                refine wpAny_execs_nil ?_
                try dsimp only
                refine wpAny_execs_cons (wpAny_AugAssign_Name ?_)
                refine gs_tokn I7 ?_
                intro tk9
                refine gs_ch I7 ?_
                refine SB.iadd (hsz := by rw [S_len, S_len]; have h9 := H.len; have h11 : sizeLine = 16777216 := rfl; simp only [List.length_cons, List.length_nil, List.length_take]; omega) ?_
                intro u9 v9
                replace I7 := I7.toks v9
                rw [S_append]
                refine gs_storeTok I7 (by simp only [List.length_append, List.length_cons, List.length_nil, List.length_take, List.length_tail]; omega) ?_
                intro s9 I7
                refine wpAny_execs_nil ?_

                refine ⟨r2.length + 1, ?_, r2, tok5 ++ [c2], _, I7, ?_, rfl⟩
                · rw [hk5]; simp
                · rw [tkQ_on h1 h2] at hT5; exact hT5
          · intro s6 hr6 I6
            subst hr6
            obtain ⟨rfl, rfl⟩ : tok5 = TK ∧ [] = R := by rw [tkQ_nil] at hT5; simpa using hT5
            refine wpAny_execs_nil ?_
            refine wpAny_execs_nil ?_
            exact ⟨0, by omega, .inr ⟨rfl, rfl, _, I6⟩⟩

        · refine ite_neg (by simpa using hq1) ?_
          (unfold tkS at hT; rw [if_neg hw, if_neg hq1] at hT)
          try dsimp only
          refine wpAny_execs_cons (wpAny_If ?_)
          refine wpAny_isTrue_Compare1 ?_
          refine gs_ch I3 ?_
          refine gs_lit I3 ?_
          intro t12 s12 I3
          refine eq_str ?_
          refine wpAny_truthy_bool ?_
          rw [show ((S [c2] : Str) == Str.ofString "\\") = decide (c2 = 92) from one_is c2 92]

          by_cases hb1 : c2 = 92
          · refine ite_pos (by simpa using hb1) ?_
            try dsimp only
            refine wpAny_execs_cons (wpAny_Assign_Name ?_)
            refine MethodCall_ ?_
            refine gs_self I3 ?_
            refine gs_meth C H'.hx I3 ?_
            refine callWith_K0 (gs_K C I3) (by k_is) ?_
            refine wpAny_call (gs_read C.less H' I3 ?_)
            intro s8 t8 I8
            refine gs_storeCh I8 ?_
            intro s10 I3
            refine wpAny_execs_nil ?_
            try dsimp only
            refine wpAny_execs_cons (wpAny_AugAssign_Name ?_)
            refine gs_tokn I3 ?_
            intro tk9
            refine gs_ch I3 ?_
            refine SB.iadd (hsz := by rw [S_len, S_len]; have h9 := H.len; have h11 : sizeLine = 16777216 := rfl; simp only [List.length_cons, List.length_nil, List.length_take]; omega) ?_
            intro u9 v9
            replace I3 := I3.toks v9
            rw [S_append]
            refine gs_storeTok I3 (by simp only [List.length_append, List.length_cons, List.length_nil, List.length_take, List.length_tail]; omega) ?_
            intro s9 I3

            try dsimp only
            have hT : tkP ([] ++ r1.take 1) r1.tail = (TK, R) := by
              rw [if_pos hb1] at hT
              cases r1 with
              | nil => simpa [tkP] using hT
              | cons d r3 => simpa using hT
            refine wpAny_execs_cons (wpAny_For ?_)
            refine gs_fiter I3 ?_
            refine gs_iter I3 ?_
            refine forL (I := fun k s' => ∃ r tok cv, GS w g L' s x dx st T it q P k1 k2 k3 k4 tw ts text ((q, methodObj (.ref 59) (.ref x)) :: (P, listOf #[] cP) :: rest) (ln + nls r0) false cv r tok s' ∧ tkP tok r = (TK, R) ∧ k = r.length + 1) ?_ (_ + 1) ⟨_, _, _, I3, hT, rfl⟩
            intro k5 s5 ⟨r5, tok5, cv5, I5, hT5, hk5⟩
            refine gs_next C H' hq I5 ?_ ?_
            · intro c2 r2 s6 t6 hr6 I6
              subst hr6
              have room5 := gs_room I5
              simp only [List.length_cons] at room5
              refine wpAny_assign_Name (gs_storeCh I6 ?_)
              intro s7 I7
              refine wpAny_execs_cons (wpAny_If ?_)
              refine wpAny_isTrue_Compare1 ?_
              refine gs_ch I7 ?_
              refine Attribute_name ?_
              refine gs_self I7 ?_
              refine gs_ws C H'.hx I7 ?_
              intro t11
              replace I7 := I7.toks t11
              refine in_str ?_
              refine wpAny_truthy_bool ?_
              rw [ws_is]
              by_cases h1 : isWs c2 = true
              · refine ite_pos h1 ?_
                try dsimp only
                refine wpAny_execs_cons (wpAny_Return_some ?_)
                obtain ⟨rfl, rfl⟩ : tok5 = TK ∧ r2 = R := by rw [tkP_end h1] at hT5; simpa using hT5
                obtain ⟨tk, m', F, m2, bk⟩ := gen _ _ _ I7
                exact nameX_L F m2 bk
              · refine ite_neg (by simpa using h1) ?_
                try dsimp only
                refine wpAny_execs_cons (wpAny_If ?_)
                refine wpAny_isTrue_Compare1 ?_
                refine gs_ch I7 ?_
                refine gs_lit I7 ?_
                intro t12 s12 I7
                refine eq_str ?_
                refine wpAny_truthy_bool ?_
                rw [show ((S [c2] : Str) == Str.ofString "\\") = decide (c2 = 92) from one_is c2 92]
                by_cases h2 : c2 = 92
                · refine ite_pos (by simpa using h2) ?_
                  try dsimp only
                  refine wpAny_execs_cons (wpAny_Assign_Name ?_)
                  refine MethodCall_ ?_
                  refine gs_self I7 ?_
                  refine gs_meth C H'.hx I7 ?_
                  refine callWith_K0 (gs_K C I7) (by k_is) ?_
                  refine wpAny_call (gs_read C.less H' I7 ?_)
                  intro s8 t8 I8
                  refine gs_storeCh I8 ?_
                  intro s10 I10
                  refine wpAny_execs_nil ?_
                  refine wpAny_execs_nil ?_
                  try dsimp only
                  refine wpAny_execs_cons (wpAny_AugAssign_Name ?_)
                  refine gs_tokn I10 ?_
                  intro tk9
                  refine gs_ch I10 ?_
                  refine SB.iadd (hsz := by rw [S_len, S_len]; have h9 := H.len; have h11 : sizeLine = 16777216 := rfl; simp only [List.length_cons, List.length_nil, List.length_take]; omega) ?_
                  intro u9 v9
                  replace I10 := I10.toks v9
                  rw [S_append]
                  refine gs_storeTok I10 (by simp only [List.length_append, List.length_cons, List.length_nil, List.length_take, List.length_tail]; omega) ?_
                  intro s9 I10
                  refine wpAny_execs_nil ?_

                  cases r2 with
                  | nil =>
                    refine ⟨1, ?_, [], tok5, _, by simpa using I10, ?_, rfl⟩
                    · rw [hk5]; simp
                    · rw [tkP_esc0 h1 h2] at hT5; rw [tkP_nil]; exact hT5
                  | cons d r3 =>
                    refine ⟨r3.length + 1, ?_, r3, tok5 ++ [d], _, I10, ?_, rfl⟩
                    · rw [hk5]; simp
                    · rw [tkP_esc h1 h2] at hT5; exact hT5
                · refine ite_neg (by simpa using h2) ?_
                  refine wpAny_execs_nil ?_
                  refine wpAny_execs_nil ?_
                  try dsimp only
                  refine wpAny_execs_cons (wpAny_AugAssign_Name ?_)
                  refine gs_tokn I7 ?_
                  intro tk9
                  refine gs_ch I7 ?_
                  refine SB.iadd (hsz := by rw [S_len, S_len]; have h9 := H.len; have h11 : sizeLine = 16777216 := rfl; simp only [List.length_cons, List.length_nil, List.length_take]; omega) ?_
                  intro u9 v9
                  replace I7 := I7.toks v9
                  rw [S_append]
                  refine gs_storeTok I7 (by simp only [List.length_append, List.length_cons, List.length_nil, List.length_take, List.length_tail]; omega) ?_
                  intro s9 I7
                  refine wpAny_execs_nil ?_

                  refine ⟨r2.length + 1, ?_, r2, tok5 ++ [c2], _, I7, ?_, rfl⟩
                  · rw [hk5]; simp
                  · rw [tkP_on h1 h2] at hT5; exact hT5
            · intro s6 hr6 I6
              subst hr6
              obtain ⟨rfl, rfl⟩ : tok5 = TK ∧ [] = R := by rw [tkP_nil] at hT5; simpa using hT5
              refine wpAny_execs_nil ?_
              refine wpAny_execs_nil ?_
              exact ⟨0, by omega, .inr ⟨rfl, rfl, _, I6⟩⟩

          · refine ite_neg (by simpa using hb1) ?_
            rw [if_neg hb1] at hT
            refine wpAny_execs_nil ?_
            try dsimp only
            refine wpAny_execs_cons (wpAny_AugAssign_Name ?_)
            refine gs_tokn I3 ?_
            intro tk9
            refine gs_ch I3 ?_
            refine SB.iadd (hsz := by rw [S_len, S_len]; have h9 := H.len; have h11 : sizeLine = 16777216 := rfl; simp only [List.length_cons, List.length_nil, List.length_take]; omega) ?_
            intro u9 v9
            replace I3 := I3.toks v9
            rw [S_append]
            refine gs_storeTok I3 (by simp only [List.length_append, List.length_cons, List.length_nil, List.length_take, List.length_tail]; omega) ?_
            intro s9 I3

            try dsimp only
            have hT : tkP ([] ++ [c2]) r1 = (TK, R) := hT
            refine wpAny_execs_cons (wpAny_For ?_)
            refine gs_fiter I3 ?_
            refine gs_iter I3 ?_
            refine forL (I := fun k s' => ∃ r tok cv, GS w g L' s x dx st T it q P k1 k2 k3 k4 tw ts text ((q, methodObj (.ref 59) (.ref x)) :: (P, listOf #[] cP) :: rest) (ln + nls r0) false cv r tok s' ∧ tkP tok r = (TK, R) ∧ k = r.length + 1) ?_ (_ + 1) ⟨_, _, _, I3, hT, rfl⟩
            intro k5 s5 ⟨r5, tok5, cv5, I5, hT5, hk5⟩
            refine gs_next C H' hq I5 ?_ ?_
            · intro c2 r2 s6 t6 hr6 I6
              subst hr6
              have room5 := gs_room I5
              simp only [List.length_cons] at room5
              refine wpAny_assign_Name (gs_storeCh I6 ?_)
              intro s7 I7
              refine wpAny_execs_cons (wpAny_If ?_)
              refine wpAny_isTrue_Compare1 ?_
              refine gs_ch I7 ?_
              refine Attribute_name ?_
              refine gs_self I7 ?_
              refine gs_ws C H'.hx I7 ?_
              intro t11
              replace I7 := I7.toks t11
              refine in_str ?_
              refine wpAny_truthy_bool ?_
              rw [ws_is]
              by_cases h1 : isWs c2 = true
              · refine ite_pos h1 ?_
                try dsimp only
                refine wpAny_execs_cons (wpAny_Return_some ?_)
                obtain ⟨rfl, rfl⟩ : tok5 = TK ∧ r2 = R := by rw [tkP_end h1] at hT5; simpa using hT5
                obtain ⟨tk, m', F, m2, bk⟩ := gen _ _ _ I7
                exact nameX_L F m2 bk
              · refine ite_neg (by simpa using h1) ?_
                try dsimp only
                refine wpAny_execs_cons (wpAny_If ?_)
                refine wpAny_isTrue_Compare1 ?_
                refine gs_ch I7 ?_
                refine gs_lit I7 ?_
                intro t12 s12 I7
                refine eq_str ?_
                refine wpAny_truthy_bool ?_
                rw [show ((S [c2] : Str) == Str.ofString "\\") = decide (c2 = 92) from one_is c2 92]
                by_cases h2 : c2 = 92
                · refine ite_pos (by simpa using h2) ?_
                  try dsimp only
                  refine wpAny_execs_cons (wpAny_Assign_Name ?_)
                  refine MethodCall_ ?_
                  refine gs_self I7 ?_
                  refine gs_meth C H'.hx I7 ?_
                  refine callWith_K0 (gs_K C I7) (by k_is) ?_
                  refine wpAny_call (gs_read C.less H' I7 ?_)
                  intro s8 t8 I8
                  refine gs_storeCh I8 ?_
                  intro s10 I10
                  refine wpAny_execs_nil ?_
                  refine wpAny_execs_nil ?_
                  try dsimp only
                  refine wpAny_execs_cons (wpAny_AugAssign_Name ?_)
                  refine gs_tokn I10 ?_
                  intro tk9
                  refine gs_ch I10 ?_
                  refine SB.iadd (hsz := by rw [S_len, S_len]; have h9 := H.len; have h11 : sizeLine = 16777216 := rfl; simp only [List.length_cons, List.length_nil, List.length_take]; omega) ?_
                  intro u9 v9
                  replace I10 := I10.toks v9
                  rw [S_append]
                  refine gs_storeTok I10 (by simp only [List.length_append, List.length_cons, List.length_nil, List.length_take, List.length_tail]; omega) ?_
                  intro s9 I10
                  refine wpAny_execs_nil ?_

                  cases r2 with
                  | nil =>
                    refine ⟨1, ?_, [], tok5, _, by simpa using I10, ?_, rfl⟩
                    · rw [hk5]; simp
                    · rw [tkP_esc0 h1 h2] at hT5; rw [tkP_nil]; exact hT5
                  | cons d r3 =>
                    refine ⟨r3.length + 1, ?_, r3, tok5 ++ [d], _, I10, ?_, rfl⟩
                    · rw [hk5]; simp
                    · rw [tkP_esc h1 h2] at hT5; exact hT5
                · refine ite_neg (by simpa using h2) ?_
                  refine wpAny_execs_nil ?_
                  refine wpAny_execs_nil ?_
                  try dsimp only
                  refine wpAny_execs_cons (wpAny_AugAssign_Name ?_)
                  refine gs_tokn I7 ?_
                  intro tk9
                  refine gs_ch I7 ?_
                  refine SB.iadd (hsz := by rw [S_len, S_len]; have h9 := H.len; have h11 : sizeLine = 16777216 := rfl; simp only [List.length_cons, List.length_nil, List.length_take]; omega) ?_
                  intro u9 v9
                  replace I7 := I7.toks v9
                  rw [S_append]
                  refine gs_storeTok I7 (by simp only [List.length_append, List.length_cons, List.length_nil, List.length_take, List.length_tail]; omega) ?_
                  intro s9 I7
                  refine wpAny_execs_nil ?_

                  refine ⟨r2.length + 1, ?_, r2, tok5 ++ [c2], _, I7, ?_, rfl⟩
                  · rw [hk5]; simp
                  · rw [tkP_on h1 h2] at hT5; exact hT5
            · intro s6 hr6 I6
              subst hr6
              obtain ⟨rfl, rfl⟩ : tok5 = TK ∧ [] = R := by rw [tkP_nil] at hT5; simpa using hT5
              refine wpAny_execs_nil ?_
              refine wpAny_execs_nil ?_
              exact ⟨0, by omega, .inr ⟨rfl, rfl, _, I6⟩⟩
    · intro s2 hr I2
      subst hr
      simp only [tkS, Prod.mk.injEq] at hT
      obtain ⟨rfl, rfl⟩ := hT
      obtain ⟨tk, m', F, m2, bk⟩ := gen _ _ _ I2
      refine wpAny_execs_cons (wpAny_Return_some ?_)
      exact nameX_L F m2 bk
  · refine gs_over C I ?_
    intro s2 I2
    subst hR
    obtain ⟨tk, m', F, m2, bk⟩ := gen _ _ _ I2
    refine wpAny_execs_cons (wpAny_Return_some ?_)
    exact nameX_L F m2 bk
end
end
-- W1_1
section
/-- a row of a table of headers, as data -/
def rowD (p : List Nat × List Nat) : Dat := .tuple [.str (S p.1), .str (S p.2)]
abbrev tupO (vs : List Value) (n : Nat) : Obj := { cls := .type "tuple", data := .seq vs.toArray n }
theorem pair_of {news : List (Addr × Obj)} {v : Value} {d e : Dat} (h : DatIn news v (.tuple [d, e])) : ∃ t a b n, v = .ref t ∧ (t, tupO [a, b] n) ∈ news ∧ DatIn news a d ∧ DatIn news b e := by
  cases h with
  | tuple hm r =>
    cases r with
    | cons h1 r =>
      cases r with
      | cons h2 r =>
        cases r
        exact ⟨_, _, _, _, rfl, hm, h1, h2⟩
theorem str_of {news : List (Addr × Obj)} {v : Value} {x : Str} (h : DatIn news v (.str x)) : ∃ t, v = .str x t := by
  cases h; exact ⟨_, rfl⟩
theorem int_of {news : List (Addr × Obj)} {v : Value} {x : Int} (h : DatIn news v (.int x)) : ∃ t, v = .int x t := by
  cases h; exact ⟨_, rfl⟩
theorem DatAll.at {news : List (Addr × Obj)} {vs : List Value} {ds : List Dat} (h : DatAll news vs ds) {i : Nat} {v : Value} (hi : vs[i]? = some v) : ∃ d, ds[i]? = some d ∧ DatIn news v d := by
  have hl := h.length
  obtain ⟨hlt, e⟩ := List.getElem?_eq_some_iff.mp hi
  obtain ⟨w, hw, hd⟩ := DatAll.get h (k := i) (by omega)
  rw [hi] at hw
  cases hw
  exact ⟨_, List.getElem?_eq_getElem (by omega), hd⟩
section
variable {K : Frag} {pr : Program} {loose : List Str} {mean : ExcName → Option Value} {mg mb : Str → Option Value} {prog : Program} {w : World} {n : Nat} {A : Around} {env : Env} {L : Addr} {h₀ : Heap}
  {m : Str → Option Value} {news : List (Addr × Obj)} {s : Shared} {E : Value → Shared → Prop}
theorem r_unpack2 {e1 e2 : PySem.Expr} {k : Nat} {pos : Pos} {t : Addr} {a b : Value} {c : Nat} {Q : Unit → Shared → Prop} (hh : A.handled = none) (G : Lg h₀ L s.heap m news) (hm : (t, tupO [a, b] c) ∈ news)
    (h : ∀ h', Lg h₀ L h' m news → wpAny (model prog w) A (assign e1 env a) (fun _ s₁ => wpAny (model prog w) A (assign e2 env b) Q E s₁) E { s with heap := h' })
    (ha : assignEach [e1, e2] env = [(false, assign e1 env), (false, assign e2 env)] := by rfl) :
    wpAny (model prog w) A (assign (.Tuple [e1, e2] k pos) env (.ref t)) Q E s := by
  refine unpackN_ G.F G.N (G.N.isTup hm) hh (by rw [ha]; rfl) (by rw [ha]; rfl) fun h' F' N' => ?_
  rw [ha]
  exact assignInOrder_cons (wpAny_mono (h h' ⟨F', N', G.nd⟩) (fun _ s' z => assignInOrder_cons (wpAny_mono z (fun _ s'' z' => assignInOrder_nil z') fun _ _ x => x)) fun _ _ x => x)
end
theorem find_at {α : Type} {f : α → Bool} : ∀ {l : List α} {i : Nat} {p : α}, l[i]? = some p → f p = true → (∀ q ∈ l.take i, f q = false) → l.find? f = some p
  | [], _, _, h, _, _ => by simp at h
  | a :: r, 0, p, h, hf, _ => by
    simp only [List.getElem?_cons_zero, Option.some.injEq] at h
    subst h
    rw [List.find?_cons, hf]
  | a :: r, i + 1, p, h, hf, hn => by
    have ha := hn a (by simp)
    rw [List.find?_cons, ha]
    exact find_at (by simpa using h) hf fun q hq => hn q (by simp [hq])
theorem take_next {α : Type} {f : α → Prop} {l : List α} {i : Nat} {p : α} (h : l[i]? = some p) (ha : ∀ q ∈ l.take i, f q) (hp : f p) : ∀ q ∈ l.take (i + 1), f q := by
  intro q hq
  obtain ⟨hl, e⟩ := List.getElem?_eq_some_iff.mp h
  rw [List.take_succ, List.mem_append] at hq
  rcases hq with hq | hq
  · exact ha q hq
  · rw [h] at hq
    simp at hq
    rw [hq]; exact hp

/-- the tuples of a ledger stand in another one -/
def Tups (a b : List (Addr × Obj)) : Prop := ∀ t vs n, (t, tupO vs n) ∈ a → (t, tupO vs n) ∈ b
theorem Tups.rows {a b : List (Addr × Obj)} (h : Tups a b) : ∀ {its : List Value} {rows : List (List Nat × List Nat)}, DatAll a its (rows.map rowD) → DatAll b its (rows.map rowD)
  | [], [], _ => .nil
  | [], _ :: _, x => by cases x
  | _ :: _, [], x => by cases x
  | v :: vs, p :: ps, x => by
    cases x with
    | cons hd r =>
      obtain ⟨tu, va, vb, cu, rfl, hm, ha, hb⟩ := pair_of hd
      obtain ⟨ta, rfl⟩ := str_of ha
      obtain ⟨tb, rfl⟩ := str_of hb
      exact .cons (.tuple (h _ _ _ hm) (.cons (.str _ _) (.cons (.str _ _) .nil))) (Tups.rows h r)
theorem Tups.of {a b : List (Addr × Obj)} (h : ∀ p ∈ a, p ∈ b) : Tups a b := fun _ _ _ hm => h _ hm
section
variable {L : Addr} {h₀ h : Heap} {m : Str → Option Value} {news : List (Addr × Obj)}
end
end
-- K0
section
open PySem PySem.W PyProof.Rows PySem.Calls PySem.Spec PyProof.Rows.LCg
section
variable {K : Frag} {pr : Program} {loose : List Str} {mean : ExcName → Option Value} {mg mb : Str → Option Value} {prog : Program} {w : World} {n : Nat} {A : Around} {env : Env} {L : Addr} {h₀ : Heap}
  {m : Str → Option Value} {news : List (Addr × Obj)} {s : Shared} {E : Value → Shared → Prop}
/-- the first object of a ledger changed, all else kept -/
theorem Lg.upd1 {h h' : Heap} {a : Addr} {o o' : Obj} {r : List (Addr × Obj)} (G : Lg h₀ L h m ((a, o) :: r)) (hk : ∀ b ob, b ≠ a → h.get? b = some ob → h'.get? b = some ob) (ho : h'.get? a = some o') : Lg h₀ L h' m ((a, o') :: r) := by
  have ha := G.N _ (.head _)
  have nd := G.nd
  rw [List.map_cons, List.nodup_cons] at nd
  refine ⟨⟨G.F.ns.at' fun ob e => hk _ _ (Ne.symm ha.2.1) e, fun b ob e => hk b ob (fun q => ?_) (G.F.keep b ob e), G.F.above⟩, fun p hp => ?_, G.nd⟩
  · rw [q, ha.2.2] at e; cases e
  · rcases List.mem_cons.mp hp with rfl | hp
    · exact ⟨ho, ha.2⟩
    · have z := G.N p (.tail _ hp)
      exact ⟨hk _ _ (fun q => nd.1 (List.mem_map.mpr ⟨p, hp, q⟩)) z.1, z.2⟩
theorem Lg.swap {h : Heap} {a b : Addr × Obj} {r : List (Addr × Obj)} (G : Lg h₀ L h m (a :: b :: r)) : Lg h₀ L h m (b :: a :: r) := G.perm (List.Perm.swap _ _ _)
/-- what stands after a turn of such a block -/
def PT (h₀ : Heap) (L : Addr) (m : Str → Option Value) (s : Shared) (I : Addr) (oI : Obj) (C : Addr) (oC : Obj) (D : Addr) (ys : List Value) (news : List (Addr × Obj)) (J : Prop) (s' : Shared) : Prop :=
  ∃ h t, s' = { s with heap := h, toks := t } ∧ Lg h₀ L h m ((I, oI) :: (C, oC) :: (D, lst ys) :: news) ∧ J
/-- a list out of a list of pairs, with a test; the ledger stays -/
theorem comp_PT {ct elt iter : PySem.Expr} {x y : Str} {px py tp : Pos} {kk : Nat} {scope : Scope} {cl : List (Str × Addr)} {pos : Pos} {Q : Value → Shared → Prop} {l : Addr} {its : Array Value} {c : Nat}
    (hh : A.handled = none) (hclos : closureFor scope env = pure cl) (hcell : ∀ y ∈ scope.names, y.2 ≠ .cell) (hkind : scope.kind = .function)
    (hnames : ∀ y ∈ scope.names, y.2 = .local → scope.names.lookup y.1 = some .local) (hx : scope.names.lookup x = some .local) (hy : scope.names.lookup y = some .local) (hsz : its.size ≤ sizeLine)
    (h : wpAny (model prog w) A (eval iter env) (fun xv s₁ => xv = .ref l ∧ ∃ news, Lg h₀ L s₁.heap m news ∧ (l, listOf its c) ∈ news ∧ ∃ J : Nat → List Value → Prop, J 0 [] ∧
      (∀ i v, its[i]? = some v → ∃ t a b cu, v = .ref t ∧ (t, tupO [a, b] cu) ∈ news ∧ ∀ I oI C oC D ys h tk m₂, J i ys → NsObj oC m₂ → m₂ x = some a → m₂ y = some b → Lg h₀ L h m ((I, oI) :: (C, oC) :: (D, lst ys) :: news) →
        wpAny (model prog w) A (isTrue ct (compEnvC scope cl C env) (eval ct (compEnvC scope cl C env))) (fun ok s' => if ok = true then
          wpAny (model prog w) A (eval elt (compEnvC scope cl C env)) (fun z s'' => PT h₀ L m s₁ I oI C oC D ys news (J (i + 1) (ys ++ [z])) s'') (fun _ _ => False) s'
          else PT h₀ L m s₁ I oI C oC D ys news (J (i + 1) ys) s') (fun _ _ => False) { s₁ with heap := h, toks := tk }) ∧
      ∀ D h t ys, J its.size ys → Lg h₀ L h m ((D, lst ys) :: news) → Q (.ref D) { s₁ with heap := h, toks := t }) E s)
    (hxy : x ≠ y := by decide) (hs : ∀ x, foldedSetIterable iter env x = pure x := by intro _; rfl) :
    wpAny (model prog w) A (eval (.ListComp elt [⟨.Tuple [.Name x px, .Name y py] kk tp, iter, [ct], 0⟩] scope pos) env) Q E s := by
  rw [eval_ListComp]
  refine wpAny_comprehension_free (use := none) rfl hs hclos hkind hnames (wpAny_mono h (fun xv s₁ h₁ => ?_) fun _ _ e => e)
  obtain ⟨rfl, news, G, hl, J, h0, turn, fin⟩ := h₁
  have hli := G.lst hl
  have hlt : l < s₁.heap.objs.size := by obtain ⟨_, e, _⟩ := hli; exact Heap.lt_size e
  have W : ∀ I, l ≠ I → _ := fun I hne => Walks.list (prog := prog) (w := w) hh I l hne its
  refine wpAny_pyIter_list hli ?_
  have key : ∀ (H1 : Heap) (I : Addr) (oI : Obj), l ≠ I → Lg h₀ L H1 m ((I, oI) :: news) → H1.IsListIter I l 0 → H1.IsList l its → wpAny (model prog w) A (newList []) (fun acc s₃ => wpAny (model prog w) A (newFunctionEnv scope env.globals cl [] env.qual none .none (some env)) (fun cenv s₄ =>
      codeAny (model prog w) A (.compStart (.ListComp elt [⟨.Tuple [.Name x px, .Name y py] kk tp, iter, [ct], 0⟩] scope pos) 0 (.ref I) acc { cenv with scope := relabel scope env }) (compPost (model prog w) A E none Q acc cenv.locals) s₄) E s₃) E { s₁ with heap := H1 } := by
    intro H1 I oI hlI GI hit hlist
    have W := W I hlI
    have hIL : L ≠ I := Ne.symm (GI.N _ (.head _)).2.1
    have hI0 : h₀.get? I = none := (GI.N _ (.head _)).2.2
    refine wpAny_newObj_type (wpAny_newFunctionEnv hcell (by intro y hy; simp at hy) (fun h₁ hns₁ hsb₁ => ?_) hkind)
    dsimp only at hns₁ hsb₁ ⊢
    have GD := GI.push (lst [])
    generalize hD : H1.objs.size = D at GD ⊢
    have eD : ({ cls := .type "list", dict := none, data := .seq ([] : List Value).toArray } : Obj) = lst [] := rfl
    rw [eD] at hns₁ hsb₁ ⊢
    generalize hH2 : H1.push (lst []) = H2 at *
    generalize hC : H2.objs.size = C at *
    obtain ⟨oC, hoC, hoN⟩ := ns_obj hns₁
    have old : ∀ b o, H2.get? b = some o → h₁.get? b = some o := fun b o e => hsb₁.extBut b o (by rw [← hC]; exact Nat.ne_of_lt (Heap.lt_size e)) (Heap.get?_push_of_some _ e)
    have hCL : C ≠ L := by rw [← hC]; exact Ne.symm (Nat.ne_of_lt GD.F.ns.lt)
    have hC0 : h₀.get? C = none := by rw [← hC]; exact next_is_new GD.F
    have GC : Lg h₀ L h₁ m ((C, oC) :: (D, lst []) :: (I, oI) :: news) := by
      refine GD.cons (GD.F.keeps old) (fun p hp => ?_) fun p hp => by rw [← hC]; exact Heap.lt_size (GD.N p hp).1
      rcases List.mem_cons.mp hp with rfl | hp
      · exact ⟨hoC, hCL, hC0⟩
      · exact ⟨old _ _ (GD.N p hp).1, (GD.N p hp).2⟩
    have G0 : Lg h₀ L h₁ m ((I, oI) :: (C, oC) :: (D, lst []) :: news) := GC.perm (((List.Perm.swap _ _ _).cons _).trans (List.Perm.swap _ _ _))
    have hit₁ : h₁.IsListIter I l 0 := by
      obtain ⟨o, e, r⟩ := hit
      refine ⟨o, old _ _ ?_, r⟩
      rw [← hH2]; exact Heap.get?_push_of_some _ e
    clear hsb₁ old GC hoC
    have loop : ∀ s₃ : Shared, (∃ tk, s₃ = { s₁ with heap := h₁, toks := tk }) →
        codeAny (model prog w) A (.compLoop (.ListComp elt [⟨.Tuple [.Name x px, .Name y py] kk tp, iter, [ct], 0⟩] scope pos) 0 (.ref I) (.ref D) (compEnvC scope cl C env)) (compPost (model prog w) A E none Q (.ref D) C) s₃ := by
      rintro s₃ ⟨tk₀, rfl⟩
      refine kct_loop (fun k s' => ∃ h' tk i ys m' oC oI, s' = { s₁ with heap := h', toks := tk } ∧ i ≤ its.size ∧ k = its.size + 1 - i ∧ ys.length ≤ i ∧ h'.IsListIter I l i ∧ NsObj oC m' ∧ Lg h₀ L h' m ((I, oI) :: (C, oC) :: (D, lst ys) :: news) ∧ J i ys) ?_ (its.size + 1)
        ⟨h₁, _, 0, [], _, oC, oI, rfl, Nat.zero_le _, rfl, Nat.le_refl _, hit₁, hoN, G0, h0⟩
      rintro k s' ⟨h', tk, i, ys, m', oC, oI, rfl, hi, rfl, hyl, hit', hoN, G', hJ⟩
      have hl' : h'.IsList l its := G'.lst (.tail _ (.tail _ (.tail _ hl)))
      by_cases hlt' : i < its.size
      · refine W.item i _ _ _ hlt' ⟨hit', hl'⟩ fun v h₂ tk₂ hPv st₂ hk₂ => ?_
        refine letGo_listiter st₂.1 ?_
        obtain ⟨t, a, b, cu, rfl, hmt, go⟩ := turn i v hPv
        obtain ⟨oI₂, hoI₂, hr₂⟩ := id st₂.1
        have G₂ : Lg h₀ L h₂ m ((I, oI₂) :: (C, oC) :: (D, lst ys) :: news) := G'.upd1 (fun b ob hb e => hk₂ b ob (by simpa using hb) e) hoI₂
        have hnC : h₂.Ns C m' := hoN.ns (G₂.mem (.tail _ (.head _)))
        refine kcp_assign (m := m') hh ⟨_, G₂.mem (.tail _ (.tail _ (.tail _ hmt))), rfl, cu, rfl⟩ (lookup_relabel_local hx) (lookup_relabel_local hy) (by simp [compEnvC, relabel, hkind]) hnC fun h₃ tk₃ hn₃ hk₃ => ?_
        obtain ⟨oC₃, hoC₃, hoN₃⟩ := ns_obj hn₃
        have G₃ : Lg h₀ L h₃ m ((I, oI₂) :: (C, oC₃) :: (D, lst ys) :: news) := (G₂.swap.upd1 (fun b ob hb e => hk₃ b ob hb e) hoC₃).swap
        have st₃ : h₃.IsListIter I l (i + 1) := ⟨oI₂, G₃.mem (.head _), hr₂⟩
        refine wpAny_mono (go I oI₂ C oC₃ D ys h₃ tk₃ _ hJ hoN₃ (by simp [hxy]) (by simp) G₃) (fun ok s₄ h₄ => ?_) fun _ _ z => z.elim
        cases ok with
        | true =>
          refine wpAny_mono h₄ (fun z s₅ h₅ => ?_) fun _ _ z => z.elim
          obtain ⟨h5, t5, rfl, G5, hJ5⟩ := h₅
          refine append_at (hsz := by show ys.toArray.size ≤ sizeLine; rw [List.size_toArray]; exact Nat.le_trans (Nat.le_trans hyl hi) hsz) (G5.mem (.tail _ (.tail _ (.head _)))) fun h6 hs6 hD6 => ?_
          have G6 := G5.set (o' := lst (ys ++ [z])) 2 rfl hs6 (hD6.trans (congrArg some (lst_snoc ys z)))
          refine ⟨its.size + 1 - (i + 1), by omega, h6, _, i + 1, ys ++ [z], _, oC₃, oI₂, rfl, hlt', rfl, by rw [List.length_append, List.length_singleton]; omega, ⟨oI₂, G6.mem (.head _), hr₂⟩, hoN₃, G6, hJ5⟩
        | false =>
          obtain ⟨h5, t5, rfl, G5, hJ5⟩ := h₄
          exact ⟨its.size + 1 - (i + 1), by omega, h5, _, i + 1, ys, _, oC₃, oI₂, rfl, hlt', rfl, by omega, ⟨oI₂, G5.mem (.head _), hr₂⟩, hoN₃, G5, hJ5⟩
      · have hin : i = its.size := by omega
        subst hin
        refine W.done _ _ _ ⟨hit', hl'⟩ fun h₂ tk₂ hk₂ => ?_
        have off : ∀ p ∈ ((C, oC) :: (D, lst ys) :: news : List (Addr × Obj)), p.1 ≠ I := by
          have nd := G'.nd
          rw [List.map_cons, List.nodup_cons] at nd
          exact fun p hp e => nd.1 (List.mem_map.mpr ⟨p, hp, e⟩)
        have G₂ : Lg h₀ L h₂ m ((C, oC) :: (D, lst ys) :: news) := lg_but (G'.sub (List.sublist_cons_self _ _)) hk₂ hIL hI0 off
        refine ⟨m', hoN.ns (G₂.mem (.head _)), fun h'' hs'' => fin D h'' tk₂ ys hJ ?_⟩
        have nd := G₂.nd
        rw [List.map_cons, List.nodup_cons] at nd
        refine ⟨G₂.F.change hs'' hCL hC0, fun p hp => ⟨hs''.extBut _ _ (fun q => nd.1 (List.mem_map.mpr ⟨p, hp, q⟩)) (G₂.N p (.tail _ hp)).1, (G₂.N p (.tail _ hp)).2⟩, nd.2⟩
    exact codeAny_compStart_list (loop _ ⟨_, rfl⟩) (W.self 0 _ _ _ ⟨hit₁, G0.lst (.tail _ (.tail _ (.tail _ hl)))⟩ (loop _ ⟨_, rfl⟩))
  exact key _ _ _ (Nat.ne_of_lt hlt) (G.push _) ⟨_, Heap.get?_push_size _ rfl, rfl, rfl⟩ (hli.push _)
end
end
-- W2_1
section
set_option maxHeartbeats 1000000
section
variable {prog : Program} {w : World} {A : Around} {L : Addr} {h₀ : Heap}
  {m : Str → Option Value} {news : List (Addr × Obj)} {s : Shared} {E : Value → Shared → Prop}
/-- all of a list in a new one -/
theorem r_allOf {value slice : PySem.Expr} {l : Addr} {its : Array Value} {c : Nat} {Q : Value → Shared → Prop} (G : Lg h₀ L s.heap m news) (hl : (l, listOf its c) ∈ news) (hsz : its.size ≤ 1000000)
    (h : ∀ D h', Lg h₀ L h' m ((D, listOf its 0) :: news) → Q (.ref D) { s with heap := h' })
    (hs : subscripted slice false (.ref l) (.ref s.heap.objs.size) = operate [.ref s.heap.objs.size, .ref l] (getItem (.ref l) (.ref s.heap.objs.size)) := by with_unfolding_all rfl)
    (ht : ∀ r, letTemporaryGo value (.ref l) r = pure () := by intro _; with_unfolding_all rfl) :
    wpAny (model prog w) A (subscriptTail value slice (.ref l) (.ref s.heap.objs.size)) Q E { s with heap := s.heap.push { cls := .type "slice", data := .fields #[.none, .none, .none] } } := by
  refine slice_list G.F G.N (G.lst hl) .none .none (fun h' F' N' => h _ h' ?_) hs ht (Nat.le_trans hsz (by decide))
  rw [show slicePick its none none none = its from slicePick_all its] at N'
  exact G.cons F' N' fun p hp => Nat.lt_succ_of_lt (Heap.lt_size (G.N p hp).1)

section
variable {I C c : Addr} {oI oC o : Obj} {m₂ : Str → Option Value} {x : Str} {v : Value} {scope : Scope} {cl : List (Str × Addr)} {env : Env} {pos : Pos} {M : Model} {rest : List (Addr × Obj)}
theorem cn_var {Q : Value → Shared → Prop} (G : Lg h₀ L s.heap m ((I, oI) :: (C, oC) :: rest)) (hC : LCg.NsObj oC m₂) (hx : m₂ x = some v) (h : Q v s)
    (hk : (compEnvC scope cl C env).scope.kind = .function := by rfl) (hl : (compEnvC scope cl C env).kindOf x = some .local := by rfl) (hd : (x == ("__debug__" : Str)) = false := by decide) :
    wpAny M A (eval (.Name x pos) (compEnvC scope cl C env)) Q E s := ldVarK (hC.ns (G.mem (.tail _ (.head _)))) hx h hk hl hd
theorem cn_cell {Q : Value → Shared → Prop} (G : Lg h₀ L s.heap m news) (hc : cl.lookup x = some c) (hm : (c, o) ∈ news) (hd : o.data = .cell (some v)) (h : Q v s)
    (hk : (compEnvC scope cl C env).scope.kind = .function := by rfl) (hl : (compEnvC scope cl C env).kindOf x = some .cell := by rfl) (hdb : (x == ("__debug__" : Str)) = false := by decide) :
    wpAny M A (eval (.Name x pos) (compEnvC scope cl C env)) Q E s := ldCellK hc ⟨o, G.mem hm, hd⟩ h hk hl hdb
end
end
end
-- W3_1
section
set_option maxHeartbeats 1000000
section
variable {prog : Program} {w : World} {A : Around} {L : Addr} {h₀ : Heap}
  {m : Str → Option Value} {news : List (Addr × Obj)} {s : Shared} {E : Value → Shared → Prop}
end
end
-- L4_1
section
section
variable {pr : Program} {loose : List Str} {mean : ExcName → Option Value} {mg mb : Str → Option Value} {prog : Program} {w : World} {n : Nat} {A : Around} {env : Env} {L : Addr} {h₀ : Heap}
  {m : Str → Option Value} {news : List (Addr × Obj)} {s : Shared} {E : Value → Shared → Prop}
open LCg (NsObj lst Off3 Off1 fr_but news_but)

end
end
-- W4_1
section
section
variable {prog : Program} {w : World} {A : Around} {L : Addr} {h₀ : Heap}
  {m : Str → Option Value} {news : List (Addr × Obj)} {s : Shared} {E : Value → Shared → Prop}
theorem r_range1 {Q : Value → Shared → Prop} {n : Int} {t : Tok} (G : Lg h₀ L s.heap m news)
    (h : ∀ r h' tk t₁ u₁ v₁, IsRange h' r 0 n 1 t₁ u₁ v₁ → Lg h₀ L h' m news → Q (.ref r) { s with heap := h', toks := tk }) :
    wpAny (model prog w) A (call (.type "range") [.int n t]) Q E s :=
  range1_rows G.F G.N fun h' tk t₁ u₁ v₁ hr F' N' _ => h _ h' tk t₁ u₁ v₁ hr ⟨F', N', G.nd⟩
theorem r_itemB {value slice : PySem.Expr} {l : Addr} {its : Array Value} {k : Int} {u : Tok} {v : Value} {Q : Value → Shared → Prop}
    (hl : s.heap.IsList l its) (h0 : 0 ≤ k) (hhi : k < 2 ^ 63) (hx : its[k.toNat]? = some v) (h : Q v s)
    (hs : subscripted slice false (.ref l) (.int k u) = operate [.ref l, .int k u] (getItem (.ref l) (.int k u)) := by with_unfolding_all rfl) :
    wpAny (model prog w) A (subscriptTail value slice (.ref l) (.int k u)) Q E s :=
  tail_any hl.typeIs slot_list_getitem.lookup (wpAny_getItem_list hl h0 hhi hx h) hs
/-- a sign of a text -/
theorem r_sign {value slice : PySem.Expr} {x : Str} {t u : Tok} {k : Int} {c : Nat} {Q : Value → Shared → Prop}
    (hr : (decide (k < -(2 ^ 63 : Int)) || decide (k ≥ 2 ^ 63)) = false) (hc : (seqIndex? k x.length).bind (x.cps[·]?) = some c)
    (h : Q (.str (S [c]) s.toks) { s with toks := s.toks + 1 })
    (hs : subscripted slice false (.str x t) (.int k u) = operate [.str x t, .int k u] (getItem (.str x t) (.int k u)) := by with_unfolding_all rfl) :
    wpAny (model prog w) A (subscriptTail value slice (.str x t) (.int k u)) Q E s :=
  tail_any (typeIs_str _ _ _) PySem.F.slot_str_getitem.lookup (P.getItem_str hr hc h) hs
/-- a part of a list in a new one -/
theorem r_part {value slice : PySem.Expr} {l : Addr} {its : Array Value} {vl vu : Value} {lo hi : Option Int} {Q : Value → Shared → Prop} (G : Lg h₀ L s.heap m news) (hl : s.heap.IsList l its) (pl : IsPart vl lo) (pu : IsPart vu hi) (hsz : its.size ≤ 1000000)
    (h : ∀ D h', Lg h₀ L h' m ((D, listOf (slicePick its lo hi none) 0) :: news) → Q (.ref D) { s with heap := h' })
    (hs : subscripted slice false (.ref l) (.ref s.heap.objs.size) = operate [.ref s.heap.objs.size, .ref l] (getItem (.ref l) (.ref s.heap.objs.size)) := by with_unfolding_all rfl) :
    wpAny (model prog w) A (subscriptTail value slice (.ref l) (.ref s.heap.objs.size)) Q E { s with heap := s.heap.push { cls := .type "slice", data := .fields #[vl, vu, .none] } } := by
  refine kba_turn (value' := PySem.Expr.Name (PySem.Str.ofString "_") ⟨0, 0, 0, 0⟩) (fun _ => rfl) ?_
  exact slice_list G.F G.N hl pl pu (fun h' F' N' => h _ h' (G.cons F' N' fun p hp => Nat.lt_succ_of_lt (Heap.lt_size (G.N p hp).1))) hs (fun _ => rfl) (Nat.le_trans hsz (by decide))
end
theorem ints_at : ∀ {vs : List Value} {ns : List Int}, IntsAre vs ns → ∀ {i : Nat}, i < vs.length → ∃ (b : Int) (t : Tok), vs[i]? = some (.int b t) ∧ ns[i]? = some b
  | _, _, .nil, _, h => absurd h (Nat.not_lt_zero _)
  | _, _, .cons n t _, 0, _ => ⟨n, t, rfl, rfl⟩
  | _, _, .cons n t r, i + 1, h => by
    obtain ⟨b, u, h1, h2⟩ := ints_at r (i := i) (by simpa using h)
    exact ⟨b, u, by simpa using h1, by simpa using h2⟩
theorem fmod_lt (a : Int) (k : Nat) (hk : 0 < k) : ∃ j : Nat, j < k ∧ a.fmod (k : Int) = (j : Int) := by
  rw [Int.fmod_eq_emod_of_nonneg _ (by omega)]
  have h1 := Int.emod_nonneg a (b := (k : Int)) (by omega)
  have h2 := Int.emod_lt_of_pos a (b := (k : Int)) (by omega)
  exact ⟨(a % (k : Int)).toNat, by omega, by omega⟩
section
variable {L : Addr} {h₀ h : Heap} {m : Str → Option Value}
end
theorem DatIn.intEq {nw : List (Addr × Obj)} {x y : Int} {t : Tok} (e : x = y) : DatIn nw (.int x t) (.int y) := by subst e; exact .int _ _
theorem DatAll.take {nw : List (Addr × Obj)} : ∀ {vs : List Value} {ds : List Dat} (k : Nat), DatAll nw vs ds → DatAll nw (vs.take k) (ds.take k)
  | _, _, 0, _ => .nil
  | [], _, k + 1, h => by cases h; exact .nil
  | v :: vs, _, k + 1, h => by
    cases h with
    | cons h r => exact .cons h (DatAll.take k r)
end
-- P0_1
section
def lastN (y : List Nat) : Nat := y.getLast?.getD 0
def headN (y : List Nat) : Nat := y.head?.getD 0
end
-- W5_1
section
section
variable {prog : Program} {w : World} {A : Around} {L : Addr} {h₀ : Heap}
  {m : Str → Option Value} {news : List (Addr × Obj)} {s : Shared} {E : Value → Shared → Prop}
theorem r_addS {a b : List Nat} {t u : Tok} {Q : Value → Shared → Prop} (hsz : a.length + b.length ≤ 1000000) (h : ∀ t' k, Q (.str (S (a ++ b)) t') { s with toks := k }) :
    wpAny (model prog w) A (binaryOp .Add (.str (S a) t) (.str (S b) u)) Q E s :=
  SBL.add (fun t' k _ => by rw [S_append]; exact h t' k) (by rw [S_len, S_len, sizeLine_eq]; omega)
/-- the first sign -/
theorem r_first {value slice : PySem.Expr} {y : List Nat} {t u : Tok} {Q : Value → Shared → Prop} (hy : y ≠ [])
    (h : Q (.str (S [headN y]) s.toks) { s with toks := s.toks + 1 })
    (hs : subscripted slice false (.str (S y) t) (.int 0 u) = operate [.str (S y) t, .int 0 u] (getItem (.str (S y) t) (.int 0 u)) := by with_unfolding_all rfl) :
    wpAny (model prog w) A (subscriptTail value slice (.str (S y) t) (.int 0 u)) Q E s := by
  refine r_sign (by decide) ?_ h hs
  obtain ⟨a, r, rfl⟩ := List.exists_cons_of_ne_nil hy
  simp [seqIndex?, S, headN, Str.length]
/-- the last sign -/
theorem r_last {value slice : PySem.Expr} {y : List Nat} {t u : Tok} {Q : Value → Shared → Prop} (hy : y ≠ [])
    (h : Q (.str (S [lastN y]) s.toks) { s with toks := s.toks + 1 })
    (hs : subscripted slice false (.str (S y) t) (.int (-1) u) = operate [.str (S y) t, .int (-1) u] (getItem (.str (S y) t) (.int (-1) u)) := by with_unfolding_all rfl) :
    wpAny (model prog w) A (subscriptTail value slice (.str (S y) t) (.int (-1) u)) Q E s := by
  refine r_sign (by decide) ?_ h hs
  have hl : 0 < y.length := List.length_pos_iff.mpr hy
  have e1 : seqIndex? (-1) (S y).length = some (y.length - 1) := by
    rw [S_len]
    unfold seqIndex?
    simp only [show ((-1 : Int) < 0) = True by simp, if_true]
    rw [if_pos (by simp; omega)]
    congr 1
    omega
  rw [e1]
  show (S y).cps[y.length - 1]? = some (lastN y)
  unfold S lastN
  rw [List.getElem?_toArray, List.getLast?_eq_getElem?]
  rw [List.getElem?_eq_getElem (by omega)]
  rfl
end
end
local macro_rules | `(tactic| walk_at "nm") => do
  let G := Lean.mkIdent `G
  let C := Lean.mkIdent `C
  let D := Lean.mkIdent `D
  `(tactic| ((rename Lg _ _ _ _ _ => $G); (rename Cx _ _ _ _ _ _ _ _ _ _ _ => $C); (first | refine nameX_L (Lg.F $G) (by first | rfl | assumption) ?_ | refine nameX_K (Lg.F $G) (Cx.X $C) (topRead_of (Cx.T $C)) (by k_is) ?_ | refine nameX_B (Lg.F $G) (Cx.X $C) (topRead_of (Cx.T $C)) (by k_is) (by boot_fast) (by decide) ?_ | refine nameX_C (Lg.N $G) (by rfl) (by walk_at "mem") (by with_reducible assumption) ?_)))
local macro_rules | `(tactic| walk_at "cw") => do
  let G := Lean.mkIdent `G
  let C := Lean.mkIdent `C
  let D := Lean.mkIdent `D
  `(tactic| ((rename Lg _ _ _ _ _ => $G); (rename Cx _ _ _ _ _ _ _ _ _ _ _ => $C); (first
  | ((with_reducible show wpAny _ _ (callWith _ (Value.builtin _) _ _ _) _ _ _); first | with_reducible refine callWith_method0 ?_ | refine callWith_method1 ?_)
  | ((with_reducible show wpAny _ _ (callWith _ (Value.type _) _ _ _) _ _ _); first | refine Pv.callWith_type1 ?_ | refine Pv.callWith_type0 ?_)
  | ((with_reducible show wpAny _ _ (callWith _ (Value.ref _) _ _ []) _ _ _); first | refine callWith_K (Cx.X $C) (by k_is) ?_ | refine callWith_K0 ((Cx.X $C).keeps (Lg.F $G).keep) (by k_is) ?_)
  | ((with_reducible show wpAny _ _ (callWith _ (Value.ref _) _ _ _) _ _ _); first | refine callWith_KW (Cx.X $C) (by k_is) (by rfl) ?_ | refine callWith_KW0 (Cx.X $C) (by k_is) (by rfl) ?_))))
local macro_rules | `(tactic| walk_at "st") => do
  let G := Lean.mkIdent `G
  let C := Lean.mkIdent `C
  let D := Lean.mkIdent `D
  `(tactic| ((rename Lg _ _ _ _ _ => $G); refine r_store $G ?_; clear $G; intro h' $G; (try dsimp only)))
local macro_rules | `(tactic| walk_at "mem") => do
  let G := Lean.mkIdent `G
  let C := Lean.mkIdent `C
  let D := Lean.mkIdent `D
  `(tactic| (repeat (first | with_reducible exact List.mem_cons_self | with_reducible assumption | with_reducible apply List.mem_cons_of_mem)))
local macro_rules | `(tactic| walk_at "ga") => do
  let G := Lean.mkIdent `G
  let C := Lean.mkIdent `C
  let D := Lean.mkIdent `D
  `(tactic| ((rename Lg _ _ _ _ _ => $G); (rename Cx _ _ _ _ _ _ _ _ _ _ _ => $C); refine get_own (Lg.F $G) (Cx.X $C) (InstAt.of_news (Lg.N $G) (by walk_at "mem") (by walk_at "mem")) (by k_is) (by k_is) (by k_is) (by k_is) (by rfl) rfl ?_))
local macro_rules | `(tactic| walk_at "gm") => do
  let G := Lean.mkIdent `G
  let C := Lean.mkIdent `C
  let D := Lean.mkIdent `D
  `(tactic| ((rename Lg _ _ _ _ _ => $G); (rename Cx _ _ _ _ _ _ _ _ _ _ _ => $C); refine method_inst (Lg.F $G) (Cx.X $C) (InstAt.of_news (Lg.N $G) (by walk_at "mem") (by walk_at "mem")) (by k_is) (by k_is) (by k_is) (by rfl) ?_))
local macro_rules | `(tactic| walk_at "sa") => do
  let G := Lean.mkIdent `G
  let C := Lean.mkIdent `C
  let D := Lean.mkIdent `D
  `(tactic| ((rename Lg _ _ _ _ _ => $G); (rename Cx _ _ _ _ _ _ _ _ _ _ _ => $C); (first | refine r_setAttr (i := 0) $C $G (by walk_at "mem") rfl (by k_is) (by k_is) (by k_is) (by k_is) rfl rfl (Nat.le_of_ble_eq_true rfl) ?_ | refine r_setAttr (i := 1) $C $G (by walk_at "mem") rfl (by k_is) (by k_is) (by k_is) (by k_is) rfl rfl (Nat.le_of_ble_eq_true rfl) ?_ | refine r_setAttr (i := 2) $C $G (by walk_at "mem") rfl (by k_is) (by k_is) (by k_is) (by k_is) rfl rfl (Nat.le_of_ble_eq_true rfl) ?_); clear $G; intro h' $G; (try dsimp only [List.set_cons_succ, List.set_cons_zero] at $G:ident); (try dsimp only)))
local macro_rules | `(tactic| walk_at "go1") => do
  let G := Lean.mkIdent `G
  let C := Lean.mkIdent `C
  let D := Lean.mkIdent `D
  `(tactic| first
  | ((with_reducible show wpAny _ _ (eval (Expr.Name _ _) (compEnvC _ _ _ _)) _ _ _); (rename Lg _ _ _ _ _ => $G); first | refine cn_var $G (by with_reducible assumption) (by with_reducible assumption) ?_ | refine cn_cell $G (by rfl) (by walk_at "mem") (by with_reducible assumption) ?_)
  | ((with_reducible show wpAny _ _ (eval (Expr.Name _ _) _) _ _ _); walk_at "nm")
  | ((with_reducible show wpAny _ _ (spliced (_ :: _)) _ _ _); refine spliced_more ?_)
  | ((with_reducible show wpAny _ _ (spliced _) _ _ _); first | refine spliced_none ?_ | refine spliced_more ?_)
  | ((with_reducible show wpAny _ _ (eval (Expr.Constant (Const.int _) _ _) _) _ _ _); refine wpAny_Constant_int ?_)
  | ((with_reducible show wpAny _ _ (eval (Expr.Constant (Const.str _) _ _) _) _ _ _); refine Calls.Constant_str ?_)
  | ((with_reducible show wpAny _ _ (execs [] _) _ _ _); refine wpAny_execs_nil ?_; (try dsimp only))
  | ((with_reducible show wpAny _ _ (execs (_ :: _) _) _ _ _); refine wpAny_execs_cons ?_; (try dsimp only))
  | ((with_reducible show wpAny _ _ (exec (Stmt.Assign [Expr.Name _ _] _ _) _) _ _ _); refine wpAny_Assign_Name ?_)
  | ((with_reducible show wpAny _ _ (exec (Stmt.Assign [Expr.Subscript _ _ _] _ _) _) _ _ _); refine wpAny_Assign_Subscript ?_)
  | ((with_reducible show wpAny _ _ (exec (Stmt.AugAssign (Expr.Name _ _) _ _ _) _) _ _ _); refine wpAny_AugAssign_Name ?_)
  | ((with_reducible show wpAny _ _ (exec (Stmt.For _ _ _ _ _) _) _ _ _); refine wpAny_For ?_)
  | ((with_reducible show wpAny _ _ (eval (Expr.UnaryOp _ _ _) _) _ _ _); refine UnaryOp_ ?_)
  | ((with_reducible show wpAny _ _ (unaryOp UnaryOp.USub (Value.int _ _)) _ _ _); refine neg_int ?_)
  | ((with_reducible show wpAny _ _ (PySem.isTrue (Expr.BoolOp _ _ _) _ _) _ _ _); first | with_reducible refine isTrue_and_nil ?_ | with_reducible refine isTrue_or_nil ?_ | with_reducible refine isTrue_and ?_ | with_reducible refine isTrue_or ?_)
  | ((with_reducible show wpAny _ _ (exec (Stmt.Return (some _) _) _) _ _ _); refine wpAny_Return_some ?_)
  | ((with_reducible show wpAny _ _ (exec (Stmt.Expr _ _) _) _ _ _); refine wpAny_Expr ?_)
  | ((with_reducible show wpAny _ _ (exec (Stmt.If _ _ _ _) _) _ _ _); refine wpAny_If ?_)
  | ((with_reducible show wpAny _ _ (eval (Expr.BinOp _ _ _ _) _) _ _ _); refine wpAny_BinOp ?_)
  | ((with_reducible show wpAny _ _ (eval (Expr.Subscript _ _ _) _) _ _ _); refine Subscript_ ?_)
  | ((with_reducible show wpAny _ _ (eval (Expr.Tuple _ _ _) _) _ _ _); refine Tuple_ ?_)
  | ((with_reducible show wpAny _ _ (eval (Expr.List _ _) _) _ _ _); refine List_ ?_)
  | ((with_reducible show wpAny _ _ (eval (Expr.Call (Expr.Attribute _ _ _) _ (_ :: _) _) _) _ _ _); refine methodCall_KW ?_)
  | ((with_reducible show wpAny _ _ (eval (Expr.Call (Expr.Attribute _ _ _) _ _ _) _) _ _ _); refine MethodCall_ ?_)
  | ((with_reducible show wpAny _ _ (evalAll _) _ _ _); first | refine kwAll_cons ?_ | refine kwAll_nil ?_)
  | ((with_reducible show wpAny _ _ (eval (Expr.Call (Expr.Name _ _) _ (_ :: _) _) _) _ _ _); refine wpAny_Call_Name_kw ?_)
  | ((with_reducible show wpAny _ _ (eval (Expr.Call _ _ _ _) _) _ _ _); refine Call_ ?_)
  | ((with_reducible show wpAny _ _ (eval (Expr.Attribute (Expr.Name _ _) _ _) _) _ _ _); refine Attribute_name ?_)
  | ((with_reducible show wpAny _ _ (eval (Expr.IfExp _ _ _ _) _) _ _ _); refine IfExp_ ?_)
  | ((with_reducible show wpAny _ _ (eval (Expr.Compare _ [_] [_] _) _) _ _ _); refine wpAny_Compare1 ?_)
  | ((with_reducible show wpAny _ _ (PySem.isTrue (Expr.Compare _ [_] [_] _) _ _) _ _ _); refine wpAny_isTrue_Compare1 ?_)
  | ((with_reducible show wpAny _ _ (PySem.isTrue (Expr.Name _ _) _ _) _ _ _); refine isTrue_plain ?_)
  | ((with_reducible show wpAny _ _ (PySem.isTrue (Expr.Attribute _ _ _) _ _) _ _ _); refine isTrue_plain ?_)
  | ((with_reducible show wpAny _ _ (PySem.isTrue (Expr.Call _ _ _ _) _ _) _ _ _); refine isTrue_plain ?_)
  | ((with_reducible show wpAny _ _ (callWith _ _ _ _ _) _ _ _); walk_at "cw")
  | ((with_reducible show (Frag.In _ _) ∧ _); (rename Lg _ _ _ _ _ => $G); (rename Cx _ _ _ _ _ _ _ _ _ _ _ => $C); refine ⟨(Cx.X $C).keeps (Lg.F $G).keep, ?_⟩; (try dsimp only [List.nil_append, List.cons_append]))
  | ((with_reducible show wpAny _ _ (PySem.isTrue (Expr.Constant _ _ _) _ _) _ _ _); refine isTrue_plain ?_)
  | ((with_reducible show wpAny _ _ (compareOp CmpOp.IsNot _ Value.none) _ _ _); refine isNot_none ?_)
  | ((with_reducible show wpAny _ _ (compareOp CmpOp.Is _ Value.none) _ _ _); refine is_none ?_)
  | ((with_reducible show ite (_ = true) _ _); first | with_reducible refine ite_pos rfl ?_ | with_reducible refine ite_neg Bool.false_ne_true ?_ | refine ite_pos (by decide) ?_ | refine ite_neg (by decide) ?_)
  | ((with_reducible show wpAny _ _ (eval (Expr.Constant Const.none _ _) _) _ _ _); refine wpAny_Constant_none ?_)
  | ((with_reducible show wpAny _ _ (eval (Expr.Constant (Const.bool _) _ _) _) _ _ _); refine wpAny_Constant_bool ?_)
  | ((with_reducible show wpAny _ _ (call (Value.type "type") [Value.str _ _]) _ _ _); refine call_type_of (Tx := "str") rfl (by decide +kernel) ?_)
  | ((with_reducible show wpAny _ _ (compareOp CmpOp.IsNot (Value.type _) (Value.type _)) _ _ _); refine wpAny_isNot_self (by rfl) ?_)
  | ((with_reducible show wpAny _ _ (compareOp CmpOp.Is (Value.type _) (Value.type _)) _ _ _); refine wpAny_is_self (by rfl) ?_)
  | ((with_reducible show wpAny _ _ (getMethod (Value.str _ _) (Str.ofString "lower") _) _ _ _); refine GM.lower ?_)
  | ((with_reducible show wpAny _ _ (getMethod (Value.str _ _) (Str.ofString "upper") _) _ _ _); refine GM.upper ?_)
  | ((with_reducible show wpAny _ _ (getMethod (Value.str _ _) (Str.ofString "lstrip") _) _ _ _); refine GM.lstrip ?_)
  | ((with_reducible show wpAny _ _ (assign (Expr.Name _ _) _ _) _ _ _); refine wpAny_assign_Name ?_)
  | ((with_reducible show wpAny _ _ (getAttr (Value.ref _) _ _) _ _ _); walk_at "ga")
  | ((with_reducible show wpAny _ _ (setAttr (Value.ref _) _ _) _ _ _); walk_at "sa")
  | ((with_reducible show wpAny _ _ (getMethod (Value.ref _) (Str.ofString "append") _) _ _ _); (rename Lg _ _ _ _ _ => $G); refine listMethod_K (Lg.N $G) (by walk_at "mem") PySem.F.slot_list_append PySem.F.type_list_append ?_)
  | ((with_reducible show wpAny _ _ (getMethod (Value.ref _) _ _) _ _ _); walk_at "gm")
  | ((with_reducible show wpAny _ _ (exec (Stmt.Assign [Expr.Attribute _ _ _] _ _) _) _ _ _); refine plainObj_wpAny_Assign_Attribute ?_)
  | ((with_reducible show wpAny _ _ (newList _) _ _ _); (rename Lg _ _ _ _ _ => $G); refine r_newList $G ?_; clear $G; intro $D h' $G; (try dsimp only))
  | ((with_reducible show wpAny _ _ (newTuple _) _ _ _); (rename Lg _ _ _ _ _ => $G); refine r_newTuple $G ?_; clear $G; intro $D h' $G; (try dsimp only))
  | ((with_reducible show wpAny _ _ (storeName _ _ _) _ _ _); walk_at "st")
  | ((with_reducible show wpAny _ _ (truthy (Value.bool _)) _ _ _); refine wpAny_truthy_bool ?_)
  | ((with_reducible show wpAny _ _ (binaryOp Operator.Add (Value.int _ _) (Value.int _ _)) _ _ _); refine add_int ?_)
  | ((with_reducible show wpAny _ _ (binaryOp Operator.Mod (Value.int _ _) (Value.int _ _)) _ _ _); refine mod_int' (by decide) ?_)
  | ((with_reducible show wpAny _ _ (binaryOp Operator.FloorDiv (Value.int _ _) (Value.int _ _)) _ _ _); refine floordiv_int (by decide) ?_ (Or.inl (PyProof.noPylong_small (by decide))))
  | ((with_reducible show wpAny _ _ (binaryOp Operator.Sub (Value.int _ _) (Value.int _ _)) _ _ _); refine sub_int ?_)
  | ((with_reducible show wpAny _ _ (compareOp CmpOp.Eq (Value.str _ _) (Value.str _ _)) _ _ _); refine eq_str ?_)
  | ((with_reducible show wpAny _ _ (compareOp CmpOp.Eq (Value.int _ _) (Value.int _ _)) _ _ _); refine eq_int ?_)
  | ((with_reducible show wpAny _ _ (compareOp CmpOp.NotEq (Value.str _ _) (Value.str _ _)) _ _ _); refine ne_str ?_))
local macro_rules | `(tactic| walk_at "go") => do
  let G := Lean.mkIdent `G
  let C := Lean.mkIdent `C
  let D := Lean.mkIdent `D
  `(tactic| repeat (walk_at "go1"))
-- N1_1
section
theorem fillN1 : hd.heap_1 = hd.heap_1 ∧ PySem.Challenge.rw_pe0228_01 = PySem.Challenge.rw_pe0228_01 := by
  k_fill
  exact ⟨rfl, rfl⟩
section
variable {pr : Program} {loose : List Str} {mean : ExcName → Option Value} {mg mb : Str → Option Value} {prog : Program} {w : World} {n : Nat} {A : Around} {env : Env} {L : Addr} {h₀ : Heap}
  {m : Str → Option Value} {news : List (Addr × Obj)} {s : Shared} {E : Value → Shared → Prop}
set_option maxHeartbeats 1000000
theorem tc_weight (C : Addr) (rest : List Value) (kw : List (Str × Value)) : (Code.builtin "type.__call__" ⟨.ref C :: rest, kw⟩).weight = 1 := by kernel_rfl
theorem tc_units (C : Addr) (rest : List Value) (kw : List (Str × Value)) : (Code.builtin "type.__call__" ⟨.ref C :: rest, kw⟩).cUnits = 1 := by kernel_rfl
theorem tc_envs (C : Addr) (rest : List Value) (kw : List (Str × Value)) : (Code.builtin "type.__call__" ⟨.ref C :: rest, kw⟩).envs = [] := by kernel_rfl
theorem Cx.tc {K : Frag} {D : Addr} {rest : List Value} {kw : List (Str × Value)} (C : Cx K pr loose mean mg mb (n + 1) A env L h₀) : Cx K pr loose mean mg mb n (A.under (.builtin "type.__call__" ⟨.ref D :: rest, kw⟩)) env L h₀ := by
  obtain ⟨⟨A₀, base, outer, B, hA⟩, ef, el, ek, X, T, dp, un, hn⟩ := C
  refine ⟨⟨A₀, base, outer, B, ?_⟩, ef, el, ek, X, T, ?_, ?_, hn⟩
  · unfold Around.under
    rw [tc_envs]
    exact hA
  · show A.depth + (Code.builtin "type.__call__" ⟨.ref D :: rest, kw⟩).weight + 4 * n < 1000
    rw [tc_weight]; omega
  · show A.units + (Code.builtin "type.__call__" ⟨.ref D :: rest, kw⟩).cUnits + 40 * n < 9900
    rw [tc_units]; omega
/-- a reader made -/
theorem make_lex {Q : Value → Shared → Prop} {st : Addr}
    (C : Cx (hd.heap_1 w.params) pr loose mean mg mb (n + 2) A env L h₀) (G : Lg h₀ L s.heap m news)
    (h : ∀ x dx P h' t k1 k2 k3 k4 tl tw, Lg h₀ L h' m ((P, listOf #[] 0) :: (x, instObj 76 dx) :: (dx, dictOf (mes w k1 k2 k3 k4 1 tl st tw P) 4) :: news) → Q (.ref x) { s with heap := h', toks := t }) :
    wpAny (model prog w) A (call (.ref 76) [.ref st]) Q E s := by
  refine wpAny_call (PySem.W.make_K (fI := 52) G.F G.N (C.X.keeps G.F.keep) (by k_is) (by k_is) (by k_is) ?_)
  intro x dx h1 F1 N1 l1 l2
  have G : Lg h₀ L h1 m ((x, instObj 76 dx) :: (dx, dictOf [] 0) :: news) := by
    refine ⟨F1, N1, ?_⟩
    simp only [List.map_cons, List.nodup_cons, List.mem_cons, List.mem_map, not_or]
    refine ⟨⟨Nat.ne_of_gt l2, ?_⟩, ?_, G.nd⟩
    · rintro ⟨p, hp, e⟩
      have := Nat.lt_trans (l1 p hp) l2
      rw [e] at this; exact absurd this (Nat.lt_irrefl _)
    · rintro ⟨p, hp, e⟩
      have := l1 p hp
      rw [e] at this; exact absurd this (Nat.lt_irrefl _)
  refine codeAny_mono (enterC (Q := fun v s' => v = .none ∧ Q (.ref x) s') (E := fun e s' => (RQ Q E) (.error e) s') (binds := [(Str.ofString "self", .ref x), (Str.ofString "fp", .ref st)]) C.tc G (by k_is) (by k_is) (BindsTo.of_eq rfl) (locs rfl) rfl rfl rfl (by decide) ?_) ?_
  · intro g L' h₁ C st' G
    refine hideQ fun Y0 hY => ?_
    walk_at "go"
    exact hY _ _ ⟨_, _, G, fun G2 => ⟨rfl, h _ _ _ _ _ _ _ _ _ _ _ G2⟩⟩
  · intro r s' z
    rcases r with e | (v | _ | _ | _)
    · exact z
    · exact z
    · exact z
    · exact z
    · exact z

theorem updF_at {D : Addr} {o : Obj} : ∀ {news : List (Addr × Obj)} {i : Nat}, news[i]? = some (D, o) → (news.map (·.1)).Nodup → UpdF D o news (fun o' => news.set i (D, o'))
  | [], _, h, _ => by simp at h
  | p :: r, 0, h, nd => by
    simp only [List.getElem?_cons_zero, Option.some.injEq] at h
    subst h
    rw [List.map_cons, List.nodup_cons] at nd
    exact UpdF.head fun q hq e => nd.1 (List.mem_map.mpr ⟨q, hq, e⟩)
  | p :: r, i + 1, h, nd => by
    rw [List.map_cons, List.nodup_cons] at nd
    have h' : r[i]? = some (D, o) := by simpa using h
    refine UpdF.tail (fun e => nd.1 ?_) (updF_at h' nd.2)
    rw [e]
    exact List.mem_map.mpr ⟨(D, o), List.mem_of_getElem? h', rfl⟩
theorem Lg.nest {h' h : Heap} {m' : Str → Option Value} {f c' : Addr} {of oc : Obj} {l l' : List (Addr × Obj)} (G : Lg h₀ L h m l) (F' : Fr h₀ L h' m') (N' : News h₀ L h' ((f, of) :: (c', oc) :: l')) (e : l'.map (·.1) = l.map (·.1))
    (hl : ∀ q ∈ l, q.1 < c') (hf : c' < f) : Lg h₀ L h' m' ((f, of) :: (c', oc) :: l') := by
  refine ⟨F', N', ?_⟩
  have a1 : ∀ q ∈ l', q.1 < c' := by
    intro q hq
    have : q.1 ∈ l'.map (·.1) := List.mem_map.mpr ⟨q, hq, rfl⟩
    rw [e] at this
    obtain ⟨p, hp, ep⟩ := List.mem_map.mp this
    rw [← ep]; exact hl p hp
  simp only [List.map_cons, List.nodup_cons, List.mem_cons, List.mem_map, not_or]
  refine ⟨⟨Nat.ne_of_gt hf, ?_⟩, ?_, by rw [e]; exact G.nd⟩
  · rintro ⟨p, hp, ep⟩
    have := Nat.lt_trans (a1 p hp) hf
    rw [ep] at this; exact absurd this (Nat.lt_irrefl _)
  · rintro ⟨p, hp, ep⟩
    have := a1 p hp
    rw [ep] at this; exact absurd this (Nat.lt_irrefl _)

/-- the law's reader over a text -/
theorem law_machine {Q : Value → Shared → Prop} {text : Str} {tt : Tok}
    (C : Cx (hd.heap_1 w.params) pr loose mean mg mb (n + 4) A env L h₀) (G : Lg h₀ L s.heap m ((249, tabObj #[]) :: news)) (hcd : CodeHd h₀ 253 249) (hl : text.length ≤ 1000000)
    (h : ∀ x dx st T P h' t k1 k2 k3 k4 tl tw tp fz, Mach w fz x dx st T text → (∃ ps, (249, tabObj ps) ∈ fz) → Lg h₀ L h' m ((dx, dictOf (mes w k1 k2 k3 k4 1 tl st tw P) 4) :: (T, listOf #[.int ((0 : Nat) : Int) tp] 0) :: (P, listOf #[] 0) :: (fz ++ news)) → Q (.ref x) { s with heap := h', toks := t }) :
    wpAny (model prog w) A (call (.ref 254) [.str text tt]) Q E s := by
  refine enterL (binds := [(Str.ofString "text", .str text tt)]) C G (by k_is) (by k_is) (BindsTo.of_eq rfl) ?_ (by decide +kernel) rfl rfl rfl ?_
  · intro n x hx
    rw [List.mem_singleton.mp hx]
    exact .inr ⟨rfl, rfl⟩
  intro g L' h₁ tk cells C st' Y G
  refine hideQ fun Y0 hY => ?_
  have hcd' : CodeHd g 253 249 := hcd.keeps st'
  obtain ⟨oc1, oc2, rfl, d1, d2⟩ := CellsAre.two (c := L' + 2) (c' := L' + 1) (n := Str.ofString "at") (n' := Str.ofString "text") Y
  dsimp only [List.cons_append, List.nil_append] at G
  walk_at "go"
  refine r_storeC (i := 1) G rfl rfl d1 ?_
  intro h2 o2 e2 G
  dsimp only [List.set_cons_succ, List.set_cons_zero] at G
  dsimp only
  walk_at "go"
  refine nestDef_K rfl rfl rfl ?_
  refine nest_K G.F G.N C.T hcd' rfl (updF_at (i := 3) rfl G.nd) True.intro rfl rfl ?_
  intro f c' oc vs t ctv doc h3 tk3 F3 N3 hod hov l1 l2
  have G := G.nest F3 N3 (by rfl) l1 l2
  dsimp only [List.set_cons_succ, List.set_cons_zero] at G
  walk_at "go"
  refine kla_eval rfl ?_
  refine kla_nest G.F G.N C.T hcd' rfl (updF_at (i := 5) rfl G.nd) (by simp [TriplesOk, rawInt]) (by simp [codeAmong, rawInt]) rfl ?_
  intro f2 c2 oc3 vs2 t2 ctv2 h4 tk4 F4 N4 hod2 hov2 l3 l4
  have G := G.nest F4 N4 (by rfl) l3 l4
  dsimp only [List.set_cons_succ, List.set_cons_zero] at G
  walk_at "go"
  refine r_setFn (i := 0) G rfl fn_read ?_
  intro D2 h5 k5 t5 G
  dsimp only [List.set_cons_succ, List.set_cons_zero] at G
  dsimp only
  walk_at "go"
  refine make_lex C G ?_
  intro x dx P h6 t6 k1 k2 k3 k4 tl tw G
  have G := (G.front 8 rfl).front 3 rfl
  dsimp only [List.eraseIdx_cons_succ, List.eraseIdx_cons_zero] at G
  dsimp only
  refine hY _ _ ⟨_, _, G, fun G2 => h x dx f2 _ P _ _ _ _ _ _ _ _ _ [(x, _), (D2, _), (f2, _), (c2, _), (f, _), (c', _), (_, o2), (_, oc2), (249, _)] ?_ ⟨_, by walk_at "mem"⟩ G2⟩
  have hf := defIn_of (K := hd.heap_1 w.params) (a := 254) (i := 1) (by k_is) (by rfl)
  refine ⟨by walk_at "mem", ?_, hl⟩
  rw [hf]
  exact ⟨D2, _, _, f, _, c', L' + 1, L' + 2, oc, oc2, o2, vs, _, t, tt, doc, _, ctv, by walk_at "mem", by walk_at "mem", by walk_at "mem", by walk_at "mem", hod, hov, by walk_at "mem", d2, by walk_at "mem", e2⟩
end
end
-- W6_1
section
section
variable {prog : Program} {w : World} {A : Around} {L : Addr} {h₀ : Heap}
  {m : Str → Option Value} {news : List (Addr × Obj)} {s : Shared} {E : Value → Shared → Prop}
end
theorem Lg.back {L : Addr} {h₀ h : Heap} {m : Str → Option Value} {x : Addr × Obj} {l : List (Addr × Obj)} (k : Nat) (G : Lg h₀ L h m (x :: l)) : Lg h₀ L h m (l.take k ++ x :: l.drop k) := by
  refine G.perm ?_
  have := (List.perm_middle (a := x) (l₁ := l.take k) (l₂ := l.drop k)).symm
  rwa [List.take_append_drop] at this
end
-- K2
section
open PySem PySem.W PyProof.Rows PySem.Calls PySem.Spec PyProof.V
section
variable {K : Frag} {pr : Program} {loose : List Str} {mean : ExcName → Option Value} {mg mb : Str → Option Value} {prog : Program} {w : World} {n : Nat} {A : Around} {env : Env} {L : Addr} {h₀ : Heap}
  {m : Str → Option Value} {news : List (Addr × Obj)} {s : Shared} {E : Value → Shared → Prop}
/-- a def with a ** parameter is entered -/
theorem enterKw {Q : Value → Shared → Prop} {name qual : Str} {params : Arguments} {body : List Stmt} {scope : Scope} {dV kV doc pm cdv ct oc : Value} {an od : Option Addr} {osl : Array (Option Value)} {f : Addr}
    {args : List Value} {kw : List (Str × Value)} {nm : Str} {ex front : List (Str × Value)} {DD : List (PyData × PyData)} {g₁ : Addr → Sem (List (Str × Value))}
    (C : Cx K pr loose mean mg mb (n + 1) A env L h₀) (G : Lg h₀ L s.heap m news)
    (ho : K.lookup f = some ⟨oc, od, .func (fnOf name qual params body scope dV kV doc pm an cdv ct), osl⟩) (hcd : codeIn K cdv qual = true)
    (hx : kw.filter (fun x => !ownKw params x.1) = ex) (hnm : params.kwarg.map (·.arg) = some nm) (hn : kwDistinct ex = true) (hD : FlatPairs PyData.str ex DD)
    (hfr : peek K ⟨prog, w.params⟩ (bindArgs (fnCut (fnOf name qual params body scope dV kV doc pm an cdv ct)) (argsCut params ⟨args, kw⟩)) = some front)
    (hp : peekA K ⟨prog, w.params⟩ (bindArgs (fnOf name qual params body scope dV kV doc pm an cdv ct) ⟨args, kw⟩) = some (dictOf [] 0, g₁))
    (hk₁ : ∀ D, g₁ D = (forIn ex PUnit.unit (fun x _ => (nsSet D x.1 x.2 >>= fun _ => pure (ForInStep.yield PUnit.unit))) >>= fun _ => pure (front ++ [(nm, Value.ref D)])))
    (hloc : ∀ D, ∀ y ∈ front ++ [(nm, Value.ref D)], scope.names.lookup y.1 = some .local)
    (hco : scope.isCoroutine = false) (hgen : scope.isGenerator = false) (hk : scope.kind = .function) (hcell : ∀ x ∈ scope.names, x.2 ≠ .cell)
    (h : ∀ D o g L' h₁ tk, (D == sysModules) = false → o.IsDictOf (strKind prog w) ex → Cx K pr loose mean mg mb n (A.deeper (envOf qual scope L' f cdv)) (envOf qual scope L' f cdv) L' g →
      Lg g L' h₁ (fun y => (front ++ [(nm, Value.ref D)]).reverse.lookup y) ((D, o) :: news) →
      wpAny (model prog w) (A.deeper (envOf qual scope L' f cdv)) (execs body (envOf qual scope L' f cdv)) (fun fl s' => Back h₀ L m g L' Q (rv fl) s') (fun _ _ => False)
        { s with heap := h₁, toks := tk }) :
    wpAny (model prog w) A (call (.ref f) args kw) Q E s := by
  obtain ⟨A₀, base, outer, B, hA⟩ := C.B
  have hr : A.depth < recursionLimit := by have := C.dp; show A.depth < 1000; omega
  refine wpAny_call (kpc_more (cl := []) B G.F C.X G.N C.T hA C.ef C.ek ho hcd hr hx hnm hn hD hfr hp hk₁ hloc ?_ hco hgen hk hcell)
  intro D o g L' h₁ tk lD lo hdo _ FG F' N' B' X' T'
  have C' : Cx K pr loose mean mg mb n (A.deeper (envOf qual scope L' f cdv)) (envOf qual scope L' f cdv) L' g := by
    refine ⟨⟨A, base, env :: outer, B', Around.frames_deeper hA⟩, rfl, rfl, hk, X', T', ?_, ?_, C.hn⟩
    · have := C.dp; show A.depth + 1 + 4 * n < 1000; omega
    · have := C.un; show A.units + 3 + 40 * n < 9900; omega
  have nd : (((D, o) :: news).map (·.1)).Nodup := by
    rw [List.map_cons, List.nodup_cons]
    refine ⟨fun hm => ?_, G.nd⟩
    obtain ⟨p, hp, e⟩ := List.mem_map.mp hm
    exact absurd (lD p hp) (by rw [e]; exact Nat.lt_irrefl _)
  refine wpAny_mono (h D o g L' h₁ tk lo hdo C' ⟨F', N', nd⟩) (fun fl s' hb => ?_) fun _ _ x => x.elim
  obtain ⟨m', news', G', k⟩ := hb
  refine ⟨L', m', news', G'.F, G'.N, fun F₂ N₂ => ?_⟩
  have := k ⟨F₂, N₂, G'.nd⟩
  cases fl <;> exact this
/-- a dict's items, looked up and shown -/
theorem r_itemsM {d : Addr} {o : Obj} {ex : List (Str × Value)} {pl : Sem Bool} {Q : Value × List Value → Shared → Prop} (G : Lg h₀ L s.heap m news) (hp : (d, o) ∈ news) (hd : o.IsDictOf (strKind prog w) ex)
    (h : Q (.builtin "dict.items", [.ref d]) s) : wpAny (model prog w) A (getMethod (.ref d) "items" pl) Q E s :=
  kdl_method (knd := strKind prog w) PySem.F.slot_dict_items PySem.F.type_dict_items G.N hp hd h
abbrev viewO (d : Addr) : Obj := { cls := .type "dict_items", data := .fields #[.ref d] }
theorem r_items {d : Addr} {o : Obj} {ex : List (Str × Value)} {Q : Value → Shared → Prop} (G : Lg h₀ L s.heap m news) (hp : (d, o) ∈ news) (hd : o.IsDictOf (strKind prog w) ex) (lo : (d == sysModules) = false)
    (h : ∀ V h', Lg h₀ L h' m ((V, viewO d) :: news) → Q (.ref V) { s with heap := h' }) : wpAny (model prog w) A (call (.builtin "dict.items") [.ref d]) Q E s := by
  have hD := kda_dict G.N hp hd
  exact call_meetsIn PySem.F.slot_dict_items hD.typeIs PySem.F.entry_dict_items (PySem.F.args_dict_items_1 _) (meets_dict_items (strKind prog w) d lo) ⟨⟨ex, hD⟩, h _ _ (G.push _)⟩
/-- a for loop over a dict's items -/
theorem for_items {a b : Str} {pa pb tp : Pos} {kk : Nat} {body : List Stmt} {d V : Addr} {o : Obj} {ex : List (Str × Value)} {Q : Flow → Shared → Prop} (hh : A.handled = none) (G : Lg h₀ L s.heap m news)
    (hV : (V, viewO d) ∈ news) (hd : o.IsDictOf (strKind prog w) ex) (hel : env.locals = L) (ha : env.kindOf a = some .local) (hb : env.kindOf b = some .local) (hek : (env.scope.kind == .class || (env.scope.kind == .module && env.locals != env.globals)) = false)
    (J : Nat → (Str → Option Value) → List (Addr × Obj) → Prop) (hJS : ∀ i m nw, J i m nw → (d, o) ∈ nw) (h0 : J 0 m news)
    (turn : ∀ I i k t x h' tk m' nw oI, ex[i]? = some (k, x) → J i m' nw → Lg h₀ L h' (fun z => if z = b then some x else if z = a then some (.str k t) else m' z) ((I, oI) :: nw) →
      wpAny (model prog w) A (execs body env) (TurnEnd h₀ L s I oI (J (i + 1)) Q) (fun _ _ => False) { s with heap := h', toks := tk })
    (hend : ∀ h' t m' nw, J ex.length m' nw → Lg h₀ L h' m' nw → Q .next { s with heap := h', toks := t }) :
    wpAny (model prog w) A (pyIter (.ref V)) (fun it s₂ => codeAny (model prog w) A (.forLoop (.Tuple [.Name a pa, .Name b pb] kk tp) it body [] env) (fun r s' => match r with | .ok f => Q f s' | .error e => cameBackBy (model prog w) A env E e s') s₂) E s := by
  obtain ⟨ep, hat⟩ := KdkAt.of hd
  have hdm := hJS _ _ _ h0
  have hm := hat.dictAt (G.mem hdm)
  refine wpAny_pyIter_items (knd := strKind prog w) ⟨_, G.mem hV, rfl, rfl⟩ hm ?_
  have G1 := G.push { cls := .type "dict_itemiterator", data := .fields #[.none, .bool false, .ref d, .int 0 0, .int ex.length 0, .int ep 0, .none, .none] }
  have hit0 : IsItemIter (s.heap.push { cls := .type "dict_itemiterator", data := .fields #[.none, .bool false, .ref d, .int 0 0, .int ex.length 0, .int ep 0, .none, .none] }) s.heap.objs.size d 0 ex.length ep .none .none := Heap.get?_push_size _ rfl
  have hdI : d ≠ s.heap.objs.size := Nat.ne_of_lt (Heap.lt_size (G.mem hdm))
  generalize s.heap.push _ = H1 at *
  generalize s.heap.objs.size = I at *
  have hIL : L ≠ I := Ne.symm (G1.N _ (.head _)).2.1
  have hI0 : h₀.get? I = none := (G1.N _ (.head _)).2.2
  have W := kti_itemsTurns (prog := prog) (w := w) (knd := strKind prog w) (elts := [.Name a pa, .Name b pb]) (kk := kk) (pos := tp) hh I d hdI ex ep
  refine codeAny_forLoop_any (fun k s' => ∃ i h' t m' nw, s' = { s with heap := h', toks := t } ∧ Lg h₀ L h' m' nw ∧ (∀ p ∈ nw, p.1 ≠ I) ∧ (∃ ok ov, IsItemIter h' I d i ex.length ep ok ov) ∧ J i m' nw ∧ i ≤ ex.length ∧ k = ex.length - i) ?_ ex.length ?_
  · rintro k s' ⟨i, h', t, m', nw, rfl, G', off, hit, hJ, hi, rfl⟩
    have hD' := hat.dictAt (G'.mem (hJS _ _ _ hJ))
    by_cases hlt : i < ex.length
    · refine W.item i _ _ _ hlt ⟨hit, hD'⟩ fun v h₂ tk₂ hMd hk₂ => ?_
      refine W.go i v _ _ _ hMd fun h₃ hP hst₃ hk₃ => ?_
      obtain ⟨T, key, k, x, rfl, hx, hkey, hT⟩ := hP
      obtain ⟨tk, rfl⟩ := Value.isStrOf_shape hkey
      have up₃ : ∀ c o, c ∉ [I] → h'.get? c = some o → h₃.get? c = some o := fun c o hc e => hk₃ c o hc (hk₂ c o hc e)
      have G₃ : Lg h₀ L h₃ m' nw := lg_but G' up₃ hIL hI0 off
      refine kcp_assign (m := m') hh hT ha hb hek (by rw [hel]; exact G₃.F.ns) fun h₄ tk₄ hn₄ hk₄ => ?_
      rw [hel] at hn₄ hk₄
      obtain ⟨⟨ok, ov, hI₃⟩, -⟩ := hst₃
      have hI₄ : IsItemIter h₄ I d (i + 1) ex.length ep ok ov := hk₄ I _ (Ne.symm hIL) hI₃
      have G₄ : Lg h₀ L h₄ (fun z => if z = b then some x else if z = a then some (.str k tk) else m' z) nw := by
        refine ⟨⟨hn₄, fun c o e => hk₄ c o (fun q => ?_) (G₃.F.keep c o e), G₃.F.above⟩, fun p hp => ⟨hk₄ _ _ (G₃.N p hp).2.1 (G₃.N p hp).1, (G₃.N p hp).2⟩, G₃.nd⟩
        rw [q] at e
        exact absurd (Nat.lt_of_lt_of_le (Heap.lt_size e) G₃.F.above) (Nat.lt_irrefl _)
      obtain ⟨oI, hoI⟩ : ∃ oI, h₄.get? I = some oI := ⟨_, hI₄⟩
      have eI := hoI.symm.trans hI₄
      have G₅ : Lg h₀ L h₄ (fun z => if z = b then some x else if z = a then some (.str k tk) else m' z) ((I, oI) :: nw) := by
        refine ⟨G₄.F, fun p hp => ?_, ?_⟩
        · rcases List.mem_cons.mp hp with rfl | hp
          · exact ⟨hoI, fun e => hIL e.symm, hI0⟩
          · exact G₄.N p hp
        · rw [List.map_cons, List.nodup_cons]
          refine ⟨fun hm => ?_, G₄.nd⟩
          obtain ⟨p, hp, e⟩ := List.mem_map.mp hm
          exact off p hp e
      refine wpAny_mono (turn I i k tk x h₄ tk₄ m' nw oI hx hJ G₅) (fun f s₃ h₃ => ?_) fun _ _ x => x.elim
      have go : (∃ h' t m' nw, s₃ = { s with heap := h', toks := t } ∧ Lg h₀ L h' m' ((I, oI) :: nw) ∧ J (i + 1) m' nw) → ∃ m, m < ex.length - i ∧ ∃ i h' t m' nw, s₃ = { s with heap := h', toks := t } ∧ Lg h₀ L h' m' nw ∧ (∀ p ∈ nw, p.1 ≠ I) ∧ (∃ ok ov, IsItemIter h' I d i ex.length ep ok ov) ∧ J i m' nw ∧ i ≤ ex.length ∧ m = ex.length - i := by
        rintro ⟨h'', t'', m'', nw', rfl, G₆, hJ₆⟩
        have nd := G₆.nd
        rw [List.map_cons, List.nodup_cons] at nd
        exact ⟨ex.length - (i + 1), by omega, i + 1, h'', t'', m'', nw', rfl, G₆.sub (List.sublist_cons_self _ _), fun p hp e => nd.1 (List.mem_map.mpr ⟨p, hp, e⟩), ⟨ok, ov, (G₆.mem (.head _)).trans eI⟩, hJ₆, by omega, rfl⟩
      cases f with
      | next => exact go h₃
      | cont => exact go h₃
      | brk => exact h₃
      | ret v => exact h₃
    · have hin : i = ex.length := by omega
      subst hin
      refine W.done _ _ _ ⟨hit, hD'⟩ fun h₁ tk₁ hk₁ => wpAny_execs_nil ?_
      exact hend _ _ _ _ hJ (lg_but G' hk₁ hIL hI0 off)
  · have nd := G1.nd
    rw [List.map_cons, List.nodup_cons] at nd
    exact ⟨0, H1, _, m, news, rfl, G1.sub (List.sublist_cons_self _ _), fun p hp e => nd.1 (List.mem_map.mpr ⟨p, hp, e⟩), ⟨_, _, hit0⟩, h0, Nat.zero_le _, rfl⟩
end
end
-- L7_1
section
section
variable {prog : Program} {w : World} {A : Around} {s : Shared} {E : Value → Shared → Prop}
theorem mul_S (c d : Nat) : Txt.mul (S [c]) (d : Int) = S (List.replicate d c) := by
  apply Str.ext'
  apply Array.ext'
  have := mul_one_list c (d : Int)
  rw [Int.toNat_natCast] at this
  exact this
/-- one sign, so often -/
theorem r_mulC {x : Str} {c d : Nat} {t u : Tok} {Q : Value → Shared → Prop} (hx : x = S [c]) (hd : d ≤ 1000000) (h : ∀ t' k, Q (.str (S (List.replicate d c)) t') { s with toks := k }) :
    wpAny (model prog w) A (binaryOp .Mult (.str x t) (.int (d : Int) u)) Q E s := by
  subst hx
  exact SB.mul (mulOk_of 16 1048576 (by rw [S_len]; exact Nat.le_of_ble_eq_true rfl) (by omega) (by omega) (by decide) (by decide)) fun t' k => by rw [mul_S]; exact h t' k
end
end
-- L5_1
section
section
variable {K : Frag} {pr : Program} {loose : List Str} {mean : ExcName → Option Value} {mg mb : Str → Option Value} {prog : Program} {w : World} {n : Nat} {A : Around} {env : Env} {L : Addr} {h₀ : Heap}
  {m : Str → Option Value} {news : List (Addr × Obj)} {s : Shared} {E : Value → Shared → Prop}
open LCg (NsObj lst Off3 Off1)
theorem assign_U {y : Str} {py spos : Pos} {elt iter : PySem.Expr} {x : Str} {px : Pos} {scope : Scope} {cl : List (Str × Addr)} {pos : Pos} {Q : Flow → Shared → Prop}
    {news₀ : List (Addr × Obj)} (_G₀ : Lg h₀ L s.heap m news₀) (hLe : env.locals = L) (hsw : swapsWith (.ListComp elt [⟨.Name x px, iter, [], 0⟩] scope pos) (some (.Name y py)) spos.line env = pure true)
    (hy : env.kindOf y = some .local) (hp : (env.scope.kind == .class || (env.scope.kind == .module && env.locals != env.globals)) = false) (hclos : closureFor scope env = pure cl) (hcell : ∀ y ∈ scope.names, y.2 ≠ .cell) (hkind : scope.kind = .function)
    (hnames : ∀ y ∈ scope.names, y.2 = .local → scope.names.lookup y.1 = some .local) (hx : scope.names.lookup x = some .local)
    (h : wpAny (model prog w) A (eval iter env) (fun xv s₁ => wpAny (model prog w) A (pyIter xv) (fun it s₂ => ∃ I N P S news, it = .ref I ∧ N ≤ sizeLine ∧ Src prog w A h₀ L m I N P S news s₂ ∧
      ∃ J : Nat → List Value → List (Addr × Obj) → Prop, (∀ i ys nw, J i ys nw → S nw) ∧ J 0 [] news ∧
        (∀ I i v ys h t nw oI C oC D m₂, i < N → P i v → NsObj oC m₂ → m₂ x = some v → J i ys nw → Lg h₀ L h m ((I, oI) :: (C, oC) :: (D, lst ys) :: nw) →
          wpAny (model prog w) A (eval elt (compEnvC scope cl C env)) (fun y s'' => CT h₀ L m s₂ I oI C oC D ys (J (i + 1) (ys ++ [y])) s'') (fun _ _ => False) { s₂ with heap := h, toks := t }) ∧
        ∀ D h t ys nw, J N ys nw → Lg h₀ L h (fun z => if z = y then some (.ref D) else m z) ((D, lst ys) :: nw) → Q .next { s₂ with heap := h, toks := t }) E s₁) E s)
    (hs : ∀ x, foldedSetIterable iter env x = pure x := by intro _; rfl) :
    wpAny (model prog w) A (exec (.Assign [.Name y py] (.ListComp elt [⟨.Name x px, iter, [], 0⟩] scope pos) spos) env) Q E s := by
  subst hLe
  rw [exec_Assign_Name_used _ _ _ _ hsw]
  refine wpAny_bind (wpAny_standAt (wpAny_bind ?_))
  show wpAny _ A (do let _ ← comprehension (.ListComp elt [⟨.Name x px, iter, [], 0⟩] scope pos) scope env _ (newList []) false (eval iter env) (some (assign (.Name y py) env))) _ _ s
  refine wpAny_bind (wpAny_mono (wpAny_comprehension_free (use := some (assign (.Name y py) env)) (Q := fun _ s' => Q .next s') rfl hs hclos hkind hnames
    (wpAny_mono h (fun xv s₁ h₁ => wpAny_mono h₁ (fun it s₂ h₂ => ?_) fun _ _ e => e) fun _ _ e => e)) (fun _ s' hq => wpAny_pure (wpAny_pure hq)) fun _ _ e => e)
  obtain ⟨I, N, P, S, news, rfl, hN, Z, J, hJS, h0, turn, fin⟩ := h₂
  obtain ⟨fp, St, W, hIo, hSt, st, hfp⟩ := Z.ex
  refine LCg.block_U (S := fun nw => S nw ∧ (nw.map (·.1)).Nodup) (Fin := fun ys nw => J N ys nw ∧ (nw.map (·.1)).Nodup) W hN hIo (fun i h h' o nw a b c d e f => hSt i h h' o nw a b c d e f.1) hcell hkind hx st hfp Z.G.F Z.G.N Z.hL Z.hI Z.off ⟨hJS _ _ _ h0, Z.G.nd⟩ ?_ ?_
  · have key : ∀ k i ys nw, i + k = N → J i ys nw → (nw.map (·.1)).Nodup → LCg.CompRest prog w A h₀ env.locals m env elt x scope cl s₂ (fun nw => S nw ∧ (nw.map (·.1)).Nodup) P (fun ys nw => J N ys nw ∧ (nw.map (·.1)).Nodup) k i ys nw := by
      intro k
      induction k with
      | zero => intro i ys nw hi hJ nd; have e : i = N := by omega
                subst e; exact ⟨hJ, nd⟩
      | succ k ih =>
        intro i ys nw hi hJ nd
        intro v I' oI C oC D m₂ h t E' hP hO hm F' N' off hne
        refine wpAny_mono (turn I' i v ys h t nw oI C oC D m₂ (by omega) hP hO hm hJ (lg_of3 F' N' off hne nd)) (fun y s'' hct => ?_) fun _ _ z => z.elim
        obtain ⟨h', t', nw', rfl, G', hJ'⟩ := hct
        obtain ⟨o3, nd'⟩ := off_of3 G'
        exact ⟨h', t', nw', rfl, G'.F, G'.N, o3, ⟨hJS _ _ _ hJ', nd'⟩, ih (i + 1) _ nw' (by omega) hJ' nd'⟩
    exact key N 0 [] news (by omega) h0 Z.G.nd
  · intro D C h tk m' ys news' F' N' o1 hn hC₀ hD₀ hCL hDL hCD offC hfin
    show wpAny _ A (assign (.Name y py) env (.ref D)) _ _ _
    refine wpAny_assign_Name (wpAny_storeName_local hy F'.ns (fun h₂ hn₂ hs₂ => ?_) hp)
    have hL₀ : h₀.get? env.locals = none := Heap.get?_none_of_le F'.above
    have F₂ : Fr h₀ env.locals h₂ (fun z => if z = y then some (.ref D) else m z) := ⟨hn₂, fun b o e => hs₂.extBut b o (fun q => by rw [q, hL₀] at e; cases e) (F'.keep b o e), F'.above⟩
    refine ⟨m', hn.sameBut hs₂ hCL, fun h'' hs'' => fin D h'' _ ys news' hfin.1 ⟨F₂.change hs'' hCL hC₀, fun p hp => ?_, ?_⟩⟩
    · have z : h₂.get? p.1 = some p.2 := hs₂.extBut _ _ (N' p hp).2.1 (N' p hp).1
      refine ⟨hs''.extBut _ _ ?_ z, (N' p hp).2⟩
      rcases List.mem_cons.mp hp with rfl | hp
      · exact Ne.symm hCD
      · exact offC p hp
    · rw [List.map_cons, List.nodup_cons]
      refine ⟨fun hm => ?_, hfin.2⟩
      obtain ⟨p, hp, e⟩ := List.mem_map.mp hm
      exact off1_mem o1 p hp e

end
end
-- L6_1
section
section
variable {K : Frag} {pr : Program} {loose : List Str} {mean : ExcName → Option Value} {mg mb : Str → Option Value} {prog : Program} {w : World} {n : Nat} {A : Around} {env : Env} {L : Addr} {h₀ : Heap}
  {m : Str → Option Value} {news : List (Addr × Obj)} {s : Shared} {E : Value → Shared → Prop}
end
end
-- N2_1
section
theorem fillN2 : hd.heap_1 = hd.heap_1 ∧ PySem.Challenge.rw_pe0228_01 = PySem.Challenge.rw_pe0228_01 := by
  k_fill
  exact ⟨rfl, rfl⟩
section
variable {pr : Program} {loose : List Str} {mean : ExcName → Option Value} {mg mb : Str → Option Value} {prog : Program} {w : World} {n : Nat} {A : Around} {env : Env} {L : Addr} {h₀ : Heap}
  {m : Str → Option Value} {news : List (Addr × Obj)} {s : Shared} {E : Value → Shared → Prop}
set_option maxHeartbeats 1000000
/-- the attributes of a table of headers -/
def hes (w : World) (k : Tok) (l : Addr) : List DictEntry := [⟨PyData.keyHash w.params "_headers", .str "_headers" k, .ref l⟩]
/-- an empty table made -/
theorem make_headers {Q : Value → Shared → Prop}
    (C : Cx (hd.heap_1 w.params) pr loose mean mg mb (n + 2) A env L h₀) (G : Lg h₀ L s.heap m news)
    (h : ∀ x dx l h' t k, Lg h₀ L h' m ((l, listOf #[] 0) :: (x, instObj 243 dx) :: (dx, dictOf (hes w k l) 1) :: news) → Q (.ref x) { s with heap := h', toks := t }) :
    wpAny (model prog w) A (call (.ref 243) []) Q E s := by
  refine wpAny_call (PySem.W.make_K (fI := 135) G.F G.N (C.X.keeps G.F.keep) (by k_is) (by k_is) (by k_is) ?_)
  intro x dx h1 F1 N1 l1 l2
  have G : Lg h₀ L h1 m ((x, instObj 243 dx) :: (dx, dictOf [] 0) :: news) := Lg.nest (h := s.heap) (l := news) G F1 N1 rfl l1 l2
  refine codeAny_mono (enterC (Q := fun v s' => v = .none ∧ Q (.ref x) s') (E := fun e s' => (RQ Q E) (.error e) s') (binds := [(Str.ofString "self", .ref x), (Str.ofString "headers", .none)]) C.tc G (by k_is) (by k_is) (binds_K (C.X.keeps G.F.keep) rfl (by k_is) rfl rfl rfl) (locs rfl) rfl rfl rfl (by decide) ?_) ?_
  · intro g L' h₁ C st' G
    refine hideQ fun Y0 hY => ?_
    walk_at "go"
    refine call_type_of (Tx := "list") ⟨_, G.mem (by walk_at "mem"), rfl⟩ (by decide +kernel) ?_
    walk_at "go"
    walk_at "go"
    refine for_list (its := #[]) C.hn G (fun i m' nw => m' = _ ∧ nw = _) ?_ ⟨rfl, rfl⟩ ?_ ?_
    · rintro i m' nw ⟨rfl, rfl⟩
      exact .inr ⟨_, by walk_at "mem", rfl, 0, rfl⟩
    · intro I i v h' t m' nw oI hi
      exact absurd hi (Nat.not_lt_zero _)
    rintro h' t m' nw ⟨rfl, rfl⟩ G
    dsimp only
    walk_at "go"
    exact hY _ _ ⟨_, _, G, fun G2 => ⟨rfl, h _ _ _ _ _ _ G2⟩⟩
  · intro r s' z
    rcases r with e | (v | _ | _ | _)
    · exact z
    · exact z
    · exact z
    · exact z
    · exact z

/-- what get answers -/
def GetIs (rows : List (List Nat × List Nat)) (low : Str) (v : Value) : Prop := match rows.find? (fun p => Txt.lower (S p.1) == low) with
  | some p => ∃ u, v = .str (S p.2) u
  | none => v = .none

theorem headers_get {Q : Value → Shared → Prop} {x dx l : Addr} {k : Tok} {its : Array Value} {c : Nat} {rows : List (List Nat × List Nat)} {nm : Str} {tn : Tok} {low : List Nat}
    (C : Cx (hd.heap_1 w.params) pr loose mean mg mb (n + 2) A env L h₀) (G : Lg h₀ L s.heap m news)
    (hx : (x, instObj 243 dx) ∈ news) (hdx : (dx, dictOf (hes w k l) 1) ∈ news) (hl : (l, listOf its c) ∈ news) (hD : DatAll news its.toList (rows.map rowD))
    (hk : ∀ p ∈ rows, p.1.length ≤ 1000000) (hn : nm.length ≤ 1000000) (hlow : Txt.lower nm = S low) (hf : free badName low) (hl2 : low.length ≤ 1000000)
    (h : ∀ h' t v, GetIs rows (S low) v → Lg h₀ L h' m news → Q v { s with heap := h', toks := t }) :
    wpAny (model prog w) A (call (.ref 190) [.ref x, .str nm tn]) Q E s := by
  refine enter (binds := [(Str.ofString "self", .ref x), (Str.ofString "name", .str nm tn), (Str.ofString "default", .none)]) C G (by k_is) (by k_is) (binds_K (C.X.keeps G.F.keep) rfl (by k_is) rfl rfl rfl) (locs rfl) rfl rfl rfl (by decide) ?_
  intro g L' h₁ C st' G
  refine hideQ fun Y0 hY => ?_
  walk_at "go"
  refine SCL.lower (Nat.le_trans hn (by decide)) ?_
  intro _
  rw [hlow]
  walk_at "go"
  refine convert_name C G hf hl2 ?_
  intro h2 k2 G
  dsimp only
  walk_at "go"
  walk_at "go"
  refine for_list (its := its) C.hn G (fun i m' nw => nw = news ∧ (∃ t, m' "name" = some (.str (S low) t)) ∧ m' "default" = some .none ∧ ∀ p ∈ rows.take i, (Txt.lower (S p.1) == S low) = false) ?_ ⟨rfl, ⟨_, rfl⟩, rfl, by simp⟩ ?_ ?_
  · rintro i m' nw ⟨rfl, -⟩
    exact .inr ⟨_, hl, rfl, _, rfl⟩
  · intro I i v h3 t3 m3 nw oI hi hv pt1 GG
    refine hideT fun Z0 hZ => ?_
    obtain ⟨enw2, ⟨tl, hn3⟩, hd3, hno⟩ := pt1
    have G := GG.to1 enw2
    obtain ⟨d, hd, hdv⟩ := DatAll.at hD (i := i) (v := v) (by simpa using hv)
    rw [List.getElem?_map] at hd
    obtain ⟨p, hp, rfl⟩ := Option.map_eq_some_iff.mp hd
    obtain ⟨tu, va, vb, cu, rfl, hm, ha, hb⟩ := pair_of hdv
    obtain ⟨ta, rfl⟩ := str_of ha
    obtain ⟨tb, rfl⟩ := str_of hb
    have hpm : p ∈ rows := List.mem_of_getElem? hp
    refine r_unpack2 C.hn G (.tail _ hm) ?_
    intro h4 G
    walk_at "go"
    refine SCL.lower (Nat.le_trans (by rw [S_len]; exact hk p hpm) (by decide)) ?_
    intro _
    dsimp only
    walk_at "go"
    by_cases he : (Txt.lower (S p.1) == S low) = true
    · refine ite_pos he ?_
      walk_at "go"
      refine hZ _ _ (hY (.ret _) _ ⟨_, _, G, fun G2 => h _ _ _ ?_ (G2.sub (List.sublist_cons_self _ _))⟩)
      unfold GetIs
      rw [find_at hp he hno]
      exact ⟨_, rfl⟩
    · refine ite_neg he ?_
      walk_at "go"
      exact hZ _ _ ⟨_, _, _, _, rfl, G, rfl, ⟨_, hn3⟩, hd3, take_next hp hno (Bool.eq_false_iff.mpr he)⟩
  · rintro h3 t3 m3 nw ⟨enw3, ⟨tl, hn3⟩, hd3, hno⟩ GG
    have G := GG.to enw3
    dsimp only
    walk_at "go"
    refine hY _ _ ⟨_, _, G, fun G2 => h _ _ _ ?_ G2⟩
    unfold GetIs
    have hs : its.size = rows.length := by
      have := hD.length
      simpa using this
    rw [List.find?_eq_none.mpr fun p hp => by
      have := hno p (by rw [hs, List.take_length]; exact hp)
      rw [this]; exact Bool.false_ne_true]
    rfl
end
end
-- E1
section
/-- a ValueError on its way out of a frame's call -/
structure Thrown (s : Shared) (base : Heap) (envs : List Env) (h₀ : Heap) (L : Addr) (m : Str → Option Value) (news : List (Addr × Obj)) (v : Value) (s' : Shared) : Prop where
  ex : ∃ e t vs G, v = .ref e ∧ Fr h₀ L G m ∧ RaisedS base G envs e (.type "ValueError") t vs news s'.heap ∧ G.UpToSlots s'.heap
  st : ∃ h' k, s' = { s with heap := h', toks := k }
/-- a ValueError just made -/
structure Made (s : Shared) (g : Heap) (L : Addr) (news : List (Addr × Obj)) (v : Value) (s' : Shared) : Prop where
  ex : ∃ e h m vs, v = .ref e ∧ Heap.MadeExcOf h s'.heap e (.type "ValueError") vs ∧ Fr g L h m ∧ News g L h news
  st : ∃ h' k, s' = { s with heap := h', toks := k }
section
variable {K : Frag} {pr : Program} {loose : List Str} {mean : ExcName → Option Value} {mg mb : Str → Option Value} {prog : Program} {w : World} {n : Nat} {A A₀ : Around} {env : Env} {L : Addr} {h₀ base : Heap} {outer : List Env}
  {m : Str → Option Value} {news : List (Addr × Obj)} {s : Shared} {E : Value → Shared → Prop}
theorem enterE {Q : Value → Shared → Prop} {name qual : Str} {params : Arguments} {body : List Stmt} {scope : Scope} {dV kV doc pm cdv ct oc : Value} {an od : Option Addr} {osl : Array (Option Value)} {f : Addr}
    {args : List Value} {kw : List (Str × Value)} {binds : List (Str × Value)}
    (B : Below A₀ base outer h₀) (hA : A.frames = some (env :: outer)) (C : Cx K pr loose mean mg mb (n + 1) A env L h₀) (G : Lg h₀ L s.heap m news)
    (ho : K.lookup f = some ⟨oc, od, .func (fnOf name qual params body scope dV kV doc pm an cdv ct), osl⟩) (hcd : codeIn K cdv qual = true)
    (hbind : BindsTo s (fnOf name qual params body scope dV kV doc pm an cdv ct) ⟨args, kw⟩ binds) (hloc : ∀ y ∈ binds, scope.names.lookup y.1 = some .local)
    (hco : scope.isCoroutine = false) (hgen : scope.isGenerator = false) (hk : scope.kind = .function) (hcell : ∀ x ∈ scope.names, x.2 ≠ .cell)
    (hE : ∀ e s', Thrown s base (env :: outer) h₀ L m news e s' → E e s')
    (h : ∀ g L' h₁, Cx K pr loose mean mg mb n (A.deeper (envOf qual scope L' f cdv)) (envOf qual scope L' f cdv) L' g → Below A base (env :: outer) g → h₀.StaysIn g →
      Lg g L' h₁ (fun y => binds.reverse.lookup y) news →
      wpAny (model prog w) (A.deeper (envOf qual scope L' f cdv)) (execs body (envOf qual scope L' f cdv)) (fun fl s' => Back h₀ L m g L' Q (rv fl) s')
        (fun e s' => (∃ m', Thrown s base (envOf qual scope L' f cdv :: env :: outer) g L' m' news e s') ∨ Made s g L' news e s')
        { s with heap := h₁, toks := s.toks + binds.length }) :
    wpAny (model prog w) A (call (.ref f) args kw) Q E s := by
  have hr : A.depth < recursionLimit := by have := C.dp; show A.depth < 1000; omega
  refine wpAny_call (callX_plain (cl := []) B G.F G.N C.T.nolimit hA C.ef C.ek ((C.X.keeps G.F.keep) _ _ ho) rfl (codeRec_of (C.X.keeps G.F.keep) hcd) hr hbind hloc ?_ hcell hco hgen hk)
  intro g L' h₁ FG F' N' B' st lt
  have C' : Cx K pr loose mean mg mb n (A.deeper (envOf qual scope L' f cdv)) (envOf qual scope L' f cdv) L' g := by
    refine ⟨⟨A, base, env :: outer, B', Around.frames_deeper hA⟩, rfl, rfl, hk, C.X.keeps st, C.T.keeps st, ?_, ?_, C.hn⟩
    · have := C.dp; show A.depth + 1 + 4 * n < 1000; omega
    · have := C.un; show A.units + 3 + 40 * n < 9900; omega
  refine wpAny_mono (h g L' h₁ C' B' st ⟨F', N', G.nd⟩) (fun fl s' hb => ?_) fun e s' hb => ?_
  · obtain ⟨m', news', G', k⟩ := hb
    refine ⟨L', m', news', G'.F, G'.N, fun F₂ N₂ => ?_⟩
    have := k ⟨F₂, N₂, G'.nd⟩
    cases fl <;> exact this
  · rcases hb with ⟨m', T⟩ | T
    · obtain ⟨⟨e, t, vs, G₂, rfl, F₂, R, U⟩, h', k, rfl⟩ := T
      refine leave_onS B' F₂ R U fun h'' R' _ U' => ?_
      exact hE _ _ ⟨⟨e, t, vs, g, rfl, FG, R', U'⟩, h'', k, rfl⟩
    · obtain ⟨⟨e, h₂, m', vs, rfl, hx, F₂, N₂⟩, h', k, rfl⟩ := T
      refine leave_raiseS B' hx F₂ N₂ (fun h'' t R' _ U' => ?_) hk
      exact hE _ _ ⟨⟨e, t, vs, g, rfl, FG, R', U'⟩, h'', k, rfl⟩
end
end
-- A0
section
/-- a header: dots, a letter, an own value, two parameters -/
structure Head where
  dots : Nat
  c : Nat
  own : Option (List Nat)
  v1 : Option (List Nat)
  v2 : Option (List Nat)
def Head.name (h : Head) : List Nat := List.replicate h.dots 46 ++ [h.c]
def signs7 : List Nat := [97, 65, 32, 34, 92, 46, 9]
structure Head.Ok (h : Head) : Prop where
  d : h.dots ≤ 2
  c : h.c ∈ [88, 120, 89]
  own : h.own = none ∨ h.own = some [118] ∨ h.own = some [46]
  v1 : ∀ v, h.v1 = some v → v.length ≤ 4 ∧ ∀ c ∈ v, c ∈ signs7
  v2 : ∀ v, h.v2 = some v → v.length ≤ 4 ∧ ∀ c ∈ v, c ∈ signs7
/-- a value escaped -/
def esc (v : List Nat) : List Nat := v.flatMap fun c => if c = 92 then [92, 92] else if c = 34 then [92, 34] else [c]
def pv (v : Option (List Nat)) : List Nat := v.getD []
def quoted (v : List Nat) : List Nat := if v = [] then [] else 34 :: (esc v ++ [34])
def part (key : List Nat) (v : Option (List Nat)) : List Nat := if pv v = [] then key else key ++ [61] ++ quoted (pv v)
def kK : List Nat := [107]
def kM : List Nat := [109, 45, 110]
def rowVal (h : Head) : List Nat := (match h.own with | some o => o ++ [59, 32] | none => []) ++ part kK h.v1 ++ [59, 32] ++ part kM h.v2
def line (h : Head) : List Nat := h.name ++ [58, 32] ++ rowVal h
def sent0 (hs : List Head) : List Nat := hs.flatMap (fun h => line h ++ [13, 10]) ++ [13, 10]
def sentN : Nat → List Nat → List Nat
  | 0, t => t
  | n + 1, t => sentN n (dbl true t)
/-- the law's strands -/
def strand (lead key : List Nat) (v : Option (List Nat)) : List Nat × List Nat := if pv v = [] then (lead ++ key, []) else (lead ++ key ++ [61], pv v)
def lead0 (hops : Nat) (h : Head) : List Nat := (if h.dots = 0 then [] else List.replicate hops 46) ++ h.name ++ [58, 32]
def strandsOf (hops : Nat) (h : Head) : List (List Nat × List Nat) :=
  match h.own with
  | some o => [(lead0 hops h ++ o, []), strand [59, 32] kK h.v1, strand [59, 32] kM h.v2, ([13, 10], [])]
  | none => [strand (lead0 hops h) kK h.v1, strand [59, 32] kM h.v2, ([13, 10], [])]
def strands (hops : Nat) (hs : List Head) : List (List Nat × List Nat) := hs.flatMap (strandsOf hops) ++ [([13, 10], [])]
/-- how far the law's own reading is -/
structure Due where
  words : List (List Nat × Nat)
  word : List Nat
  held : Bool
  row : Nat
def Due.push (d : Due) : Due := { d with words := d.words ++ [(d.word, d.row)], word := [] }
def Due.add (d : Due) (c : Nat) : Due := { d with word := d.word ++ [c] }
def Due.nl (d : Due) (c : Nat) : Due := if c = 10 then { d with row := d.row + 1 } else d
def onSign (d : Due) (c : Nat) : Due := if d.held = true ∨ c ∉ [32, 13, 10] then (d.nl c).add c else if d.word = [] then d.nl c else (d.nl c).push
def onOpen (d : Due) : Due := if d.held = true then d.push else d.add 34
def onVal (d : Due) (c : Nat) : Due := if c ∉ [32, 9] then d.add c else if d.word = [] then d else d.push
def onClose (d : Due) (v : List Nat) : Due := if v.getLastD 0 ∈ [32, 9] then { d with held := true } else { d.add 34 with held := false }
def onStrand (d : Due) (p : List Nat × List Nat) : Due := if p.2 = [] then p.1.foldl onSign d else onClose (p.2.foldl onVal (onOpen (p.1.foldl onSign d))) p.2
def dueD (hops : Nat) (hs : List Head) : Due := (strands hops hs).foldl onStrand ⟨[], [], false, 1⟩
def Due.all (d : Due) : List (List Nat × Nat) := if d.word = [] then d.words else d.words ++ [(d.word, d.row)]

/-- the text of the strands -/
theorem dbl_nl : ∀ (l r : List Nat) (b : Bool), (∀ c ∈ l, c ≠ 10) → dbl b (l ++ 10 :: r) = dbl b l ++ 10 :: dbl true r
  | [], r, b, _ => by cases b <;> rfl
  | c :: l, r, b, h => by
    have hc : (c == 10) = false := by simpa using h c (by simp)
    rw [List.cons_append, dbl, dbl, hc, dbl_nl l r false fun d hd => h d (by simp [hd]), List.append_assoc]
theorem dbl_flat : ∀ (l : List Nat), (∀ c ∈ l, c ≠ 10) → dbl false l = l
  | [], _ => rfl
  | c :: l, h => by
    have hc : (c == 10) = false := by simpa using h c (by simp)
    rw [dbl, hc, dbl_flat l fun d hd => h d (by simp [hd])]
    rfl
/-- a row's head doubled -/
def up (l : List Nat) : List Nat := if l.head? = some 46 then 46 :: l else l
theorem up_on {c : Nat} (h : c ≠ 46) (l : List Nat) : up (c :: l) = c :: l := if_neg (by simpa using h)
theorem dbl_up (l : List Nat) (h : ∀ c ∈ l, c ≠ 10) : dbl true l = up l := by
  cases l with
  | nil => rfl
  | cons c l =>
    have hc : (c == 10) = false := by simpa using h c (by simp)
    rw [dbl, hc, dbl_flat l fun d hd => h d (by simp [hd])]
    by_cases e : c = 46
    · subst e; rfl
    · have e' : (c == 46) = false := by simpa using e
      rw [e', up_on e]; rfl
/-- rows of a text, each with its line end -/
def rowsT (ls : List (List Nat)) : List Nat := ls.flatMap fun l => l ++ [13, 10]
theorem dbl_rows : ∀ (ls : List (List Nat)), (∀ l ∈ ls, ∀ c ∈ l, c ≠ 10) → dbl true (rowsT ls) = rowsT (ls.map up)
  | [], _ => rfl
  | l :: ls, h => by
    have h1 := h l (by simp)
    have h2 : ∀ c ∈ l ++ [13], c ≠ 10 := by
      intro c hc
      rcases List.mem_append.mp hc with hc | hc
      · exact h1 c hc
      · rw [List.mem_singleton.mp hc]; decide
    have e : rowsT (l :: ls) = (l ++ [13]) ++ 10 :: rowsT ls := by simp [rowsT]
    rw [e, dbl_nl _ _ _ h2, dbl_rows ls fun l' hl => h l' (by simp [hl]), dbl_up _ h2]
    have e2 : up (l ++ [13]) = up l ++ [13] := by
      cases l with
      | nil => rfl
      | cons c l =>
        by_cases e : c = 46
        · subst e; rfl
        · rw [List.cons_append, up_on e, up_on e]; rfl
    rw [e2]
    simp [rowsT]
theorem up_no {l : List Nat} (h : ∀ c ∈ l, c ≠ 10) : ∀ c ∈ up l, c ≠ 10 := by
  intro c hc
  unfold up at hc
  split at hc
  · rcases List.mem_cons.mp hc with rfl | hc
    · decide
    · exact h c hc
  · exact h c hc
def ups : Nat → List Nat → List Nat
  | 0, l => l
  | n + 1, l => ups n (up l)
theorem sent_rows : ∀ (n : Nat) (ls : List (List Nat)), (∀ l ∈ ls, ∀ c ∈ l, c ≠ 10) → sentN n (rowsT ls) = rowsT (ls.map (ups n))
  | 0, ls, _ => by simp [sentN, ups]
  | n + 1, ls, h => by
    rw [sentN, dbl_rows ls h, sent_rows n _ fun l hl => by
      obtain ⟨l', h', rfl⟩ := List.mem_map.mp hl
      exact up_no (h l' h')]
    rw [List.map_map]; rfl
theorem ups_dot : ∀ (n : Nat) (l : List Nat), ups n (46 :: l) = List.replicate n 46 ++ 46 :: l
  | 0, l => rfl
  | n + 1, l => by
    rw [ups, show up (46 :: l) = 46 :: 46 :: l from rfl, ups_dot n (46 :: l), List.replicate_succ', List.append_assoc]
    rfl
theorem ups_not : ∀ (n : Nat) (l : List Nat), l.head? ≠ some 46 → ups n l = l
  | 0, l, _ => rfl
  | n + 1, l, h => by
    rw [ups, show up l = l from if_neg h, ups_not n l h]
theorem signs7_no {c : Nat} (h : c ∈ signs7) : c ≠ 10 := by
  simp only [signs7, List.mem_cons, List.not_mem_nil, or_false] at h
  rcases h with rfl | rfl | rfl | rfl | rfl | rfl | rfl <;> decide
theorem pv_ok {v : Option (List Nat)} (h : ∀ x, v = some x → x.length ≤ 4 ∧ ∀ c ∈ x, c ∈ signs7) : (pv v).length ≤ 4 ∧ ∀ c ∈ pv v, c ∈ signs7 := by
  cases v with
  | none => exact ⟨Nat.zero_le _, by simp [pv]⟩
  | some x => exact h x rfl
theorem esc_no {v : List Nat} (h : ∀ c ∈ v, c ∈ signs7) : ∀ c ∈ esc v, c ∈ signs7 := by
  intro c hc
  obtain ⟨d, hd, hc⟩ := List.mem_flatMap.mp hc
  split at hc
  · simp at hc; rw [hc]; decide
  · split at hc
    · simp at hc; rcases hc with rfl | rfl <;> decide
    · rw [List.mem_singleton.mp hc]; exact h d hd
theorem part_no {key : List Nat} {v : Option (List Nat)} (hk : ∀ c ∈ key, c ≠ 10) (h : ∀ x, v = some x → x.length ≤ 4 ∧ ∀ c ∈ x, c ∈ signs7) : ∀ c ∈ part key v, c ≠ 10 := by
  intro c hc
  unfold part quoted at hc
  split at hc
  · exact hk c hc
  · have := pv_ok h
    simp only [List.mem_append, List.mem_cons, List.not_mem_nil, or_false] at hc
    rcases hc with (hc | rfl) | rfl | hc | rfl
    · exact hk c hc
    · decide
    · decide
    · exact signs7_no (esc_no this.2 c hc)
    · decide
theorem line_no {h : Head} (H : h.Ok) : ∀ c ∈ line h, c ≠ 10 := by
  intro c hc
  unfold line Head.name rowVal at hc
  simp only [List.mem_append, List.mem_replicate, List.mem_cons, List.not_mem_nil, or_false] at hc
  rcases hc with ((⟨-, rfl⟩ | rfl) | rfl | rfl) | (((hc | hc) | rfl | rfl) | hc)
  · decide
  · have := H.c
    intro e
    rw [e] at this
    revert this; decide
  · decide
  · decide
  · rcases H.own with e | e | e <;> rw [e] at hc <;> simp at hc <;> omega
  · exact part_no (by decide) H.v1 c hc
  · decide
  · decide
  · exact part_no (by decide) H.v2 c hc
/-- what a strand writes -/
def strandT (p : List Nat × List Nat) : List Nat := p.1 ++ quoted p.2
theorem strand_part (lead key : List Nat) (v : Option (List Nat)) : strandT (strand lead key v) = lead ++ part key v := by
  unfold strandT strand part quoted
  by_cases e : pv v = []
  · simp [e]
  · simp [e]
theorem strands_head {hops : Nat} {h : Head} : (strandsOf hops h).flatMap strandT = lead0 hops h ++ rowVal h ++ [13, 10] := by
  have e0 : strandT ([13, 10], []) = [13, 10] := rfl
  unfold strandsOf rowVal
  cases h.own with
  | none => simp only [List.flatMap_cons, List.flatMap_nil, strand_part, e0]; simp
  | some o =>
    have e1 : strandT (lead0 hops h ++ o, []) = lead0 hops h ++ o := by simp [strandT, quoted]
    simp only [List.flatMap_cons, List.flatMap_nil, strand_part, e0, e1]; simp
theorem ups_line (hops : Nat) {h : Head} (H : h.Ok) : ups hops (line h) = lead0 hops h ++ rowVal h := by
  unfold line lead0 Head.name
  rcases Nat.eq_zero_or_pos h.dots with e | e
  · rw [e, if_pos rfl, ups_not]
    · simp
    · intro x
      have hc := H.c
      simp at x
      rw [x] at hc
      revert hc; decide
  · rw [if_neg (by omega)]
    obtain ⟨d, hd⟩ := Nat.exists_eq_succ_of_ne_zero (by omega : h.dots ≠ 0)
    rw [hd, List.replicate_succ]
    simp only [List.cons_append, List.append_assoc]
    rw [ups_dot]
/-- the sent text is what the strands write -/
theorem sent_strands (hops : Nat) {hs : List Head} (H : ∀ h ∈ hs, h.Ok) : sentN hops (sent0 hs) = (strands hops hs).flatMap strandT := by
  have e : sent0 hs = rowsT (hs.map line ++ [[]]) := by
    unfold sent0 rowsT
    simp [List.flatMap_append, List.flatMap_map]
  rw [e, sent_rows]
  · have eu : ups hops [] = [] := ups_not _ _ (by simp)
    unfold rowsT strands
    rw [List.map_append, List.flatMap_append, List.flatMap_append]
    simp only [List.map_cons, List.map_nil, eu, List.flatMap_cons, List.flatMap_nil, List.append_nil, List.nil_append]
    congr 1
    clear e
    induction hs with
    | nil => rfl
    | cons h hs ih =>
      rw [List.map_cons, List.map_cons, List.flatMap_cons, List.flatMap_cons, List.flatMap_append, ih fun x hx => H x (by simp [hx]), strands_head, ups_line hops (H h (by simp))]
  · intro l hl
    rcases List.mem_append.mp hl with hl | hl
    · obtain ⟨h, hh, rfl⟩ := List.mem_map.mp hl
      exact line_no (H h hh)
    · rw [List.mem_singleton.mp hl]; simp
end
-- A1
section
/-- the reader's answers, each with its row's number; R is the number behind the text's end -/
def reads : Nat → Nat → List Nat → List (List Nat × Nat)
  | 0, _, _ => []
  | n + 1, R, l => ((tkS l).1, R - nls (tkS l).2) :: reads n R (tkS l).2
/-- the reader amid a word -/
inductive Mode where
  | S
  | P (acc : List Nat)
  | Q (acc : List Nat)
def Mode.tk : Mode → List Nat → List Nat × List Nat
  | .S, l => tkS l
  | .P a, l => tkP a l
  | .Q a, l => tkQ a l
def modeOf (d : Due) : Mode := if d.held = true then .Q d.word else if d.word = [] then .S else .P d.word
def then_ (n R : Nat) (p : List Nat × List Nat) : List (List Nat × Nat) := (p.1, R - nls p.2) :: reads n R p.2
/-- the law's reading is where the reader is, l is left -/
structure Sim (text : List Nat) (R : Nat) (d : Due) (l : List Nat) : Prop where
  row : d.row + nls l = R
  on : ∀ n, reads (d.words.length + (n + 1)) R text = d.words ++ then_ n R ((modeOf d).tk l)
theorem tkS_nil : tkS [] = ([], []) := rfl
theorem tkS_ws {c : Nat} {r : List Nat} (h : isWs c = true) : tkS (c :: r) = tkS r := by unfold tkS; rw [if_pos h]; rw [← tkS.eq_def]
theorem tkS_q {r : List Nat} : tkS (34 :: r) = tkQ [] r := by unfold tkS; rfl
theorem tkS_esc {d : Nat} {r : List Nat} : tkS (92 :: d :: r) = tkP [d] r := by unfold tkS; rfl
theorem tkS_on {c : Nat} {r : List Nat} (h1 : ¬ isWs c = true) (h2 : ¬ c = 34) (h3 : ¬ c = 92) : tkS (c :: r) = tkP [c] r := by unfold tkS; rw [if_neg h1, if_neg h2, if_neg h3]
theorem isWs_iff {c : Nat} : isWs c = true ↔ c = 10 ∨ c = 9 ∨ c = 13 ∨ c = 32 := by simp [isWs]
theorem nls_cons (c : Nat) (l : List Nat) : nls (c :: l) = nls l + (if c = 10 then 1 else 0) := by
  unfold nls
  rw [List.count_cons]
  simp
section
variable {text : List Nat} {R : Nat} {d : Due} {l : List Nat}
theorem Due.nl_word (d : Due) (c : Nat) : (d.nl c).word = d.word ∧ (d.nl c).held = d.held ∧ (d.nl c).words = d.words := by unfold Due.nl; split <;> exact ⟨rfl, rfl, rfl⟩
theorem Due.nl_row (d : Due) (c : Nat) : (d.nl c).row = d.row + (if c = 10 then 1 else 0) := by unfold Due.nl; split <;> rfl
/-- a sign that goes on -/
theorem Sim.step {d' : Due} {c : Nat} {l' : List Nat} (H : Sim text R d (c :: l)) (hr : d'.row + nls l' = d.row + nls (c :: l)) (hw : d'.words = d.words) (ht : (modeOf d).tk (c :: l) = (modeOf d').tk l') : Sim text R d' l' :=
  ⟨hr.trans H.row, fun n => by rw [hw, H.on n, ht]⟩
/-- a sign that ends a word -/
theorem Sim.word {d' : Due} {c : Nat} {l' w : List Nat} (H : Sim text R d (c :: l)) (hr : d'.row + nls l' = d.row + nls (c :: l)) (hw : d'.words = d.words ++ [(w, d'.row)]) (ht : (modeOf d).tk (c :: l) = (w, l')) (hm : modeOf d' = .S) : Sim text R d' l' := by
  have hR : d'.row = R - nls l' := by have := H.row; omega
  refine ⟨hr.trans H.row, fun n => ?_⟩
  rw [hw, List.length_append, List.length_singleton, hm]
  have := H.on (n + 1)
  rw [ht] at this
  rw [show d.words.length + 1 + (n + 1) = d.words.length + (n + 1 + 1) by omega, this, hR]
  simp [then_, reads, Mode.tk]
theorem sim_sign {c : Nat} (H : Sim text R d (c :: l)) (h9 : c ≠ 9) (h34 : c ≠ 34) (h92 : c ≠ 92) : Sim text R (onSign d c) l := by
  obtain ⟨e1, e2, e3⟩ := d.nl_word c
  have er := d.nl_row c
  have hr : (d.nl c).row + nls l = d.row + nls (c :: l) := by rw [er, nls_cons]; omega
  unfold onSign
  by_cases hh : d.held = true
  · rw [if_pos (.inl hh)]
    refine H.step hr e3 ?_
    unfold modeOf
    rw [if_pos hh, if_pos (show ((d.nl c).add c).held = true from e2.trans hh)]
    show tkQ d.word (c :: l) = tkQ ((d.nl c).word ++ [c]) l
    rw [e1, tkQ_on h34 h92]
  · by_cases hc : c ∈ [32, 13, 10]
    · rw [if_neg (by rintro (x | x); exact hh x; exact x hc)]
      have ws : isWs c = true := by rw [isWs_iff]; simp at hc; omega
      by_cases hw : d.word = []
      · rw [if_pos hw]
        refine H.step hr e3 ?_
        unfold modeOf
        rw [if_neg hh, if_pos hw, e2, if_neg hh, e1, if_pos hw]
        exact tkS_ws ws
      · rw [if_neg hw]
        refine H.word (w := d.word) hr (by show (d.nl c).words ++ _ = _; rw [e3, e1]; rfl) ?_ ?_
        · unfold modeOf
          rw [if_neg hh, if_neg hw]
          exact tkP_end ws
        · unfold modeOf
          rw [if_neg (by show ¬ (d.nl c).held = true; rw [e2]; exact hh)]; rfl
    · rw [if_pos (.inr hc)]
      have ws : ¬ isWs c = true := by rw [isWs_iff]; simp at hc; omega
      refine H.step hr e3 ?_
      unfold modeOf
      rw [if_neg hh, if_neg (show ¬ ((d.nl c).add c).held = true by show ¬ (d.nl c).held = true; rw [e2]; exact hh), if_neg (show ¬ ((d.nl c).add c).word = [] by simp [Due.add])]
      show _ = tkP ((d.nl c).word ++ [c]) l
      rw [e1]
      by_cases hw : d.word = []
      · rw [if_pos hw, hw]
        exact tkS_on ws h34 h92
      · rw [if_neg hw]
        exact tkP_on ws h92
theorem sim_signs : ∀ {p : List Nat} {d : Due}, Sim text R d (p ++ l) → (∀ c ∈ p, c ≠ 9 ∧ c ≠ 34 ∧ c ≠ 92) → Sim text R (p.foldl onSign d) l
  | [], _, H, _ => H
  | c :: p, d, H, h => sim_signs (d := onSign d c) (sim_sign H (h c (by simp)).1 (h c (by simp)).2.1 (h c (by simp)).2.2) fun x hx => h x (by simp [hx])
/-- the mark ahead of a value -/
theorem sim_open (H : Sim text R d (34 :: l)) (hw : d.held = true ∨ d.word ≠ []) : Sim text R { onOpen d with held := false } l := by
  unfold onOpen
  by_cases hh : d.held = true
  · rw [if_pos hh]
    refine H.word (w := d.word) ?_ rfl ?_ ?_
    · show d.row + _ = _; rw [nls_cons]; rfl
    · unfold modeOf; rw [if_pos hh]; exact tkQ_end rfl
    · rfl
  · rw [if_neg hh]
    have hw : d.word ≠ [] := hw.resolve_left hh
    refine H.step ?_ rfl ?_
    · show d.row + _ = _; rw [nls_cons]; rfl
    · unfold modeOf
      rw [if_neg hh, if_neg hw, if_neg (by exact Bool.false_ne_true), if_neg (by simp [Due.add])]
      exact tkP_on (by rw [isWs_iff]; omega) (by omega)
/-- a sign of a value, as it is sent -/
def escC (c : Nat) : List Nat := if c = 92 then [92, 92] else if c = 34 then [92, 34] else [c]
theorem sim_val {c : Nat} (hh : d.held = false) (hc : c ≠ 10 ∧ c ≠ 13) (H : Sim text R d (escC c ++ l)) : Sim text R (onVal d c) l := by
  have hn : ¬ d.held = true := by rw [hh]; exact Bool.false_ne_true
  unfold onVal
  by_cases hw : c ∈ [32, 9]
  · rw [if_neg (fun x => x hw)]
    have e : escC c = [c] := by unfold escC; simp at hw; rw [if_neg (by omega), if_neg (by omega)]
    rw [e] at H
    have ws : isWs c = true := by rw [isWs_iff]; simp at hw; omega
    have hr : d.row + nls l = d.row + nls (c :: l) := by rw [nls_cons, if_neg hc.1]; rfl
    by_cases hd : d.word = []
    · rw [if_pos hd]
      refine H.step hr rfl ?_
      unfold modeOf
      rw [if_neg hn, if_pos hd]
      exact tkS_ws ws
    · rw [if_neg hd]
      refine H.word (w := d.word) hr rfl ?_ ?_
      · unfold modeOf; rw [if_neg hn, if_neg hd]; exact tkP_end ws
      · unfold modeOf; rw [if_neg (by exact hn)]; rfl
  · rw [if_pos hw]
    have ws : ¬ isWs c = true := by rw [isWs_iff]; simp at hw; omega
    have e2 : modeOf (d.add c) = .P (d.word ++ [c]) := by unfold modeOf; rw [if_neg (by exact hn), if_neg (by simp [Due.add])]; rfl
    have e1 : modeOf d = if d.word = [] then .S else .P d.word := by unfold modeOf; rw [if_neg hn]
    have w92 : ¬ isWs 92 = true := by decide
    by_cases h2 : c = 92 ∨ c = 34
    · have e : escC c = [92, c] := by unfold escC; rcases h2 with rfl | rfl <;> rfl
      rw [e] at H
      have hr : d.row + nls l = d.row + nls (92 :: c :: l) := by rw [nls_cons, nls_cons, if_neg hc.1]; rfl
      refine ⟨hr.trans H.row, fun n => ?_⟩
      have := H.on n
      show reads (d.words.length + (n + 1)) R text = d.words ++ _
      rw [this, e1, e2]
      congr 2
      by_cases hd : d.word = []
      · rw [if_pos hd, hd]; exact tkS_esc
      · rw [if_neg hd]; exact tkP_esc w92 rfl
    · have e : escC c = [c] := by unfold escC; rw [if_neg (by omega), if_neg (by omega)]
      rw [e] at H
      refine H.step (by show d.row + nls l = d.row + nls (c :: l); rw [nls_cons, if_neg hc.1]; rfl) rfl ?_
      rw [e1, e2]
      by_cases hd : d.word = []
      · rw [if_pos hd, hd]; exact tkS_on ws (by omega) (by omega)
      · rw [if_neg hd]; exact tkP_on ws (by omega)
theorem onVal_held (d : Due) (c : Nat) : (onVal d c).held = d.held := by
  unfold onVal; split
  · rfl
  · split <;> rfl
theorem sim_vals : ∀ {v : List Nat} {d : Due}, d.held = false → Sim text R d (esc v ++ l) → (∀ c ∈ v, c ≠ 10 ∧ c ≠ 13) → Sim text R (v.foldl onVal d) l ∧ (v.foldl onVal d).held = false
  | [], d, hh, H, _ => ⟨H, hh⟩
  | c :: v, d, hh, H, h => by
    have e : esc (c :: v) = escC c ++ esc v := by simp [esc, escC]
    rw [e, List.append_assoc] at H
    exact sim_vals (d := onVal d c) ((onVal_held d c).trans hh) (sim_val hh (h c (by simp)) H) fun x hx => h x (by simp [hx])
/-- the last sign of a value -/
theorem onVal_last {v : List Nat} {d : Due} (hv : v ≠ []) : (v.getLastD 0 ∈ [32, 9] → (v.foldl onVal d).word = []) ∧ (v.getLastD 0 ∉ [32, 9] → (v.foldl onVal d).word ≠ []) := by
  obtain ⟨u, c, rfl⟩ : ∃ u c, v = u ++ [c] := ⟨v.dropLast, v.getLast hv, (List.dropLast_concat_getLast hv).symm⟩
  rw [List.foldl_append]
  have e : (u ++ [c]).getLastD 0 = c := by simp
  rw [e]
  generalize u.foldl onVal d = z
  show (_ → (onVal z c).word = []) ∧ (_ → (onVal z c).word ≠ [])
  unfold onVal
  refine ⟨fun h => ?_, fun h => ?_⟩
  · rw [if_neg (fun x => x h)]
    split
    · assumption
    · rfl
  · rw [if_pos h]; simp [Due.add]
theorem fold_val_held (b : Bool) : ∀ (v : List Nat) (d : Due), v.foldl onVal { d with held := b } = { v.foldl onVal d with held := b }
  | [], d => rfl
  | c :: v, d => by
    have e : onVal { d with held := b } c = { onVal d c with held := b } := by
      unfold onVal
      split
      · rfl
      · show (if d.word = [] then _ else _) = _
        split <;> rfl
    rw [List.foldl_cons, List.foldl_cons, e, fold_val_held b v]
theorem onClose_held (d : Due) (v : List Nat) (b : Bool) : onClose { d with held := b } v = onClose d v := by
  unfold onClose; split <;> rfl
theorem sim_close {v : List Nat} (hh : d.held = false) (h1 : v.getLastD 0 ∈ [32, 9] → d.word = []) (h2 : v.getLastD 0 ∉ [32, 9] → d.word ≠ []) (H : Sim text R d (34 :: l)) : Sim text R (onClose d v) l := by
  have hn : ¬ d.held = true := by rw [hh]; exact Bool.false_ne_true
  unfold onClose
  by_cases hv : v.getLastD 0 ∈ [32, 9]
  · rw [if_pos hv]
    refine H.step (by show d.row + _ = _; rw [nls_cons]; rfl) rfl ?_
    unfold modeOf
    rw [if_neg hn, if_pos (h1 hv), if_pos rfl]
    show tkS _ = tkQ d.word l
    rw [h1 hv]; exact tkS_q
  · rw [if_neg hv]
    refine H.step (by show d.row + _ = _; rw [nls_cons]; rfl) rfl ?_
    unfold modeOf
    rw [if_neg hn, if_neg (h2 hv), if_neg (by exact Bool.false_ne_true), if_neg (by simp [Due.add])]
    exact tkP_on (by rw [isWs_iff]; omega) (by omega)
/-- a strand that the law writes -/
structure StrandOk (p : List Nat × List Nat) : Prop where
  plain : ∀ c ∈ p.1, c ≠ 9 ∧ c ≠ 34 ∧ c ≠ 92
  val : ∀ c ∈ p.2, c ≠ 10 ∧ c ≠ 13
  eq : p.2 ≠ [] → ∃ q, p.1 = q ++ [61]
theorem onSign_61 (d : Due) : (onSign d 61).word ≠ [] := by
  unfold onSign
  rw [if_pos (.inr (by decide))]
  simp [Due.add]
theorem sim_strand {p : List Nat × List Nat} (K : StrandOk p) (H : Sim text R d (strandT p ++ l)) : Sim text R (onStrand d p) l := by
  unfold strandT quoted at H
  unfold onStrand
  by_cases hv : p.2 = []
  · rw [if_pos hv] at H ⊢
    exact sim_signs (by simpa using H) K.plain
  · rw [if_neg hv] at H ⊢
    have H1 := sim_signs (d := d) (p := p.1) (l := 34 :: (esc p.2 ++ (34 :: l))) (by simpa using H) K.plain
    have hw : (p.1.foldl onSign d).word ≠ [] := by
      obtain ⟨q, e⟩ := K.eq hv
      rw [e, List.foldl_append]
      exact onSign_61 _
    have H2 := sim_open H1 (.inr hw)
    obtain ⟨H3, hh⟩ := sim_vals (v := p.2) rfl H2 K.val
    have hl := onVal_last (d := { onOpen (p.1.foldl onSign d) with held := false }) hv
    have H4 := sim_close hh hl.1 hl.2 H3
    rw [fold_val_held, onClose_held] at H4
    exact H4
theorem sim_strands : ∀ {ps : List (List Nat × List Nat)} {d : Due}, (∀ p ∈ ps, StrandOk p) → Sim text R d (ps.flatMap strandT ++ l) → Sim text R (ps.foldl onStrand d) l
  | [], _, _, H => H
  | p :: ps, d, K, H => sim_strands (d := onStrand d p) (fun q hq => K q (by simp [hq])) (sim_strand (K p (by simp)) (by simpa [List.flatMap_cons, List.append_assoc] using H))
end
theorem reads_nil (n R : Nat) : reads n R [] = List.replicate n ([], R) := by
  induction n with
  | zero => rfl
  | succ n ih => rw [reads, tkS_nil, ih, List.replicate_succ]; rfl
/-- the words told are the words due, and twice the empty one -/
theorem reads_due {ps : List (List Nat × List Nat)} (K : ∀ p ∈ ps, StrandOk p) {d : Due} (hd : ps.foldl onStrand ⟨[], [], false, 1⟩ = d) {text : List Nat} (ht : text = ps.flatMap strandT) :
    reads (d.all.length + 2) (1 + nls text) text = d.all ++ [([], d.row), ([], d.row)] := by
  have H0 : Sim text (1 + nls text) ⟨[], [], false, 1⟩ (ps.flatMap strandT ++ []) := by
    refine ⟨by rw [List.append_nil, ← ht], fun n => ?_⟩
    rw [List.append_nil, ← ht]
    simp only [List.length_nil, List.nil_append, Nat.zero_add]
    rfl
  have H := sim_strands K H0
  rw [hd] at H
  have hr : d.row = 1 + nls text := H.row
  rw [← hr]
  unfold Due.all
  have H2 := H.on
  rw [← hr] at H2
  by_cases hw : d.word = []
  · rw [if_pos hw, H2 1]
    congr 1
    unfold modeOf
    by_cases hh : d.held = true
    · rw [if_pos hh, hw]; simp [Mode.tk, tkQ_nil, then_, reads_nil, nls]
    · rw [if_neg hh, if_pos hw]; simp [Mode.tk, tkS_nil, then_, reads_nil, nls]
  · rw [if_neg hw, List.length_append, List.length_singleton, show d.words.length + 1 + 2 = d.words.length + (2 + 1) by omega, H2 2, List.append_assoc]
    congr 1
    unfold modeOf
    by_cases hh : d.held = true
    · rw [if_pos hh]; simp [Mode.tk, tkQ_nil, then_, reads_nil, nls]
    · rw [if_neg hh, if_neg hw]; simp [Mode.tk, tkP_nil, then_, reads_nil, nls]
end
-- A2
section
def okS : List Nat := [46, 88, 120, 89, 58, 32, 118, 59, 107, 109, 45, 110, 61, 34, 97, 65, 92, 13, 10]
/-- a word that the reader may tell -/
structure WordOk (w : List Nat) : Prop where
  s : ∀ c ∈ w, c ∈ okS
  nl : 10 ∈ w → 13 ∈ w
theorem WordOk.nil : WordOk [] := ⟨by simp, by simp⟩
theorem WordOk.snoc {w : List Nat} {c : Nat} (h : WordOk w) (hc : c ∈ okS) (h10 : c = 10 → 13 ∈ w) : WordOk (w ++ [c]) := by
  refine ⟨fun d hd => ?_, fun hd => ?_⟩
  · rcases List.mem_append.mp hd with hd | hd
    · exact h.s d hd
    · rw [List.mem_singleton.mp hd]; exact hc
  · refine List.mem_append_left _ ?_
    rcases List.mem_append.mp hd with hd | hd
    · exact h.nl hd
    · exact h10 (List.mem_singleton.mp hd).symm
structure DInv (d : Due) (n k : Nat) : Prop where
  size : d.words.length + d.word.length ≤ n
  word : WordOk d.word
  words : ∀ p ∈ d.words, WordOk p.1 ∧ p.2 ≤ d.row ∧ p.1.length ≤ n
  row : d.row ≤ k
theorem DInv.mono {d : Due} {n k n' : Nat} (H : DInv d n k) (h : n ≤ n') : DInv d n' k :=
  ⟨Nat.le_trans H.size h, H.word, fun p hp => ⟨(H.words p hp).1, (H.words p hp).2.1, Nat.le_trans (H.words p hp).2.2 h⟩, H.row⟩
theorem DInv.add {d : Due} {n k c : Nat} (H : DInv d n k) (hc : c ∈ okS) (h10 : c = 10 → 13 ∈ d.word) : DInv (d.add c) (n + 1) k := by
  have h := H.size
  exact ⟨by show d.words.length + (d.word ++ [c]).length ≤ _; simp; omega, H.word.snoc hc h10, (H.mono (Nat.le_succ n)).words, H.row⟩
theorem DInv.push {d : Due} {n k : Nat} (H : DInv d n k) : DInv d.push (n + 1) k := by
  have h := H.size
  refine ⟨by show (d.words ++ [(d.word, d.row)]).length + 0 ≤ _; simp; omega, WordOk.nil, fun p hp => ?_, H.row⟩
  rcases List.mem_append.mp hp with hp | hp
  · exact (H.mono (Nat.le_succ n)).words p hp
  · rw [List.mem_singleton.mp hp]
    exact ⟨H.word, Nat.le_refl _, by show d.word.length ≤ _; omega⟩
theorem DInv.nl10 {d : Due} {n k : Nat} (H : DInv d n k) : DInv (d.nl 10) n (k + 1) := by
  have h := H.row
  exact ⟨H.size, H.word, fun p hp => ⟨(H.words p hp).1, Nat.le_succ_of_le (H.words p hp).2.1, (H.words p hp).2.2⟩, by show d.row + 1 ≤ _; omega⟩
theorem nl_not {c : Nat} (h : c ≠ 10) (d : Due) : d.nl c = d := if_neg h
theorem inv_sign {d : Due} {n k c : Nat} (H : DInv d n k) (hc : c ∈ okS) (h13 : c ≠ 13) (h10 : c ≠ 10) : DInv (onSign d c) (n + 1) k := by
  unfold onSign
  rw [nl_not h10]
  split
  · exact H.add hc fun e => absurd e h10
  · split
    · exact H.mono (Nat.le_succ n)
    · exact H.push
theorem inv_signs : ∀ {p : List Nat} {d : Due} {n k : Nat}, DInv d n k → (∀ c ∈ p, c ∈ okS ∧ c ≠ 13 ∧ c ≠ 10) → DInv (p.foldl onSign d) (n + p.length) k
  | [], _, _, _, H, _ => H
  | c :: p, d, n, k, H, h => by
    have := inv_signs (p := p) (d := onSign d c) (inv_sign H (h c (by simp)).1 (h c (by simp)).2.1 (h c (by simp)).2.2) fun x hx => h x (.tail _ hx)
    rw [List.foldl_cons, List.length_cons, show n + (p.length + 1) = n + 1 + p.length by omega]
    exact this
theorem inv_end {d : Due} {n k : Nat} (H : DInv d n k) : DInv ([13, 10].foldl onSign d) (n + 2) (k + 1) := by
  show DInv (onSign (onSign d 13) 10) _ _
  by_cases hh : d.held = true
  · have e1 : onSign d 13 = d.add 13 := by unfold onSign; rw [if_pos (.inl hh)]; rfl
    have e2 : onSign (d.add 13) 10 = (Due.nl (d.add 13) 10).add 10 := by unfold onSign; rw [if_pos (.inl (show (d.add 13).held = true from hh))]
    rw [e1, e2]
    exact (H.add (c := 13) (by decide) fun e => absurd e (by decide)).nl10.add (by decide) fun _ => by show 13 ∈ d.word ++ [13]; simp
  · have e1 : onSign d 13 = if d.word = [] then d else d.push := by unfold onSign; rw [if_neg (by rintro (x | x); exact hh x; exact x (by decide))]; rfl
    rw [e1]
    have H1 : DInv (if d.word = [] then d else d.push) (n + 1) k := by
      split
      · exact H.mono (Nat.le_succ n)
      · exact H.push
    have hh1 : ¬ (if d.word = [] then d else d.push).held = true := by split <;> exact hh
    generalize (if d.word = [] then d else d.push) = z at *
    unfold onSign
    rw [if_neg (by rintro (x | x); exact hh1 x; exact x (by decide))]
    split
    · exact H1.nl10.mono (Nat.le_succ _)
    · exact H1.nl10.push
theorem inv_open {d : Due} {n k : Nat} (H : DInv d n k) : DInv (onOpen d) (n + 1) k := by
  unfold onOpen
  split
  · exact H.push
  · exact H.add (by decide) fun e => absurd e (by decide)
theorem inv_vals : ∀ {v : List Nat} {d : Due} {n k : Nat}, DInv d n k → (∀ c ∈ v, c ∈ signs7) → DInv (v.foldl onVal d) (n + v.length) k
  | [], _, _, _, H, _ => H
  | c :: v, d, n, k, H, h => by
    have hc := h c (by simp)
    have H1 : DInv (onVal d c) (n + 1) k := by
      unfold onVal
      split
      · rename_i h2
        refine H.add ?_ fun e => absurd e (signs7_no hc)
        simp only [signs7, List.mem_cons, List.not_mem_nil, or_false] at hc h2
        rcases hc with rfl | rfl | rfl | rfl | rfl | rfl | rfl
        · decide
        · decide
        · decide
        · decide
        · decide
        · decide
        · exact absurd (.inr rfl) h2
      · split
        · exact H.mono (Nat.le_succ n)
        · exact H.push
    have := inv_vals (v := v) (d := onVal d c) H1 fun x hx => h x (.tail _ hx)
    rw [List.foldl_cons, List.length_cons, show n + (v.length + 1) = n + 1 + v.length by omega]
    exact this
theorem DInv.close {d : Due} {n k : Nat} (H : DInv d n k) (v : List Nat) : DInv (onClose d v) (n + 1) k := by
  unfold onClose
  split
  · exact ⟨Nat.le_succ_of_le H.size, H.word, (H.mono (Nat.le_succ n)).words, H.row⟩
  · have := H.add (c := 34) (by decide) fun e => absurd e (by decide)
    exact ⟨this.size, this.word, this.words, this.row⟩
/-- a strand without line ends -/
structure PlainOk (p : List Nat × List Nat) : Prop where
  plain : ∀ c ∈ p.1, c ∈ okS ∧ c ≠ 13 ∧ c ≠ 10 ∧ c ≠ 34 ∧ c ≠ 92
  val : ∀ c ∈ p.2, c ∈ signs7
  eq : p.2 ≠ [] → ∃ q, p.1 = q ++ [61]
  len : p.1.length ≤ 20 ∧ p.2.length ≤ 4
theorem okS_9 {c : Nat} (h : c ∈ okS) : c ≠ 9 := by
  intro e; subst e; revert h; decide
theorem signs7_13 {c : Nat} (h : c ∈ signs7) : c ≠ 13 := by
  intro e; subst e; revert h; decide
theorem PlainOk.ok {p : List Nat × List Nat} (H : PlainOk p) : StrandOk p :=
  ⟨fun c hc => ⟨okS_9 (H.plain c hc).1, (H.plain c hc).2.2.2.1, (H.plain c hc).2.2.2.2⟩, fun c hc => ⟨signs7_no (H.val c hc), signs7_13 (H.val c hc)⟩, H.eq⟩
theorem endOk : StrandOk ([13, 10], []) := ⟨by decide, by simp, by simp⟩
theorem inv_plain {p : List Nat × List Nat} (K : PlainOk p) {d : Due} {n k : Nat} (H : DInv d n k) : DInv (onStrand d p) (n + 26) k := by
  have h1 := inv_signs H fun c hc => ⟨(K.plain c hc).1, (K.plain c hc).2.1, (K.plain c hc).2.2.1⟩
  have hl := K.len
  unfold onStrand
  split
  · exact h1.mono (by omega)
  · exact ((inv_vals (inv_open h1) K.val).close _).mono (by omega)
theorem inv_nl {d : Due} {n k : Nat} (H : DInv d n k) : DInv (onStrand d ([13, 10], [])) (n + 2) (k + 1) := by
  unfold onStrand
  rw [if_pos rfl]
  exact inv_end H
theorem lead_ok {hops : Nat} {h : Head} (H : h.Ok) (hh : hops ≤ 2) : (∀ c ∈ lead0 hops h, c ∈ okS ∧ c ≠ 13 ∧ c ≠ 10 ∧ c ≠ 34 ∧ c ≠ 92) ∧ (lead0 hops h).length ≤ 7 := by
  have hd := H.d
  unfold lead0 Head.name
  constructor
  · intro c hc
    simp only [List.mem_append, List.mem_replicate, List.mem_cons, List.not_mem_nil, or_false] at hc
    rcases hc with (hc | ⟨-, rfl⟩ | rfl) | rfl | rfl
    · split at hc
      · simp at hc
      · rw [(List.mem_replicate.mp hc).2]; decide
    · decide
    · have := H.c
      simp only [List.mem_cons, List.not_mem_nil, or_false] at this
      rcases this with e | e | e <;> rw [e] <;> decide
    · decide
    · decide
  · split <;> simp <;> omega
theorem strand_ok {lead key : List Nat} {v : Option (List Nat)} (hl : (∀ c ∈ lead, c ∈ okS ∧ c ≠ 13 ∧ c ≠ 10 ∧ c ≠ 34 ∧ c ≠ 92) ∧ lead.length ≤ 7) (hk : (∀ c ∈ key, c ∈ okS ∧ c ≠ 13 ∧ c ≠ 10 ∧ c ≠ 34 ∧ c ≠ 92) ∧ key.length ≤ 3)
    (hv : ∀ x, v = some x → x.length ≤ 4 ∧ ∀ c ∈ x, c ∈ signs7) : PlainOk (strand lead key v) := by
  have pvo := pv_ok hv
  have h1 : ∀ c ∈ lead ++ key, c ∈ okS ∧ c ≠ 13 ∧ c ≠ 10 ∧ c ≠ 34 ∧ c ≠ 92 := fun c hc => (List.mem_append.mp hc).elim (hl.1 c) (hk.1 c)
  unfold strand
  split
  · exact ⟨h1, by simp, by simp, by simp; omega⟩
  · refine ⟨fun c hc => ?_, pvo.2, fun _ => ⟨_, rfl⟩, by simp; omega⟩
    rcases List.mem_append.mp hc with hc | hc
    · exact h1 c hc
    · rw [List.mem_singleton.mp hc]; decide
theorem keyK_ok : (∀ c ∈ kK, c ∈ okS ∧ c ≠ 13 ∧ c ≠ 10 ∧ c ≠ 34 ∧ c ≠ 92) ∧ kK.length ≤ 3 := by decide
theorem keyM_ok : (∀ c ∈ kM, c ∈ okS ∧ c ≠ 13 ∧ c ≠ 10 ∧ c ≠ 34 ∧ c ≠ 92) ∧ kM.length ≤ 3 := by decide
theorem leadS_ok : (∀ c ∈ ([59, 32] : List Nat), c ∈ okS ∧ c ≠ 13 ∧ c ≠ 10 ∧ c ≠ 34 ∧ c ≠ 92) ∧ ([59, 32] : List Nat).length ≤ 7 := by decide
theorem own_ok {hops : Nat} {h : Head} (H : h.Ok) (hh : hops ≤ 2) {o : List Nat} (ho : h.own = some o) : PlainOk (lead0 hops h ++ o, []) := by
  have hl := lead_ok H hh
  have : o = [118] ∨ o = [46] := by
    rcases H.own with e | e | e <;> rw [ho] at e <;> cases e
    · exact .inl rfl
    · exact .inr rfl
  refine ⟨fun c hc => ?_, by simp, by simp, ?_⟩
  · rcases List.mem_append.mp hc with hc | hc
    · exact hl.1 c hc
    · rcases this with rfl | rfl <;> rw [List.mem_singleton.mp hc] <;> decide
  · rcases this with rfl | rfl <;> simp <;> omega
theorem inv_head {hops : Nat} {h : Head} (H : h.Ok) (hh : hops ≤ 2) {d : Due} {n k : Nat} (I : DInv d n k) : DInv ((strandsOf hops h).foldl onStrand d) (n + 80) (k + 1) := by
  unfold strandsOf
  cases e : h.own with
  | none =>
    have h1 := inv_plain (strand_ok (lead_ok H hh) keyK_ok H.v1) I
    have h2 := inv_plain (strand_ok leadS_ok keyM_ok H.v2) h1
    exact (inv_nl h2).mono (by omega)
  | some o =>
    have h0 := inv_plain (own_ok H hh e) I
    have h1 := inv_plain (strand_ok leadS_ok keyK_ok H.v1) h0
    have h2 := inv_plain (strand_ok leadS_ok keyM_ok H.v2) h1
    exact (inv_nl h2).mono (by omega)
theorem head_strands {hops : Nat} {h : Head} (H : h.Ok) (hh : hops ≤ 2) : ∀ p ∈ strandsOf hops h, StrandOk p := by
  intro p hp
  unfold strandsOf at hp
  cases e : h.own with
  | none =>
    rw [e] at hp
    simp only [List.mem_cons, List.not_mem_nil, or_false] at hp
    rcases hp with rfl | rfl | rfl
    · exact (strand_ok (lead_ok H hh) keyK_ok H.v1).ok
    · exact (strand_ok leadS_ok keyM_ok H.v2).ok
    · exact endOk
  | some o =>
    rw [e] at hp
    simp only [List.mem_cons, List.not_mem_nil, or_false] at hp
    rcases hp with rfl | rfl | rfl | rfl
    · exact (own_ok H hh e).ok
    · exact (strand_ok leadS_ok keyK_ok H.v1).ok
    · exact (strand_ok leadS_ok keyM_ok H.v2).ok
    · exact endOk
theorem strands_ok {hops : Nat} {hs : List Head} (H : ∀ h ∈ hs, h.Ok) (hh : hops ≤ 2) : ∀ p ∈ strands hops hs, StrandOk p := by
  intro p hp
  rcases List.mem_append.mp hp with hp | hp
  · obtain ⟨h, hm, hp⟩ := List.mem_flatMap.mp hp
    exact head_strands (H h hm) hh p hp
  · rw [List.mem_singleton.mp hp]; exact endOk
theorem inv_heads {hops : Nat} (hh : hops ≤ 2) : ∀ {hs : List Head} {d : Due} {n k : Nat}, (∀ h ∈ hs, h.Ok) → DInv d n k → DInv ((hs.flatMap (strandsOf hops)).foldl onStrand d) (n + 80 * hs.length) (k + hs.length)
  | [], _, _, _, _, I => I
  | h :: hs, d, n, k, H, I => by
    rw [List.flatMap_cons, List.foldl_append, List.length_cons, show n + 80 * (hs.length + 1) = n + 80 + 80 * hs.length by omega, show k + (hs.length + 1) = k + 1 + hs.length by omega]
    exact inv_heads hh (fun x hx => H x (by simp [hx])) (inv_head (H h (by simp)) hh I)
theorem due_inv {hops : Nat} {hs : List Head} (H : ∀ h ∈ hs, h.Ok) (hh : hops ≤ 2) (h3 : hs.length = 3) : DInv (dueD hops hs) 242 5 := by
  unfold dueD strands
  rw [List.foldl_append]
  have h0 : DInv ⟨[], [], false, 1⟩ 0 1 := ⟨by simp, .nil, by simp, Nat.le_refl _⟩
  have := inv_nl (inv_heads hh H h0)
  rw [h3] at this
  exact this
/-- the words due: their signs, rows, number -/
structure DueOk (l : List (List Nat × Nat)) : Prop where
  all : ∀ p ∈ l, WordOk p.1 ∧ p.2 ≤ 5 ∧ p.1.length ≤ 242
  len : l.length ≤ 243
theorem due_ok {d : Due} (H : DInv d 242 5) : DueOk d.all := by
  have h1 := H.row
  have h2 := H.size
  unfold Due.all
  split
  · exact ⟨fun p hp => ⟨(H.words p hp).1, Nat.le_trans (H.words p hp).2.1 h1, (H.words p hp).2.2⟩, by omega⟩
  · refine ⟨fun p hp => ?_, by simp; omega⟩
    rcases List.mem_append.mp hp with hp | hp
    · exact ⟨(H.words p hp).1, Nat.le_trans (H.words p hp).2.1 h1, (H.words p hp).2.2⟩
    · rw [List.mem_singleton.mp hp]; exact ⟨H.word, h1, by show d.word.length ≤ _; omega⟩
/-- a word in small letters -/
def low (w : List Nat) : List Nat := w.map lo1
theorem okS_ascii {c : Nat} (h : c ∈ okS) : c < 128 := by revert h; revert c; decide
theorem WordOk.low {w : List Nat} (h : WordOk w) : Txt.lower (S w) = S (low w) := by
  rw [lower_ascii (by intro c hc; exact okS_ascii (h.s c (by simpa [S] using hc)))]
  simp [S, Mine.low]
theorem okS_bad : ∀ c ∈ okS, (badName c = true ↔ c = 13 ∨ c = 10) ∧ (badName (lo1 c) = true ↔ c = 13 ∨ c = 10) := by decide
theorem WordOk.free {w : List Nat} (h : WordOk w) (h13 : 13 ∉ w) : free badName w ∧ free badName (Mine.low w) := by
  have h10 : 10 ∉ w := fun e => h13 (h.nl e)
  have hc : ∀ c ∈ w, ¬ (c = 13 ∨ c = 10) := by
    rintro c hc (rfl | rfl)
    · exact h13 hc
    · exact h10 hc
  refine ⟨fun c hm => ?_, fun c hm => ?_⟩
  · exact Bool.eq_false_iff.mpr fun e => hc c hm ((okS_bad c (h.s c hm)).1.mp e)
  · obtain ⟨d, hd, rfl⟩ := List.mem_map.mp hm
    exact Bool.eq_false_iff.mpr fun e => hc d hd ((okS_bad d (h.s d hd)).2.mp e)
theorem WordOk.bad {w : List Nat} (_h : WordOk w) (h13 : 13 ∈ w) : ∃ c ∈ Mine.low w, badName c = true := ⟨lo1 13, List.mem_map.mpr ⟨13, h13, rfl⟩, by decide⟩
theorem low_len (w : List Nat) : (low w).length = w.length := by simp [low]
/-- the words that a new table keeps, and those that it refuses -/
def keepStep (rows : List (List Nat × List Nat)) (p : List Nat × Nat) : List (List Nat × List Nat) := if 13 ∈ p.1 then rows else if low p.1 ∈ rows.map (fun q => low q.1) then rows else rows ++ [(p.1, [48 + p.2])]
def kept (ws : List (List Nat × Nat)) : List (List Nat × List Nat) := ws.foldl keepStep []
def refused (ws : List (List Nat × Nat)) : List (List Nat) := (ws.filter fun p => decide (13 ∈ p.1)).map (·.1)
theorem kept_snoc (ws : List (List Nat × Nat)) (p : List Nat × Nat) : kept (ws ++ [p]) = keepStep (kept ws) p := by unfold kept; rw [List.foldl_append]; rfl
/-- a word of the table -/
structure RowOk (p : List Nat × List Nat) : Prop where
  word : WordOk p.1
  no : 13 ∉ p.1
  len : p.1.length ≤ 242
  val : ∃ n, n ≤ 5 ∧ p.2 = [48 + n]
theorem kept_ok : ∀ {ws : List (List Nat × Nat)} {rows : List (List Nat × List Nat)}, (∀ p ∈ ws, WordOk p.1 ∧ p.2 ≤ 5 ∧ p.1.length ≤ 242) → (∀ p ∈ rows, RowOk p) → ∀ p ∈ ws.foldl keepStep rows, RowOk p
  | [], _, _, h => h
  | q :: ws, rows, H, h => by
    refine kept_ok (rows := keepStep rows q) (fun p hp => H p (by simp [hp])) ?_
    have hq := H q (by simp)
    unfold keepStep
    split
    · exact h
    · split
      · exact h
      · intro p hp
        rcases List.mem_append.mp hp with hp | hp
        · exact h p hp
        · rw [List.mem_singleton.mp hp]; exact ⟨hq.1, by assumption, hq.2.2, _, hq.2.1, rfl⟩
theorem kept_len : ∀ (ws : List (List Nat × Nat)) (rows : List (List Nat × List Nat)), (ws.foldl keepStep rows).length ≤ rows.length + ws.length
  | [], _ => Nat.le_refl _
  | q :: ws, rows => by
    have h := kept_len ws (keepStep rows q)
    have : (keepStep rows q).length ≤ rows.length + 1 := by
      unfold keepStep
      split
      · omega
      · split
        · omega
        · simp
    rw [List.foldl_cons, List.length_cons]
    omega
end
-- E2
section
theorem fillE2 : hd.heap_1 = hd.heap_1 ∧ PySem.Challenge.rw_pe0228_01 = PySem.Challenge.rw_pe0228_01 := by
  k_fill
  exact ⟨rfl, rfl⟩
theorem match_bool : typeLookup (.type "re.Match") "__bool__" = pure none := by rw [typeLookup_type, builtinLookup_eq_fast]; kernel_rfl
theorem match_len : typeLookup (.type "re.Match") "__len__" = pure none := by rw [typeLookup_type, builtinLookup_eq_fast]; kernel_rfl
section
variable {pr : Program} {loose : List Str} {mean : ExcName → Option Value} {mg mb : Str → Option Value} {prog : Program} {w : World} {n : Nat} {A A₀ : Around} {env : Env} {L : Addr} {h₀ base : Heap} {outer : List Env}
  {m : Str → Option Value} {news : List (Addr × Obj)} {s : Shared} {E : Value → Shared → Prop}
theorem truthy_match {a : Addr} {Q : Bool → Shared → Prop} (hT : s.TypeIs (.ref a) "re.Match") (h : Q true s) : wpAny (model prog w) A (truthy (.ref a)) Q E s := by
  unfold truthy
  refine wpAny_bind (wpAny_callSpecial?_none (name := Str.ofString "__bool__") hT match_bool ?_)
  refine wpAny_bind (wpAny_specialOf (name := Str.ofString "__len__") hT match_len ?_)
  exact wpAny_pure h
set_option maxHeartbeats 2000000
theorem convert_raise {Q : Value → Shared → Prop} {x : Value} {l : List Nat} {t : Tok}
    (B : Below A₀ base outer h₀) (hA : A.frames = some (env :: outer)) (C : Cx (hd.heap_1 w.params) pr loose mean mg mb (n + 1) A env L h₀) (G : Lg h₀ L s.heap m news) (hb : ∃ c ∈ l, badName c = true) (hl : l.length ≤ 1000000)
    (hE : ∀ e s', Thrown s base (env :: outer) h₀ L m news e s' → E e s') :
    wpAny (model prog w) A (call (.ref 142) [x, .str ⟨l.toArray⟩ t] [(Str.ofString "name", .bool true)]) Q E s := by
  refine enterE (binds := [(Str.ofString "self", x), (Str.ofString "value", .str ⟨l.toArray⟩ t), (Str.ofString "name", .bool true)]) B hA C G (by k_is) (by k_is) (BindsTo.of_eq rfl) (locs rfl) rfl rfl rfl (by decide) hE ?_
  intro g L' h₁ C B' st' G
  refine hideQ fun Y0 hY => ?_
  have hl1 : (⟨l.toArray⟩ : Str).length ≤ 1000000 := by simpa [Str.length] using hl
  obtain ⟨c, hc, hcb⟩ := hb
  obtain ⟨i, hi, hic⟩ := List.getElem_of_mem hc
  walk_at "go"
  refine pat_meth (pat102 (C.X.keeps G.F.keep)) slot_pat_search type_pat_search ?_
  walk_at "go"
  refine pat_search_some oneName (pat102 (C.X.keeps G.F.keep)) hl1 (i := i) (by simpa using hi) (by rw [Array.getD_eq_getD_getElem?]; simp [hi, hic, hcb]) ?_
  intro ma o h' ho hcls hnone hk
  have G := G.kept hk
  refine truthy_match ⟨o, ho, hcls⟩ ?_
  refine ite_pos rfl ?_
  refine wpAny_execs_cons ?_
  refine Raise_madeB PySem.F.excCall_ValueError PySem.F.excRaise_ValueError C.hn ?_
  refine nameX_B G.F C.X (topRead_of C.T) (by k_is) PyProof.Rows.Boot.«ValueError» (by decide) ⟨rfl, ?_⟩
  walk_at "go"
  refine ⟨by simp [sizeLine_eq], fun h'' e hx => .inr ⟨⟨e, _, _, _, rfl, hx.of, G.F, G.N⟩, _, _, rfl⟩⟩
theorem get_raise {Q : Value → Shared → Prop} {x dx l : Addr} {k : Tok} {nm : Str} {tn : Tok} {low : List Nat}
    (B : Below A₀ base outer h₀) (hA : A.frames = some (env :: outer)) (C : Cx (hd.heap_1 w.params) pr loose mean mg mb (n + 2) A env L h₀) (G : Lg h₀ L s.heap m news)
    (hx : (x, instObj 243 dx) ∈ news) (hdx : (dx, dictOf (hes w k l) 1) ∈ news) (hn : nm.length ≤ 1000000) (hlow : Txt.lower nm = S low) (hb : ∃ c ∈ low, badName c = true) (hl2 : low.length ≤ 1000000)
    (hE : ∀ e s', Thrown s base (env :: outer) h₀ L m news e s' → E e s') :
    wpAny (model prog w) A (call (.ref 190) [.ref x, .str nm tn]) Q E s := by
  refine enterE (binds := [(Str.ofString "self", .ref x), (Str.ofString "name", .str nm tn), (Str.ofString "default", .none)]) B hA C G (by k_is) (by k_is) (binds_K (C.X.keeps G.F.keep) rfl (by k_is) rfl rfl rfl) (locs rfl) rfl rfl rfl (by decide) hE ?_
  intro g L' h₁ C B' st' G
  refine hideQ fun Y0 hY => ?_
  walk_at "go"
  refine SCL.lower (Nat.le_trans hn (by decide)) ?_
  intro _
  rw [hlow]
  walk_at "go"
  refine convert_raise B' (Around.frames_deeper hA) C G hb hl2 ?_
  rintro e s' ⟨hx, h', k', rfl⟩
  exact .inl ⟨_, ⟨hx, h', k', rfl⟩⟩
theorem setdefault_raise {Q : Value → Shared → Prop} {x dx l : Addr} {k : Tok} {nm : Str} {v : Value} {tn : Tok} {low : List Nat}
    (B : Below A₀ base outer h₀) (hA : A.frames = some (env :: outer)) (C : Cx (hd.heap_1 w.params) pr loose mean mg mb (n + 3) A env L h₀) (G : Lg h₀ L s.heap m news)
    (hx : (x, instObj 243 dx) ∈ news) (hdx : (dx, dictOf (hes w k l) 1) ∈ news) (hn : nm.length ≤ 1000000) (hlow : Txt.lower nm = S low) (hb : ∃ c ∈ low, badName c = true) (hl2 : low.length ≤ 1000000)
    (hE : ∀ e s', Thrown s base (env :: outer) h₀ L m news e s' → E e s') :
    wpAny (model prog w) A (call (.ref 233) [.ref x, .str nm tn, v]) Q E s := by
  refine enterE (binds := [(Str.ofString "self", .ref x), (Str.ofString "name", .str nm tn), (Str.ofString "value", v)]) B hA C G (by k_is) (by k_is) (BindsTo.of_eq rfl) (locs rfl) rfl rfl rfl (by decide) hE ?_
  intro g L' h₁ C B' st' G
  refine hideQ fun Y0 hY => ?_
  walk_at "go"
  refine get_raise B' (Around.frames_deeper hA) C G hx hdx hn hlow hb hl2 ?_
  rintro e s' ⟨hx, h', k', rfl⟩
  exact .inl ⟨_, ⟨hx, h', k', rfl⟩⟩
/-- a word laid by setdefault -/
theorem setdefault_ok {Q : Value → Shared → Prop} {x dx l : Addr} {k : Tok} {its : Array Value} {c i : Nat} {rows : List (List Nat × List Nat)} {nm vl : List Nat} {tn tv : Tok} {low : List Nat} {dat : List (Addr × Obj)}
    (C : Cx (hd.heap_1 w.params) pr loose mean mg mb (n + 3) A env L h₀) (G : Lg h₀ L s.heap m news)
    (hx : (x, instObj 243 dx) ∈ news) (hdx : (dx, dictOf (hes w k l) 1) ∈ news) (hi : news[i]? = some (l, listOf its c)) (hdat : Tups dat news) (hD0 : DatAll dat its.toList (rows.map rowD)) (hsz : rows.length ≤ 1000)
    (hk : ∀ p ∈ rows, p.1.length ≤ 1000000) (hn : nm.length ≤ 1000000) (hlow : Txt.lower (S nm) = S low) (hf : free badName low) (hl2 : low.length ≤ 1000000) (hfn : free badName nm) (hfv : free badVal vl) (hv : vl.length ≤ 1000000)
    (h : ∀ h' t v its' c' fz, (∃ y u, v = .str y u) → DatAll (dat ++ fz) its'.toList ((if (rows.find? fun p => Txt.lower (S p.1) == S low).isSome then rows else rows ++ [(nm, vl)]).map rowD) → Lg h₀ L h' m (news.set i (l, listOf its' c') ++ fz) → Q v { s with heap := h', toks := t }) :
    wpAny (model prog w) A (call (.ref 233) [.ref x, .str (S nm) tn, .str (S vl) tv]) Q E s := by
  refine enter (binds := [(Str.ofString "self", .ref x), (Str.ofString "name", .str (S nm) tn), (Str.ofString "value", .str (S vl) tv)]) C G (by k_is) (by k_is) (BindsTo.of_eq rfl) (locs rfl) rfl rfl rfl (by decide) ?_
  intro g L' h₁ C st' G
  refine hideQ fun Y0 hY => ?_
  have hD := hdat.rows hD0
  have hl : (l, listOf its c) ∈ news := List.mem_of_getElem? hi
  have hlt : i < news.length := (List.getElem?_eq_some_iff.mp hi).1
  have same : news.set i (l, listOf its c) = news := by
    apply List.ext_getElem?
    intro j
    by_cases hj : i = j
    · subst hj; rw [List.getElem?_set_self hlt, hi]
    · rw [List.getElem?_set_ne hj]
  walk_at "go"
  refine headers_get C G hx hdx hl hD hk (by rw [S_len]; exact hn) hlow hf hl2 ?_
  intro h2 t2 v hv2 G
  refine hideQ fun Y1 hY1 => ?_
  walk_at "go"
  unfold GetIs at hv2
  cases e : rows.find? (fun p => Txt.lower (S p.1) == S low) with
  | some p =>
    rw [e] at hv2
    obtain ⟨u, rfl⟩ := hv2
    walk_at "go"
    refine hY1 _ _ ?_
    walk_at "go"
    refine ite_neg (by first | exact Bool.false_ne_true | (intro e; cases e) | simp) ?_
    walk_at "go"
    refine hY _ _ ⟨_, _, G, fun G2 => h _ _ _ its c [] ⟨_, _, rfl⟩ ?_ ?_⟩
    · rw [List.append_nil, e, if_pos (by simp)]; exact hD0
    · rw [same, List.append_nil]; exact G2
  | none =>
    rw [e] at hv2
    subst hv2
    walk_at "go"
    refine hY1 _ _ ?_
    walk_at "go"
    refine convert_name C G hfn hn ?_
    intro h3 t3 G
    dsimp only
    walk_at "go"
    refine convert_val C G hfv hv ?_
    intro h4 t4 G
    dsimp only
    walk_at "go"
    have hs : its.size ≤ 1000 := by
      have := hD.length
      simp only [Array.length_toList, List.length_map] at this
      omega
    refine r_append (i := i + 1) G (by rw [List.getElem?_cons_succ]; exact hi) (by omega) ?_
    intro h5 c5 G
    dsimp only
    walk_at "go"
    have G3 := G.perm (b := news.set i (l, listOf (its.push (.ref D)) c5) ++ [(D, tupO [.str (S nm) tn, .str (S vl) tv] 0)]) (by
      rw [List.set_cons_succ]
      exact (List.perm_append_comm (l₁ := [(D, tupO [.str (S nm) tn, .str (S vl) tv] 0)])))
    refine hY _ _ ⟨_, _, G3, fun G4 => h _ _ _ (its.push (.ref D)) c5 [(D, tupO [.str (S nm) tn, .str (S vl) tv] 0)] ⟨_, _, rfl⟩ ?_ G4⟩
    rw [e, if_neg (by simp), List.map_append, Array.toList_push]
    refine (hD0.mono fun _ h => List.mem_append_left _ h).append (.one ?_)
    exact .tuple (List.mem_append_right _ (.head _)) (.cons (.str _ _) (.cons (.str _ _) .nil))
end
end
-- E3
section
section
variable {K : Frag} {pr : Program} {loose : List Str} {mean : ExcName → Option Value} {mg mb : Str → Option Value} {prog : Program} {w : World} {n : Nat} {A A₀ : Around} {env : Env} {L : Addr} {h₀ base : Heap} {outer : List Env}
  {m : Str → Option Value} {news : List (Addr × Obj)} {s : Shared} {E : Value → Shared → Prop}
/-- what a frame that caught something hands back: its ground may have turned at the caller's frame -/
def BackS (fs : List Addr) (h₀ : Heap) (L : Addr) (m : Str → Option Value) (g : Heap) (L' : Addr) (Q : Value → Shared → Prop) (v : Value) (s' : Shared) : Prop :=
  ∃ g' m' news', KtsTurn fs g g' ∧ Lg g' L' s'.heap m' news' ∧ (Lg h₀ L s'.heap m news' → Q v s')
/-- a def that may catch is entered from the law's own frame -/
theorem enterS {Q : Value → Shared → Prop} {name qual : Str} {params : Arguments} {body : List Stmt} {scope : Scope} {dV kV doc pm cdv ct oc : Value} {an od : Option Addr} {osl : Array (Option Value)} {f : Addr}
    {args : List Value} {kw : List (Str × Value)} {binds : List (Str × Value)}
    (B₀ : Below A₀ base [] h₀) (hA : A.frames = some [env]) (C : Cx K pr loose mean mg mb (n + 1) A env L h₀) (G : Lg h₀ L s.heap m news)
    (ho : K.lookup f = some ⟨oc, od, .func (fnOf name qual params body scope dV kV doc pm an cdv ct), osl⟩) (hcd : codeIn K cdv qual = true)
    (hbind : BindsTo s (fnOf name qual params body scope dV kV doc pm an cdv ct) ⟨args, kw⟩ binds) (hloc : ∀ y ∈ binds, scope.names.lookup y.1 = some .local)
    (hco : scope.isCoroutine = false) (hgen : scope.isGenerator = false) (hk : scope.kind = .function) (hcell : ∀ x ∈ scope.names, x.2 ≠ .cell)
    (h : ∀ g L' h₁, Cx K pr loose mean mg mb n (A.deeper (envOf qual scope L' f cdv)) (envOf qual scope L' f cdv) L' g → Below A h₀ [env] g → K.In h₀ → Top pr loose mean mg mb h₀ → KtsDicts ([env].filterMap (·.frame)) g →
      Lg g L' h₁ (fun y => binds.reverse.lookup y) news →
      wpAny (model prog w) (A.deeper (envOf qual scope L' f cdv)) (execs body (envOf qual scope L' f cdv)) (fun fl s' => BackS ([env].filterMap (·.frame)) h₀ L m g L' Q (rv fl) s') (fun _ _ => False)
        { s with heap := h₁, toks := s.toks + binds.length }) :
    wpAny (model prog w) A (call (.ref f) args kw) Q E s := by
  have hr : A.depth < recursionLimit := by have := C.dp; show A.depth < 1000; omega
  have F := G.F
  have N := G.N
  have hfs : [env].filterMap (·.frame) = [L] := by simp [List.filterMap_cons, C.ef]
  rw [hfs] at h
  have B₁ : Below A₀ h₀ [] h₀ := ⟨B₀.stack, fun _ _ e => e, trivial⟩
  have X := C.X.keeps F.keep
  refine wpAny_call (codeAny_call_def (fd := fnOf name qual params body scope dV kV doc pm an cdv ct) (body := body) (binds := binds) hr (X _ _ ho) rfl (C.T.nolimit.keeps F.keep) (codeRec_of X hcd) rfl hbind hcell hloc (fun h₁ hns hk₁ => ?_) hco hgen hk)
  obtain ⟨FG, BG, st, -⟩ := groundX (R := fun _ _ => True) B₁ F N hA C.ef C.ek
  obtain ⟨oL, es, ep, hL, hLd, hLk, hLf⟩ := FG.ns
  have C' : Cx K pr loose mean mg mb n (A.deeper (envOf qual scope s.heap.objs.size f cdv)) (envOf qual scope s.heap.objs.size f cdv) s.heap.objs.size (hideAll s.heap (news.map (·.1))) := by
    refine ⟨⟨A, h₀, [env], BG, Around.frames_deeper hA⟩, rfl, rfl, hk, C.X.keeps st, C.T.keeps st, ?_, ?_, C.hn⟩
    · have := C.dp; show A.depth + 1 + 4 * n < 1000; omega
    · have := C.un; show A.units + 3 + 40 * n < 9900; omega
  have G' : Lg (hideAll s.heap (news.map (·.1))) s.heap.objs.size h₁ (fun y => binds.reverse.lookup y) news := ⟨⟨hns, fun b o e => hk₁ b o (of_hideAll _ e), Nat.le_of_eq (hideAll_size _ _)⟩,
    fun p hp => ⟨hk₁ _ _ (N p hp).1, Nat.ne_of_lt (Heap.lt_size (N p hp).1), hideAll_none _ (List.mem_map_of_mem hp)⟩, G.nd⟩
  have hD : KtsDicts [L] (hideAll s.heap (news.map (·.1))) := by
    intro b hb
    rw [List.mem_singleton.mp hb]
    exact ⟨oL, es, ep, hL, hLd⟩
  refine wpAny_mono (h _ _ h₁ C' BG C.X C.T hD G') (fun fl s' hl => ?_) fun _ _ y => y.elim
  obtain ⟨g', m', news', T, G2, k⟩ := hl
  have nL₀ : h₀.get? L = none := kts_self F
  obtain ⟨sl, hs⟩ := T.up hL
  have key : Lg h₀ L s'.heap m news' := by
    refine ⟨⟨⟨_, es, ep, G2.F.keep _ _ hs, hLd, hLk, hLf⟩, fun b o e => G2.F.keep b o (T.other b o (st b o e) fun q => ?_), F.above⟩, fun p hp => ⟨(G2.N p hp).1, fun q => ?_, ?_⟩, G2.nd⟩
    · rw [List.mem_singleton.mp q, nL₀] at e; cases e
    · have := (G2.N p hp).2.2; rw [q, hs] at this; cases this
    · cases q : h₀.get? p.1 with
      | none => rfl
      | some o =>
        obtain ⟨sl', hs'⟩ := T.up (st _ _ q)
        have := (G2.N p hp).2.2
        rw [hs'] at this; cases this
  have := k key
  cases fl <;> exact this

/-- the end of a turn whose ground may have changed -/
def TurnEndG (L : Addr) (s : Shared) (I : Addr) (oI : Obj) (J : Heap → (Str → Option Value) → List (Addr × Obj) → Prop) (Q : Flow → Shared → Prop) (f : Flow) (s₃ : Shared) : Prop :=
  match f with
  | .next | .cont => ∃ g h' t m' nw, s₃ = { s with heap := h', toks := t } ∧ Lg g L h' m' ((I, oI) :: nw) ∧ J g m' nw
  | .brk => Q .next s₃
  | .ret v => Q (.ret v) s₃
/-- a for loop over a list of the ledger, whose ground may change -/
theorem for_listG {target : PySem.Expr} {body : List Stmt} {l : Addr} {its : Array Value} {g : Heap} {Q : Flow → Shared → Prop} (hh : A.handled = none) (G : Lg g L s.heap m news)
    (J : Nat → Heap → (Str → Option Value) → List (Addr × Obj) → Prop) (hJS : ∀ i g m nw, J i g m nw → ∃ c, (l, listOf its c) ∈ nw) (h0 : J 0 g m news)
    (turn : ∀ I i v h' t g' m' nw oI, i < its.size → its[i]? = some v → J i g' m' nw → Lg g' L h' m' ((I, oI) :: nw) →
      wpAny (model prog w) A (assign target env v) (fun _ s₂ => wpAny (model prog w) A (execs body env) (TurnEndG L s I oI (J (i + 1)) Q) (fun _ _ => False) s₂) (fun _ _ => False) { s with heap := h', toks := t })
    (hend : ∀ h' t g' m' nw, J its.size g' m' nw → Lg g' L h' m' nw → Q .next { s with heap := h', toks := t }) :
    wpAny (model prog w) A (pyIter (.ref l)) (fun it s₂ => codeAny (model prog w) A (.forLoop target it body [] env) (fun r s' => match r with | .ok f => Q f s' | .error e => cameBackBy (model prog w) A env E e s') s₂) E s := by
  have src : ∀ {g : Heap} {nw : List (Addr × Obj)}, (∃ c, (l, listOf its c) ∈ nw) → LCg.SrcAt g l its nw := fun ⟨c, hc⟩ => .inr ⟨_, hc, rfl, c, rfl⟩
  have hl := (src (g := g) (hJS _ _ _ _ h0)).list G.F.keep G.N
  have hlt : l < s.heap.objs.size := by obtain ⟨_, e, _⟩ := hl; exact Heap.lt_size e
  refine wpAny_pyIter_list hl ?_
  generalize hI : s.heap.objs.size = I at *
  have W := Walks.list (prog := prog) (w := w) hh I l (by rw [← hI] at hlt ⊢; exact Nat.ne_of_lt hlt) its
  refine codeAny_forLoop_any (fun k s' => ∃ i g' h' t m' nw, s' = { s with heap := h', toks := t } ∧ Lg g' L h' m' nw ∧ (∀ p ∈ nw, p.1 ≠ I) ∧ g'.get? I = none ∧ (h'.IsListIter I l i ∧ h'.IsList l its) ∧ J i g' m' nw ∧ i ≤ its.size ∧ k = its.size - i) ?_ its.size ?_
  · rintro k s' ⟨i, g', h', t, m', nw, rfl, G', off, hI0, st, hJ, hi, rfl⟩
    have hIL : L ≠ I := by rw [← hI]; exact Nat.ne_of_lt G.F.ns.lt
    by_cases hlt : i < its.size
    · refine W.item i _ _ _ hlt st fun v h₁ tk hP st₁ hk => ?_
      refine letGo_listiter st₁.1 ?_
      obtain ⟨oI, hoI, -⟩ := id st₁.1
      have G₁ : Lg g' L h₁ m' nw := lg_but G' hk hIL hI0 off
      have G₂ : Lg g' L h₁ m' ((I, oI) :: nw) := by
        refine ⟨G₁.F, fun p hp => ?_, ?_⟩
        · rcases List.mem_cons.mp hp with rfl | hp
          · exact ⟨hoI, fun e => hIL e.symm, hI0⟩
          · exact G₁.N p hp
        · rw [List.map_cons, List.nodup_cons]
          refine ⟨fun hm => ?_, G₁.nd⟩
          obtain ⟨p, hp, e⟩ := List.mem_map.mp hm
          exact off p hp e
      refine wpAny_mono (turn I i v h₁ tk g' m' nw oI hlt hP hJ G₂) (fun _ s₂ h₂ => wpAny_mono h₂ (fun f s₃ h₃ => ?_) fun _ _ x => x.elim) fun _ _ x => x.elim
      have go : (∃ g h' t m' nw, s₃ = { s with heap := h', toks := t } ∧ Lg g L h' m' ((I, oI) :: nw) ∧ J (i + 1) g m' nw) → ∃ m, m < its.size - i ∧ ∃ i g' h' t m' nw, s₃ = { s with heap := h', toks := t } ∧ Lg g' L h' m' nw ∧ (∀ p ∈ nw, p.1 ≠ I) ∧ g'.get? I = none ∧ (h'.IsListIter I l i ∧ h'.IsList l its) ∧ J i g' m' nw ∧ i ≤ its.size ∧ m = its.size - i := by
        rintro ⟨g'', h'', t'', m'', nw', rfl, G₃, hJ₃⟩
        have nd := G₃.nd
        rw [List.map_cons, List.nodup_cons] at nd
        refine ⟨its.size - (i + 1), by omega, i + 1, g'', h'', t'', m'', nw', rfl, G₃.sub (List.sublist_cons_self _ _), fun p hp e => nd.1 (List.mem_map.mpr ⟨p, hp, e⟩), (G₃.N _ (.head _)).2.2, ?_, hJ₃, by omega, rfl⟩
        exact LCg.list_st _ _ _ oI nw' st₁ hoI (G₃.mem (.head _)) G₃.F.keep (fun p hp => G₃.N p (.tail _ hp)) (src (hJS _ _ _ _ hJ₃))
      cases f with
      | next => exact go h₃
      | cont => exact go h₃
      | brk => exact h₃
      | ret v => exact h₃
    · have hin : i = its.size := by omega
      subst hin
      refine W.done _ _ _ st fun h₁ tk₁ hk₁ => wpAny_execs_nil ?_
      exact hend _ _ _ _ _ hJ (lg_but G' hk₁ hIL hI0 off)
  · refine ⟨0, g, _, _, m, news, rfl, (G.sub (List.Sublist.refl _) |> fun G => ⟨G.F.push _, G.N.grown fun _ _ e => Heap.get?_push_of_some _ e, G.nd⟩), fun p hp => ?_, ?_, ⟨?_, hl.push _⟩, h0, Nat.zero_le _, rfl⟩
    · rw [← hI]; exact Nat.ne_of_lt (Heap.lt_size (G.N p hp).1)
    · rw [← hI]; exact next_is_new G.F
    · subst hI; exact ⟨_, Heap.get?_push_size _ rfl, rfl, rfl⟩
end
end
-- N3_1
section
theorem fillN3 : hd.heap_1 = hd.heap_1 ∧ PySem.Challenge.rw_pe0228_01 = PySem.Challenge.rw_pe0228_01 := by
  k_fill
  exact ⟨rfl, rfl⟩
section
variable {pr : Program} {loose : List Str} {mean : ExcName → Option Value} {mg mb : Str → Option Value} {prog : Program} {w : World} {n : Nat} {A : Around} {env : Env} {L : Addr} {h₀ : Heap}
  {m : Str → Option Value} {news : List (Addr × Obj)} {s : Shared} {E : Value → Shared → Prop}
set_option maxHeartbeats 1000000
end
end
-- N4_1
section
theorem fillN4 : hd.heap_1 = hd.heap_1 ∧ PySem.Challenge.rw_pe0228_01 = PySem.Challenge.rw_pe0228_01 := by
  k_fill
  exact ⟨rfl, rfl⟩
section
variable {pr : Program} {loose : List Str} {mean : ExcName → Option Value} {mg mb : Str → Option Value} {prog : Program} {w : World} {n : Nat} {A : Around} {env : Env} {L : Addr} {h₀ : Heap}
  {m : Str → Option Value} {news : List (Addr × Obj)} {s : Shared} {E : Value → Shared → Prop}
set_option maxHeartbeats 1000000
/-- the rows in a new list -/
theorem headers_items {Q : Value → Shared → Prop} {x dx l : Addr} {k : Tok} {its : Array Value} {c : Nat}
    (C : Cx (hd.heap_1 w.params) pr loose mean mg mb (n + 1) A env L h₀) (G : Lg h₀ L s.heap m news)
    (hx : (x, instObj 243 dx) ∈ news) (hdx : (dx, dictOf (hes w k l) 1) ∈ news) (hl : (l, listOf its c) ∈ news) (hsz : its.size ≤ 1000)
    (h : ∀ D h' t, Lg h₀ L h' m ((D, listOf its 0) :: news) → Q (.ref D) { s with heap := h', toks := t }) :
    wpAny (model prog w) A (call (.ref 207) [.ref x]) Q E s := by
  refine enter (binds := [(Str.ofString "self", .ref x)]) C G (by k_is) (by k_is) (BindsTo.of_eq rfl) (locs rfl) rfl rfl rfl (by decide) ?_
  intro g L' h₁ C st' G
  refine hideQ fun Y0 hY => ?_
  walk_at "go"
  refine wpAny_Slice (evalPart_none_step (evalPart_none_step (evalPart_none_step ?_)))
  refine kba_turn (value' := PySem.Expr.Name (PySem.Str.ofString "_") ⟨0, 0, 0, 0⟩) (fun _ => rfl) ?_
  refine r_allOf G hl (by omega) ?_
  intro D h2 G
  exact hY _ _ ⟨_, _, G, fun G2 => h _ _ _ G2⟩
end
end
-- E4
section
theorem fillE4 : hd.heap_1 = hd.heap_1 ∧ PySem.Challenge.rw_pe0228_01 = PySem.Challenge.rw_pe0228_01 := by
  k_fill
  exact ⟨rfl, rfl⟩
/-- a word with its row, as data -/
def wordD (p : List Nat × Nat) : Dat := .tuple [.str (S p.1), .int (p.2 : Int)]
def txtD (p : List Nat) : Dat := .str (S p)
theorem digit_of {r : Nat} (h : r ≤ 5) : Str.ofString (toString ((r : Nat) : Int)) = S [48 + r] := by
  rcases (by omega : r = 0 ∨ r = 1 ∨ r = 2 ∨ r = 3 ∨ r = 4 ∨ r = 5) with rfl | rfl | rfl | rfl | rfl | rfl <;> decide +kernel
theorem digit_free {r : Nat} (h : r ≤ 5) : free badVal [48 + r] := by
  rcases (by omega : r = 0 ∨ r = 1 ∨ r = 2 ∨ r = 3 ∨ r = 4 ∨ r = 5) with rfl | rfl | rfl | rfl | rfl | rfl <;> (intro c hc; rw [List.mem_singleton.mp hc]; decide +kernel)
/-- the same facts over another ground -/
abbrev Cx.at {K : Frag} {pr : Program} {loose : List Str} {mean : ExcName → Option Value} {mg mb : Str → Option Value} {n : Nat} {A : Around} {env : Env} {L : Addr} {h₀ : Heap} (_ : Cx K pr loose mean mg mb n A env L h₀) (g : Heap) : Prop := Cx K pr loose mean mg mb n A env L g
/-- the words taken so far: the table's rows, the refused ones -/
inductive BookJ (w : World) (CC : Heap → Prop) (A : Around) (env : Env) (L : Addr) (h₀ g : Heap) (ws : List (List Nat × Nat)) (x dx lst rD : Addr) (k : Tok) (news : List (Addr × Obj)) (i : Nat) :
    Heap → (Str → Option Value) → List (Addr × Obj) → Prop
  | mk {g' : Heap} {m' : Str → Option Value} {tl : List (Addr × Obj)} {ir ib : Array Value} {cr cb : Nat} : KtsTurn ([env].filterMap (·.frame)) g g' → CC g' → Below A h₀ [env] g' → KtsDicts ([env].filterMap (·.frame)) g' →
      m' "book" = some (.ref x) → m' "refused" = some (.ref rD) → DatAll tl ib.toList ((kept (ws.take i)).map rowD) → DatAll [] ir.toList ((refused (ws.take i)).map txtD) →
      BookJ w CC A env L h₀ g ws x dx lst rD k news i g' m' ((rD, listOf ir cr) :: (lst, listOf ib cb) :: (x, instObj 243 dx) :: (dx, dictOf (hes w k lst) 1) :: (news ++ tl))
theorem keep_eq {rows : List (List Nat × List Nat)} {p : List Nat × Nat} (hr : ∀ q ∈ rows, RowOk q) (_hp : WordOk p.1) (h13 : 13 ∉ p.1) :
    (if (rows.find? fun q => Txt.lower (S q.1) == S (low p.1)).isSome then rows else rows ++ [(p.1, [48 + p.2])]) = keepStep rows p := by
  unfold keepStep
  rw [if_neg h13]
  have e : (rows.find? fun q => Txt.lower (S q.1) == S (low p.1)).isSome = true ↔ low p.1 ∈ rows.map (fun q => low q.1) := by
    rw [List.find?_isSome]
    simp only [List.mem_map, beq_iff_eq]
    constructor
    · rintro ⟨q, hq, e⟩
      rw [(hr q hq).word.low] at e
      exact ⟨q, hq, S_inj e⟩
    · rintro ⟨q, hq, e⟩
      exact ⟨q, hq, by rw [(hr q hq).word.low, e]⟩
  by_cases h : low p.1 ∈ rows.map (fun q => low q.1)
  · rw [if_pos (e.mpr h), if_pos h]
  · rw [if_neg (fun x => h (e.mp x)), if_neg h]
theorem keep_bad {rows : List (List Nat × List Nat)} {p : List Nat × Nat} (h13 : 13 ∈ p.1) : keepStep rows p = rows := if_pos h13
theorem refused_snoc (ws : List (List Nat × Nat)) (p : List Nat × Nat) : refused (ws ++ [p]) = if 13 ∈ p.1 then refused ws ++ [p.1] else refused ws := by
  unfold refused
  rw [List.filter_append, List.map_append]
  by_cases h : 13 ∈ p.1
  · simp [h]
  · simp [h]
theorem take_snoc {α : Type} {l : List α} {i : Nat} {p : α} (h : l[i]? = some p) : l.take (i + 1) = l.take i ++ [p] := by rw [List.take_add_one, h]; rfl
section
variable {prog : Program} {w : World} {A : Around} {s : Shared} {E : Value → Shared → Prop}
theorem r_digit {r : Nat} {t : Tok} {Q : Value → Shared → Prop} (hr : r ≤ 5) (h : Q (.str (S [48 + r]) s.toks) { s with toks := s.toks + 1 }) : wpAny (model prog w) A (call (.type "str") [.int (r : Int) t]) Q E s := by
  refine P.str_of_int ?_ ?_
  · rw [Int.natAbs_natCast]
    rcases (by omega : r = 0 ∨ r = 1 ∨ r = 2 ∨ r = 3 ∨ r = 4 ∨ r = 5) with rfl | rfl | rfl | rfl | rfl | rfl <;> decide
  · have e := digit_of hr
    rw [← e] at h
    exact h
end
section
variable {pr : Program} {loose : List Str} {mean : ExcName → Option Value} {mg mb : Str → Option Value} {prog : Program} {w : World} {n : Nat} {A A₀ : Around} {env : Env} {L : Addr} {h₀ base : Heap}
  {m : Str → Option Value} {news : List (Addr × Obj)} {s : Shared} {E : Value → Shared → Prop}
set_option maxHeartbeats 20000000
theorem law_book {Q : Value → Shared → Prop} {l : Addr} {its : Array Value} {c : Nat} {ws : List (List Nat × Nat)}
    (B₀ : Below A₀ base [] h₀) (hA : A.frames = some [env]) (C : Cx (hd.heap_1 w.params) pr loose mean mg mb (n + 5) A env L h₀) (G : Lg h₀ L s.heap m news) (hl : (l, listOf its c) ∈ news) (hD : DatAll news its.toList (ws.map wordD)) (hw : DueOk ws)
    (h : ∀ T D1 D2 h' t fz i1 c1 i2 c2, (T, tupO [.ref D1, .ref D2] 0) ∈ fz → (D1, listOf i1 c1) ∈ fz → DatAll fz i1.toList ((kept ws).map rowD) → (D2, listOf i2 c2) ∈ fz → DatAll fz i2.toList ((refused ws).map txtD) → Lg h₀ L h' m (fz ++ news) → Q (.ref T) { s with heap := h', toks := t }) :
    wpAny (model prog w) A (call (.ref 282) [.ref l]) Q E s := by
  refine enterS (binds := [(Str.ofString "words", .ref l)]) B₀ hA C G (by k_is) (by k_is) (BindsTo.of_eq rfl) (locs rfl) rfl rfl rfl (by decide) ?_
  intro g L' h₁ C B' XB TB hKD G
  refine hideQ fun Y0 hY => ?_
  have hsize : its.size = ws.length := by have := hD.length; simpa using this
  walk_at "go"
  refine make_headers C G ?_
  intro x dx lst h2 t2 k G
  dsimp only
  walk_at "go"
  walk_at "go"
  refine for_listG (its := its) C.hn G (BookJ w C.at A env L h₀ g ws x dx lst D k news) ?_ ?_ ?_ ?_
  · rintro i g' m' nw ⟨⟩
    exact ⟨_, .tail _ (.tail _ (.tail _ (.tail _ (List.mem_append_left _ hl))))⟩
  · have := BookJ.mk (w := w) (CC := C.at) (A := A) (env := env) (L := L) (h₀ := h₀) (g := g) (ws := ws) (x := x) (dx := dx) (lst := lst) (rD := D) (k := k) (news := news) (i := 0) (g' := g) (m' := fun y => if y = Str.ofString "refused" then some (Value.ref D) else if y = Str.ofString "book" then some (Value.ref x) else ([(Str.ofString "words", Value.ref l)] : List (Str × Value)).reverse.lookup y) (tl := []) (ir := #[]) (ib := #[]) (cr := 0) (cb := 0) .refl C B' hKD rfl rfl .nil .nil
    rw [List.append_nil] at this
    exact this
  · intro I i v h3 t3 g3 m3 nw oI hi hv pt1 GG
    refine hideT fun Z0 hZ => ?_
    rcases pt1 with ⟨T3, C3, B3, D3, mbk, mrf, hb, hr⟩
    rename_i tl ir ib cr cb
    have C : Cx (hd.heap_1 w.params) pr loose mean mg mb (n + 4) _ _ L' g3 := C3
    have G := GG
    obtain ⟨d, hd, hdv⟩ := DatAll.at hD (i := i) (v := v) (by simpa using hv)
    rw [List.getElem?_map] at hd
    obtain ⟨p, hp, rfl⟩ := Option.map_eq_some_iff.mp hd
    obtain ⟨tu, va, vb, cu, rfl, hm, ha, hb'⟩ := pair_of hdv
    obtain ⟨ta, rfl⟩ := str_of ha
    obtain ⟨tb, rfl⟩ := int_of hb'
    have hpm : p ∈ ws := List.mem_of_getElem? hp
    have hpo := hw.all p hpm
    have hm6 : (tu, tupO [.str (S p.1) ta, .int (p.2 : Int) tb] cu) ∈ (I, oI) :: (D, listOf ir cr) :: (lst, listOf ib cb) :: (x, instObj 243 dx) :: (dx, dictOf (hes w k lst) 1) :: (news ++ tl) := .tail _ (.tail _ (.tail _ (.tail _ (.tail _ (List.mem_append_left _ hm)))))
    refine r_unpack2 C.hn G hm6 ?_
    intro h4 G
    walk_at "go"
    refine wpAny_Try_except ?_
    walk_at "go"
    refine r_digit hpo.2.1 ?_
    walk_at "go"
    have hall : ∀ q ∈ ws.take i, WordOk q.1 ∧ q.2 ≤ 5 ∧ q.1.length ≤ 242 := fun q hq => hw.all q (List.mem_of_mem_take hq)
    have hrows : ∀ q ∈ kept (ws.take i), RowOk q := kept_ok (rows := []) hall (by simp)
    have hklen : (kept (ws.take i)).length ≤ 1000 := by
      have h1 := kept_len (ws.take i) []
      have h2 := hw.len
      have h3 : (ws.take i).length ≤ ws.length := by rw [List.length_take]; omega
      simp only [List.length_nil, Nat.zero_add] at h1
      exact Nat.le_trans h1 (by omega)
    have hpl : p.1.length ≤ 1000000 := Nat.le_trans hpo.2.2 (by decide)
    by_cases h13 : 13 ∈ p.1
    · refine setdefault_raise B3 (Around.frames_deeper hA) C G (by walk_at "mem") (by walk_at "mem") (by rw [S_len]; exact hpl) hpo.1.low (hpo.1.bad h13) (by rw [low_len]; exact hpl) ?_
      rintro e s' ⟨⟨e', te, vse, G₂, rfl, F₂, R, U⟩, h', k', rfl⟩
      refine caught_S0 (T' := "ValueError") R F₂ B3 U XB TB D3 T3 (by k_is) PyProof.Rows.Boot.«ValueError» (by decide) PySem.F.isExc_ValueError PySem.F.notTuple_ValueError (by kts_sub) ?_
      intro h5 g5 news5 T5 F5 N5 _ N5' B5 X5 P5 D5
      have G : Lg g5 L' h5 _ _ := ⟨F5, N5', G.nd⟩
      walk_at "go"
      refine r_append (i := 1) G rfl ?_ ?_
      · have h1 := hr.length
        have h2 : (refused (ws.take i)).length ≤ ws.length := by
          unfold refused
          rw [List.length_map]
          exact Nat.le_trans (List.length_filter_le _ _) (by rw [List.length_take]; omega)
        have h3 := hw.len
        simp only [Array.length_toList, List.length_map] at h1
        omega
      intro h6 c6 G
      dsimp only [List.set_cons_succ, List.set_cons_zero] at G
      dsimp only
      walk_at "go"
      refine hZ _ _ ⟨g5, _, _, _, _, rfl, G, .mk T5 ⟨⟨_, _, _, B5, Around.frames_deeper hA⟩, C.ef, C.el, C.ek, X5, P5, C.dp, C.un, C.hn⟩ B5 D5 mbk mrf ?_ ?_⟩
      · rw [take_snoc hp, kept_snoc, keep_bad h13]
        exact hb
      · rw [take_snoc hp, refused_snoc, if_pos h13, List.map_append, Array.toList_push]
        exact hr.append (.one (.str _ _))
    · have hfr := hpo.1.free h13
      refine setdefault_ok (i := 2) (dat := tl) C G (by walk_at "mem") (by walk_at "mem") rfl (.of fun _ h => .tail _ (.tail _ (.tail _ (.tail _ (.tail _ (List.mem_append_right _ h)))))) hb hklen (fun q hq => Nat.le_trans (hrows q hq).len (by decide)) hpl hpo.1.low hfr.2 (by rw [low_len]; exact hpl) hfr.1 (digit_free hpo.2.1) (Nat.le_of_ble_eq_true rfl) ?_
      rintro h5 t5 v5 its5 c5 fz ⟨y5, u5, rfl⟩ hb5 G
      dsimp only [List.set_cons_succ, List.set_cons_zero, List.cons_append] at G
      dsimp only
      walk_at "go"
      rw [keep_eq hrows hpo.1 h13] at hb5
      refine hZ _ _ ⟨g3, _, _, _, _, rfl, G.to (by rw [List.append_assoc]), .mk T3 C3 B3 D3 mbk mrf ?_ ?_⟩
      · rw [take_snoc hp, kept_snoc]
        exact hb5
      · rw [take_snoc hp, refused_snoc, if_neg h13]
        exact hr
  · rintro h3 t3 g3 m3 nw ⟨T3, C3, B3, D3, mbk, mrf, hb, hr⟩ G
    rename_i tl ir ib cr cb
    have C : Cx (hd.heap_1 w.params) pr loose mean mg mb (n + 4) _ _ L' g3 := C3
    walk_at "go"
    have hklen : ib.size ≤ 1000 := by
      have h1 := kept_len (ws.take its.size) []
      have h2 := hw.len
      have h3 : (ws.take its.size).length ≤ ws.length := by rw [List.length_take]; omega
      have h4 := hb.length
      simp only [List.length_nil, Nat.zero_add] at h1
      simp only [Array.length_toList, List.length_map] at h4
      unfold kept at h4
      omega
    refine headers_items C G (by walk_at "mem") (by walk_at "mem") (by walk_at "mem") hklen ?_
    intro D1 h4 t4 G
    dsimp only
    walk_at "go"
    rw [hsize, List.take_length] at hb hr
    rename Addr => T
    refine hY _ _ ⟨g3, _, _, T3, G, fun G2 => h T D1 D _ _ ((T, tupO [.ref D1, .ref D] 0) :: (D1, listOf ib 0) :: (D, listOf ir cr) :: (lst, listOf ib cb) :: (x, instObj 243 dx) :: (dx, dictOf (hes w k lst) 1) :: tl) ib 0 ir cr (by walk_at "mem") (by walk_at "mem") ?_ (by walk_at "mem") ?_ ?_⟩
    · exact hb.mono fun _ h => .tail _ (.tail _ (.tail _ (.tail _ (.tail _ (.tail _ h)))))
    · exact hr.mono fun _ h => absurd h List.not_mem_nil
    · exact G2.perm ((((((List.perm_append_comm.cons _).cons _).cons _).cons _).cons _).cons _)
end
end
-- W8
section
section
variable {prog : Program} {w : World} {A : Around} {L : Addr} {h₀ : Heap} {m : Str → Option Value} {news : List (Addr × Obj)} {s : Shared} {E : Value → Shared → Prop}
theorem r_has {x y : Str} {c : Nat} {l : List Nat} {t u : Tok} {Q : Value → Shared → Prop} (hy : y = S [c]) (hx : x.cps.toList = l) (h : Q (.bool (decide (c ∈ l))) s) : wpAny (model prog w) A (compareOp .In (.str y u) (.str x t)) Q E s := by
  subst hy hx
  refine P.in_str ?_
  have e := StrLaws.found_one x c
  rw [← e] at h
  exact h
theorem r_hasNot {x y : Str} {c : Nat} {l : List Nat} {t u : Tok} {Q : Value → Shared → Prop} (hy : y = S [c]) (hx : x.cps.toList = l) (h : Q (.bool (!decide (c ∈ l))) s) : wpAny (model prog w) A (compareOp .NotIn (.str y u) (.str x t)) Q E s := by
  subst hy hx
  refine P.notIn_str ?_
  have e := StrLaws.found_one x c
  rw [← e] at h
  exact h
theorem S_list (l : List Nat) : (S l).cps.toList = l := by simp [S]
theorem r_sameNe {a b : Addr} {xs ys : Array Value} {ka kb : Nat} {ds : List Dat} {Q : Value → Shared → Prop} (G : Lg h₀ L s.heap m news) (ma : (a, listOf xs ka) ∈ news) (mb : (b, listOf ys kb) ∈ news)
    (Da : DatAll news xs.toList ds) (Db : DatAll news ys.toList ds) (hk : ∀ d ∈ ds, kqdOk 8 d = true) (hu : A.units + 64 < cLine) (h : Q (.bool false) s) : wpAny (model prog w) A (compareOp .NotEq (.ref a) (.ref b)) Q E s := by
  refine kqd_ne G.N ma rfl rfl Da (fun _ h => h) mb rfl rfl Db (fun _ h => h) hk hk hu ?_
  simpa using h
open Classical in
theorem r_notIn {a : Addr} {xs : Array Value} {ka : Nat} {ds : List Dat} {v : Value} {d : Dat} {b : Bool} {Q : Value → Shared → Prop} (G : Lg h₀ L s.heap m news) (ma : (a, listOf xs ka) ∈ news)
    (Da : DatAll news xs.toList ds) (Dx : DatIn news v d) (hk : ∀ d ∈ ds, kqdOk 8 d = true) (hd : kqdOk 8 d = true) (hu : A.units + 64 < cLine) (hb : b = true ↔ d ∉ ds) (h : Q (.bool b) s) : wpAny (model prog w) A (compareOp .NotIn v (.ref a)) Q E s := by
  refine kqd_notIn G.N ma rfl rfl Da (fun _ h => h) Dx (fun _ h => h) hk hd hu ?_
  have e : (!decide (d ∈ ds)) = b := by
    rw [Bool.eq_iff_iff, hb]
    simp
  rw [e]; exact h
end
theorem strOk_S {l : List Nat} (h : ∀ c ∈ l, c < 0x110000) : PyData.strOk (S l) = true := by
  unfold PyData.strOk S
  rw [← Array.all_toList]
  rw [List.all_eq_true]
  intro c hc
  exact decide_eq_true (h c (by simpa using hc))
theorem WordOk.data {l : List Nat} (h : WordOk l) : kqdOk 8 (txtD l) = true := strOk_S fun c hc => Nat.lt_trans (okS_ascii (h.s c hc)) (by decide)
theorem WordOk.lowD {l : List Nat} (h : WordOk l) : kqdOk 8 (txtD (Mine.low l)) = true := strOk_S fun c hc => by
  obtain ⟨d, hd, rfl⟩ := List.mem_map.mp hc
  have := okS_ascii (h.s d hd)
  unfold lo1
  split <;> omega
theorem word_data {p : List Nat × Nat} (h : WordOk p.1) : kqdOk 8 (wordD p) = true := by
  have := h.data
  simp only [wordD, kqdOk, List.all_cons, List.all_nil, Bool.and_true]
  exact this
end
-- K3
section
open PySem PySem.W PyProof.Rows PySem.Calls PySem.Spec PyProof.V
open Builtin Builtin.Str in
/-- a sign put for by others, everywhere -/
theorem replace_sub (x z : Str) (c : Nat) : (Txt.replace x ⟨#[c]⟩ z).cps.toList = x.cps.toList.flatMap fun k => if k = c then z.cps.toList else [k] := by
  have free : ∀ l : List Nat, c ∉ l → (l.flatMap fun k => if k = c then z.cps.toList else [k]) = l := by
    intro l
    induction l with
    | nil => intro _; rfl
    | cons k r ih =>
      intro h
      rw [List.flatMap_cons, if_neg (fun e => h (by rw [e]; exact .head _)), ih fun m => h (.tail _ m)]
      rfl
  have join : ∀ parts : List Str, (∀ p ∈ parts, c ∉ p.cps.toList) → ((Str.join ⟨#[c]⟩ parts).cps.toList.flatMap fun k => if k = c then z.cps.toList else [k]) = (Str.join z parts).cps.toList := by
    intro parts
    induction parts with
    | nil => intro _; rfl
    | cons p r ih =>
      intro h
      cases r with
      | nil => exact free _ (h p (.head _))
      | cons q r =>
        show ((p ++ ⟨#[c]⟩ ++ Str.join ⟨#[c]⟩ (q :: r)).cps.toList.flatMap _) = (p ++ z ++ Str.join z (q :: r)).cps.toList
        simp only [Str.cps_append, Array.toList_append, List.flatMap_append]
        rw [ih fun a ha => h a (.tail _ ha), free _ (h p (.head _))]
        simp
  rw [StrLaws.replace_one, ← join _ (StrLaws.split_free x c), StrLaws.join_split]
section
variable {K : Frag} {pr : Program} {loose : List Str} {mean : ExcName → Option Value} {mg mb : Str → Option Value} {prog : Program} {w : World} {n : Nat} {A : Around} {env : Env} {L : Addr} {h₀ : Heap}
  {m : Str → Option Value} {news : List (Addr × Obj)} {s : Shared} {E : Value → Shared → Prop}
open Builtin Builtin.Str in
theorem r_replace {l zl : List Nat} {c : Nat} {y z : Str} {t u v : Tok} {Q : Value → Shared → Prop} (hy : y = S [c]) (hz : z = S zl) (hne : zl ≠ [c]) (hu : u ≠ 0) (hv : v ≠ 0) (huv : u ≠ v) (hl : l.length ≤ 100000) (hzl : zl.length ≤ 14)
    (h : ∀ t' k, s.toks ≤ k → Q (.str (S (l.flatMap fun k => if k = c then zl else [k])) t') { s with toks := k }) :
    wpAny (model prog w) A (call (.builtin "str.replace") [.str (S l) t, .str y u, .str z v]) Q E s := by
  subst hy hz
  have e : Txt.replace (S l) (S [c]) (S zl) = S (l.flatMap fun k => if k = c then zl else [k]) := by
    apply Str.ext'
    apply Array.ext'
    have := replace_sub (S l) (S zl) c
    simpa [S] using this
  rw [← e] at h
  have hyz : ((S [c] : Str) == S zl) = false := by
    rw [beq_eq_false_iff_ne]
    exact fun q => hne (S_inj q).symm
  have hb : (S l).length + ((S l).length + 1) * (S zl).length ≤ 16777216 := by
    rw [S_len, S_len]
    have : (l.length + 1) * zl.length ≤ 100001 * 14 := Nat.mul_le_mul (by omega) hzl
    omega
  have hl : tooLong ((S l).length + (occurrences (S l) (S [c]) 0 (S l).length ((S l).length + 1)).length * (S zl).length) = false := by
    have h1 := StrLaws.occ_length_le (S l) (S [c]) 0 (S l).length ((S l).length + 1)
    have h2 := Nat.mul_le_mul_right (S zl).length h1
    unfold tooLong
    rw [sizeLine_eq]
    exact decide_eq_false (by omega)
  refine call_gives PySem.F.slot_str_replace (typeIs_str _ _ _) PySem.F.entry_str_replace (PySem.F.args_str_replace_3 _ _ _)
    (gives_str_replace (S l) (S [c]) (S zl) t u v fun _ => ⟨by simp [hu, hv], by simp [huv], hyz, hl⟩) ?_
  have hq' := h
  unfold Txt.replace at hq'
  cases hc : ((occurrences (S l) (S [c]) 0 (S l).length ((S l).length + 1)).isEmpty || ((S [c]).length == 0 && (S zl).length == 0))
  · rw [hc] at hq'
    simp only [Bool.false_eq_true, if_false] at hq' ⊢
    exact ⟨fits_replaced (S [c]) hb, hq' _ _ (by omega)⟩
  · rw [hc] at hq'
    simp only [if_true] at hq' ⊢
    exact hq' t s.toks (Nat.le_refl _)
theorem FormattedValue_s {value : PySem.Expr} {pos : Pos} {Q : Value → Shared → Prop}
    (h : wpAny (model prog w) A (eval value env) (fun v s₁ => ∃ x t, v = .str x t ∧ x.length ≤ 1000000 ∧ ∀ t' tk, Q (.str x t') { s₁ with toks := tk }) E s) : wpAny (model prog w) A (eval (.FormattedValue value 115 none pos) env) Q E s := by
  show wpAny (model prog w) A (do let v ← eval value env; standAt pos; formatted pos (← holding [v] (converted 115 v)) none) Q E s
  refine wpAny_bind (wpAny_mono h (fun v s₁ h₁ => ?_) fun _ _ x => x)
  obtain ⟨x, t, rfl, hl, h₁⟩ := h₁
  have hl2 : x.length ≤ sizeLine := Nat.le_trans hl (by decide)
  refine wpAny_bind (wpAny_standAt ?_)
  show wpAny _ _ (do let v' ← holding [.str x t] (habitSame "fstring-hands-on-the-str" (.str x t)); formatField v' Str.empty) Q E s₁
  refine wpAny_bind (wpAny_holding (habitSame_str (hsz := hl2) fun t' tk => ?_))
  exact formatField_str (hsz := hl2) fun t'' tk' => h₁ _ _
theorem r_fparam {a b : List Nat} {ta tb : Tok} {x y : PySem.Expr} {p1 p2 p3 p4 p5 : Pos} {k1 k2 : _} {Q : Value → Shared → Prop} (ha : a.length ≤ 1000) (hb : b.length ≤ 1000)
    (hx : ∀ (k : Nat) (Q : Value → Shared → Prop), Q (.str (S a) ta) { s with toks := k } → wpAny (model prog w) A (eval x env) Q E { s with toks := k })
    (hy : ∀ (k : Nat) (Q : Value → Shared → Prop), Q (.str (S b) tb) { s with toks := k } → wpAny (model prog w) A (eval y env) Q E { s with toks := k })
    (h : ∀ t' k, Q (.str (S (a ++ [61, 34] ++ b ++ [34])) t') { s with toks := k }) :
    wpAny (model prog w) A (eval (.JoinedStr [.FormattedValue x 115 none p1, .Constant (.str (Str.ofString "=\"")) k1 p2, .FormattedValue y 115 none p3, .Constant (.str (Str.ofString "\"")) k2 p4] p5) env) Q E s := by
  have e1 : Str.ofString "=\"" = S [61, 34] := by decide +kernel
  have e2 : Str.ofString "\"" = S [34] := by decide +kernel
  have e0 : Str.empty ++ S a = S a := KT.empty_app _
  rw [e1, e2]
  refine JoinedStr_many (joinParts_cons (FormattedValue_s (hx s.toks _ ⟨_, _, rfl, by rw [S_len]; omega, fun t' tk => ?_⟩)))
  show _ ∧ _
  rw [e0]
  refine ⟨by rw [S_len, sizeLine_eq]; omega, ?_⟩
  refine joinParts_cons (Calls.Constant_str ?_)
  show _ ∧ _
  rw [S_append]
  refine ⟨by rw [S_len, sizeLine_eq]; simp; omega, ?_⟩
  refine joinParts_consE (joinParts_cons (FormattedValue_s (hy _ _ ⟨_, _, rfl, by rw [S_len]; omega, fun t' tk => ?_⟩)))
  show _ ∧ _
  rw [S_append]
  refine ⟨by rw [S_len, sizeLine_eq]; simp; omega, ?_⟩
  refine joinParts_consE (joinParts_cons (Calls.Constant_str ?_))
  show _ ∧ _
  rw [S_append]
  refine ⟨by rw [S_len, sizeLine_eq]; simp; omega, ?_⟩
  exact joinParts_nilE (joinParts_nil (h _ _) (by rw [S_len, sizeLine_eq]; simp; omega))
set_option maxHeartbeats 4000000 in
theorem fmt_line {a b : List Nat} {T : Addr} {t ta tb : Tok} {k : Nat} {Q : Value → Shared → Prop} (G : Lg h₀ L s.heap m news) (hT : (T, tupO [.str (S a) ta, .str (S b) tb] k) ∈ news) (ha : a.length ≤ 1000) (hb : b.length ≤ 1000)
    (h : ∀ t' k, Q (.str (S (a ++ [58, 32] ++ b)) t') { s with toks := k }) : wpAny (model prog w) A (binaryOp .Mod (.str (Str.ofString "%s: %s") t) (.ref T)) Q E s := by
  have la : (S a).length ≤ 1000 := by rw [S_len]; exact ha
  have lb : (S b).length ≤ 1000 := by rw [S_len]; exact hb
  refine' KPt.mod_tuple ?N ?b ?F ?m ?_
  case N => exact G.N
  case b => exact hT
  case F => kpt_eq
  case m => kpt_run
  intro t' k
  have e : S a ++ Str.ofString ": " ++ S b = S (a ++ [58, 32] ++ b) := by
    rw [show Str.ofString ": " = S [58, 32] from by decide +kernel, S_append, S_append]
  rw [e]
  exact h _ _
end
/-- texts joined -/
def joinL (sep : List Nat) : List (List Nat) → List Nat
  | [] => []
  | [a] => a
  | a :: b :: r => a ++ sep ++ joinL sep (b :: r)
theorem join_S (sep : List Nat) : ∀ ls : List (List Nat), Txt.join (S sep) (ls.map S) = S (joinL sep ls) := by
  intro ls
  show Builtin.Str.glued (S sep) (ls.map S) = _
  rw [StrLaws.glued_eq_join]
  induction ls with
  | nil => rfl
  | cons a r ih =>
    cases r with
    | nil => rfl
    | cons b r =>
      show S a ++ S sep ++ Str.join (S sep) (S b :: r.map S) = S (a ++ sep ++ joinL sep (b :: r))
      have := ih
      rw [List.map_cons] at this
      rw [this, S_append, S_append]
theorem strsAre_dat {nw : List (Addr × Obj)} : ∀ {vs : List Value} {ls : List (List Nat)}, DatAll nw vs (ls.map txtD) → StrsAre vs (ls.map S)
  | [], [], _ => .nil
  | [], _ :: _, h => by cases h
  | _ :: _, [], h => by cases h
  | v :: vs, a :: ls, h => by
    cases h with
    | cons h r =>
      obtain ⟨t, rfl⟩ := str_of h
      exact .cons _ _ (strsAre_dat r)
section
variable {prog : Program} {w : World} {A : Around} {L : Addr} {h₀ : Heap} {m : Str → Option Value} {news : List (Addr × Obj)} {s : Shared} {E : Value → Shared → Prop}
theorem r_join {D : Addr} {its : Array Value} {c : Nat} {sep : List Nat} {x : Str} {ls : List (List Nat)} {nw : List (Addr × Obj)} {t : Tok} {Q : Value → Shared → Prop} (G : Lg h₀ L s.heap m news) (hl : (D, listOf its c) ∈ news) (hx : x = S sep) (hD : DatAll nw its.toList (ls.map txtD))
    (hok : (ls.map List.length).sum + ls.length * sep.length ≤ 1000000) (h : ∀ t' k, Q (.str (S (joinL sep ls)) t') { s with toks := k }) : wpAny (model prog w) A (call (.builtin "str.join") [.str x t, .ref D]) Q E s := by
  subst hx
  refine join_list (G.lst hl) (strsAre_dat hD) ?_ fun t' k => ?_
  · rw [List.map_map, List.length_map, S_len]
    have e : (ls.map ((fun x : Str => x.length) ∘ S)).sum = (ls.map List.length).sum := by
      congr 1
    rw [e]
    exact Nat.le_trans hok (by decide)
  · rw [join_S]; exact h _ _
end
end
-- K4
section
open PySem PySem.W PyProof.Rows PySem.Calls PySem.Spec PyProof.V
theorem fillK4 : hd.heap_1 = hd.heap_1 ∧ PySem.Challenge.rw_pe0228_01 = PySem.Challenge.rw_pe0228_01 := by
  k_fill
  exact ⟨rfl, rfl⟩
theorem esc_two (v : List Nat) : ((v.flatMap fun k => if k = 92 then [92, 92] else [k]).flatMap fun k => if k = 34 then [92, 34] else [k]) = esc v := by
  unfold esc
  induction v with
  | nil => rfl
  | cons c r ih =>
    rw [List.flatMap_cons, List.flatMap_append, ih, List.flatMap_cons]
    congr 1
    by_cases h : c = 92
    · subst h; rfl
    · rw [if_neg h, if_neg h]; simp
theorem bs_len (v : List Nat) : (v.flatMap fun k => if k = 92 then [92, 92] else [k]).length ≤ 2 * v.length := by
  induction v with
  | nil => simp
  | cons c r ih =>
    rw [List.flatMap_cons, List.length_append, List.length_cons]
    have : (if c = 92 then [92, 92] else [c] : List Nat).length ≤ 2 := by split <;> simp
    omega
theorem esc_len (v : List Nat) : (esc v).length ≤ 2 * v.length := by
  induction v with
  | nil => simp [esc]
  | cons c r ih =>
    have e : esc (c :: r) = (if c = 92 then [92, 92] else if c = 34 then [92, 34] else [c]) ++ esc r := by simp [esc]
    rw [e, List.length_append, List.length_cons]
    have : (if c = 92 then [92, 92] else if c = 34 then [92, 34] else [c] : List Nat).length ≤ 2 := by split <;> (try split) <;> simp
    omega
section
variable {pr : Program} {loose : List Str} {mean : ExcName → Option Value} {mg mb : Str → Option Value} {prog : Program} {w : World} {n : Nat} {A : Around} {env : Env} {L : Addr} {h₀ : Heap}
  {m : Str → Option Value} {news : List (Addr × Obj)} {s : Shared} {E : Value → Shared → Prop}
set_option maxHeartbeats 20000000
theorem format_param {Q : Value → Shared → Prop} {key v : List Nat} {tk tv : Tok}
    (C : Cx (hd.heap_1 w.params) pr loose mean mg mb (n + 1) A env L h₀) (G : Lg h₀ L s.heap m news) (hk : key.length ≤ 100) (hv : v.length ≤ 100)
    (h : ∀ h' k t', Lg h₀ L h' m news → Q (.str (S (part key (some v))) t') { s with heap := h', toks := k }) :
    wpAny (model prog w) A (call (.ref 120) [.str (S key) tk, .str (S v) tv]) Q E s := by
  refine enter (binds := [(Str.ofString "param", .str (S key) tk), (Str.ofString "value", .str (S v) tv), (Str.ofString "quote", .int 1 _)]) C G (by k_is) (by k_is) (binds_K (C.X.keeps G.F.keep) rfl (by k_is) rfl rfl rfl) (locs rfl) rfl rfl rfl (by decide) ?_
  intro g L' h₁ C st' G
  refine hideQ fun Y0 hY => ?_
  walk_at "go"
  refine len_str (by rw [S_len]; omega) ?_
  walk_at "go"
  refine gt_int ?_
  walk_at "go"
  rw [S_len]
  by_cases hv0 : v = []
  · subst hv0
    refine ite_neg (by simp) ?_
    walk_at "go"
    refine hY _ _ ⟨_, _, G, fun G2 => ?_⟩
    exact h _ _ _ G2
  · refine ite_pos (by
      have : 0 < v.length := List.length_pos_iff.mpr hv0
      exact decide_eq_true (by omega)) ?_
    walk_at "go"
    refine truthy_int ?_
    refine ite_pos (by decide) ?_
    walk_at "go"
    refine GM.replace ?_
    walk_at "go"
    refine r_replace (c := 92) (zl := [92, 92]) (by decide +kernel) (by decide +kernel) (by decide) (Nat.succ_ne_zero _) (Nat.succ_ne_zero _) (Nat.ne_of_lt (Nat.lt_succ_self _)) (by omega) (by decide) ?_
    intro t1 k1 hk1
    walk_at "go"
    refine GM.replace ?_
    walk_at "go"
    have hpos : 0 < k1 := Nat.lt_of_lt_of_le (Nat.succ_pos _) hk1
    clear hk1
    refine r_replace (c := 34) (zl := [92, 34]) (by decide +kernel) (by decide +kernel) (by decide) (Nat.ne_of_gt hpos) (Nat.succ_ne_zero _) (Nat.ne_of_lt (Nat.lt_succ_self _)) (by have := bs_len v; omega) (by decide) ?_
    intro t2 k2 hk2
    clear hk2
    rw [esc_two]
    walk_at "go"
    refine r_fparam (a := key) (b := esc v) (by omega) (by have := esc_len v; omega) (fun k Q q => nameX_L G.F rfl q) (fun k Q q => nameX_L G.F rfl q) ?_
    intro t3 k3
    refine hY _ _ ⟨_, _, G, fun G2 => ?_⟩
    have e : part key (some v) = key ++ [61, 34] ++ esc v ++ [34] := by
      unfold part quoted pv
      rw [if_neg (by simpa using hv0), if_neg (by simpa using hv0)]
      simp
    have := h _ k3 t3 G2
    rw [e] at this
    exact this
end
end
-- K5
section
open PySem PySem.W PyProof.Rows PySem.Calls PySem.Spec PyProof.V
theorem fillK5 : hd.heap_1 = hd.heap_1 ∧ PySem.Challenge.rw_pe0228_01 = PySem.Challenge.rw_pe0228_01 := by
  k_fill
  exact ⟨rfl, rfl⟩
theorem if_join {M : Model} {A : Around} {c : Prop} [Decidable c] {x y : Sem Flow} {R : Flow → Shared → Prop} {E : Value → Shared → Prop} {s : Shared} (P : Shared → Prop) (hP : ∀ s', P s' → R .next s')
    (h1 : c → wpAny M A x (fun f s' => f = .next ∧ P s') E s) (h2 : ¬ c → wpAny M A y (fun f s' => f = .next ∧ P s') E s) : if c then wpAny M A x R E s else wpAny M A y R E s := by
  split
  · exact wpAny_mono (h1 (by assumption)) (fun f s' ⟨e, p⟩ => by subst e; exact hP s' p) fun _ _ z => z
  · exact wpAny_mono (h2 (by assumption)) (fun f s' ⟨e, p⟩ => by subst e; exact hP s' p) fun _ _ z => z
/-- None or a text -/
def OptIs (o : Option (List Nat)) (v : Value) : Prop := match o with
  | none => v = .none
  | some x => ∃ t, v = .str (S x) t
theorem OptIs.flat {o : Option (List Nat)} {v : Value} (h : OptIs o v) : ∃ d, Flat v d := by
  cases o with
  | none => rw [show v = .none from h]; exact ⟨_, .none⟩
  | some x => obtain ⟨t, rfl⟩ := h; exact ⟨_, .str _ _⟩
/-- the parts of a header's value, the first i parameters told -/
def partsUp (h : Head) (i : Nat) : List (List Nat) := h.own.toList ++ [part kK h.v1, part kM h.v2].take i
theorem parts_row (h : Head) : joinL [59, 32] (partsUp h 2) = rowVal h := by
  unfold partsUp rowVal
  cases h.own with
  | none => simp [joinL]
  | some o => simp [joinL]
theorem signs7_free {l : List Nat} (h : ∀ c ∈ l, c ∈ signs7) : free badVal l := by
  intro c hc
  have := h c hc
  simp only [signs7, List.mem_cons, List.not_mem_nil, or_false] at this
  rcases this with rfl | rfl | rfl | rfl | rfl | rfl | rfl <;> decide +kernel
theorem own_free {h : Head} (H : h.Ok) {o : List Nat} (e : h.own = some o) : free badVal o ∧ o.length ≤ 1 := by
  rcases H.own with q | q | q <;> rw [e] at q <;> cases q
  · refine ⟨?_, Nat.le_refl _⟩; intro c hc; rw [List.mem_singleton.mp hc]; decide +kernel
  · refine ⟨?_, Nat.le_refl _⟩; intro c hc; rw [List.mem_singleton.mp hc]; decide +kernel
theorem name_free {h : Head} (H : h.Ok) : free badName h.name ∧ h.name.length ≤ 3 := by
  have hd := H.d
  refine ⟨fun c hc => ?_, by unfold Head.name; simp; omega⟩
  unfold Head.name at hc
  rcases List.mem_append.mp hc with hc | hc
  · rw [(List.mem_replicate.mp hc).2]; decide
  · rw [List.mem_singleton.mp hc]
    have := H.c
    simp only [List.mem_cons, List.not_mem_nil, or_false] at this
    rcases this with e | e | e <;> rw [e] <;> decide
theorem part_len {key : List Nat} {v : Option (List Nat)} (hk : key.length ≤ 3) (hv : ∀ x, v = some x → x.length ≤ 4 ∧ ∀ c ∈ x, c ∈ signs7) : (part key v).length ≤ 14 := by
  unfold part quoted
  have h1 := (pv_ok hv).1
  have h2 := esc_len (pv v)
  split
  · omega
  · simp only [List.length_append, List.length_cons, List.length_nil]; omega
theorem partsUp_sum {h : Head} (H : h.Ok) : ((partsUp h 2).map List.length).sum + (partsUp h 2).length * 2 ≤ 40 := by
  have h1 := part_len (key := kK) (by decide) H.v1
  have h2 := part_len (key := kM) (by decide) H.v2
  unfold partsUp
  rcases H.own with e | e | e <;> rw [e] <;> simp <;> omega
theorem rowVal_len {h : Head} (H : h.Ok) : (rowVal h).length ≤ 40 := by
  have h1 := part_len (key := kK) (by decide) H.v1
  have h2 := part_len (key := kM) (by decide) H.v2
  unfold rowVal
  rcases H.own with e | e | e <;> rw [e] <;> simp <;> omega
theorem pair_at {h : Head} (H : h.Ok) {v1 v2 xv : Value} (h1 : OptIs h.v1 v1) (h2 : OptIs h.v2 v2) {i : Nat} {kk : Str} (e : ([(Str.ofString "k", v1), (Str.ofString "m_n", v2)] : List (Str × Value))[i]? = some (kk, xv)) :
    ∃ ks kr o, kk = S ks ∧ free badName ks ∧ ks.length ≤ 3 ∧ (ks.flatMap fun k => if k = 95 then [45] else [k]) = kr ∧ kr.length ≤ 3 ∧ OptIs o xv ∧ (∀ x, o = some x → x.length ≤ 4 ∧ ∀ c ∈ x, c ∈ signs7) ∧ partsUp h (i + 1) = partsUp h i ++ [part kr o] ∧ (partsUp h i).length ≤ 2 := by
  have hl : h.own.toList.length ≤ 1 := by cases h.own <;> simp
  match i with
  | 0 =>
    simp only [List.getElem?_cons_zero, Option.some.injEq, Prod.mk.injEq] at e
    obtain ⟨rfl, rfl⟩ := e
    refine ⟨[107], kK, h.v1, by decide +kernel, ?_, by decide, by decide, by decide, h1, H.v1, ?_, ?_⟩
    · intro c hc; rw [List.mem_singleton.mp hc]; decide
    · simp [partsUp]
    · simp [partsUp]; try omega
  | 1 =>
    simp only [List.getElem?_cons_succ, List.getElem?_cons_zero, Option.some.injEq, Prod.mk.injEq] at e
    obtain ⟨rfl, rfl⟩ := e
    refine ⟨[109, 95, 110], kM, h.v2, by decide +kernel, ?_, by decide, by decide, by decide, h2, H.v2, ?_, ?_⟩
    · intro c hc
      simp only [List.mem_cons, List.not_mem_nil, or_false] at hc
      rcases hc with rfl | rfl | rfl <;> decide
    · simp [partsUp]
    · simp [partsUp]; try omega
  | i + 2 => simp at e
theorem part_none (key : List Nat) : part key none = key := by unfold part pv; simp
/-- the header's parts so far -/
inductive AddJ (h : Head) (Dp Dd : Addr) (od : Obj) (sv nv : Value) (rest : List (Addr × Obj)) (i : Nat) : (Str → Option Value) → List (Addr × Obj) → Prop
  | mk {m' : Str → Option Value} {its : Array Value} {c : Nat} : m' "self" = some sv → m' "_name" = some nv → m' "parts" = some (.ref Dp) → m' "_params" = some (.ref Dd) → DatAll [] its.toList ((partsUp h i).map txtD) → (Dd, od) ∈ rest →
      AddJ h Dp Dd od sv nv rest i m' ((Dp, listOf its c) :: rest)
section
variable {pr : Program} {loose : List Str} {mean : ExcName → Option Value} {mg mb : Str → Option Value} {prog : Program} {w : World} {n : Nat} {A : Around} {env : Env} {L : Addr} {h₀ : Heap}
  {m : Str → Option Value} {news : List (Addr × Obj)} {s : Shared} {E : Value → Shared → Prop}
set_option maxHeartbeats 20000000
theorem add_header {Q : Value → Shared → Prop} {x dx l : Addr} {k : Tok} {its : Array Value} {c i : Nat} {hd' : Head} {tn : Tok} {ov v1 v2 : Value}
    (C : Cx (hd.heap_1 w.params) pr loose mean mg mb (n + 3) A env L h₀) (G : Lg h₀ L s.heap m news) (H : hd'.Ok) (ho : OptIs hd'.own ov) (h1 : OptIs hd'.v1 v1) (h2 : OptIs hd'.v2 v2)
    (hx : (x, instObj 243 dx) ∈ news) (hdx : (dx, dictOf (hes w k l) 1) ∈ news) (hi : news[i]? = some (l, listOf its c)) (hsz : its.size ≤ 1000)
    (h : ∀ h' t c' T fz ta tb, (T, tupO [.str (S hd'.name) ta, .str (S (rowVal hd')) tb] 0) ∈ fz → Lg h₀ L h' m (news.set i (l, listOf (its.push (.ref T)) c') ++ fz) → Q .none { s with heap := h', toks := t }) :
    wpAny (model prog w) A (call (.ref 240) [.ref x, .str (S hd'.name) tn, ov] [(Str.ofString "k", v1), (Str.ofString "m_n", v2)]) Q E s := by
  obtain ⟨d1, f1⟩ := h1.flat
  obtain ⟨d2, f2⟩ := h2.flat
  refine enterKw (nm := Str.ofString "_params") (ex := [(Str.ofString "k", v1), (Str.ofString "m_n", v2)]) (front := [(Str.ofString "self", .ref x), (Str.ofString "_name", .str (S hd'.name) tn), (Str.ofString "_value", ov)]) C G (by k_is) (by k_is) (by kp_lit) rfl rfl (.cons f1 (.cons f2 .nil)) rfl rfl (fun _ => rfl) (fun _ => locs rfl) rfl rfl rfl (by decide) ?_
  intro Dd od g L' h₁ tk lo hod C G
  refine hideQ fun Y0 hY => ?_
  walk_at "go"
  refine if_join (fun s' => ∃ h' t m' nw, s' = { s with heap := h', toks := t } ∧ Lg g L' h' m' nw ∧ AddJ hd' D Dd od (.ref x) (.str (S hd'.name) tn) ((Dd, od) :: news) 0 m' nw) ?_ ?_ ?_
  rotate_left
  · intro hov
    cases eo : hd'.own with
    | none =>
      rw [eo] at ho
      rw [show ov = .none from ho] at hov
      exact absurd hov (by decide)
    | some o =>
      rw [eo] at ho
      obtain ⟨t0, rfl⟩ := ho
      walk_at "go"
      refine convert_val C G (own_free H eo).1 (by have := (own_free H eo).2; omega) ?_
      intro h3 k3 G
      dsimp only
      walk_at "go"
      refine r_append (i := 0) G rfl (by decide) ?_
      intro h4 c4 G
      dsimp only [List.set_cons_zero] at G
      dsimp only
      walk_at "go"
      refine ⟨rfl, _, _, _, _, rfl, G, .mk rfl rfl rfl rfl ?_ (.head _)⟩
      unfold partsUp
      rw [eo]
      exact .cons (.str _ _) .nil
  · intro hov
    cases eo : hd'.own with
    | some o =>
      rw [eo] at ho
      obtain ⟨t0, rfl⟩ := ho
      exact absurd rfl hov
    | none =>
      walk_at "go"
      refine ⟨rfl, _, _, _, _, rfl, G, .mk rfl rfl rfl rfl ?_ (.head _)⟩
      unfold partsUp
      rw [eo]
      exact .nil
  rintro s' ⟨h3, t3, m3, nw, rfl, GG, J3⟩
  rcases J3 with ⟨ms, mn, mp, mpa, hd3, -⟩
  rename_i its3 c3
  have G := GG
  dsimp only
  walk_at "go"
  refine r_itemsM G (.tail _ (.head _)) hod ?_
  walk_at "go"
  refine r_items G (.tail _ (.head _)) hod lo ?_
  intro V h4 G
  have G := G.swap
  dsimp only
  refine for_items (d := Dd) (o := od) C.hn G (.tail _ (.head _)) hod rfl rfl rfl rfl (fun i m' nw => AddJ hd' D Dd od (.ref x) (.str (S hd'.name) tn) ((V, viewO Dd) :: (Dd, od) :: news) i m' nw) ?_ ?_ ?_ ?_
  · rintro i m' nw ⟨⟩
    exact .tail _ (.tail _ (.head _))
  · exact .mk ms mn mp mpa hd3 (.tail _ (.head _))
  · intro I j kk t5 xv h5 tk5 m5 nw oI he pt GG
    refine hideQ fun Z0 hZ => ?_
    rcases pt with ⟨ms, mn, mp, mpa, hd5, -⟩
    rename_i its5 c5
    have G := GG
    obtain ⟨ks, kr, o, rfl, hkf, hkl, hkr, hkrl, hox, hov, hup, hpl⟩ := pair_at H h1 h2 he
    have hkl2 : ks.length ≤ 1000000 := by omega
    have hsz5 : its5.size ≤ 2 := by
      have := hd5.length
      simp only [Array.length_toList, List.length_map] at this
      omega
    walk_at "go"
    refine convert_name_pos C G hkf hkl2 ?_
    intro h6 k6 hk6 G
    dsimp only
    walk_at "go"
    cases o with
    | none =>
      rw [show xv = .none from hox]
      walk_at "go"
      refine GM.replace ?_
      walk_at "go"
      refine r_replace (c := 95) (zl := [45]) (by decide +kernel) (by decide +kernel) (by decide) (Nat.succ_ne_zero _) (Nat.succ_ne_zero _) (Nat.ne_of_lt (Nat.lt_succ_self _)) (by omega) (by decide) ?_
      intro t7 k7 hk7
      rw [hkr]
      walk_at "go"
      refine r_append (i := 1) G rfl (by omega) ?_
      intro h8 c8 G
      dsimp only [List.set_cons_succ, List.set_cons_zero] at G
      dsimp only
      walk_at "go"
      refine hZ _ _ ⟨_, _, _, _, rfl, G, .mk ms mn mp mpa ?_ (.tail _ (.head _))⟩
      rw [hup, List.map_append, Array.toList_push, part_none]
      exact hd5.append (.one (.str _ _))
    | some vv =>
      obtain ⟨tv, rfl⟩ := hox
      obtain ⟨hvl, hvs⟩ := hov vv rfl
      walk_at "go"
      refine ite_neg (by first | exact Bool.false_ne_true | simp) ?_
      walk_at "go"
      refine convert_val_pos C G (signs7_free hvs) (by omega) ?_
      intro h7 k7 hk7 G
      dsimp only
      walk_at "go"
      refine GM.replace ?_
      walk_at "go"
      refine r_replace (c := 95) (zl := [45]) (by decide +kernel) (by decide +kernel) (by decide) (Nat.succ_ne_zero _) (Nat.succ_ne_zero _) (Nat.ne_of_lt (Nat.lt_succ_self _)) (by omega) (by decide) ?_
      intro t8 k8 hk8
      rw [hkr]
      walk_at "go"
      refine format_param C G (by omega) (by omega) ?_
      intro h9 k9 t9 G
      dsimp only
      walk_at "go"
      refine r_append (i := 1) G rfl (by omega) ?_
      intro h8 c8 G
      dsimp only [List.set_cons_succ, List.set_cons_zero] at G
      dsimp only
      walk_at "go"
      refine hZ _ _ ⟨_, _, _, _, rfl, G, .mk ms mn mp mpa ?_ (.tail _ (.head _))⟩
      rw [hup, List.map_append, Array.toList_push]
      exact hd5.append (.one (.str _ _))
  · rintro h5 t5 m5 nw ⟨ms, mn, mp, mpa, hd5, -⟩ G
    rename_i its5 c5
    have hl : (l, listOf its c) ∈ news := List.mem_of_getElem? hi
    walk_at "go"
    refine convert_name C G (name_free H).1 (by have := (name_free H).2; omega) ?_
    intro h6 k6 G
    dsimp only
    walk_at "go"
    refine GM.join ?_
    walk_at "go"
    refine r_join (sep := [59, 32]) (ls := partsUp hd' 2) G (.head _) (by decide +kernel) hd5 (by have := partsUp_sum H; simp only [List.length_cons, List.length_nil]; omega) ?_
    intro t7 k7
    rw [parts_row]
    walk_at "go"
    refine r_append (i := i + 4) G (by simpa using hi) (by omega) ?_
    intro h8 c8 G
    dsimp only
    walk_at "go"
    rw [List.set_cons_succ, List.set_cons_succ, List.set_cons_succ, List.set_cons_succ] at G
    exact hY _ _ ⟨_, _, G.perm (List.perm_append_comm (l₁ := [_, _, _, _])), fun G2 => h _ _ _ D _ _ _ (.head _) G2⟩
end
end
-- K6
section
open PySem PySem.W PyProof.Rows PySem.Calls PySem.Spec PyProof.V
theorem fillK6 : hd.heap_1 = hd.heap_1 ∧ PySem.Challenge.rw_pe0228_01 = PySem.Challenge.rw_pe0228_01 := by
  k_fill
  exact ⟨rfl, rfl⟩
def lineOf (p : List Nat × List Nat) : List Nat := p.1 ++ [58, 32] ++ p.2
theorem joinL_rows : ∀ ls : List (List Nat), joinL [13, 10] (ls ++ [[], []]) = rowsT ls ++ [13, 10]
  | [] => rfl
  | a :: r => by
    have ih := joinL_rows r
    have e : joinL [13, 10] (a :: (r ++ [[], []])) = a ++ [13, 10] ++ joinL [13, 10] (r ++ [[], []]) := by cases r <;> rfl
    rw [List.cons_append, e, ih]
    simp [rowsT]
theorem lines_sum : ∀ {rows : List (List Nat × List Nat)}, (∀ p ∈ rows, p.1.length ≤ 10 ∧ p.2.length ≤ 60) → ((rows.map lineOf).map List.length).sum ≤ 72 * rows.length
  | [], _ => Nat.zero_le _
  | p :: r, h => by
    have h1 := h p (.head _)
    have h2 := lines_sum (rows := r) fun q hq => h q (.tail _ hq)
    have e : (lineOf p).length = p.1.length + 2 + p.2.length := by simp [lineOf]; omega
    simp only [List.map_cons, List.sum_cons, List.length_cons]
    omega
section
variable {pr : Program} {loose : List Str} {mean : ExcName → Option Value} {mg mb : Str → Option Value} {prog : Program} {w : World} {n : Nat} {A : Around} {env : Env} {L : Addr} {h₀ : Heap}
  {m : Str → Option Value} {news : List (Addr × Obj)} {s : Shared} {E : Value → Shared → Prop}
set_option maxHeartbeats 20000000
theorem headers_str {Q : Value → Shared → Prop} {x dx l : Addr} {k : Tok} {its : Array Value} {c : Nat} {rows : List (List Nat × List Nat)} {dat : List (Addr × Obj)}
    (C : Cx (hd.heap_1 w.params) pr loose mean mg mb (n + 1) A env L h₀) (G : Lg h₀ L s.heap m news)
    (hx : (x, instObj 243 dx) ∈ news) (hdx : (dx, dictOf (hes w k l) 1) ∈ news) (hl : (l, listOf its c) ∈ news) (hdat : Tups dat news) (hD0 : DatAll dat its.toList (rows.map rowD)) (hsz : rows.length ≤ 3) (hlen : ∀ p ∈ rows, p.1.length ≤ 10 ∧ p.2.length ≤ 60)
    (h : ∀ h' t u, Lg h₀ L h' m news → Q (.str (S (rowsT (rows.map lineOf) ++ [13, 10])) u) { s with heap := h', toks := t }) :
    wpAny (model prog w) A (call (.ref 219) [.ref x]) Q E s := by
  refine enter (binds := [(Str.ofString "self", .ref x)]) C G (by k_is) (by k_is) (BindsTo.of_eq rfl) (locs rfl) rfl rfl rfl (by decide) ?_
  intro g L' h₁ C st' G
  refine hideQ fun Y0 hY => ?_
  have hD := hdat.rows hD0
  have hsize : its.size = rows.length := by have := hD.length; simpa using this
  walk_at "go"
  refine GM.join ?_
  walk_at "go"
  refine comp_U G rfl (by decide) rfl (by decide) rfl ?_
  walk_at "go"
  refine src_list C.hn G (.inr ⟨_, hl, rfl, _, rfl⟩) ?_
  rintro I s2 ⟨h4, rfl⟩ Z
  refine ⟨I, _, _, _, _, rfl, by rw [hsize, sizeLine_eq]; omega, Z, fun i ys nw => nw = news ∧ DatAll [] ys (((rows.take i).map lineOf).map txtD), ?_, ⟨rfl, .nil⟩, ?_, ?_⟩
  · rintro i ys nw ⟨rfl, -⟩
    exact .inr ⟨_, hl, rfl, _, rfl⟩
  · intro I i v ys h5 t5 nw oI Cc oC D m₂ _ hv hC hm2 pt1 GG
    refine hideQ fun Z0 hZ => ?_
    obtain ⟨enw4, hys⟩ := pt1
    have G := GG.to3 enw4
    obtain ⟨d, hd, hdv⟩ := DatAll.at hD (i := i) (v := v) (by simpa using hv)
    rw [List.getElem?_map] at hd
    obtain ⟨p, hp, rfl⟩ := Option.map_eq_some_iff.mp hd
    obtain ⟨tu, va, vb, cu, rfl, hm, ha, hb⟩ := pair_of hdv
    obtain ⟨ta, rfl⟩ := str_of ha
    obtain ⟨tb, rfl⟩ := str_of hb
    have hpl := hlen p (List.mem_of_getElem? hp)
    walk_at "go"
    refine fmt_line G (.tail _ (.tail _ (.tail _ hm))) (by omega) (by omega) ?_
    intro t6 k6
    refine hZ _ _ ⟨_, _, _, rfl, G, rfl, ?_⟩
    show DatAll _ _ _
    rw [take_snoc hp, List.map_append, List.map_append]
    exact hys.append (.one (.str _ _))
  · rintro D h6 t6 ys nw ⟨enw5, hys⟩ GG
    have G := GG.to1 enw5
    rw [hsize, List.take_length] at hys
    dsimp only
    walk_at "go"
    have hyl : ys.length ≤ 3 := by have := hys.length; simp only [List.length_map] at this; omega
    refine kmk_add_lit G.F G.N (G.lst (.tail _ (.head _))) (G.lst (.head _)) rfl ?_ (by rw [sizeLine_eq]; simp; omega)
    intro fl h8 F8 N8 l8
    have G := G.cons F8 N8 l8
    dsimp only
    walk_at "go"
    refine r_join (sep := [13, 10]) (ls := rows.map lineOf ++ [[], []]) (nw := []) G (.head _) (by decide +kernel) ?_ ?_ ?_
    · rw [List.map_append]
      exact hys.append (.cons (.str _ _) (.cons (.str _ _) .nil))
    · have := lines_sum hlen
      rw [List.map_append, List.sum_append]
      simp only [List.length_append, List.length_map, List.length_cons, List.length_nil, List.map_cons, List.map_nil, List.sum_cons, List.sum_nil]
      omega
    intro t7 k7
    rw [joinL_rows]
    walk_at "go"
    exact hY _ _ ⟨_, _, G.sub (((List.sublist_cons_self _ _).cons _).cons _), fun G2 => h _ _ _ G2⟩
end
end
-- A3
section
open PySem.Sre (M)
/-- the next line end -/
def nlF (text : Array Nat) : Nat → Nat → Option (Nat × Nat)
  | 0, _ => none
  | f + 1, q => if isNl (text.getD q 0) = true then some (q, q + 2) else nlF text f (q + 1)
def nlFind (text : Array Nat) (s : Nat) : Option (Nat × Nat) := nlF text (text.size - s) s
theorem getD_drop {t : List Nat} {q c : Nat} {r : List Nat} (h : t.drop q = c :: r) : t.toArray.getD q 0 = c ∧ t.drop (q + 1) = r ∧ q < t.length := by
  have hq : q < t.length := by
    rcases Nat.lt_or_ge q t.length with x | x
    · exact x
    · rw [List.drop_of_length_le x] at h; cases h
  have e := List.drop_eq_getElem_cons hq
  rw [h] at e
  injection e with e1 e2
  refine ⟨?_, e2.symm, hq⟩
  rw [Array.getD_eq_getD_getElem?]
  simp [hq, e1]
theorem nlF_at {t : List Nat} : ∀ (l : List Nat) {f q : Nat} {r : List Nat}, t.drop q = l ++ 13 :: r → (∀ c ∈ l, isNl c = false) → l.length < f → nlF t.toArray f q = some (q + l.length, q + l.length + 2)
  | [], 0, _, _, _, _, h => by simp at h
  | [], f + 1, q, r, h, _, _ => by
    unfold nlF
    rw [(getD_drop (by simpa using h)).1]
    rfl
  | c :: l, 0, _, _, _, _, h => by simp at h
  | c :: l, f + 1, q, r, h, hn, hf => by
    obtain ⟨e1, e2, -⟩ := getD_drop (c := c) (r := l ++ 13 :: r) (by simpa using h)
    unfold nlF
    rw [e1, hn c (by simp), if_neg Bool.false_ne_true, nlF_at l e2 (fun d hd => hn d (by simp [hd])) (by simpa using hf)]
    simp only [List.length_cons]
    congr 2 <;> omega
theorem nl_run {t : List Nat} : ∀ (l : List Nat) {q : Nat} {r : List Nat}, t.drop q = l ++ r → (∀ c ∈ l, isNl c = false) → ∀ i, q ≤ i → i < q + l.length → isNl (t.toArray.getD i 0) = false
  | [], _, _, _, _, i, h1, h2 => by simp at h2; omega
  | c :: l, q, r, h, hn, i, h1, h2 => by
    obtain ⟨e1, e2, -⟩ := getD_drop (c := c) (r := l ++ r) (by simpa using h)
    by_cases e : q = i
    · rw [← e, e1]; exact hn c (by simp)
    · exact nl_run l e2 (fun d hd => hn d (by simp [hd])) i (by omega) (by simp at h2; omega)
/-- a row begins here -/
def RowAt (ls : List (List Nat)) (s : Nat) : Prop := ∃ post, (rowsT ls).drop s = rowsT post ∧ s ≤ (rowsT ls).length ∧ ∀ l ∈ post, ∀ c ∈ l, isNl c = false
theorem rowsT_cons (l : List Nat) (ls : List (List Nat)) : rowsT (l :: ls) = l ++ 13 :: 10 :: rowsT ls := by simp [rowsT]
section
variable {ls : List (List Nat)} {s : Nat}
theorem row_find (h : RowAt ls s) : (nlFind (rowsT ls).toArray s = none ∧ (rowsT ls).drop s = []) ∨ ∃ l post, (rowsT ls).drop s = l ++ 13 :: 10 :: rowsT post ∧ (∀ c ∈ l, isNl c = false) ∧ nlFind (rowsT ls).toArray s = some (s + l.length, s + l.length + 2) ∧ RowAt ls (s + l.length + 2) := by
  obtain ⟨post, e, hs, hn⟩ := h
  have hlen : (rowsT ls).length - s = (rowsT post).length := by rw [← e, List.length_drop]
  cases post with
  | nil =>
    left
    refine ⟨?_, by rw [e]; rfl⟩
    unfold nlFind
    rw [List.size_toArray, hlen]; rfl
  | cons l post =>
    right
    rw [rowsT_cons] at e hlen
    have hl : (rowsT ls).length - s = l.length + (rowsT post).length + 2 := by rw [hlen]; simp; omega
    refine ⟨l, post, e, hn l (by simp), ?_, post, ?_, by omega, fun l' hl' => hn l' (by simp [hl'])⟩
    · unfold nlFind
      exact nlF_at l e (hn l (by simp)) (by rw [List.size_toArray, hl]; omega)
    · rw [Nat.add_assoc, ← List.drop_drop, e]
      rw [← List.drop_drop, List.drop_left]
      rfl
theorem row_finds (h : RowAt ls s) : FindsAt cNl (rowsT ls).toArray s (nlFind (rowsT ls).toArray s) := by
  have hs := h.choose_spec.2.1
  rcases row_find h with ⟨e, ed⟩ | ⟨l, post, ed, hn, e, hr⟩
  · rw [e]
    have : s = (rowsT ls).length := by have := congrArg List.length ed; simp at this; omega
    exact ⟨1, _, by decide, rfl, nl_none fun i h1 h2 => by rw [List.size_toArray] at h2; omega⟩
  · rw [e]
    have hle := hr.choose_spec.2.1
    have e1 : (rowsT ls).drop (s + l.length) = 13 :: 10 :: rowsT post := by rw [← List.drop_drop, ed, List.drop_left]
    obtain ⟨a1, a2, a3⟩ := getD_drop e1
    obtain ⟨b1, b2, b3⟩ := getD_drop a2
    obtain ⟨m', r1, r2, r3, r4⟩ := nl_some (text := (rowsT ls).toArray) (s := s) (lim := (rowsT ls).toArray.size) (q := s + l.length) (by omega) (by rw [List.size_toArray]; omega) a1 b1 (nl_run l ed hn)
    exact ⟨by omega, by omega, by rw [List.size_toArray]; omega, 8, m', by decide, r1, r2, r3, r4⟩
theorem row_next {a b : Nat} (h : RowAt ls s) (e : nlFind (rowsT ls).toArray s = some (a, b)) : RowAt ls b := by
  rcases row_find h with ⟨e', -⟩ | ⟨l, post, -, -, e', hr⟩
  · rw [e] at e'; cases e'
  · rw [e] at e'; cases e'; exact hr
theorem ext_list (t : List Nat) (a b : Nat) : (t.toArray.extract a b).toList = (t.drop a).take (b - a) := by simp
theorem row_subst : ∀ (f s : Nat), RowAt ls s → (rowsT ls).length - s < f → subst (rowsT ls).toArray (nlFind (rowsT ls).toArray) [13, 10] f s = (rowsT ls).drop s
  | 0, _, _, h => by omega
  | f + 1, s, h, hf => by
    have hs := h.choose_spec.2.1
    unfold subst
    rcases row_find h with ⟨e, ed⟩ | ⟨l, post, ed, hn, e, hr⟩
    · rw [e]
      dsimp only
      rw [ext_list, ed]; simp
    · rw [e]
      dsimp only
      have hle := hr.choose_spec.2.1
      rw [row_subst f _ hr (by omega), ext_list, ed, show s + l.length - s = l.length by omega, List.take_left]
      rw [Nat.add_assoc, ← List.drop_drop, ed, ← List.drop_drop, List.drop_left]
      simp
theorem row_zero (h : ∀ l ∈ ls, ∀ c ∈ l, isNl c = false) : RowAt ls 0 := ⟨ls, rfl, Nat.zero_le _, h⟩
theorem row_sub_is (h : ∀ l ∈ ls, ∀ c ∈ l, isNl c = false) : subst (rowsT ls).toArray (nlFind (rowsT ls).toArray) [13, 10] ((rowsT ls).toArray.size + 1) 0 = rowsT ls := by
  rw [row_subst _ _ (row_zero h) (by rw [List.size_toArray]; omega)]
  rfl
end
theorem sentN_succ : ∀ (n : Nat) (t : List Nat), sentN (n + 1) t = dbl true (sentN n t)
  | 0, t => rfl
  | n + 1, t => by
    show sentN (n + 1) (dbl true t) = _
    rw [sentN_succ n]
    rfl
theorem line_nl {h : Head} (H : h.Ok) : ∀ c ∈ line h, c ≠ 13 := by
  intro c hc
  unfold line Head.name rowVal at hc
  have s13 : ∀ {c : Nat}, c ∈ signs7 → c ≠ 13 := by intro c hc e; subst e; revert hc; decide
  have part13 : ∀ {key : List Nat} {v : Option (List Nat)}, (∀ c ∈ key, c ≠ 13) → (∀ x, v = some x → x.length ≤ 4 ∧ ∀ c ∈ x, c ∈ signs7) → ∀ c ∈ part key v, c ≠ 13 := by
    intro key v hk h c hc
    unfold part quoted at hc
    split at hc
    · exact hk c hc
    · have := pv_ok h
      simp only [List.mem_append, List.mem_cons, List.not_mem_nil, or_false] at hc
      rcases hc with (hc | rfl) | rfl | hc | rfl
      · exact hk c hc
      · decide
      · decide
      · exact s13 (esc_no this.2 c hc)
      · decide
  simp only [List.mem_append, List.mem_replicate, List.mem_cons, List.not_mem_nil, or_false] at hc
  rcases hc with ((⟨-, rfl⟩ | rfl) | rfl | rfl) | (((hc | hc) | rfl | rfl) | hc)
  · decide
  · have := H.c
    intro e
    rw [e] at this
    revert this; decide
  · decide
  · decide
  · rcases H.own with e | e | e <;> rw [e] at hc <;> simp at hc <;> omega
  · exact part13 (by decide) H.v1 c hc
  · decide
  · decide
  · exact part13 (by decide) H.v2 c hc
theorem ups_mem : ∀ (n : Nat) (l : List Nat), ∀ c ∈ ups n l, c = 46 ∨ c ∈ l
  | 0, l, c, h => .inr h
  | n + 1, l, c, h => by
    rcases ups_mem n (up l) c h with h | h
    · exact .inl h
    · unfold up at h
      split at h
      · rcases List.mem_cons.mp h with h | h
        · exact .inl h
        · exact .inr h
      · exact .inr h
/-- the sent text is made of rows -/
theorem sent_is (n : Nat) {hs : List Head} (H : ∀ h ∈ hs, h.Ok) : ∃ ls, sentN n (sent0 hs) = rowsT ls ∧ ∀ l ∈ ls, ∀ c ∈ l, isNl c = false := by
  have e : sent0 hs = rowsT (hs.map line ++ [[]]) := by
    unfold sent0 rowsT
    simp [List.flatMap_append, List.flatMap_map]
  have h10 : ∀ l ∈ hs.map line ++ [[]], ∀ c ∈ l, c ≠ 10 ∧ c ≠ 13 := by
    intro l hl c hc
    rcases List.mem_append.mp hl with hl | hl
    · obtain ⟨h, hh, rfl⟩ := List.mem_map.mp hl
      exact ⟨line_no (H h hh) c hc, line_nl (H h hh) c hc⟩
    · rw [List.mem_singleton.mp hl] at hc; simp at hc
  rw [e, sent_rows n _ fun l hl c hc => (h10 l hl c hc).1]
  refine ⟨_, rfl, fun l hl c hc => ?_⟩
  obtain ⟨l', hl', rfl⟩ := List.mem_map.mp hl
  rcases ups_mem n l' c hc with rfl | hc
  · rfl
  · have := h10 l' hl' c hc
    simp [isNl, this.1, this.2]
end
-- K7
section
open PySem PySem.W PyProof.Rows PySem.Calls PySem.Spec PyProof.V
theorem fillK7 : hd.heap_1 = hd.heap_1 ∧ PySem.Challenge.rw_pe0228_01 = PySem.Challenge.rw_pe0228_01 := by
  k_fill
  exact ⟨rfl, rfl⟩
/-- a header as data -/
def optD : Option (List Nat) → Dat
  | none => .none
  | some x => .str (S x)
def headD (h : Head) : Dat := .tuple [.str (S h.name), optD h.own, optD h.v1, optD h.v2]
theorem optIs_of {nw : List (Addr × Obj)} {v : Value} {o : Option (List Nat)} (h : DatIn nw v (optD o)) : OptIs o v := by
  cases o with
  | none => cases h; rfl
  | some x => exact str_of h
theorem quad_of {nw : List (Addr × Obj)} {v : Value} {a b c d : Dat} (h : DatIn nw v (.tuple [a, b, c, d])) : ∃ t va vb vc vd n, v = .ref t ∧ (t, tupO [va, vb, vc, vd] n) ∈ nw ∧ DatIn nw va a ∧ DatIn nw vb b ∧ DatIn nw vc c ∧ DatIn nw vd d := by
  cases h with
  | tuple hm r =>
    cases r with
    | cons h1 r =>
      cases r with
      | cons h2 r =>
        cases r with
        | cons h3 r =>
          cases r with
          | cons h4 r =>
            cases r
            exact ⟨_, _, _, _, _, _, rfl, hm, h1, h2, h3, h4⟩
def headRow (h : Head) : List Nat × List Nat := (h.name, rowVal h)
theorem sent0_rows (hs : List Head) : sent0 hs = rowsT ((hs.map headRow).map lineOf) ++ [13, 10] := by
  unfold sent0 rowsT
  rw [List.map_map, List.flatMap_map]
  rfl
theorem line_len {h : Head} (H : h.Ok) : (line h).length ≤ 45 := by
  have h1 := (name_free H).2
  have h2 := rowVal_len H
  have e : (line h).length = h.name.length + 2 + (rowVal h).length := by simp [line]; omega
  omega
theorem sent0_len : ∀ {hs : List Head}, (∀ h ∈ hs, h.Ok) → (sent0 hs).length ≤ 47 * hs.length + 2
  | [], _ => by simp [sent0]
  | h :: hs, H => by
    have h1 := line_len (H h (.head _))
    have h2 := sent0_len (hs := hs) fun x hx => H x (.tail _ hx)
    have e : (sent0 (h :: hs)).length = (line h).length + 2 + (sent0 hs).length := by simp [sent0]; omega
    simp only [List.length_cons]
    omega
theorem sentN_len (t : List Nat) : ∀ n, (sentN n t).length ≤ 2 ^ n * t.length
  | 0 => by simp [sentN]
  | n + 1 => by
    rw [sentN_succ]
    have h1 := dbl_len true (sentN n t)
    have h2 := sentN_len t n
    rw [Nat.pow_succ]
    have : 2 ^ n * 2 * t.length = 2 * (2 ^ n * t.length) := by rw [Nat.mul_right_comm, Nat.mul_comm]
    omega
/-- the table filled so far -/
inductive SentJ (w : World) (hs : List Head) (x dx lst : Addr) (k : Tok) (hv : Value) (news : List (Addr × Obj)) (i : Nat) : (Str → Option Value) → List (Addr × Obj) → Prop
  | mk {m' : Str → Option Value} {tl : List (Addr × Obj)} {ib : Array Value} {cb : Nat} : m' "table" = some (.ref x) → m' "hops" = some hv → DatAll tl ib.toList (((hs.take i).map headRow).map rowD) →
      SentJ w hs x dx lst k hv news i m' ((lst, listOf ib cb) :: (x, instObj 243 dx) :: (dx, dictOf (hes w k lst) 1) :: (news ++ tl))
section
variable {K : Frag} {pr : Program} {loose : List Str} {mean : ExcName → Option Value} {mg mb : Str → Option Value} {prog : Program} {w : World} {n : Nat} {A : Around} {env : Env} {L : Addr} {h₀ : Heap}
  {m : Str → Option Value} {news : List (Addr × Obj)} {s : Shared} {E : Value → Shared → Prop}
theorem r_unpack4 {e1 e2 e3 e4 : PySem.Expr} {k : Nat} {pos : Pos} {t : Addr} {a b c d : Value} {cu : Nat} {Q : Unit → Shared → Prop} (hh : A.handled = none) (G : Lg h₀ L s.heap m news) (hm : (t, tupO [a, b, c, d] cu) ∈ news)
    (h : ∀ h', Lg h₀ L h' m news → wpAny (model prog w) A (assign e1 env a) (fun _ s₁ => wpAny (model prog w) A (assign e2 env b) (fun _ s₂ => wpAny (model prog w) A (assign e3 env c) (fun _ s₃ => wpAny (model prog w) A (assign e4 env d) Q E s₃) E s₂) E s₁) E { s with heap := h' })
    (ha : assignEach [e1, e2, e3, e4] env = [(false, assign e1 env), (false, assign e2 env), (false, assign e3 env), (false, assign e4 env)] := by rfl) :
    wpAny (model prog w) A (assign (.Tuple [e1, e2, e3, e4] k pos) env (.ref t)) Q E s := by
  refine unpackN_ G.F G.N (G.N.isTup hm) hh (by rw [ha]; rfl) (by rw [ha]; rfl) fun h' F' N' => ?_
  rw [ha]
  exact assignInOrder_cons (wpAny_mono (h h' ⟨F', N', G.nd⟩) (fun _ s' z => assignInOrder_cons (wpAny_mono z (fun _ s'' z' => assignInOrder_cons (wpAny_mono z' (fun _ s3 z3 => assignInOrder_cons (wpAny_mono z3 (fun _ s4 z4 => assignInOrder_nil z4) fun _ _ x => x)) fun _ _ x => x)) fun _ _ x => x)) fun _ _ x => x)
end
section
variable {pr : Program} {loose : List Str} {mean : ExcName → Option Value} {mg mb : Str → Option Value} {prog : Program} {w : World} {n : Nat} {A : Around} {env : Env} {L : Addr} {h₀ : Heap}
  {m : Str → Option Value} {news : List (Addr × Obj)} {s : Shared} {E : Value → Shared → Prop}
set_option maxHeartbeats 20000000
/-- rows sent once -/
theorem quotedata_rows {Q : Value → Shared → Prop} {x : List Nat} {ls : List (List Nat)} {t : Tok}
    (C : Cx (hd.heap_1 w.params) pr loose mean mg mb (n + 1) A env L h₀) (G : Lg h₀ L s.heap m news) (hx : x = rowsT ls) (hls : ∀ l ∈ ls, ∀ c ∈ l, isNl c = false) (hl : x.length ≤ 1000000)
    (h : ∀ h' k u, Lg h₀ L h' m news → Q (.str (S (dbl true x)) u) { s with heap := h', toks := k }) :
    wpAny (model prog w) A (call (.ref 97) [.str (S x) t]) Q E s := by
  refine enter (binds := [(Str.ofString "data", .str (S x) t)]) C G (by k_is) (by k_is) (BindsTo.of_eq rfl) (locs rfl) rfl rfl rfl (by decide) ?_
  intro g L' h₁ C st' G
  refine hideQ fun Y0 hY => ?_
  have hl1 : (⟨x.toArray⟩ : Str).length ≤ 1000000 := by simpa [Str.length] using hl
  walk_at "go"
  refine pat_meth (pat85 (C.X.keeps G.F.keep)) slot_pat_sub type_pat_sub ?_
  walk_at "go"
  refine pat_meth (pat90 (C.X.keeps G.F.keep)) slot_pat_sub type_pat_sub ?_
  walk_at "go"
  subst hx
  refine pat_subO (Ok := RowAt ls) (repl := [13, 10]) (find := nlFind (rowsT ls).toArray) (pat90 (C.X.keeps G.F.keep)) (row_zero hls) (fun _ _ _ h e => row_next h e) (fun s _ h => row_finds h) hl1 (by decide) (by decide +kernel) ?_
  intro h2 t2 k2 hk2
  have G := G.kept hk2
  have e1 : subst (S (rowsT ls)).cps (nlFind (rowsT ls).toArray) [13, 10] ((S (rowsT ls)).cps.size + 1) 0 = rowsT ls := row_sub_is hls
  rw [e1]
  walk_at "go"
  refine pat_sub (repl := [46, 46]) (find := dotFind (rowsT ls).toArray) (pat85 (C.X.keeps G.F.keep)) (fun s hs => dot_finds _ (by simpa using hl) s hs) hl1 (by decide) (by decide +kernel) ?_
  intro h3 t3 k3 hk3
  have G := G.kept hk3
  have e := dot_sub_is (rowsT ls).toArray
  rw [show (subst (rowsT ls).toArray (dotFind (rowsT ls).toArray) [46, 46] ((rowsT ls).toArray.size + 1) 0) = dbl true (rowsT ls) from e]
  exact hY _ _ ⟨_, _, G, fun G2 => h _ _ _ G2⟩
/-- the headers' text, sent so often -/
theorem law_sent {Q : Value → Shared → Prop} {l : Addr} {its : Array Value} {c : Nat} {hs : List Head} {hops : Nat} {th : Tok}
    (C : Cx (hd.heap_1 w.params) pr loose mean mg mb (n + 5) A env L h₀) (G : Lg h₀ L s.heap m news) (hl : (l, listOf its c) ∈ news) (hD : DatAll news its.toList (hs.map headD)) (H : ∀ h ∈ hs, h.Ok) (h3 : hs.length = 3) (hh : hops ≤ 2)
    (h : ∀ h' k u, Lg h₀ L h' m news → Q (.str (S (sentN hops (sent0 hs))) u) { s with heap := h', toks := k }) :
    wpAny (model prog w) A (call (.ref 268) [.ref l, .int (hops : Int) th]) Q E s := by
  refine enter (binds := [(Str.ofString "heads", .ref l), (Str.ofString "hops", .int (hops : Int) th)]) C G (by k_is) (by k_is) (BindsTo.of_eq rfl) (locs rfl) rfl rfl rfl (by decide) ?_
  intro g L' h₁ C st' G
  refine hideQ fun Y0 hY => ?_
  have hsize : its.size = 3 := by have := hD.length; simp only [Array.length_toList, List.length_map] at this; omega
  walk_at "go"
  refine make_headers C G ?_
  intro x dx lst h2 t2 k G
  dsimp only
  walk_at "go"
  refine for_list (its := its) C.hn G (SentJ w hs x dx lst k (.int (hops : Int) th) news) ?_ ?_ ?_ ?_
  · rintro i m' nw ⟨⟩
    exact .inr ⟨_, .tail _ (.tail _ (.tail _ (List.mem_append_left _ hl))), rfl, _, rfl⟩
  · have := SentJ.mk (w := w) (hs := hs) (x := x) (dx := dx) (lst := lst) (k := k) (hv := .int (hops : Int) th) (news := news) (i := 0) (m' := fun y => if y = Str.ofString "table" then some (Value.ref x) else ([(Str.ofString "heads", .ref l), (Str.ofString "hops", .int (hops : Int) th)] : List (Str × Value)).reverse.lookup y) (tl := []) (ib := #[]) (cb := 0) rfl rfl .nil
    rw [List.append_nil] at this
    exact this
  · intro I i v h3' t3 m3 nw oI hi hv pt1 GG
    refine hideT fun Z0 hZ => ?_
    rcases pt1 with ⟨mt, mh, hb⟩
    rename_i tl ib cb
    have G := GG
    obtain ⟨d, hd, hdv⟩ := DatAll.at hD (i := i) (v := v) (by simpa using hv)
    rw [List.getElem?_map] at hd
    obtain ⟨p, hp, rfl⟩ := Option.map_eq_some_iff.mp hd
    obtain ⟨tu, va, vb, vc, vd, cu, rfl, hm, ha, hb2, hc2, hd2⟩ := quad_of hdv
    obtain ⟨ta, rfl⟩ := str_of ha
    have hP := H p (List.mem_of_getElem? hp)
    have hm6 : (tu, tupO [.str (S p.name) ta, vb, vc, vd] cu) ∈ (I, oI) :: (lst, listOf ib cb) :: (x, instObj 243 dx) :: (dx, dictOf (hes w k lst) 1) :: (news ++ tl) := .tail _ (.tail _ (.tail _ (.tail _ (List.mem_append_left _ hm))))
    refine r_unpack4 C.hn G hm6 ?_
    intro h4 G
    walk_at "go"
    have hbl : ib.size ≤ 1000 := by
      have := hb.length
      simp only [Array.length_toList, List.length_map, List.length_take] at this
      omega
    refine add_header (i := 1) C G hP (optIs_of hb2) (optIs_of hc2) (optIs_of hd2) (by walk_at "mem") (by walk_at "mem") rfl hbl ?_
    intro h5 t5 c5 T fz ta2 tb2 hT G
    dsimp only [List.set_cons_succ, List.set_cons_zero, List.cons_append] at G
    dsimp only
    walk_at "go"
    refine hZ _ _ ⟨_, _, _, _, rfl, G.to (by rw [List.append_assoc]), .mk mt mh ?_⟩
    rw [take_snoc hp, List.map_append, List.map_append, Array.toList_push]
    exact (hb.mono fun _ h => List.mem_append_left _ h).append (.one (.tuple (List.mem_append_right _ hT) (.cons (.str _ _) (.cons (.str _ _) .nil))))
  · rintro h4 t4 m4 nw ⟨mt, mh, hb⟩ G
    rename_i tl ib cb
    walk_at "go"
    refine kso_call (f := 219) ?_ (C.X.keeps G.F.keep) (InstAt.of_news G.N (.tail _ (.head _)) (.tail _ (.tail _ (.head _)))) (by k_is) (by k_is) ?_
    · exact Nat.lt_of_le_of_lt (Nat.le_add_right _ _) C.in1.in1.un
    rw [hsize, show hs.take 3 = hs from List.take_of_length_le (by omega)] at hb
    refine headers_str (dat := tl) (rows := hs.map headRow) C.in1.in1 G (.tail _ (.head _)) (.tail _ (.tail _ (.head _))) (.head _) (.of fun _ h => .tail _ (.tail _ (.tail _ (List.mem_append_right _ h)))) hb (by simp [h3]) ?_ ?_
    · intro p hp
      obtain ⟨q, hq, rfl⟩ := List.mem_map.mp hp
      have h1 := (name_free (H q hq)).2
      have h2 := rowVal_len (H q hq)
      exact ⟨by show q.name.length ≤ 10; omega, by show (rowVal q).length ≤ 60; omega⟩
    intro h5 t5 u5 G
    rw [← sent0_rows]
    dsimp only [StrBack]
    walk_at "go"
    refine r_range1 G ?_
    intro r h6 t6 u1 u2 u3 hr G
    refine for_range (N := hops) C.hn G hr rfl (by omega) (fun i m' nw => nw = (lst, listOf ib cb) :: (x, instObj 243 dx) :: (dx, dictOf (hes w k lst) 1) :: (news ++ tl) ∧ ∃ u, m' "sent" = some (.str (S (sentN i (sent0 hs))) u)) ⟨rfl, _, rfl⟩ ?_ ?_
    · intro I i tv h7 t7 m7 nw oI hi pt1 GG
      refine hideT fun Z0 hZ => ?_
      obtain ⟨enw, us, msn⟩ := pt1
      have G := GG.to1 enw
      obtain ⟨ls, els, hls⟩ := sent_is i H
      have hlen : (sentN i (sent0 hs)).length ≤ 1000000 := by
        have h1 := sentN_len (sent0 hs) i
        have h2 := sent0_len H
        have h4 : 2 ^ i ≤ 4 := by
          rcases (by omega : i = 0 ∨ i = 1) with rfl | rfl <;> decide
        have h5 : 2 ^ i * (sent0 hs).length ≤ 4 * (47 * 3 + 2) := Nat.mul_le_mul h4 (by rw [h3] at h2; exact h2)
        omega
      walk_at "go"
      refine quotedata_rows C G els hls hlen ?_
      intro h8 k8 u8 G
      rw [← sentN_succ]
      dsimp only
      walk_at "go"
      exact hZ _ _ ⟨_, _, _, _, rfl, G, rfl, _, rfl⟩
    · rintro h7 t7 m7 nw ⟨enw, us, msn⟩ GG
      have G := GG.to enw
      dsimp only
      walk_at "go"
      refine hY _ _ ⟨_, _, G, fun G2 => h _ _ _ (G2.sub ?_)⟩
      exact (((List.sublist_append_left news tl).cons _).cons _).cons _
end
end
-- K8
section
open PySem PySem.W PyProof.Rows PySem.Calls PySem.Spec PyProof.V
theorem fillK8 : hd.heap_1 = hd.heap_1 ∧ PySem.Challenge.rw_pe0228_01 = PySem.Challenge.rw_pe0228_01 := by
  k_fill
  exact ⟨rfl, rfl⟩
/-- numbers of a list of the ledger: none below zero -/
def NumsAt (its : Array Value) : Prop := its.size = 6 ∧ ∀ (j : Nat) (v : Value), its[j]? = some v → ∃ (a : Int) (t : Tok), v = Value.int a t ∧ 0 ≤ a
theorem NumsAt.set {its : Array Value} (h : NumsAt its) (i : Nat) {a : Int} {t : Tok} (ha : 0 ≤ a) : NumsAt (its.setIfInBounds i (.int a t)) := by
  refine ⟨by simpa using h.1, fun j v hjv => ?_⟩
  rw [Array.getElem?_setIfInBounds] at hjv
  split at hjv
  · split at hjv
    · cases hjv; exact ⟨_, _, rfl, ha⟩
    · cases hjv
  · exact h.2 _ _ hjv
theorem NumsAt.at {its : Array Value} (h : NumsAt its) {j : Nat} (hj : j < 6) : ∃ (a : Int) (t : Tok), its[j]? = some (.int a t) ∧ 0 ≤ a := by
  obtain ⟨v, hv⟩ : ∃ v, its[j]? = some v := ⟨_, Array.getElem?_eq_getElem (by rw [h.1]; exact hj)⟩
  obtain ⟨a, t, rfl, ha⟩ := h.2 _ _ hv
  exact ⟨a, t, hv, ha⟩
/-- the heads so far -/
inductive HeadsJ (Dn Dh : Addr) (rest : List (Addr × Obj)) (i : Nat) : (Str → Option Value) → List (Addr × Obj) → Prop
  | mk {m' : Str → Option Value} {tl : List (Addr × Obj)} {ih : Array Value} {ch : Nat} {hs : List Head} : m' "numbers" = some (.ref Dn) → m' "heads" = some (.ref Dh) → DatAll tl ih.toList (hs.map headD) → hs.length = i → (∀ h ∈ hs, h.Ok) →
      HeadsJ Dn Dh rest i m' ((Dh, listOf ih ch) :: (tl ++ rest))
def ValOk (o : Option (List Nat)) : Prop := ∀ x, o = some x → x.length ≤ 4 ∧ ∀ c ∈ x, c ∈ signs7
/-- the values so far -/
inductive ValsJ (Dn Dh V : Addr) (h : Nat) (rest : List (Addr × Obj)) (i : Nat) : (Str → Option Value) → List (Addr × Obj) → Prop
  | mk {m' : Str → Option Value} {iv : Array Value} {cv : Nat} {os : List (Option (List Nat))} {th : Tok} : m' "numbers" = some (.ref Dn) → m' "heads" = some (.ref Dh) → m' "values" = some (.ref V) → m' "h" = some (.int (h : Int) th) → DatAll [] iv.toList (os.map optD) → os.length = i → (∀ o ∈ os, ValOk o) →
      ValsJ Dn Dh V h rest i m' ((V, listOf iv cv) :: rest)
/-- a value so far -/
inductive ValJ (Dn Dh V : Addr) (h : Nat) (rest : List (Addr × Obj)) (i : Nat) : (Str → Option Value) → List (Addr × Obj) → Prop
  | mk {m' : Str → Option Value} {v : List Nat} {tv : Tok} {r : Int} {tr th : Tok} : m' "numbers" = some (.ref Dn) → m' "heads" = some (.ref Dh) → m' "values" = some (.ref V) → m' "h" = some (.int (h : Int) th) → m' "value" = some (.str (S v) tv) → v.length = i → (∀ c ∈ v, c ∈ signs7) → m' "rest" = some (.int r tr) → 0 ≤ r →
      ValJ Dn Dh V h rest i m' rest
theorem menu_at : ∀ j : Nat, j < 7 → (seqIndex? (j : Int) (Str.ofString "aA \"\\.\t").length).bind ((Str.ofString "aA \"\\.\t").cps[·]?) = some (signs7.getD j 0) := by
  intro j hj
  rcases (by omega : j = 0 ∨ j = 1 ∨ j = 2 ∨ j = 3 ∨ j = 4 ∨ j = 5 ∨ j = 6) with rfl | rfl | rfl | rfl | rfl | rfl | rfl <;> decide +kernel
theorem xxy_at : ∀ j : Nat, j < 3 → (seqIndex? (j : Int) (Str.ofString "XxY").length).bind ((Str.ofString "XxY").cps[·]?) = some ([88, 120, 89].getD j 0) := by
  intro j hj
  rcases (by omega : j = 0 ∨ j = 1 ∨ j = 2) with rfl | rfl | rfl <;> decide +kernel
theorem xxy_in : ∀ j : Nat, j < 3 → [88, 120, 89].getD j 0 ∈ [88, 120, 89] := by decide
section
variable {prog : Program} {w : World} {A : Around} {L : Addr} {h₀ : Heap} {m : Str → Option Value} {news : List (Addr × Obj)} {s : Shared} {E : Value → Shared → Prop}
theorem r_own {value slice : PySem.Expr} {l : Addr} {c q : Nat} {t1 t2 u : Tok} {Q : Value → Shared → Prop} (G : Lg h₀ L s.heap m news) (hm : (l, listOf [.none, .str (Str.ofString "v") t1, .str (Str.ofString ".") t2].toArray c) ∈ news) (hq : q < 3)
    (h : ∀ ov o, DatIn [] ov (optD o) → (o = none ∨ o = some [118] ∨ o = some [46]) → Q ov s)
    (hs : subscripted slice false (.ref l) (.int (q : Int) u) = operate [.ref l, .int (q : Int) u] (getItem (.ref l) (.int (q : Int) u)) := by with_unfolding_all rfl) :
    wpAny (model prog w) A (subscriptTail value slice (.ref l) (.int (q : Int) u)) Q E s := by
  have key : ∃ ov o, ([.none, .str (Str.ofString "v") t1, .str (Str.ofString ".") t2] : List Value).toArray[q]? = some ov ∧ DatIn [] ov (optD o) ∧ (o = none ∨ o = some [118] ∨ o = some [46]) := by
    rcases (by omega : q = 0 ∨ q = 1 ∨ q = 2) with rfl | rfl | rfl
    · exact ⟨_, none, rfl, .none, .inl rfl⟩
    · refine ⟨_, some [118], rfl, ?_, .inr (.inl rfl)⟩
      rw [show Str.ofString "v" = S [118] from by decide +kernel]; exact .str _ _
    · refine ⟨_, some [46], rfl, ?_, .inr (.inr rfl)⟩
      rw [show Str.ofString "." = S [46] from by decide +kernel]; exact .str _ _
  obtain ⟨ov, o, e, hd, ho⟩ := key
  exact r_item G hm (by omega) (by omega) (by rw [Int.toNat_natCast]; exact e) (h ov o hd ho) hs
end
theorem Lg.tup2 {L : Addr} {h₀ h : Heap} {m : Str → Option Value} {T : Addr} {a : Value} {x y : Int} {th : Tok} {l : List (Addr × Obj)} (G : Lg h₀ L h m ((T, tupO [a, .int x th] 0) :: l)) (e : x = y) : ∃ t, Lg h₀ L h m ((T, tupO [a, .int y t] 0) :: l) := ⟨th, e ▸ G⟩
theorem NumsAt.ints {its : Array Value} (h : NumsAt its) : ∃ ns, IntsAre its.toList ns := by
  have : ∀ l : List Value, (∀ v ∈ l, ∃ (a : Int) (t : Tok), v = Value.int a t ∧ 0 ≤ a) → ∃ ns, IntsAre l ns := by
    intro l
    induction l with
    | nil => exact fun _ => ⟨_, .nil⟩
    | cons v r ih =>
      intro hv
      obtain ⟨a, t, rfl, -⟩ := hv v (.head _)
      obtain ⟨ns, hr⟩ := ih fun x hx => hv x (.tail _ hx)
      exact ⟨_, .cons a t hr⟩
  refine this _ fun v hv => ?_
  obtain ⟨j, hj, rfl⟩ := List.getElem_of_mem hv
  exact h.2 j _ (by simp)
theorem menu_in : ∀ j : Nat, j < 7 → signs7.getD j 0 ∈ signs7 := by decide
section
variable {prog : Program} {w : World} {A : Around} {s : Shared} {E : Value → Shared → Prop}
theorem r_mill {t u : Tok} {Q : Value → Shared → Prop} (h : ∀ t' k, Q (.int 1000000 t') { s with toks := k }) : wpAny (model prog w) A (binaryOp .Pow (.int 10 t) (.int 6 u)) Q E s :=
  AutoIntOps.pow_4 (by decide) (by decide) (by decide) (by decide) (by decide +kernel) (h _ _)
end
section
variable {pr : Program} {loose : List Str} {mean : ExcName → Option Value} {mg mb : Str → Option Value} {prog : Program} {w : World} {n : Nat} {A : Around} {env : Env} {L : Addr} {h₀ : Heap}
  {m : Str → Option Value} {news : List (Addr × Obj)} {s : Shared} {E : Value → Shared → Prop}
set_option maxHeartbeats 20000000
theorem law_heads {Q : Value → Shared → Prop} {sa : Addr} {vs : List Value} {ns : List Int}
    (C : Cx (hd.heap_1 w.params) pr loose mean mg mb (n + 1) A env L h₀) (G : Lg h₀ L s.heap m news) (hS : h₀.IsList sa vs.toArray) (hI : IntsAre vs ns) (hlen : ns.length ≤ 63)
    (h : ∀ T Dh h' t fz (ih : Array Value) ch (hs : List Head) hops th, (T, tupO [.ref Dh, .int ((hops : Nat) : Int) th] 0) ∈ fz → (Dh, listOf ih ch) ∈ fz → DatAll fz ih.toList (hs.map headD) → (∀ h ∈ hs, h.Ok) → hs.length = 3 → hops ≤ 2 → Lg h₀ L h' m (fz ++ news) → Q (.ref T) { s with heap := h', toks := t }) :
    wpAny (model prog w) A (call (.ref 261) [.ref sa]) Q E s := by
  refine enter (binds := [(Str.ofString "script", .ref sa)]) C G (by k_is) (by k_is) (BindsTo.of_eq rfl) (locs rfl) rfl rfl rfl (by decide) ?_
  intro g L' h₁ C st' G
  refine hideQ fun Y0 hY => ?_
  have hS' : g.IsList sa vs.toArray := by obtain ⟨o, e, r⟩ := hS; exact ⟨o, st' _ _ e, r⟩
  walk_at "go"
  rename Addr => Dn
  walk_at "go"
  refine wpAny_Slice (evalPart_none_step (evalPart_some_step ?_))
  walk_at "go"
  refine evalPart_none_step ?_
  refine r_part G (by obtain ⟨o, e, r⟩ := hS'; exact ⟨o, G.F.keep _ _ e, r⟩) .none (.int 18 _) (by rw [List.size_toArray, hI.length]; omega) ?_
  intro D2 h2 G
  dsimp only
  walk_at "go"
  have hI2 : IntsAre (slicePick vs.toArray none (some 18) none).toList (ns.take 18) := slice_ints_uptoW hI (by decide)
  have hsz2 : (slicePick vs.toArray none (some 18) none).size = (ns.take 18).length := by rw [← hI2.length]; simp
  generalize slicePick vs.toArray none (some 18) none = sp at *
  have hN : (ns.take 18).length ≤ 18 := by rw [List.length_take]; omega
  have hN2 : (ns.take 18).length ≤ ns.length := by rw [List.length_take]; omega
  refine len_list (G.lst (.head _)) (by rw [hsz2]; omega) ?_
  walk_at "go"
  refine r_range1 G ?_
  intro r h3 t3 u1 u2 u3 hr G
  refine for_range (N := (ns.take 18).length) C.hn G hr (by rw [hsz2]) (by omega) (fun i m' nw => ∃ its c, nw = (D2, listOf sp 0) :: (Dn, listOf its c) :: news ∧ NumsAt its ∧ m' "numbers" = some (.ref Dn) ∧ m' "script" = some (.ref sa)) ⟨_, _, rfl, ⟨rfl, ?_⟩, rfl, rfl⟩ ?_ ?_
  · intro j v hj
    have hj8 : j < 6 := by
      rcases Nat.lt_or_ge j 6 with q | q
      · exact q
      · rw [Array.getElem?_eq_none (by simpa using q)] at hj; cases hj
    rcases (by omega : j = 0 ∨ j = 1 ∨ j = 2 ∨ j = 3 ∨ j = 4 ∨ j = 5) with rfl | rfl | rfl | rfl | rfl | rfl <;> (cases hj; exact ⟨_, _, rfl, by decide⟩)
  · intro I i tv h4 t4 m4 nw oI hi pt1 GG
    refine hideT fun Z0 hZ => ?_
    obtain ⟨its, c, enw6, hnu, mn, ms⟩ := pt1
    have G := GG.to1 enw6
    walk_at "go"
    have hj : i % 6 < 6 := Nat.mod_lt _ (by decide)
    have fm : ((i : Nat) : Int).fmod 6 = ((i % 6 : Nat) : Int) := by rw [Int.fmod_eq_emod_of_nonneg _ (by decide)]; omega
    obtain ⟨a, ta, hv, ha0⟩ := hnu.at hj
    have h6 := hnu.1
    have hvs : i < vs.length := by rw [hI.length]; omega
    obtain ⟨b, tb, hvb, -⟩ := ints_at hI hvs
    have hvb : vs.toArray[i]? = some (.int b tb) := by simpa using hvb
    walk_at "go"
    rw [fm]
    refine r_item G (by walk_at "mem") (by omega) (by omega) (by rw [Int.toNat_natCast]; exact hv) ?_
    walk_at "go"
    refine r_itemB (by obtain ⟨o, e, r⟩ := hS'; exact ⟨o, G.F.keep _ _ e, r⟩) (by omega) (by omega) (by rw [Int.toNat_natCast]; exact hvb) ?_
    walk_at "go"
    refine r_mill ?_
    intro t9 k9
    walk_at "go"
    rw [fm]
    have hb12 : 0 ≤ b.fmod 1000000 := by rw [Int.fmod_eq_emod_of_nonneg _ (by decide)]; omega
    generalize b.fmod 1000000 = b12 at *
    refine r_setItem (i := 2) G rfl (by omega) (by omega) (by omega) ?_
    intro h5 G
    dsimp only [List.set_cons_succ, List.set_cons_zero] at G
    dsimp only
    walk_at "go"
    exact hZ _ _ ⟨_, _, _, _, rfl, G, _, _, rfl, hnu.set _ (by omega), mn, ms⟩
  · rintro h4 t4 m4 nw ⟨its, c, enw7, hnu, mn, ms⟩ GG
    have G := GG.to enw7
    dsimp only
    walk_at "go"
    rename Addr => Dh
    refine r_range1 G ?_
    intro r h5 t5 u1 u2 u3 hr G
    refine for_range (N := 3) C.hn G hr rfl (by decide) (HeadsJ Dn Dh ((D2, listOf sp 0) :: (Dn, listOf its c) :: news)) ?_ ?_ ?_
    · exact .mk (tl := []) (hs := []) mn rfl .nil rfl (by simp)
    · intro I i tv h6 t6 m6 nw oI hi pt1 GG
      refine hideT fun Z0 hZ => ?_
      rcases pt1 with ⟨mn, mh, hd3, hs3, hok⟩
      rename_i tl ih ch hs
      have G := GG
      walk_at "go"
      rename Addr => V
      walk_at "go"
      refine wpAny_Slice (evalPart_some_step ?_)
      walk_at "go"
      refine mul_int ?_ (by mul_fits)
      refine evalPart_some_step ?_
      walk_at "go"
      refine mul_int ?_ (by mul_fits)
      walk_at "go"
      refine evalPart_none_step ?_
      have hDn : (Dn, listOf its c) ∈ (Dh, listOf ih ch) :: (tl ++ ((D2, listOf sp 0) :: (Dn, listOf its c) :: news)) := .tail _ (List.mem_append_right _ (.tail _ (.head _)))
      refine r_part G (G.lst (.tail _ (.tail _ hDn))) (.int (2 * (i : Int)) _) (.int (2 * (i : Int) + 2) _) (by rw [hnu.1]; decide) ?_
      intro Dp h7 G
      have hpick : slicePick its (some (2 * (i : Int))) (some (2 * (i : Int) + 2)) none = ((its.toList.drop (2 * i)).take 2).toArray := by
        have := slicePick_run its (2 * i) (2 * i + 2) (by rw [hnu.1]; omega) (by omega)
        rw [show 2 * i + 2 - 2 * i = 2 by omega] at this
        exact this
      rw [hpick] at G
      obtain ⟨na, ta, hna, hna0⟩ := hnu.at (j := 2 * i) (by omega)
      obtain ⟨nb, tb, hnb, hnb0⟩ := hnu.at (j := 2 * i + 1) (by omega)
      have hnums : ∀ (j : Nat) (v : Value), ((its.toList.drop (2 * i)).take 2).toArray[j]? = some v → ∃ (a : Int) (t : Tok), v = .int a t ∧ 0 ≤ a := by
        intro j v hv
        rw [List.getElem?_toArray] at hv
        have hm := List.mem_of_mem_drop (List.mem_of_mem_take (List.mem_of_getElem? hv))
        obtain ⟨k, hk, rfl⟩ := List.getElem_of_mem hm
        exact hnu.2 k _ (by simp)
      have hsz : ((its.toList.drop (2 * i)).take 2).toArray.size = 2 := by
        have := hnu.1
        simp; omega
      generalize ((its.toList.drop (2 * i)).take 2).toArray = pr2 at *
      have G := G.swap
      refine for_list (its := pr2) C.hn G (ValsJ Dn Dh V i ((Dp, listOf pr2 0) :: (I, oI) :: (Dh, listOf ih ch) :: (tl ++ ((D2, listOf sp 0) :: (Dn, listOf its c) :: news)))) ?_ ?_ ?_ ?_
      · rintro j m' nw ⟨⟩
        exact .inr ⟨_, .tail _ (.head _), rfl, _, rfl⟩
      · exact .mk (os := []) mn mh rfl rfl .nil rfl (by simp)
      · intro I2 j v h8 t8 m8 nw2 oI2 hj2 hv pt2 GG
        refine hideT fun Z1 hZ1 => ?_
        rcases pt2 with ⟨mn, mh, mv, mhh, hd4, hs4, hok4⟩
        rename_i iv cv os th
        have G := GG
        obtain ⟨a, tna, rfl, ha0⟩ := hnums j v hv
        walk_at "go"
        obtain ⟨N, hN, eN⟩ : ∃ j : Nat, j < 5 ∧ a.fmod 5 = (j : Int) := fmod_lt a 5 (by decide)
        rw [eN]
        have hr0 : 0 ≤ a.fdiv 5 := by rw [Int.fdiv_eq_ediv_of_nonneg _ (by decide)]; omega
        generalize a.fdiv 5 = r0 at *
        refine r_range1 G ?_
        intro r9 h9 t9 w1 w2 w3 hr9 G
        refine for_range (N := N) C.hn G hr9 rfl (by omega) (ValJ Dn Dh V i ((I2, oI2) :: (V, listOf iv cv) :: (Dp, listOf pr2 0) :: (I, oI) :: (Dh, listOf ih ch) :: (tl ++ ((D2, listOf sp 0) :: (Dn, listOf its c) :: news)))) ?_ ?_ ?_
        · exact .mk (v := []) mn mh mv mhh rfl rfl (by simp) rfl hr0
        · intro I3 k3 tv3 h10 t10 m10 nw3 oI3 hk3 pt3 GG
          refine hideT fun Z2 hZ2 => ?_
          rcases pt3 with ⟨mn, mh, mv, mhh, mvl, hvl, hvs, mrs, hr3⟩
          rename_i vv tvv rr trr th2
          have G := GG
          walk_at "go"
          obtain ⟨q, hq, eq⟩ : ∃ j : Nat, j < 7 ∧ rr.fmod 7 = (j : Int) := fmod_lt rr 7 (by decide)
          rw [eq]
          refine r_sign (by rw [decide_eq_false (by omega), decide_eq_false (by omega)]; rfl) (menu_at q hq) ?_
          walk_at "go"
          refine r_addS (by simp; omega) ?_
          intro t11 k11
          walk_at "go"
          have hr4 : 0 ≤ rr.fdiv 7 := by rw [Int.fdiv_eq_ediv_of_nonneg _ (by decide)]; omega
          refine hZ2 _ _ ⟨_, _, _, _, rfl, G, .mk mn mh mv mhh rfl (by simp [hvl]) ?_ rfl hr4⟩
          intro c hc
          rcases List.mem_append.mp hc with hc | hc
          · exact hvs c hc
          · rw [List.mem_singleton.mp hc]; exact menu_in q hq
        · rintro h10 t10 m10 nw3 ⟨mn, mh, mv, mhh, mvl, hvl, hvs, mrs, hr3⟩ G
          rename_i vv tvv rr trr th2
          dsimp only
          have hivs : iv.size ≤ 2 := by
            have := hd4.length
            simp only [Array.length_toList, List.length_map] at this
            omega
          have hvok : ValOk (some vv) := by
            intro x hx
            cases hx
            exact ⟨by omega, hvs⟩
          walk_at "go"
          by_cases hv0 : vv = []
          · subst hv0
            refine ite_neg (by decide) ?_
            walk_at "go"
            by_cases hr5 : (rr.fmod 2 == 1) = true
            · refine ite_pos hr5 ?_
              walk_at "go"
              refine r_append (i := 1) G rfl (by omega) ?_
              intro h12 c12 G
              dsimp only [List.set_cons_succ, List.set_cons_zero] at G
              dsimp only
              walk_at "go"
              refine hZ1 _ _ ⟨_, _, _, _, rfl, G, .mk (os := os ++ [some []]) mn mh mv mhh ?_ (by simp [hs4]) ?_⟩
              · rw [List.map_append, Array.toList_push]
                exact hd4.append (.one (.str _ _))
              · intro o ho
                rcases List.mem_append.mp ho with ho | ho
                · exact hok4 o ho
                · rw [List.mem_singleton.mp ho]; exact hvok
            · refine ite_neg hr5 ?_
              walk_at "go"
              refine r_append (i := 1) G rfl (by omega) ?_
              intro h12 c12 G
              dsimp only [List.set_cons_succ, List.set_cons_zero] at G
              dsimp only
              walk_at "go"
              refine hZ1 _ _ ⟨_, _, _, _, rfl, G, .mk (os := os ++ [none]) mn mh mv mhh ?_ (by simp [hs4]) ?_⟩
              · rw [List.map_append, Array.toList_push]
                exact hd4.append (.one .none)
              · intro o ho
                rcases List.mem_append.mp ho with ho | ho
                · exact hok4 o ho
                · rw [List.mem_singleton.mp ho]; exact fun x hx => nomatch hx
          · refine ite_pos ?_ ?_
            · rw [bne_iff_ne]
              intro e
              exact hv0 (S_inj (b := []) e)
            walk_at "go"
            refine r_append (i := 1) G rfl (by omega) ?_
            intro h12 c12 G
            dsimp only [List.set_cons_succ, List.set_cons_zero] at G
            dsimp only
            walk_at "go"
            refine hZ1 _ _ ⟨_, _, _, _, rfl, G, .mk (os := os ++ [some vv]) mn mh mv mhh ?_ (by simp [hs4]) ?_⟩
            · rw [List.map_append, Array.toList_push]
              exact hd4.append (.one (.str _ _))
            · intro o ho
              rcases List.mem_append.mp ho with ho | ho
              · exact hok4 o ho
              · rw [List.mem_singleton.mp ho]; exact hvok
      · rintro h8 t8 m8 nw2 ⟨mn, mh, mv, mhh, hd4, hs4, hok4⟩ G
        rename_i iv cv os th
        dsimp only
        obtain ⟨dd, hdd, edd⟩ : ∃ j : Nat, j < 3 ∧ (na.fdiv 12005).fmod 3 = (j : Int) := fmod_lt (na.fdiv 12005) 3 (by decide)
        obtain ⟨qo, hqo, eqo⟩ : ∃ j : Nat, j < 3 ∧ (nb.fdiv 12005).fmod 3 = (j : Int) := fmod_lt (nb.fdiv 12005) 3 (by decide)
        obtain ⟨o1, o2, rfl⟩ : ∃ o1 o2, os = [o1, o2] := by
          rw [hsz] at hs4
          match os, hs4 with
          | [a, b], _ => exact ⟨a, b, rfl⟩
        obtain ⟨iv1, iv2, hiv, hi1, hi2⟩ : ∃ x y, iv.toList = [x, y] ∧ DatIn [] x (optD o1) ∧ DatIn [] y (optD o2) := by
          cases hx : iv.toList with
          | nil => rw [hx] at hd4; cases hd4
          | cons x r =>
            rw [hx] at hd4
            cases hd4 with
            | cons h1 r1 =>
              cases r1 with
              | cons h2 r2 => cases r2; exact ⟨_, _, rfl, h1, h2⟩
        have hg1 : iv[0]? = some iv1 := by rw [← Array.getElem?_toList, hiv]; rfl
        have hg2 : iv[1]? = some iv2 := by rw [← Array.getElem?_toList, hiv]; rfl
        have hDn2 : (Dn, listOf its c) ∈ (V, listOf iv cv) :: (Dp, listOf pr2 0) :: (I, oI) :: (Dh, listOf ih ch) :: (tl ++ ((D2, listOf sp 0) :: (Dn, listOf its c) :: news)) := .tail _ (.tail _ (.tail _ hDn))
        clear hd4 hDn
        walk_at "go"
        refine mul_int ?_ (by mul_fits)
        walk_at "go"
        refine r_item G (by walk_at "mem") (by omega) (by omega) (by rw [show (2 * (i : Int)).toNat = 2 * i by omega]; exact hna) ?_
        walk_at "go"
        refine mul_int ?_ (by mul_fits)
        walk_at "go"
        refine r_item G (by walk_at "mem") (by omega) (by omega) (by rw [show (2 * (i : Int) + 1).toNat = 2 * i + 1 by omega]; exact hnb) ?_
        walk_at "go"
        rw [eqo]
        refine r_own G (.head _) hqo ?_
        intro ov o hod hoo
        walk_at "go"
        rw [edd]
        refine r_mulC (c := 46) (by decide +kernel) (by omega) ?_
        intro t12 k12
        walk_at "go"
        refine r_sign (by rw [decide_eq_false (by omega), decide_eq_false (by omega)]; rfl) (xxy_at i hi) ?_
        walk_at "go"
        refine r_addS (by simp; omega) ?_
        intro t13 k13
        walk_at "go"
        refine r_item G (by walk_at "mem") (by decide) (by decide) hg1 ?_
        walk_at "go"
        refine r_item G (by walk_at "mem") (by decide) (by decide) hg2 ?_
        walk_at "go"
        have hihs : ih.size ≤ 3 := by
          have := hd3.length
          simp only [Array.length_toList, List.length_map] at this
          omega
        refine r_append (i := 5) G rfl (by omega) ?_
        intro h14 c14 G
        dsimp only [List.set_cons_succ, List.set_cons_zero] at G
        dsimp only
        walk_at "go"
        have G := (G.sub (List.Sublist.cons_cons _ (.cons _ (.cons _ (.cons _ (List.Sublist.refl _)))))).back 2
        refine hZ _ _ ⟨_, _, _, _, rfl, G, .mk (tl := (_, _) :: tl) (hs := hs ++ [⟨dd, [88, 120, 89].getD i 0, o, o1, o2⟩]) mn mh ?_ (by simp [hs3]) ?_⟩
        · rw [List.map_append, Array.toList_push]
          exact (hd3.mono fun _ h => .tail _ h).append (.one (.tuple (.head _) (.cons (.str _ _) (.cons (hod.mono fun _ h => absurd h List.not_mem_nil) (.cons (hi1.mono fun _ h => absurd h List.not_mem_nil) (.cons (hi2.mono fun _ h => absurd h List.not_mem_nil) .nil))))))
        · intro hh hhm
          rcases List.mem_append.mp hhm with hhm | hhm
          · exact hok hh hhm
          · rw [List.mem_singleton.mp hhm]
            exact ⟨by show dd ≤ 2; omega, xxy_in i hi, hoo, hok4 o1 (.head _), hok4 o2 (.tail _ (.head _))⟩
    · rintro h6 t6 m6 nw ⟨mn, mh, hd3, hs3, hok⟩ G
      rename_i tl ih ch hs
      dsimp only
      have hDn : (Dn, listOf its c) ∈ (Dh, listOf ih ch) :: (tl ++ ((D2, listOf sp 0) :: (Dn, listOf its c) :: news)) := .tail _ (List.mem_append_right _ (.tail _ (.head _)))
      walk_at "go"
      obtain ⟨nss, hnss⟩ := hnu.ints
      refine sumK (vs := its.toList) C.hn G.F G.N (by rw [Array.toArray_toList]; exact G.lst hDn) hnss ?_
      intro h7 t7 u7 F7 N7
      have G : Lg g L' h7 m6 _ := ⟨F7, N7, G.nd⟩
      obtain ⟨q, hq, eq⟩ : ∃ j : Nat, j < 2 ∧ nss.sum.fmod 2 = (j : Int) := fmod_lt nss.sum 2 (by decide)
      walk_at "go"
      have e : (1 : Int) + nss.sum.fmod 2 = ((1 + q : Nat) : Int) := by omega
      obtain ⟨th, G⟩ := G.tup2 e
      refine hY _ _ ⟨_, _, G, fun G2 => h D Dh _ _ ((D, tupO [.ref Dh, .int ((1 + q : Nat) : Int) th] 0) :: (Dh, listOf ih ch) :: (tl ++ [(D2, listOf sp 0), (Dn, listOf its c)])) ih ch hs (1 + q) th (.head _) (.tail _ (.head _)) ?_ hok hs3 (by omega) (G2.to ?_)⟩
      · exact hd3.mono fun _ h => .tail _ (.tail _ (List.mem_append_left _ h))
      · simp
end
end
-- A4
section
theorem strands_len (hops : Nat) (hs : List Head) (i : Nat) : ((hs.take i).flatMap (strandsOf hops)).length ≤ 4 * hs.length := by
  have : ∀ l : List Head, (l.flatMap (strandsOf hops)).length ≤ 4 * l.length := by
    intro l
    induction l with
    | nil => exact Nat.zero_le _
    | cons h r ih =>
      rw [List.flatMap_cons, List.length_append, List.length_cons]
      have : (strandsOf hops h).length ≤ 4 := by unfold strandsOf; cases h.own <;> simp
      omega
  refine Nat.le_trans (this _) (Nat.mul_le_mul_left _ ?_)
  rw [List.length_take]; omega
/-- how much a reading may hold -/
def Due.small (d : Due) (n : Nat) : Prop := d.words.length + d.word.length ≤ n
theorem Due.nl_small {d : Due} {n c : Nat} (h : d.small n) : (d.nl c).small n := by
  obtain ⟨e1, -, e3⟩ := d.nl_word c
  unfold Due.small
  rw [e1, e3]; exact h
theorem Due.add_small {d : Due} {n c : Nat} (h : d.small n) : (d.add c).small (n + 1) := by
  unfold Due.small at *
  show d.words.length + (d.word ++ [c]).length ≤ _
  rw [List.length_append, List.length_singleton]; omega
theorem Due.push_small {d : Due} {n : Nat} (h : d.small n) : d.push.small (n + 1) := by
  unfold Due.small at *
  show (d.words ++ [(d.word, d.row)]).length + 0 ≤ _
  rw [List.length_append, List.length_singleton]; omega
theorem Due.small_mono {d : Due} {n k : Nat} (h : d.small n) (hk : n ≤ k) : d.small k := Nat.le_trans h hk
theorem onSign_small {d : Due} {n c : Nat} (h : d.small n) : (onSign d c).small (n + 1) := by
  unfold onSign
  split
  · exact Due.add_small (Due.nl_small h)
  · split
    · exact Due.small_mono (Due.nl_small h) (Nat.le_succ n)
    · exact Due.push_small (Due.nl_small h)
theorem onVal_small {d : Due} {n c : Nat} (h : d.small n) : (onVal d c).small (n + 1) := by
  unfold onVal
  split
  · exact Due.add_small h
  · split
    · exact Due.small_mono h (Nat.le_succ n)
    · exact Due.push_small h
theorem onOpen_small {d : Due} {n : Nat} (h : d.small n) : (onOpen d).small (n + 1) := by
  unfold onOpen
  split
  · exact Due.push_small h
  · exact Due.add_small h
theorem onClose_small {d : Due} {n : Nat} {v : List Nat} (h : d.small n) : (onClose d v).small (n + 1) := by
  unfold onClose
  split
  · exact Due.small_mono h (Nat.le_succ n)
  · exact Due.add_small (c := 34) h
theorem signs_small : ∀ (l : List Nat) {d : Due} {n : Nat}, d.small n → (l.foldl onSign d).small (n + l.length)
  | [], _, _, h => h
  | c :: l, d, n, h => by
    have := signs_small l (onSign_small (c := c) h)
    rw [List.foldl_cons, List.length_cons, show n + (l.length + 1) = n + 1 + l.length by omega]
    exact this
theorem vals_small : ∀ (l : List Nat) {d : Due} {n : Nat}, d.small n → (l.foldl onVal d).small (n + l.length)
  | [], _, _, h => h
  | c :: l, d, n, h => by
    have := vals_small l (onVal_small (c := c) h)
    rw [List.foldl_cons, List.length_cons, show n + (l.length + 1) = n + 1 + l.length by omega]
    exact this
theorem onStrand_small {d : Due} {n : Nat} {p : List Nat × List Nat} (h : d.small n) (hp : p.1.length ≤ 20 ∧ p.2.length ≤ 4) : (onStrand d p).small (n + 26) := by
  have h1 := signs_small p.1 h
  unfold onStrand
  split
  · exact Due.small_mono h1 (by omega)
  · exact Due.small_mono (onClose_small (v := p.2) (vals_small p.2 (onOpen_small h1))) (by omega)
theorem head_lens {hops : Nat} {h : Head} (H : h.Ok) (hh : hops ≤ 2) : ∀ p ∈ strandsOf hops h, p.1.length ≤ 20 ∧ p.2.length ≤ 4 := by
  intro p hp
  unfold strandsOf at hp
  cases e : h.own with
  | none =>
    rw [e] at hp
    simp only [List.mem_cons, List.not_mem_nil, or_false] at hp
    rcases hp with rfl | rfl | rfl
    · exact (strand_ok (lead_ok H hh) keyK_ok H.v1).len
    · exact (strand_ok leadS_ok keyM_ok H.v2).len
    · decide
  | some o =>
    rw [e] at hp
    simp only [List.mem_cons, List.not_mem_nil, or_false] at hp
    rcases hp with rfl | rfl | rfl | rfl
    · exact (own_ok H hh e).len
    · exact (strand_ok leadS_ok keyK_ok H.v1).len
    · exact (strand_ok leadS_ok keyM_ok H.v2).len
    · decide
theorem strand_lens {hops : Nat} {hs : List Head} (H : ∀ h ∈ hs, h.Ok) (hh : hops ≤ 2) {p : List Nat × List Nat} (hp : p ∈ strands hops hs) : p.1.length ≤ 20 ∧ p.2.length ≤ 4 := by
  rcases List.mem_append.mp hp with hp | hp
  · obtain ⟨h, hm, hp⟩ := List.mem_flatMap.mp hp
    exact head_lens (H h hm) hh p hp
  · rw [List.mem_singleton.mp hp]; decide
theorem due_bound {hops : Nat} {hs : List Head} (H : ∀ h ∈ hs, h.Ok) (hh : hops ≤ 2) (h3 : hs.length = 3) (i : Nat) : (((strands hops hs).take i).foldl onStrand ⟨[], [], false, 1⟩).small 400 := by
  have key : ∀ (l : List (List Nat × List Nat)) (d : Due) (n : Nat), (∀ p ∈ l, p.1.length ≤ 20 ∧ p.2.length ≤ 4) → d.small n → (l.foldl onStrand d).small (n + 26 * l.length) := by
    intro l
    induction l with
    | nil => exact fun _ _ _ h => h
    | cons p r ih =>
      intro d n hl h
      have := ih (onStrand d p) (n + 26) (fun q hq => hl q (.tail _ hq)) (onStrand_small h (hl p (.head _)))
      rw [List.foldl_cons, List.length_cons, show n + 26 * (r.length + 1) = n + 26 + 26 * r.length by omega]
      exact this
  have h1 := key ((strands hops hs).take i) ⟨[], [], false, 1⟩ 0 (fun p hp => strand_lens H hh (List.mem_of_mem_take hp)) (Nat.le_refl 0)
  refine Due.small_mono h1 ?_
  have h2 := strands_len hops hs 3
  rw [show hs.take 3 = hs from List.take_of_length_le (by omega)] at h2
  have h4 : (strands hops hs).length ≤ 13 := by unfold strands; rw [List.length_append, List.length_singleton]; omega
  have h5 : ((strands hops hs).take i).length ≤ 13 := Nat.le_trans (List.length_take_le' _ _) h4
  omega
end
-- K9
section
open PySem PySem.W PyProof.Rows PySem.Calls PySem.Spec PyProof.V
theorem fillK9 : hd.heap_1 = hd.heap_1 ∧ PySem.Challenge.rw_pe0228_01 = PySem.Challenge.rw_pe0228_01 := by
  k_fill
  exact ⟨rfl, rfl⟩
theorem if_val {M : Model} {A : Around} {c : Prop} [Decidable c] {x y : Sem Value} {R : Value → Shared → Prop} {E : Value → Shared → Prop} {s : Shared} (P : Value → Shared → Prop) (hP : ∀ v s', P v s' → R v s')
    (h1 : c → wpAny M A x P E s) (h2 : ¬ c → wpAny M A y P E s) : if c then wpAny M A x R E s else wpAny M A y R E s := by
  split
  · exact wpAny_mono (h1 (by assumption)) (fun v s' p => hP v s' p) fun _ _ z => z
  · exact wpAny_mono (h2 (by assumption)) (fun v s' p => hP v s' p) fun _ _ z => z
theorem name_head (h : Head) (H : h.Ok) : headN h.name = 46 ↔ h.dots ≠ 0 := by
  unfold Head.name headN
  cases hd : h.dots with
  | zero =>
    simp
    intro e
    have := H.c
    rw [e] at this
    revert this; decide
  | succ n => simp [List.replicate_succ]
/-- the strands of a header ahead of its parameters, and what leads the first parameter -/
def ledOf (hops : Nat) (h : Head) : List Nat × List (List Nat × List Nat) := match h.own with
  | some o => ([59, 32], [(lead0 hops h ++ o, [])])
  | none => (lead0 hops h, [])
theorem strands_led (hops : Nat) (h : Head) : strandsOf hops h = (ledOf hops h).2 ++ [strand (ledOf hops h).1 kK h.v1, strand [59, 32] kM h.v2] ++ [([13, 10], [])] := by
  unfold strandsOf ledOf
  cases h.own <;> rfl
theorem led_len {hops : Nat} {h : Head} (H : h.Ok) (hh : hops ≤ 2) : (ledOf hops h).1.length ≤ 7 := by
  have := (lead_ok H hh).2
  unfold ledOf
  cases h.own with
  | none => exact this
  | some o => exact (by decide : ([59, 32] : List Nat).length ≤ 7)
theorem perm_mid {α : Type} (l : List α) (x : α) (tl r : List α) : (l ++ x :: (tl ++ r)).Perm (x :: (tl ++ (l ++ r))) := by
  refine List.perm_middle.trans (.cons _ ?_)
  exact List.perm_append_comm_assoc l tl r
theorem strand_no {lead key : List Nat} {v : Option (List Nat)} (h : pv v = []) : strand lead key v = (lead ++ key, []) := if_pos h
theorem strand_yes {lead key : List Nat} {x : List Nat} (h : x ≠ []) : strand lead key (some x) = (lead ++ key ++ [61], x) := if_neg h
/-- the strands so far -/
inductive StrJ (hops : Nat) (ths : Tok) (Ds : Addr) (rest : List (Addr × Obj)) (ps : List (List Nat × List Nat)) : (Str → Option Value) → List (Addr × Obj) → Prop
  | mk {m' : Str → Option Value} {tl : List (Addr × Obj)} {is : Array Value} {cs : Nat} : m' "strands" = some (.ref Ds) → m' "hops" = some (.int (hops : Int) ths) → DatAll tl is.toList (ps.map rowD) → StrJ hops ths Ds rest ps m' ((Ds, listOf is cs) :: (tl ++ rest))
/-- .. and the parameters ahead -/
inductive LedJ (hops : Nat) (ths : Tok) (Ds : Addr) (vc vd : Value) (rest : List (Addr × Obj)) (ps : List (List Nat × List Nat)) (ld : List Nat) : (Str → Option Value) → List (Addr × Obj) → Prop
  | mk {m' : Str → Option Value} {tl : List (Addr × Obj)} {is : Array Value} {cs : Nat} {tld : Tok} : m' "strands" = some (.ref Ds) → m' "hops" = some (.int (hops : Int) ths) → m' "first" = some vc → m' "second" = some vd → m' "lead" = some (.str (S ld) tld) → DatAll tl is.toList (ps.map rowD) →
      LedJ hops ths Ds vc vd rest ps ld m' ((Ds, listOf is cs) :: (tl ++ rest))
theorem led_some {hops : Nat} {h : Head} {o : List Nat} (e : h.own = some o) : ledOf hops h = ([59, 32], [(lead0 hops h ++ o, [])]) := by unfold ledOf; rw [e]
theorem led_none {hops : Nat} {h : Head} (e : h.own = none) : ledOf hops h = (lead0 hops h, []) := by unfold ledOf; rw [e]
theorem S_nil : Str.ofString "" = S [] := by decide +kernel
theorem S_crlf : Str.ofString "\r\n" = S [13, 10] := by decide +kernel
theorem S_lf : Str.ofString "\n" = S [10] := by decide +kernel
theorem S_quote : Str.ofString "\"" = S [34] := by decide +kernel
theorem S_semi : Str.ofString "; " = S [59, 32] := by decide +kernel
theorem snoc_crlf {g h : Heap} {L D Ds : Addr} {m : Str → Option Value} {is : Array Value} {c : Nat} {t1 t2 : Tok} {tl news : List (Addr × Obj)} {ps : List (List Nat × List Nat)}
    (G : Lg g L h m ((D, tupO [.str (Str.ofString "\r\n") t1, .str (Str.ofString "") t2] 0) :: (Ds, listOf (is.push (.ref D)) c) :: (tl ++ news))) (hb : DatAll tl is.toList (ps.map rowD)) :
    ∃ tl2, Lg g L h m ((Ds, listOf (is.push (.ref D)) c) :: (tl2 ++ news)) ∧ DatAll tl2 (is.push (.ref D)).toList ((ps ++ [([13, 10], [])]).map rowD) := by
  refine ⟨(D, _) :: tl, G.back 1, ?_⟩
  rw [List.map_append, Array.toList_push]
  refine (hb.mono fun _ h => .tail _ h).append (.one (.tuple (.head _) ?_))
  rw [S_nil, S_crlf]
  exact .cons (.str _ _) (.cons (.str _ _) .nil)
/-- the law's own reading, its names and its list of words -/
inductive DueJ (Dw : Addr) (rest : List (Addr × Obj)) (d : Due) : (Str → Option Value) → List (Addr × Obj) → Prop
  | mk {m' : Str → Option Value} {tl : List (Addr × Obj)} {iw : Array Value} {cw : Nat} {t1 t2 : Tok} : m' "words" = some (.ref Dw) → m' "word" = some (.str (S d.word) t1) → m' "held" = some (.bool d.held) → m' "row" = some (.int (d.row : Int) t2) → DatAll tl iw.toList (d.words.map wordD) →
      DueJ Dw rest d m' ((Dw, listOf iw cw) :: (tl ++ rest))
theorem DueJ.row {Dw : Addr} {rest tl : List (Addr × Obj)} {e : Due} {c : Nat} {m' : Str → Option Value} {iw : Array Value} {cw : Nat} {t1 t2 : Tok} (mw : m' "words" = some (.ref Dw)) (mwd : m' "word" = some (.str (S e.word) t1)) (mhd : m' "held" = some (.bool e.held))
    (mrw : m' "row" = some (.int ((e.row : Int) + 1) t2)) (hb : DatAll tl iw.toList (e.words.map wordD)) (hc : c = 10) : DueJ Dw rest (e.nl c) m' ((Dw, listOf iw cw) :: (tl ++ rest)) := by
  have hrow : ((e.row : Int) + 1) = ((e.nl c).row : Int) := by rw [e.nl_row c, if_pos hc]; rfl
  obtain ⟨e1, e2, e3⟩ := e.nl_word c
  rw [hrow] at mrw
  rw [← e1] at mwd
  rw [← e2] at mhd
  rw [← e3] at hb
  exact .mk mw mwd mhd mrw hb
section
variable {pr : Program} {loose : List Str} {mean : ExcName → Option Value} {mg mb : Str → Option Value} {prog : Program} {w : World} {n : Nat} {A : Around} {env : Env} {L : Addr} {h₀ : Heap}
  {m : Str → Option Value} {news : List (Addr × Obj)} {s : Shared} {E : Value → Shared → Prop}
set_option maxHeartbeats 20000000
theorem law_due {Q : Value → Shared → Prop} {l : Addr} {its : Array Value} {c : Nat} {hs : List Head} {hops : Nat} {ths : Tok}
    (C : Cx (hd.heap_1 w.params) pr loose mean mg mb (n + 1) A env L h₀) (G : Lg h₀ L s.heap m news) (hl : (l, listOf its c) ∈ news) (hD : DatAll news its.toList (hs.map headD)) (H : ∀ h ∈ hs, h.Ok) (h3 : hs.length = 3) (hh : hops ≤ 2)
    (h : ∀ T Dw h' t fz (iw : Array Value) cw tr, (T, tupO [.ref Dw, .int ((dueD hops hs).row : Int) tr] 0) ∈ fz → (Dw, listOf iw cw) ∈ fz → DatAll fz iw.toList ((dueD hops hs).all.map wordD) → Lg h₀ L h' m (fz ++ news) → Q (.ref T) { s with heap := h', toks := t }) :
    wpAny (model prog w) A (call (.ref 275) [.ref l, .int (hops : Int) ths]) Q E s := by
  refine enter (binds := [(Str.ofString "heads", .ref l), (Str.ofString "hops", .int (hops : Int) ths)]) C G (by k_is) (by k_is) (BindsTo.of_eq rfl) (locs rfl) rfl rfl rfl (by decide) ?_
  intro g L' h₁ C st' G
  refine hideQ fun Y0 hY => ?_
  have hsize : its.size = 3 := by have := hD.length; simp only [Array.length_toList, List.length_map] at this; omega
  walk_at "go"
  rename Addr => Ds
  walk_at "go"
  refine for_list (its := its) C.hn G (fun i m' nw => StrJ hops ths Ds news ((hs.take i).flatMap (strandsOf hops)) m' nw) ?_ ?_ ?_ ?_
  · rintro i m' nw ⟨⟩
    exact .inr ⟨_, .tail _ (List.mem_append_right _ hl), rfl, _, rfl⟩
  · exact .mk (tl := []) rfl rfl .nil
  · intro I i v h3' t3 m3 nw oI hi hv pt1 GG
    refine hideT fun Z0 hZ => ?_
    rcases pt1 with ⟨ms, mh, hb⟩
    rename_i tl is cs
    have G := GG
    obtain ⟨d, hd, hdv⟩ := DatAll.at hD (i := i) (v := v) (by simpa using hv)
    rw [List.getElem?_map] at hd
    obtain ⟨p, hp, rfl⟩ := Option.map_eq_some_iff.mp hd
    obtain ⟨tu, va, vb, vc, vd, cu, rfl, hm, ha, hb2, hc2, hd2⟩ := quad_of hdv
    obtain ⟨ta, rfl⟩ := str_of ha
    have hP := H p (List.mem_of_getElem? hp)
    have hm6 : (tu, tupO [.str (S p.name) ta, vb, vc, vd] cu) ∈ (I, oI) :: (Ds, listOf is cs) :: (tl ++ news) := .tail _ (.tail _ (List.mem_append_right _ hm))
    refine r_unpack4 C.hn G hm6 ?_
    intro h4 G
    walk_at "go"
    have hne : p.name ≠ [] := by unfold Head.name; simp
    refine r_first (y := p.name) hne ?_
    walk_at "go"
    rename Heap => hH
    refine if_val (fun v s' => ∃ t k, v = .str (S (if p.dots = 0 then [] else List.replicate hops 46)) t ∧ s' = { s with heap := hH, toks := k }) ?_ ?_ ?_
    rotate_left
    · intro hc
      have hd0 : p.dots ≠ 0 := (name_head p hP).mp (by simpa using S_inj (b := [46]) (beq_iff_eq.mp hc))
      walk_at "go"
      refine r_mulC (c := 46) (by decide +kernel) (by omega) ?_
      intro t5 k5
      rw [if_neg hd0]
      exact ⟨_, _, rfl, rfl⟩
    · intro hc
      have hd0 : p.dots = 0 := by
        refine Classical.byContradiction fun e => hc ?_
        rw [(name_head p hP).mpr e]
        decide +kernel
      walk_at "go"
      rw [if_pos hd0]
      exact ⟨_, _, rfl, rfl⟩
    rintro v5 s5 ⟨t5, k5, rfl, rfl⟩
    dsimp only
    have hnl := (name_free hP).2
    walk_at "go"
    refine r_addS (by split <;> simp <;> omega) ?_
    intro t6 k6
    walk_at "go"
    have e58 : Str.ofString ": " = S [58, 32] := by decide +kernel
    rw [e58]
    refine r_addS (by split <;> simp <;> omega) ?_
    intro t7 k7
    rw [show (if p.dots = 0 then [] else List.replicate hops 46) ++ p.name ++ [58, 32] = lead0 hops p from rfl]
    walk_at "go"
    have hsl : is.size ≤ 100 := by
      have := hb.length
      simp only [Array.length_toList, List.length_map] at this
      rw [this]
      exact Nat.le_trans (strands_len hops hs i) (by omega)
    have hll := (lead_ok hP hh).2
    refine if_join (fun s' => ∃ h' t m' nw, s' = { s with heap := h', toks := t } ∧ Lg g L' h' m' ((I, oI) :: nw) ∧ LedJ hops ths Ds vc vd news ((hs.take i).flatMap (strandsOf hops) ++ (ledOf hops p).2) (ledOf hops p).1 m' nw) ?_ ?_ ?_
    rotate_left
    · intro hov
      cases eo : p.own with
      | none =>
        rw [eo] at hb2
        cases hb2
        exact absurd hov (by decide)
      | some o =>
        rw [eo] at hb2
        obtain ⟨t0, rfl⟩ := str_of hb2
        have hol := (own_free hP eo).2
        walk_at "go"
        refine r_addS (by omega) ?_
        intro t8 k8
        walk_at "go"
        refine r_append (i := 2) G rfl (by omega) ?_
        intro h9 c9 G
        dsimp only [List.set_cons_succ, List.set_cons_zero] at G
        dsimp only
        walk_at "go"
        refine ⟨rfl, _, _, _, _, rfl, G.back 2, ?_⟩
        rw [led_some eo]
        refine .mk (tl := (_, _) :: tl) ms mh rfl rfl (congrArg (fun x => some (Value.str x _)) S_semi) ?_
        rw [List.map_append, Array.toList_push]
        refine (hb.mono fun _ h => .tail _ h).append (.one (.tuple (.head _) (.cons (.str _ _) (.cons ?_ .nil))))
        rw [S_nil]; exact .str _ _
    · intro hov
      cases eo : p.own with
      | some o =>
        rw [eo] at hb2
        obtain ⟨t0, rfl⟩ := str_of hb2
        exact absurd rfl hov
      | none =>
        walk_at "go"
        refine ⟨rfl, _, _, _, _, rfl, G, ?_⟩
        rw [led_none eo, List.append_nil]
        exact .mk ms mh rfl rfl rfl hb
    rintro s' ⟨h8, t8, m8, nw8, rfl, GG, J8⟩
    rcases J8 with ⟨ms, mh, mf, msd, mld, hb⟩
    rename_i tl is cs tld
    have G := GG
    dsimp only
    walk_at "go"
    have hsl : is.size ≤ 200 := by
      have := hb.length
      simp only [Array.length_toList, List.length_map] at this
      rw [this, List.length_append]
      have h1 := strands_len hops hs i
      have h2 : (ledOf hops p).2.length ≤ 1 := by
        cases eo : p.own with
        | none => rw [led_none eo]; exact Nat.zero_le _
        | some o => rw [led_some eo]; simp
      omega
    rename_i T1 hT1 T2 hT2 hT3
    have hlld := led_len (hops := hops) hP hh
    have hpsl : ((hs.take i).flatMap (strandsOf hops) ++ (ledOf hops p).2).length ≤ 100 := by
      rw [List.length_append]
      have h1 := strands_len hops hs i
      have h2 : (ledOf hops p).2.length ≤ 1 := by
        cases eo : p.own with
        | none => rw [led_none eo]; exact Nat.zero_le _
        | some o => rw [led_some eo]; simp
      omega
    have hps : (hs.take i).flatMap (strandsOf hops) ++ strandsOf hops p = ((hs.take i).flatMap (strandsOf hops) ++ (ledOf hops p).2) ++ [strand (ledOf hops p).1 kK p.v1, strand [59, 32] kM p.v2] ++ [([13, 10], [])] := by
      rw [strands_led]; simp only [List.append_assoc]
    generalize (hs.take i).flatMap (strandsOf hops) ++ (ledOf hops p).2 = ps0 at *
    generalize (ledOf hops p).1 = ld at *
    have G := G.perm (perm_mid [_, _, _, _] _ _ _)
    refine for_list (its := [Value.ref T1, .ref T2].toArray) C.hn G (fun j m' nw => LedJ hops ths Ds vc vd ((D, listOf [Value.ref T1, .ref T2].toArray 0) :: (T2, tupO [.str (Str.ofString "m-n") (t8 + 1), vd] 0) :: (T1, tupO [.str (Str.ofString "k") t8, vc] 0) :: (I, oI) :: news) (ps0 ++ [strand ld kK p.v1, strand [59, 32] kM p.v2].take j) (if j = 0 then ld else [59, 32]) m' nw) ?_ ?_ ?_ ?_
    · rintro j m' nw ⟨⟩
      exact .inr ⟨_, .tail _ (List.mem_append_right _ (.head _)), rfl, _, rfl⟩
    · exact .mk ms mh mf msd mld (by simpa using hb)
    · intro I2 j v h10 t10 m10 nw10 oI2 hj hv pt2 GG
      refine hideT fun Z2 hZ2 => ?_
      rcases pt2 with ⟨ms, mh, mf, msd, mld, hb⟩
      rename_i tl is cs tld
      have G := GG
      have key : ∃ T kk tkk val o, v = .ref T ∧ (T, tupO [.str (S kk) tkk, val] 0) ∈ ((D, listOf [Value.ref T1, .ref T2].toArray 0) :: (T2, tupO [.str (Str.ofString "m-n") (t8 + 1), vd] 0) :: (T1, tupO [.str (Str.ofString "k") t8, vc] 0) :: (I, oI) :: news) ∧ OptIs o val ∧ ValOk o ∧ kk.length ≤ 3 ∧
          ps0 ++ [strand ld kK p.v1, strand [59, 32] kM p.v2].take (j + 1) = ps0 ++ [strand ld kK p.v1, strand [59, 32] kM p.v2].take j ++ [strand (if j = 0 then ld else [59, 32]) kk o] := by
        have hj2 : j < 2 := hj
        rcases (by omega : j = 0 ∨ j = 1) with rfl | rfl
        · cases hv
          refine ⟨T1, [107], t8, vc, p.v1, rfl, ?_, optIs_of hc2, hP.v1, by decide, by simp [kK]⟩
          rw [show S [107] = Str.ofString "k" from by decide +kernel]
          exact .tail _ (.tail _ (.head _))
        · cases hv
          refine ⟨T2, [109, 45, 110], t8 + 1, vd, p.v2, rfl, ?_, optIs_of hd2, hP.v2, by decide, by simp [kM]⟩
          rw [show S [109, 45, 110] = Str.ofString "m-n" from by decide +kernel]
          exact .tail _ (.head _)
      obtain ⟨T, kk, tkk, val, o, rfl, hT, hov, hvo, hkl, hst⟩ := key
      have hldl : (if j = 0 then ld else [59, 32]).length ≤ 7 := by split; exact hlld; decide
      have hsl : is.size ≤ 300 := by
        have := hb.length
        simp only [Array.length_toList, List.length_map] at this
        rw [this, List.length_append, List.length_take]
        have := hpsl
        simp only [List.length_cons, List.length_nil]
        omega
      generalize (if j = 0 then ld else [59, 32]) = ldj at *
      refine r_unpack2 C.hn G (.tail _ (.tail _ (List.mem_append_right _ hT))) ?_
      intro h11 G
      walk_at "go"
      have e61 : Str.ofString "=" = S [61] := by decide +kernel
      cases o with
      | none =>
        rw [show val = .none from hov]
        refine truthy_none ?_
        refine ite_neg Bool.false_ne_true ?_
        walk_at "go"
        refine r_addS (by omega) ?_
        intro t12 k12
        walk_at "go"
        refine r_append (i := 2) G rfl (by omega) ?_
        intro h14 c14 G
        dsimp only [List.set_cons_succ, List.set_cons_zero] at G
        dsimp only
        walk_at "go"
        refine hZ2 _ _ ⟨_, _, _, _, rfl, G.back 2, .mk (tl := (_, _) :: tl) ms mh mf msd (congrArg (fun x => some (Value.str x _)) S_semi) ?_⟩
        rw [hst, List.map_append, Array.toList_push]
        refine (hb.mono fun _ h => .tail _ h).append (.one ?_)
        rw [strand_no rfl]
        refine .tuple (.head _) (.cons (.str _ _) (.cons ?_ .nil))
        rw [S_nil]; exact .str _ _
      | some x =>
        obtain ⟨tx, rfl⟩ := hov
        have hxl := (hvo x rfl).1
        refine P.truthy_str (by rw [S_len]; omega) ?_
        rw [S_len]
        by_cases hx0 : x = []
        · subst hx0
          refine ite_neg (by decide) ?_
          walk_at "go"
          refine r_addS (by omega) ?_
          intro t12 k12
          walk_at "go"
          refine r_append (i := 2) G rfl (by omega) ?_
          intro h14 c14 G
          dsimp only [List.set_cons_succ, List.set_cons_zero] at G
          dsimp only
          walk_at "go"
          refine hZ2 _ _ ⟨_, _, _, _, rfl, G.back 2, .mk (tl := (_, _) :: tl) ms mh mf msd (congrArg (fun x => some (Value.str x _)) S_semi) ?_⟩
          rw [hst, List.map_append, Array.toList_push]
          refine (hb.mono fun _ h => .tail _ h).append (.one ?_)
          rw [strand_no rfl]
          refine .tuple (.head _) (.cons (.str _ _) (.cons ?_ .nil))
          rw [S_nil]; exact .str _ _
        · refine ite_pos ?_ ?_
          · have : 0 < x.length := List.length_pos_iff.mpr hx0
            exact bne_iff_ne.mpr (by omega)
          walk_at "go"
          refine r_addS (by omega) ?_
          intro t12 k12
          walk_at "go"
          rw [e61]
          refine r_addS (by simp; omega) ?_
          intro t13 k13
          walk_at "go"
          refine r_append (i := 2) G rfl (by omega) ?_
          intro h14 c14 G
          dsimp only [List.set_cons_succ, List.set_cons_zero] at G
          dsimp only
          walk_at "go"
          refine hZ2 _ _ ⟨_, _, _, _, rfl, G.back 2, .mk (tl := (_, _) :: tl) ms mh mf msd (congrArg (fun x => some (Value.str x _)) S_semi) ?_⟩
          rw [hst, List.map_append, Array.toList_push]
          refine (hb.mono fun _ h => .tail _ h).append (.one ?_)
          rw [strand_yes hx0]
          exact .tuple (.head _) (.cons (.str _ _) (.cons (.str _ _) .nil))
    · rintro h10 t10 m10 nw10 ⟨ms, mh, mf, msd, mld, hb⟩ G
      rename_i tl is cs tld
      have G : Lg g L' h10 m10 ((I, oI) :: (Ds, listOf is cs) :: (tl ++ news)) := (G.perm (perm_mid [_, _, _, _] _ _ _).symm).sub (.cons _ (.cons _ (.cons _ (List.Sublist.refl _))))
      have hsl : is.size ≤ 300 := by
        have := hb.length
        simp only [Array.length_toList, List.length_map] at this
        rw [this, List.length_append]
        exact Nat.le_trans (Nat.add_le_add hpsl (List.length_take_le' _ _)) (Nat.le_of_ble_eq_true rfl)
      walk_at "go"
      refine r_append (i := 2) G rfl (by omega) ?_
      intro h14 c14 G
      dsimp only [List.set_cons_succ, List.set_cons_zero] at G
      dsimp only
      walk_at "go"
      refine hZ _ _ ⟨_, _, _, _, rfl, G.back 2, .mk (tl := (_, _) :: tl) ms mh ?_⟩
      rw [take_snoc hp, List.flatMap_append, List.flatMap_cons, List.flatMap_nil, List.append_nil, hps, List.map_append, Array.toList_push]
      refine (hb.mono fun _ h => .tail _ h).append (.one (.tuple (.head _) ?_))
      rw [S_nil, S_crlf]
      exact .cons (.str _ _) (.cons (.str _ _) .nil)
  · rintro h4 t4 m4 nw ⟨ms, mh, hb⟩ G
    rename_i tl is cs
    rw [hsize, show hs.take 3 = hs from List.take_of_length_le (by omega)] at hb
    have hsl : is.size ≤ 100 := by
      have := hb.length
      simp only [Array.length_toList, List.length_map] at this
      rw [this]
      have h1 := strands_len hops hs 3
      rw [show hs.take 3 = hs from List.take_of_length_le (by omega)] at h1
      omega
    dsimp only
    walk_at "go"
    refine r_append (i := 1) G rfl (by omega) ?_
    intro h14 c14 G
    dsimp only [List.set_cons_succ, List.set_cons_zero] at G
    dsimp only
    obtain ⟨tl2, G, hb2⟩ := snoc_crlf G hb
    have hsl2 : (is.push (.ref D)).size ≤ 101 := by rw [Array.size_push]; omega
    generalize is.push (.ref D) = is2 at *
    rw [show hs.flatMap (strandsOf hops) ++ [([13, 10], [])] = strands hops hs from rfl] at hb2
    walk_at "go"
    rename Addr => Dw
    refine for_list (its := is2) C.hn G (fun i m' nw => DueJ Dw ((Ds, listOf is2 c14) :: (tl2 ++ news)) (((strands hops hs).take i).foldl onStrand ⟨[], [], false, 1⟩) m' nw) ?_ ?_ ?_ ?_
    · rintro i m' nw ⟨⟩
      exact .inr ⟨_, .tail _ (List.mem_append_right _ (.head _)), rfl, _, rfl⟩
    · exact .mk (tl := []) rfl (congrArg (fun x => some (Value.str x _)) S_nil) rfl rfl .nil
    · intro I i v h5 t5 m5 nw oI hi hv pt1 GG
      refine hideT fun Z0 hZ => ?_
      obtain ⟨dd, hd, hdv⟩ := DatAll.at hb2 (i := i) (v := v) (by simpa using hv)
      rw [List.getElem?_map] at hd
      obtain ⟨p, hp, rfl⟩ := Option.map_eq_some_iff.mp hd
      obtain ⟨tu, va, vb, cu, rfl, hm, ha, hb'⟩ := pair_of hdv
      obtain ⟨ta, rfl⟩ := str_of ha
      obtain ⟨tb, rfl⟩ := str_of hb'
      have hst : ((strands hops hs).take (i + 1)).foldl onStrand ⟨[], [], false, 1⟩ = onStrand (((strands hops hs).take i).foldl onStrand ⟨[], [], false, 1⟩) p := by rw [take_snoc hp, List.foldl_append]; rfl
      have hinv := due_bound (hs := hs) H hh h3 i
      have hinv2 := due_bound (hs := hs) H hh h3 (i + 1)
      rw [hst] at hinv2
      obtain ⟨hpl, hvl⟩ := strand_lens H hh (List.mem_of_getElem? hp)
      generalize ((strands hops hs).take i).foldl onStrand ⟨[], [], false, 1⟩ = d at *
      rcases pt1 with ⟨mw, mwd, mhd, mrw, hb3⟩
      rename_i tl iw cw t1 t2
      have G := GG
      refine r_unpack2 C.hn G (.tail _ (.tail _ (List.mem_append_right _ (.tail _ (List.mem_append_left _ hm))))) ?_
      intro h6 G
      walk_at "go"
      have G := G.perm (perm_mid [_] _ _ _)
      refine for_str C.hn G (fun j m' nw => DueJ Dw ((I, oI) :: (Ds, listOf is2 c14) :: (tl2 ++ news)) ((p.1.take j).foldl onSign d) m' nw ∧ m' "value" = some (.str (S p.2) tb)) ?_ ?_ ?_
      · exact ⟨.mk mw mwd mhd mrw hb3, rfl⟩
      · intro I2 j v h7 t7 m7 nw oI2 hj hv2 pt2 GG
        refine hideT fun Z1 hZ1 => ?_
        obtain ⟨cq, uq, hcq, rfl⟩ := hv2
        have hcp : p.1[j]? = some cq := by simpa [S] using hcq
        have hst2 : (p.1.take (j + 1)).foldl onSign d = onSign ((p.1.take j).foldl onSign d) cq := by rw [take_snoc hcp, List.foldl_append]; rfl
        have hsm : ((p.1.take j).foldl onSign d).small 420 := Due.small_mono (signs_small _ hinv) (by have := List.length_take_le' j p.1; omega)
        rw [hst2] at hZ1
        generalize (p.1.take j).foldl onSign d = e at *
        obtain ⟨J7, mvl⟩ := pt2
        rcases J7 with ⟨mw, mwd, mhd, mrw, hb4⟩
        rename_i tl iw cw t1 t2
        have G := GG
        walk_at "go"
        have hS : ∀ k : Nat, ((({ cps := [cq].toArray } : Str)) == S [k]) = decide (cq = k) := fun k => one_is cq k
        refine if_join (fun s' => ∃ h' t m' nw, s' = { s with heap := h', toks := t } ∧ Lg g L' h' m' ((I2, oI2) :: nw) ∧ DueJ Dw ((I, oI) :: (Ds, listOf is2 c14) :: (tl2 ++ news)) (e.nl cq) m' nw ∧ m' "value" = some (.str (S p.2) tb) ∧ m' "sign" = some (.str (S [cq]) uq)) ?_ ?_ ?_
        rotate_left
        · intro hc
          rw [S_lf, hS] at hc
          have hc10 : cq = 10 := of_decide_eq_true hc
          walk_at "go"
          exact ⟨rfl, _, _, _, _, rfl, G, DueJ.row mw mwd mhd rfl hb4 hc10, mvl, rfl⟩
        · intro hc
          rw [S_lf, hS] at hc
          have hc10 : ¬ cq = 10 := fun x => hc (decide_eq_true x)
          walk_at "go"
          refine ⟨rfl, _, _, _, _, rfl, G, ?_, mvl, rfl⟩
          rw [nl_not hc10]
          exact .mk mw mwd mhd mrw hb4
        rintro s' ⟨h8, t8, m8, nw8, rfl, GG, J8, mvl, msg⟩
        have hsm2 : (e.nl cq).small 420 := Due.nl_small hsm
        have hon : onSign e cq = if (e.nl cq).held = true ∨ cq ∉ [32, 13, 10] then (e.nl cq).add cq else if (e.nl cq).word = [] then e.nl cq else (e.nl cq).push := by
          unfold onSign
          rw [(e.nl_word cq).1, (e.nl_word cq).2.1]
        rw [hon] at hZ1
        generalize e.nl cq = f at *
        rcases J8 with ⟨mw, mwd, mhd, mrw, hb4⟩
        rename_i tl iw cw t1 t2
        have G := GG
        have hfl : f.words.length + f.word.length ≤ 420 := hsm2
        have hiw : iw.size ≤ 420 := by
          have := hb4.length
          simp only [Array.length_toList, List.length_map] at this
          omega
        dsimp only
        walk_at "go"
        by_cases hhd : f.held = true
        · refine ite_pos hhd ?_
          walk_at "go"
          refine r_addS (by simp; omega) ?_
          intro t9 k9
          walk_at "go"
          refine hZ1 _ _ ⟨_, _, _, _, rfl, G, ?_⟩
          show DueJ _ _ _ _ _ ∧ _
          rw [if_pos (.inl hhd)]
          exact ⟨.mk mw rfl mhd mrw hb4, mvl⟩
        · refine ite_neg hhd ?_
          walk_at "go"
          refine r_hasNot (c := cq) (l := [32, 13, 10]) rfl (by decide +kernel) ?_
          walk_at "go"
          by_cases hc3 : cq ∈ [32, 13, 10]
          · refine ite_neg (by rw [decide_eq_true hc3]; exact Bool.false_ne_true) ?_
            walk_at "go"
            by_cases hw0 : f.word = []
            · refine ite_neg (by rw [hw0, S_nil]; simp) ?_
              walk_at "go"
              refine hZ1 _ _ ⟨_, _, _, _, rfl, G, ?_⟩
              show DueJ _ _ _ _ _ ∧ _
              rw [if_neg (by rintro (x | x); exact hhd x; exact x hc3), if_pos hw0]
              exact ⟨.mk mw mwd mhd mrw hb4, mvl⟩
            · refine ite_pos (by rw [S_nil, bne_iff_ne]; exact fun x => hw0 (S_inj x)) ?_
              walk_at "go"
              refine r_append (i := 2) G rfl (by omega) ?_
              intro h9 c9 G
              dsimp only [List.set_cons_succ, List.set_cons_zero] at G
              dsimp only
              walk_at "go"
              refine hZ1 _ _ ⟨_, _, _, _, rfl, G.back 2, ?_⟩
              show DueJ _ _ _ _ _ ∧ _
              rw [if_neg (by rintro (x | x); exact hhd x; exact x hc3), if_neg hw0]
              refine ⟨.mk (tl := (_, _) :: tl) mw (congrArg (fun x => some (Value.str x _)) S_nil) mhd mrw ?_, mvl⟩
              show DatAll _ _ ((f.words ++ [(f.word, f.row)]).map wordD)
              rw [List.map_append, Array.toList_push]
              exact (hb4.mono fun _ h => .tail _ h).append (.one (.tuple (.head _) (.cons (.str _ _) (.cons (.int _ _) .nil))))
          · refine ite_pos (by rw [decide_eq_false hc3]; rfl) ?_
            walk_at "go"
            refine r_addS (by simp; omega) ?_
            intro t9 k9
            walk_at "go"
            refine hZ1 _ _ ⟨_, _, _, _, rfl, G, ?_⟩
            show DueJ _ _ _ _ _ ∧ _
            rw [if_pos (.inr hc3)]
            exact ⟨.mk mw rfl mhd mrw hb4, mvl⟩
      · rintro h7 t7 m7 nw7 ⟨J7, mvl⟩ G
        rcases J7 with ⟨mw, mwd, mhd, mrw, hb4⟩
        rename_i tl iw cw t1 t2
        have e20 : (S p.1).cps.size = p.1.length := by simp [S]
        rw [e20, List.take_length] at mwd mhd mrw hb4
        have hsm : (p.1.foldl onSign d).small 420 := Due.small_mono (signs_small p.1 hinv) (by omega)
        have hos : onStrand d p = if p.2 = [] then p.1.foldl onSign d else onClose (p.2.foldl onVal (onOpen (p.1.foldl onSign d))) p.2 := rfl
        rw [hst, hos] at hZ
        generalize p.1.foldl onSign d = e at *
        have hel : e.words.length + e.word.length ≤ 420 := hsm
        have hiw : iw.size ≤ 420 := by
          have := hb4.length
          simp only [Array.length_toList, List.length_map] at this
          omega
        dsimp only
        walk_at "go"
        by_cases hv0 : p.2 = []
        · refine ite_neg (by rw [hv0, S_nil]; simp) ?_
          walk_at "go"
          have G := G.perm (perm_mid [_] _ _ _).symm
          refine hZ _ _ ⟨_, _, _, _, rfl, G, ?_⟩
          show DueJ _ _ _ _ _
          rw [if_pos hv0]
          exact .mk mw mwd mhd mrw hb4
        · refine ite_pos (by rw [S_nil, bne_iff_ne]; exact fun x => hv0 (S_inj x)) ?_
          walk_at "go"
          have hop : onOpen e = if e.held = true then e.push else e.add 34 := rfl
          have hsm2 : (onOpen e).small 421 := onOpen_small hsm
          refine if_join (fun s' => ∃ h' t m' nw, s' = { s with heap := h', toks := t } ∧ Lg g L' h' m' nw ∧ DueJ Dw ((I, oI) :: (Ds, listOf is2 c14) :: (tl2 ++ news)) (onOpen e) m' nw ∧ m' "value" = some (.str (S p.2) tb)) ?_ ?_ ?_
          rotate_left
          · intro hhd
            walk_at "go"
            refine r_append (i := 1) G rfl (by omega) ?_
            intro h9 c9 G
            dsimp only [List.set_cons_succ, List.set_cons_zero] at G
            dsimp only
            walk_at "go"
            refine ⟨rfl, _, _, _, _, rfl, G.back 1, ?_, mvl⟩
            rw [hop, if_pos hhd]
            refine .mk (tl := (_, _) :: tl) mw (congrArg (fun x => some (Value.str x _)) S_nil) mhd mrw ?_
            show DatAll _ _ ((e.words ++ [(e.word, e.row)]).map wordD)
            rw [List.map_append, Array.toList_push]
            exact (hb4.mono fun _ h => .tail _ h).append (.one (.tuple (.head _) (.cons (.str _ _) (.cons (.int _ _) .nil))))
          · intro hhd
            walk_at "go"
            rw [S_quote]
            refine r_addS (by simp; omega) ?_
            intro t9 k9
            walk_at "go"
            refine ⟨rfl, _, _, _, _, rfl, G, ?_, mvl⟩
            rw [hop, if_neg hhd]
            exact .mk mw rfl mhd mrw hb4
          clear hop
          rintro s' ⟨h8, t8, m8, nw8, rfl, GG, J8, mvl⟩
          generalize onOpen e = e1 at *
          rcases J8 with ⟨mw, mwd, mhd, mrw, hb5⟩
          rename_i tl iw cw t1 t2
          have G := GG
          dsimp only
          walk_at "go"
          refine for_str C.hn G (fun j m' nw => DueJ Dw ((I, oI) :: (Ds, listOf is2 c14) :: (tl2 ++ news)) ((p.2.take j).foldl onVal e1) m' nw ∧ m' "value" = some (.str (S p.2) tb)) ?_ ?_ ?_
          · exact ⟨.mk mw mwd mhd mrw hb5, mvl⟩
          · intro I3 j v h9 t9 m9 nw oI3 hj hv3 pt3 GG
            refine hideT fun Z3 hZ3 => ?_
            obtain ⟨cq, uq, hcq, rfl⟩ := hv3
            have hcp : p.2[j]? = some cq := by simpa [S] using hcq
            have hst3 : (p.2.take (j + 1)).foldl onVal e1 = onVal ((p.2.take j).foldl onVal e1) cq := by rw [take_snoc hcp, List.foldl_append]; rfl
            have hsm3 : ((p.2.take j).foldl onVal e1).small 430 := Due.small_mono (vals_small _ hsm2) (by have := List.length_take_le' j p.2; omega)
            rw [hst3] at hZ3
            generalize (p.2.take j).foldl onVal e1 = f at *
            obtain ⟨J9, mvl⟩ := pt3
            rcases J9 with ⟨mw, mwd, mhd, mrw, hb4⟩
            rename_i tl iw cw t1 t2
            have G := GG
            have hfl : f.words.length + f.word.length ≤ 430 := hsm3
            have hiw : iw.size ≤ 430 := by
              have := hb4.length
              simp only [Array.length_toList, List.length_map] at this
              omega
            have hon : onVal f cq = if cq ∉ [32, 9] then f.add cq else if f.word = [] then f else f.push := rfl
            rw [hon] at hZ3
            clear hon hst3
            walk_at "go"
            refine r_hasNot (c := cq) (l := [32, 9]) rfl (by decide +kernel) ?_
            walk_at "go"
            by_cases hc3 : cq ∈ [32, 9]
            · refine ite_neg (by rw [decide_eq_true hc3]; exact Bool.false_ne_true) ?_
              walk_at "go"
              by_cases hw0 : f.word = []
              · refine ite_neg (by rw [hw0, S_nil]; simp) ?_
                walk_at "go"
                refine hZ3 _ _ ⟨_, _, _, _, rfl, G, ?_⟩
                show DueJ _ _ _ _ _ ∧ _
                rw [if_neg (fun x => x hc3), if_pos hw0]
                exact ⟨.mk mw mwd mhd mrw hb4, mvl⟩
              · refine ite_pos (by rw [S_nil, bne_iff_ne]; exact fun x => hw0 (S_inj x)) ?_
                walk_at "go"
                refine r_append (i := 2) G rfl (by omega) ?_
                intro h10 c10 G
                dsimp only [List.set_cons_succ, List.set_cons_zero] at G
                dsimp only
                walk_at "go"
                refine hZ3 _ _ ⟨_, _, _, _, rfl, G.back 2, ?_⟩
                show DueJ _ _ _ _ _ ∧ _
                rw [if_neg (fun x => x hc3), if_neg hw0]
                refine ⟨.mk (tl := (_, _) :: tl) mw (congrArg (fun x => some (Value.str x _)) S_nil) mhd mrw ?_, mvl⟩
                show DatAll _ _ ((f.words ++ [(f.word, f.row)]).map wordD)
                rw [List.map_append, Array.toList_push]
                exact (hb4.mono fun _ h => .tail _ h).append (.one (.tuple (.head _) (.cons (.str _ _) (.cons (.int _ _) .nil))))
            · refine ite_pos (by rw [decide_eq_false hc3]; rfl) ?_
              walk_at "go"
              refine r_addS (by simp; omega) ?_
              intro t10 k10
              walk_at "go"
              refine hZ3 _ _ ⟨_, _, _, _, rfl, G, ?_⟩
              show DueJ _ _ _ _ _ ∧ _
              rw [if_pos hc3]
              exact ⟨.mk mw rfl mhd mrw hb4, mvl⟩
          · rintro h9 t9 m9 nw9 ⟨J9, mvl⟩ G
            rcases J9 with ⟨mw, mwd, mhd, mrw, hb4⟩
            rename_i tl iw cw t1 t2
            have e20 : (S p.2).cps.size = p.2.length := by simp [S]
            rw [e20, List.take_length] at mwd mhd mrw hb4
            have hsm3 : (p.2.foldl onVal e1).small 430 := Due.small_mono (vals_small p.2 hsm2) (by omega)
            have hcl : onClose (p.2.foldl onVal e1) p.2 = if lastN p.2 ∈ [32, 9] then { p.2.foldl onVal e1 with held := true } else { (p.2.foldl onVal e1).add 34 with held := false } := by
              unfold onClose lastN
              rw [List.getLastD_eq_getLast?]
            rw [if_neg hv0, hcl] at hZ
            clear hcl hos
            generalize p.2.foldl onVal e1 = f at *
            have hfl : f.words.length + f.word.length ≤ 430 := hsm3
            dsimp only
            walk_at "go"
            refine r_last (y := p.2) hv0 ?_
            walk_at "go"
            refine r_has (c := lastN p.2) (l := [32, 9]) rfl (by decide +kernel) ?_
            walk_at "go"
            refine isTrue_not ?_
            walk_at "go"
            by_cases hlst : lastN p.2 ∈ [32, 9]
            · rw [if_pos hlst] at hZ

              refine ite_neg (by rw [decide_eq_true hlst]; exact Bool.false_ne_true) ?_
              walk_at "go"
              refine hZ _ _ ⟨_, _, _, _, rfl, G.perm (perm_mid [_] _ _ _).symm, ?_⟩
              show DueJ _ _ _ _ _
              exact .mk mw mwd (congrArg (fun b => some (Value.bool b)) (decide_eq_true hlst)) mrw hb4
            · rw [if_neg hlst] at hZ
              refine ite_pos (by rw [decide_eq_false hlst]; rfl) ?_
              walk_at "go"
              rw [S_quote]
              refine r_addS (by simp; omega) ?_
              intro t10 k10
              walk_at "go"
              refine hZ _ _ ⟨_, _, _, _, rfl, G.perm (perm_mid [_] _ _ _).symm, ?_⟩
              show DueJ _ _ _ _ _
              exact .mk mw rfl (congrArg (fun b => some (Value.bool b)) (decide_eq_false hlst)) mrw hb4
    · rintro h5 t5 m5 nw5 JJ G
      have e2 : is2.size = (strands hops hs).length := by
        have := hb2.length
        simpa using this
      rw [e2, List.take_length] at JJ
      have hsm := due_bound (hs := hs) H hh h3 (strands hops hs).length
      rw [List.take_length] at hsm
      rw [show (strands hops hs).foldl onStrand ⟨[], [], false, 1⟩ = dueD hops hs from rfl] at JJ hsm
      generalize hdd : dueD hops hs = d at *
      rcases JJ with ⟨mw, mwd, mhd, mrw, hb3⟩
      rename_i tl iw cw t1 t2
      have hiw : iw.size ≤ 420 := by
        have h1 := hb3.length
        have h2 : d.words.length + d.word.length ≤ 420 := Nat.le_trans hsm (by decide)
        simp only [Array.length_toList, List.length_map] at h1
        omega
      dsimp only
      walk_at "go"
      have e0 : d.all = if d.word = [] then d.words else d.words ++ [(d.word, d.row)] := rfl
      by_cases hw0 : d.word = []
      · refine ite_neg (by rw [hw0, S_nil]; simp) ?_
        walk_at "go"
        rw [if_pos hw0] at e0
        rw [e0] at h
        refine hY _ _ ⟨_, _, G, fun G2 => h D Dw _ _ ((D, tupO [.ref Dw, .int (d.row : Int) t2] 0) :: (Dw, listOf iw cw) :: (tl ++ (Ds, listOf is2 c14) :: tl2)) iw cw t2 (.head _) (.tail _ (.head _)) ?_ (G2.to ?_)⟩
        · exact hb3.mono fun _ h => .tail _ (.tail _ (List.mem_append_left _ h))
        · simp
      · refine ite_pos (by rw [S_nil, bne_iff_ne]; exact fun x => hw0 (S_inj x)) ?_
        walk_at "go"
        rename Addr => D1
        refine r_append (i := 1) G rfl (by omega) ?_
        intro h9 c9 G
        dsimp only [List.set_cons_succ, List.set_cons_zero] at G
        dsimp only
        walk_at "go"
        rw [if_neg hw0] at e0
        rw [e0] at h
        refine hY _ _ ⟨_, _, G, fun G2 => h D Dw _ _ ((D, tupO [.ref Dw, .int (d.row : Int) t2] 0) :: (D1, tupO [.str (S d.word) t1, .int (d.row : Int) t2] 0) :: (Dw, listOf (iw.push (.ref D1)) c9) :: (tl ++ (Ds, listOf is2 c14) :: tl2)) (iw.push (.ref D1)) c9 t2 (.head _) (.tail _ (.tail _ (.head _))) ?_ (G2.to ?_)⟩
        · rw [List.map_append, Array.toList_push]
          exact (hb3.mono fun _ h => .tail _ (.tail _ (.tail _ (List.mem_append_left _ h)))).append (.one (.tuple (.tail _ (.head _)) (.cons (.str _ _) (.cons (.int _ _) .nil))))
        · simp
end
end
-- K1
section
theorem fillK1 : hd.heap_1 = hd.heap_1 ∧ PySem.Challenge.rw_pe0228_01 = PySem.Challenge.rw_pe0228_01 := by
  k_fill
  exact ⟨rfl, rfl⟩
theorem take_kept {ws : List (List Nat × Nat)} (hw : DueOk ws) (i : Nat) : (∀ q ∈ kept (ws.take i), RowOk q) ∧ (kept (ws.take i)).length ≤ 243 := by
  refine ⟨kept_ok (rows := []) (fun q hq => hw.all q (List.mem_of_mem_take hq)) (by simp), ?_⟩
  have h1 := kept_len (ws.take i) []
  have h2 := hw.len
  have h3 : (ws.take i).length ≤ ws.length := by rw [List.length_take]; omega
  simp only [List.length_nil, Nat.zero_add] at h1
  exact Nat.le_trans h1 (by omega)
theorem txt_mem {x : List Nat} {l : List (List Nat)} : txtD x ∈ l.map txtD ↔ x ∈ l := by
  rw [List.mem_map]
  constructor
  · rintro ⟨y, hy, e⟩
    unfold txtD at e
    injection e with e
    rw [← S_inj e]; exact hy
  · exact fun h => ⟨x, h, rfl⟩
theorem keep_in {rows : List (List Nat × List Nat)} {p : List Nat × Nat} (h13 : 13 ∉ p.1) (h : low p.1 ∈ rows.map (fun q => low q.1)) : keepStep rows p = rows := by unfold keepStep; rw [if_neg h13, if_pos h]
theorem keep_new {rows : List (List Nat × List Nat)} {p : List Nat × Nat} (h13 : 13 ∉ p.1) (h : low p.1 ∉ rows.map (fun q => low q.1)) : keepStep rows p = rows ++ [(p.1, [48 + p.2])] := by unfold keepStep; rw [if_neg h13, if_neg h]
/-- the law's own table so far -/
inductive KeptJ (ws : List (List Nat × Nat)) (sD kD : Addr) (v : Value) (news : List (Addr × Obj)) (i : Nat) : (Str → Option Value) → List (Addr × Obj) → Prop
  | mk {m' : Str → Option Value} {tl : List (Addr × Obj)} {is ik : Array Value} {cs ck : Nat} : m' "words" = some v → m' "seen" = some (.ref sD) → m' "kept" = some (.ref kD) →
      DatAll [] is.toList (((kept (ws.take i)).map fun p => low p.1).map txtD) → DatAll tl ik.toList ((kept (ws.take i)).map rowD) → KeptJ ws sD kD v news i m' ((sD, listOf is cs) :: (kD, listOf ik ck) :: (tl ++ news))
section
variable {pr : Program} {loose : List Str} {mean : ExcName → Option Value} {mg mb : Str → Option Value} {prog : Program} {w : World} {n : Nat} {A A₀ : Around} {env : Env} {L : Addr} {h₀ base : Heap}
  {m : Str → Option Value} {news : List (Addr × Obj)} {s : Shared} {E : Value → Shared → Prop}
set_option maxHeartbeats 20000000
theorem law_kept {Q : Value → Shared → Prop} {l : Addr} {its : Array Value} {c : Nat} {ws : List (List Nat × Nat)}
    (C : Cx (hd.heap_1 w.params) pr loose mean mg mb (n + 3) A env L h₀) (G : Lg h₀ L s.heap m news) (hl : (l, listOf its c) ∈ news) (hD : DatAll news its.toList (ws.map wordD)) (hw : DueOk ws)
    (h : ∀ T D1 D2 h' t fz i1 c1 i2 c2, (T, tupO [.ref D1, .ref D2] 0) ∈ fz → (D1, listOf i1 c1) ∈ fz → DatAll fz i1.toList ((kept ws).map rowD) → (D2, listOf i2 c2) ∈ fz → DatAll fz i2.toList ((refused ws).map txtD) → Lg h₀ L h' m (fz ++ news) → Q (.ref T) { s with heap := h', toks := t }) :
    wpAny (model prog w) A (call (.ref 287) [.ref l]) Q E s := by
  refine enter (binds := [(Str.ofString "words", .ref l)]) C G (by k_is) (by k_is) (BindsTo.of_eq rfl) (locs rfl) rfl rfl rfl (by decide) ?_
  intro g L' h₁ C st' G
  refine hideQ fun Y0 hY => ?_
  have hsize : its.size = ws.length := by have := hD.length; simpa using this
  walk_at "go"
  rename_i Dk hk0 hk3 hk1 hk2
  rename Addr => Ds
  walk_at "go"
  refine for_list (its := its) C.hn G (KeptJ ws Ds Dk (.ref l) news) ?_ ?_ ?_ ?_
  · rintro i m' nw ⟨⟩
    exact .inr ⟨_, .tail _ (.tail _ (List.mem_append_right _ hl)), rfl, _, rfl⟩
  · exact .mk (tl := []) rfl rfl rfl .nil .nil
  · intro I i v h3 t3 m3 nw oI hi hv pt1 GG
    refine hideT fun Z0 hZ => ?_
    rcases pt1 with ⟨mw, msn, mkp, hs, hb⟩
    rename_i tl is ik cs ck
    have G := GG
    obtain ⟨d, hd, hdv⟩ := DatAll.at hD (i := i) (v := v) (by simpa using hv)
    rw [List.getElem?_map] at hd
    obtain ⟨p, hp, rfl⟩ := Option.map_eq_some_iff.mp hd
    obtain ⟨tu, va, vb, cu, rfl, hm, ha, hb'⟩ := pair_of hdv
    obtain ⟨ta, rfl⟩ := str_of ha
    obtain ⟨tb, rfl⟩ := int_of hb'
    have hpm : p ∈ ws := List.mem_of_getElem? hp
    have hpo := hw.all p hpm
    obtain ⟨hrows, hklen⟩ := take_kept hw i
    have hpl : p.1.length ≤ 1000000 := Nat.le_trans hpo.2.2 (by decide)
    have hm6 : (tu, tupO [.str (S p.1) ta, .int (p.2 : Int) tb] cu) ∈ (I, oI) :: (Ds, listOf is cs) :: (Dk, listOf ik ck) :: (tl ++ news) := .tail _ (.tail _ (.tail _ (List.mem_append_right _ hm)))
    refine r_unpack2 C.hn G hm6 ?_
    intro h4 G
    walk_at "go"
    refine r_hasNot (c := 13) (l := p.1) (by rfl) (S_list _) ?_
    walk_at "go"
    by_cases h13 : 13 ∈ p.1
    · refine ite_neg (by simp [h13]) ?_
      refine ite_neg Bool.false_ne_true ?_
      walk_at "go"
      refine hZ _ _ ⟨_, _, _, _, rfl, G, .mk mw msn mkp ?_ ?_⟩
      · rw [take_snoc hp, kept_snoc, keep_bad h13]; exact hs
      · rw [take_snoc hp, kept_snoc, keep_bad h13]; exact hb
    · refine ite_pos (by simp [h13]) ?_
      walk_at "go"
      refine SCL.lower (Nat.le_trans (by rw [S_len]; exact hpl) (by decide)) ?_
      intro _
      rw [hpo.1.low]
      walk_at "go"
      refine r_notIn (b := !decide (low p.1 ∈ (kept (ws.take i)).map fun q => low q.1)) (d := txtD (low p.1)) G (by walk_at "mem") (hs.mono fun _ h => absurd h List.not_mem_nil) (.str _ _) ?_ hpo.1.lowD (Nat.lt_of_le_of_lt (Nat.add_le_add_left (Nat.le_of_ble_eq_true rfl) _) C.un) ?_ ?_
      · intro d hd
        obtain ⟨x, hx, rfl⟩ := List.mem_map.mp hd
        obtain ⟨q, hq, rfl⟩ := List.mem_map.mp hx
        exact (hrows q hq).word.lowD
      · rw [txt_mem]; simp
      walk_at "go"
      by_cases hin : low p.1 ∈ (kept (ws.take i)).map fun q => low q.1
      · refine ite_neg (by simpa using hin) ?_
        walk_at "go"
        refine hZ _ _ ⟨_, _, _, _, rfl, G, .mk mw msn mkp ?_ ?_⟩
        · rw [take_snoc hp, kept_snoc, keep_in h13 hin]; exact hs
        · rw [take_snoc hp, kept_snoc, keep_in h13 hin]; exact hb
      · refine ite_pos (by simpa using hin) ?_
        have hsl : is.size ≤ 1000 ∧ ik.size ≤ 1000 := by
          have h1 := hs.length
          have h2 := hb.length
          simp only [Array.length_toList, List.length_map] at h1 h2
          omega
        walk_at "go"
        refine SCL.lower (Nat.le_trans (by rw [S_len]; exact hpl) (by decide)) ?_
        intro _
        rw [hpo.1.low]
        walk_at "go"
        refine r_append (i := 1) G rfl (by omega) ?_
        intro h5 c5 G
        dsimp only [List.set_cons_succ, List.set_cons_zero] at G
        dsimp only
        walk_at "go"
        refine r_digit hpo.2.1 ?_
        walk_at "go"
        refine r_append (i := 3) G rfl (by omega) ?_
        intro h6 c6 G
        dsimp only [List.set_cons_succ, List.set_cons_zero] at G
        dsimp only
        walk_at "go"
        refine hZ _ _ ⟨_, _, _, _, rfl, G.back 3, .mk (tl := (D, _) :: tl) mw msn mkp ?_ ?_⟩
        · rw [take_snoc hp, kept_snoc, keep_new h13 hin, List.map_append, List.map_append, Array.toList_push]
          exact hs.append (.one (.str _ _))
        · rw [take_snoc hp, kept_snoc, keep_new h13 hin, List.map_append, Array.toList_push]
          exact (hb.mono fun _ h => .tail _ h).append (.one (.tuple (.head _) (.cons (.str _ _) (.cons (.str _ _) .nil))))
  · rintro h3 t3 m3 nw ⟨mw, msn, mkp, hs, hb⟩ G
    rename_i tl is ik cs ck
    rw [hsize, List.take_length] at hb
    walk_at "go"
    have hl2 : (l, listOf its c) ∈ (Ds, listOf is cs) :: (Dk, listOf ik ck) :: (tl ++ news) := .tail _ (.tail _ (List.mem_append_right _ hl))
    have hlen : its.size ≤ 243 := by rw [hsize]; exact hw.len
    refine comp_PT (h₀ := g) (L := L') (m := m3) (l := l) (its := its) (c := c) C.hn rfl (by decide) rfl (by decide) rfl rfl (by rw [sizeLine_eq]; omega) ?_
    walk_at "go"
    refine ⟨rfl, _, G, hl2, fun i ys => DatAll [] ys ((refused (ws.take i)).map txtD), .nil, ?_, ?_⟩
    · intro i v hv
      obtain ⟨d, hd, hdv⟩ := DatAll.at hD (i := i) (v := v) (by simpa using hv)
      rw [List.getElem?_map] at hd
      obtain ⟨p, hp, rfl⟩ := Option.map_eq_some_iff.mp hd
      obtain ⟨tu, va, vb, cu, rfl, hm, ha, hb'⟩ := pair_of hdv
      obtain ⟨ta, rfl⟩ := str_of ha
      refine ⟨tu, _, _, cu, rfl, .tail _ (.tail _ (List.mem_append_right _ hm)), ?_⟩
      intro I oI Cc oC D ys h5 t5 m₂ hJ hC hm1 hm2 G
      refine hideQ fun Z0 hZ => ?_
      walk_at "go"
      refine r_has (c := 13) (l := p.1) (by rfl) (S_list _) ?_
      walk_at "go"
      refine hZ _ _ ?_
      by_cases h13 : 13 ∈ p.1
      · refine ite_pos (by simpa using h13) ?_
        walk_at "go"
        refine ⟨_, _, rfl, G, ?_⟩
        show DatAll _ _ _
        rw [take_snoc hp, refused_snoc, if_pos h13, List.map_append]
        exact hJ.append (.one (.str _ _))
      · refine ite_neg (by simpa using h13) ?_
        refine ⟨_, _, rfl, G, ?_⟩
        show DatAll _ _ _
        rw [take_snoc hp, refused_snoc, if_neg h13]
        exact hJ
    · intro D h5 t5 ys hJ G
      rw [hsize, List.take_length] at hJ
      dsimp only
      walk_at "go"
      rename Addr => T
      refine hY _ _ ⟨_, _, G, fun G2 => h T Dk D _ _ ((T, tupO [.ref Dk, .ref D] 0) :: (D, LCg.lst ys) :: (Ds, listOf is cs) :: (Dk, listOf ik ck) :: tl) ik ck ys.toArray ys.length (by walk_at "mem") (by walk_at "mem") ?_ (by walk_at "mem") ?_ G2⟩
      · exact hb.mono fun _ h => .tail _ (.tail _ (.tail _ (.tail _ h)))
      · exact hJ.mono fun _ h => absurd h List.not_mem_nil
end
end
-- K10
section
open PySem PySem.W PyProof.Rows PySem.Calls PySem.Spec PyProof.V
theorem fillK10 : hd.heap_1 = hd.heap_1 ∧ PySem.Challenge.rw_pe0228_01 = PySem.Challenge.rw_pe0228_01 := by
  k_fill
  exact ⟨rfl, rfl⟩
theorem with_Cx {K : Frag} {pr : Program} {loose : List Str} {mean : ExcName → Option Value} {mg mb : Str → Option Value} {n : Nat} {prog : Program} {w : World} {A : Around} {env : Env} {L : Addr} {h₀ : Heap} {body : List Stmt} {Q : Flow → Shared → Prop} {E : Value → Shared → Prop} {s : Shared}
    (C : Cx K pr loose mean mg mb n A env L h₀) (h : Cx K pr loose mean mg mb n A env L h₀ → wpAny (model prog w) A (execs body env) Q E s) : wpAny (model prog w) A (execs body env) Q E s := h C
theorem perm_end {α : Type} (a b : List α) (c t : α) : (a ++ (b ++ [c, t])).Perm (t :: c :: (a ++ b)) := by
  rw [← List.append_assoc]
  exact (List.perm_append_comm (l₁ := a ++ b) (l₂ := [c, t])).trans (.swap _ _ _)
theorem perm_cell {α : Type} (l fz r : List α) (c : α) : (l ++ (fz ++ c :: r)).Perm (c :: (l ++ (fz ++ r))) := by
  rw [← List.append_assoc, ← List.append_assoc]
  exact List.perm_middle
theorem perm_told {α : Type} (a b c r : List α) : (a ++ (b ++ (c ++ r))).Perm (c ++ (a ++ (b ++ r))) := by
  rw [← List.append_assoc, ← List.append_assoc a b r]
  exact List.perm_append_comm_assoc _ _ _
theorem perm_told2 {α : Type} (a b c r R : List α) : (a ++ (b ++ (c ++ (r ++ R)))).Perm (c ++ (a ++ ((b ++ r) ++ R))) := by
  rw [List.append_assoc b r R]
  exact perm_told a b c (r ++ R)
section
variable {prog : Program} {w : World} {A : Around} {L : Addr} {h₀ : Heap} {m : Str → Option Value} {news : List (Addr × Obj)} {s : Shared} {E : Value → Shared → Prop}
/-- the same data are equal -/
theorem r_sameD {a b : Value} {d : Dat} {Q : Value → Shared → Prop} (G : Lg h₀ L s.heap m news) (Da : DatIn news a d) (Db : DatIn news b d) (hk : kqdOk 9 d = true) (hu : A.units + 64 < cLine) (h : Q (.bool true) s) : wpAny (model prog w) A (compareOp .Eq a b) Q E s := by
  obtain ⟨as, ra⟩ := kqd_in G.N 9 Da hk
  obtain ⟨bs, rb⟩ := kqd_in G.N 9 Db hk
  have la := kqd_lay 9 d hk
  have e : PyData.eqv (kqdP d) (kqdP d) = true := (kqd_eqv 9 d d 9 hk hk).mpr rfl
  have sh : SeqAt.shaped (kqdP d) = true := by unfold SeqAt.shaped; rw [la.1, Bool.true_and]; exact decide_eq_true (Nat.le_trans la.2 (by decide))
  exact eq_dataH ra rb sh sh hu (by rw [e]; exact h)
end
theorem book_data {ws : List (List Nat × Nat)} (hw : DueOk ws) : kqdOk 9 (.tuple [.list ((kept ws).map rowD), .list ((refused ws).map txtD)]) = true := by
  simp only [kqdOk, List.all_cons, List.all_nil, Bool.and_true, Bool.and_eq_true, List.all_eq_true]
  refine ⟨fun d hd => ?_, fun d hd => ?_⟩
  · obtain ⟨p, hp, rfl⟩ := List.mem_map.mp hd
    have hr := kept_ok (rows := []) hw.all (by simp) p hp
    simp only [rowD, kqdOk, List.all_cons, List.all_nil, Bool.and_true, Bool.and_eq_true]
    refine ⟨hr.word.data, ?_⟩
    obtain ⟨n, hn, e⟩ := hr.val
    rw [e]
    exact strOk_S fun c hc => by rw [List.mem_singleton.mp hc]; omega
  · obtain ⟨p, hp, rfl⟩ := List.mem_map.mp hd
    obtain ⟨q, hq, rfl⟩ := List.mem_map.mp hp
    exact (hw.all q (List.mem_filter.mp hq).1).1.data
theorem take_due {α : Type} (l : List α) (a b : α) (n : Nat) (h : n = l.length + 2) : (l ++ [a, b]).take (n - 2) = l := by
  rw [h, show l.length + 2 - 2 = l.length by omega, List.take_left]
/-- what is left behind some readings -/
def after : Nat → List Nat → List Nat
  | 0, l => l
  | n + 1, l => (tkS (after n l)).2
theorem after_tk : ∀ (n : Nat) (l : List Nat), after n (tkS l).2 = (tkS (after n l)).2
  | 0, _ => rfl
  | n + 1, l => by show (tkS (after n (tkS l).2)).2 = _; rw [after_tk n]; rfl
theorem reads_snoc : ∀ (n R : Nat) (l : List Nat), reads (n + 1) R l = reads n R l ++ [((tkS (after n l)).1, R - nls (after (n + 1) l))]
  | 0, _, _ => rfl
  | n + 1, R, l => by
    rw [reads, reads_snoc n, after_tk, after_tk]
    rfl
theorem nls_drop (p : Nat) (l : List Nat) : nls (l.drop p) ≤ nls l := (List.drop_sublist p l).count_le 10
/-- what is told so far -/
inductive ToldJ (w : World) (k1 k2 k3 k4 : Tok) (st : Addr) (tw : Tok) (P dx T : Addr) (tx : List Nat) (R : Nat) (R0 : List (Addr × Obj)) (i : Nat) (ys : List Value) : List (Addr × Obj) → Prop
  | mk {ln : Int} {tl tp : Tok} {p c : Nat} {r2 : List (Addr × Obj)} : p ≤ tx.length → tx.drop p = after i tx → ln + nls (tx.drop p) = (R : Int) → DatAll r2 ys ((reads i R tx).map wordD) →
      ToldJ w k1 k2 k3 k4 st tw P dx T tx R R0 i ys ((dx, dictOf (mes w k1 k2 k3 k4 ln tl st tw P) 4) :: (T, listOf #[.int ((p : Nat) : Int) tp] c) :: (P, listOf #[] 0) :: (r2 ++ R0))
set_option maxHeartbeats 20000000
theorem T : PySem.Challenge.rw_pe0228_01.Holds := hd (by
  k_go0
  rename News _ _ _ _ => N'
  rename Fr _ _ _ _ => F'
  rename Below _ _ _ _ => K'
  rename Top topProg _ _ _ _ _ => T'
  rename Frag.In _ _ => X'
  rename CodeHd _ _ _ => hcd
  rename Heap.IsList _ _ _ => hS
  rename IntsAre _ _ => hI
  rename (¬ (_ : Int) < _) => hlen
  rename (249 < _) => l0
  rename Shared => s1
  rename Obj => oc
  rename (oc.data = _) => d1
  rename (s1.gens = #[]) => hg
  refine with_Cx (n := 20) ⟨⟨_, _, _, K', rfl⟩, rfl, rfl, rfl, X', T', Nat.le_of_ble_eq_true rfl, Nat.le_of_ble_eq_true rfl, rfl⟩ ?_
  intro C
  have hnd : ([s1.heap.objs.size + 1, 249] : List Nat).Nodup := by
    simp
    omega
  have G : Lg _ _ _ _ _ := ⟨F', N', hnd⟩
  refine hideQ fun Y0 hY => ?_
  walk_at "go"
  first | refine Assign_Tuple ?_ | refine Assign_Tuple_swapped ?_
  walk_at "go"
  refine law_heads C G hS hI (by omega) ?_
  intro Th Dh h2 t2 fz0 ih ch hs hops th hTh hDh hDd hok h3 hh G
  walk_at "go"
  refine r_unpack2 C.hn G (List.mem_append_left _ hTh) ?_
  intro h4 G
  walk_at "go"
  first | refine Assign_Tuple ?_ | refine Assign_Tuple_swapped ?_
  walk_at "go"
  refine law_due C G (List.mem_append_left _ hDh) (hDd.mono fun _ h => List.mem_append_left _ h) hok h3 hh ?_
  intro Td Dw h5 t5 fz1 iw cw tr hTd hDw hwd G
  walk_at "go"
  refine r_unpack2 C.hn G (List.mem_append_left _ hTd) ?_
  intro h6 G
  walk_at "go"
  refine law_sent C G (List.mem_append_right _ (List.mem_append_left _ hDh)) (hDd.mono fun _ h => List.mem_append_right _ (List.mem_append_left _ h)) hok h3 hh ?_
  intro h7 t7 u7 G
  walk_at "go"
  have htl : (sentN hops (sent0 hs)).length ≤ 1000000 := by
    have h1 := sentN_len (sent0 hs) hops
    have h2 := sent0_len hok
    have h4 : 2 ^ hops ≤ 4 := by
      rcases (by omega : hops = 0 ∨ hops = 1 ∨ hops = 2) with rfl | rfl | rfl <;> decide
    have h5 : 2 ^ hops * (sent0 hs).length ≤ 4 * (47 * 3 + 2) := Nat.mul_le_mul h4 (by rw [h3] at h2; exact h2)
    omega
  have etx := sent_strands hops hok
  generalize sentN hops (sent0 hs) = tx at *
  have G := G.perm (perm_end fz1 fz0 _ _)
  refine law_machine C G hcd (by rw [S_len]; exact htl) ?_
  intro x dx st Ta P h8 t8 k1 k2 k3 k4 tl tw tp fz2 HM htb G
  have G : Lg _ _ _ _ (_ :: _ :: _ :: _ :: (fz2 ++ (fz1 ++ fz0))) := G.perm (perm_cell [_, _, _] fz2 (fz1 ++ fz0) _)
  walk_at "go"
  refine r_storeC (i := 0) G rfl rfl d1 ?_
  intro h9 o2 e2 G
  dsimp only [List.set_cons_zero] at G
  dsimp only
  obtain ⟨R0, hR0, G⟩ : ∃ R0, R0 = (s1.heap.objs.size + 1, o2) :: (fz2 ++ (fz1 ++ fz0)) ∧ Lg _ _ h9 _ (_ :: _ :: _ :: R0) := ⟨_, rfl, G.perm (List.perm_middle (l₁ := [_, _, _])).symm⟩
  have hce : (s1.heap.objs.size + 1, o2) ∈ R0 := by rw [hR0]; exact .head _
  have HM := HM.mono (fz' := R0) (fun p hp => by rw [hR0]; exact .tail _ (List.mem_append_left _ hp))
  have hDw : (Dw, listOf iw cw) ∈ R0 := by rw [hR0]; exact .tail _ (List.mem_append_right _ (List.mem_append_left _ hDw))
  have hwd := DatAll.mono (news' := R0) (fun p hp => by rw [hR0]; exact .tail _ (List.mem_append_right _ (List.mem_append_left _ hp))) hwd
  obtain ⟨ps, htb⟩ : ∃ ps, (249, tabObj ps) ∈ R0 := by
    obtain ⟨ps, h⟩ := htb
    exact ⟨ps, by rw [hR0]; exact .tail _ (List.mem_append_left _ h)⟩
  clear hR0 hTh hDh hDd hTd
  have hdo := due_ok (due_inv hok hh h3)
  have hwl : iw.size = (dueD hops hs).all.length := by
    have := hwd.length
    simpa using this
  have hwl2 := hdo.len
  walk_at "go"
  refine assign_U G rfl rfl rfl rfl rfl (by decide) rfl (by decide) rfl ?_
  walk_at "go"
  refine len_list (G.lst (.tail _ (.tail _ (.tail _ hDw)))) (by omega) ?_
  walk_at "go"
  refine r_range1 G ?_
  intro r h10 t10 u1 u2 u3 hr G
  refine src_range (N := (dueD hops hs).all.length + 2) C.hn G hr (by rw [hwl]; rfl) (by omega) ?_
  rintro I s2 ⟨h11, rfl⟩ Z
  obtain ⟨R, hR⟩ : ∃ R, R = 1 + nls tx := ⟨_, rfl⟩
  refine ⟨I, _, _, _, _, rfl, Nat.le_trans (Nat.add_le_add_right hwl2 2) (by decide), Z, fun i ys nw => ToldJ _ k1 k2 k3 k4 st tw P dx Ta tx R R0 i ys nw, fun _ _ _ _ => trivial, .mk (r2 := []) (Nat.zero_le _) rfl (by rw [hR]; simp [nls]) .nil, ?_, ?_⟩
  · intro I i v ys h12 t12 nw oI Cc oC Dl m₂ hi pt1 hC hm2 pt2 GG
    refine hideQ fun Z0 hZ => ?_
    obtain ⟨tv, rfl⟩ := pt1
    rcases pt2 with ⟨hp, hdr, hln, hys⟩
    rename_i ln tl tp p c r2
    have G := GG
    have hce2 : (s1.heap.objs.size + 1, o2) ∈ r2 ++ R0 := List.mem_append_right _ hce
    have hx2 : (x, instObj 76 dx) ∈ r2 ++ R0 := List.mem_append_right _ HM.hx
    walk_at "go"
    have G2 := ((G.front 5 rfl).front 5 rfl).front 5 rfl
    dsimp only [List.eraseIdx_cons_succ, List.eraseIdx_cons_zero] at G2
    refine get_token_read C G2 (HM.mono fun p hp => .tail _ (.tail _ (.tail _ (List.mem_append_right _ hp)))) (by rw [S_len]; exact hp) ?_
    intro h13 t13 t1 t2 t3 ln' p' c' fz3 hp' hdr' hln' G
    rw [S_len] at hp'
    have hdr' : tx.drop p' = (tkS (tx.drop p)).2 := hdr'
    have hln' : ln' + nls (tx.drop p') = ln + nls (tx.drop p) := hln'
    rw [show (S tx).cps.toList = tx from rfl, hdr]
    rw [hln] at hln'
    rw [hdr] at hdr'
    have hdr' : tx.drop p' = after (i + 1) tx := hdr'
    have hce2 : (s1.heap.objs.size + 1, o2) ∈ (fz3 ++ r2) ++ R0 := List.mem_append_right _ hce
    have hx2 : (x, instObj 76 dx) ∈ (fz3 ++ r2) ++ R0 := List.mem_append_right _ HM.hx
    have G : Lg _ _ _ _ (_ :: _ :: _ :: _ :: _ :: _ :: ((fz3 ++ r2) ++ R0)) := G.perm (perm_told2 [_, _, _] fz3 [_, _, _] r2 R0)
    have hns := nls_drop p' tx
    dsimp only
    walk_at "go"
    refine hZ _ _ ⟨_, _, _, rfl, G.back 6, .mk (r2 := (_, _) :: (fz3 ++ r2)) hp' hdr' hln' ?_⟩
    rw [reads_snoc, List.map_append, ← hdr']
    refine (hys.mono fun _ h => .tail _ (List.mem_append_right _ h)).append (.one (.tuple (.head _) (.cons (.str _ _) (.cons (DatIn.intEq ?_) .nil))))
    omega
  · rintro De h12 t12 ys nw ⟨hp, hdr, hln, hys⟩ GG
    rename_i ln tl tp p c r2
    rw [hR, reads_due (strands_ok hok hh) (d := dueD hops hs) rfl etx] at hys
    have G := GG
    have hDw2 : (Dw, listOf iw cw) ∈ r2 ++ R0 := List.mem_append_right _ hDw
    clear hdr hln HM hr Z etx
    dsimp only
    walk_at "go"
    refine kmk_add_lit G.F G.N (G.lst (by walk_at "mem")) (G.lst (.head _)) rfl ?_ (by rw [sizeLine_eq]; simp; omega)
    intro fl h13 F13 N13 l13
    have G := G.cons F13 N13 l13
    clear F13 N13 l13
    dsimp only
    walk_at "go"
    refine r_sameNe (xs := ys.toArray) (ka := ys.length) (ds := ((dueD hops hs).all ++ [([], (dueD hops hs).row), ([], (dueD hops hs).row)]).map wordD) G (.tail _ (.tail _ (.tail _ (.tail _ (.head _))))) (.head _) ?_ ?_ ?_ (Nat.lt_of_le_of_lt (Nat.add_le_add_left (Nat.le_of_ble_eq_true rfl) _) C.un) ?_
    · exact hys.mono fun _ h => .tail _ (.tail _ (.tail _ (.tail _ (.tail _ (.tail _ (.tail _ (.tail _ (List.mem_append_left _ h))))))))
    · show DatAll _ (_ ++ _) _
      rw [List.map_append]
      refine (hwd.mono fun _ h => .tail _ (.tail _ (.tail _ (.tail _ (.tail _ (.tail _ (.tail _ (.tail _ (List.mem_append_right _ h))))))))).append ?_
      refine .cons (.tuple (.tail _ (.tail _ (.tail _ (.head _)))) (.cons ?_ (.cons (.int _ _) .nil))) (.cons (.tuple (.tail _ (.tail _ (.head _))) (.cons ?_ (.cons (.int _ _) .nil))) .nil)
      · rw [S_nil]; exact .str _ _
      · rw [S_nil]; exact .str _ _
    · intro d hd
      obtain ⟨q, hq, rfl⟩ := List.mem_map.mp hd
      rcases List.mem_append.mp hq with hq | hq
      · exact word_data (hdo.all q hq).1
      · simp only [List.mem_cons, List.not_mem_nil, or_false] at hq
        rcases hq with rfl | rfl <;> exact word_data WordOk.nil
    walk_at "go"
    refine wpAny_Slice (evalPart_none_step (evalPart_some_step ?_))
    walk_at "go"
    refine evalPart_none_step ?_
    have hyl : ys.length = (dueD hops hs).all.length + 2 := by
      have := hys.length
      simpa using this
    refine r_part (lo := none) (hi := some (-((2 : Nat) : Int))) (its := ys.toArray) G (G.lst (by walk_at "mem")) .none (.int _ _) (by rw [List.size_toArray]; omega) ?_
    intro Dp h14 G
    rw [slicePick_butLast _ 2 (by decide)] at G
    have hys2 : DatAll r2 ((ys.toArray.toList.take (ys.toArray.size - 2)).toArray).toList ((dueD hops hs).all.map wordD) := by
      have h1 := DatAll.take (ys.length - 2) hys
      rw [← List.map_take, take_due _ _ _ _ hyl] at h1
      exact h1
    generalize (ys.toArray.toList.take (ys.toArray.size - 2)).toArray = yp at *
    dsimp only
    walk_at "go"
    refine law_book (ws := (dueD hops hs).all) K' rfl C G (.head _) (hys2.mono fun _ h => ?_) hdo ?_
    · exact .tail _ (.tail _ (.tail _ (.tail _ (.tail _ (.tail _ (.tail _ (.tail _ (.tail _ (List.mem_append_left _ h)))))))))
    intro T1 E1 E2 h15 t15 fz4 i1 c1 i2 c2 hT1 hE1 dE1 hE2 dE2 G
    walk_at "go"
    refine law_kept (ws := (dueD hops hs).all) C G (List.mem_append_right _ (by walk_at "mem")) (hwd.mono fun _ h => List.mem_append_right _ ?_) hdo ?_
    · exact .tail _ (.tail _ (.tail _ (.tail _ (.tail _ (.tail _ (.tail _ (.tail _ (.tail _ (List.mem_append_right _ h)))))))))
    intro T2 E3 E4 h16 t16 fz5 i3 c3 i4 c4 hT2 hE3 dE3 hE4 dE4 G
    dsimp only
    walk_at "go"
    refine r_sameD (d := .tuple [.list ((kept (dueD hops hs).all).map rowD), .list ((refused (dueD hops hs).all).map txtD)]) G ?_ ?_ (book_data hdo) (Nat.lt_of_le_of_lt (Nat.add_le_add_left (Nat.le_of_ble_eq_true rfl) _) C.un) ?_
    · refine DatIn.mono (news := fz4) (fun _ h => List.mem_append_right _ (List.mem_append_left _ h)) ?_
      exact .tuple hT1 (.cons (.list (vs := i1.toList) (by rw [Array.toArray_toList]; exact hE1) dE1) (.cons (.list (vs := i2.toList) (by rw [Array.toArray_toList]; exact hE2) dE2) .nil))
    · refine DatIn.mono (news := fz5) (fun _ h => List.mem_append_left _ h) ?_
      exact .tuple hT2 (.cons (.list (vs := i3.toList) (by rw [Array.toArray_toList]; exact hE3) dE3) (.cons (.list (vs := i4.toList) (by rw [Array.toArray_toList]; exact hE4) dE4) .nil))
    refine hY _ _ ⟨goodW_bool (s₁ := { s1 with heap := ghostOf s1.heap [(253, 249)] }) G.F hg (raisesW_false ?_) ?_, GrownAt.of G.N (List.mem_append_right _ (List.mem_append_right _ (.tail _ (.tail _ (.tail _ (.tail _ (.tail _ (.tail _ (.tail _ (.tail _ (.tail _ (List.mem_append_right _ htb)))))))))))), True.intro⟩
    · wrow_none_raised
    · kc_post)
end
end Mine
theorem PySem.Challenge.cw_pe0228_01_holds : PySem.Challenge.rw_pe0228_01.Holds :=
  Mine.T
