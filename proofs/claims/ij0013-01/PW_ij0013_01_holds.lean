import PyProof.Rows.All
import Wide.All
import OpenK.AllK
import Wide.FinOn
import PySem.Challenge.RW_ij0013_01
open PySem PySem.W PyProof.Rows PySem.Calls
set_option Elab.async false
set_option maxRecDepth 100000
set_option maxHeartbeats 8000000
namespace Mine
/- Hd -/
section
local macro_rules | `(tactic| o_head $_H) => `(tactic| exact $(Lean.mkIdent `h))
/-- lays the written part of the top (kfrag.heap_1) for the contracts; says nothing -/
theorem kfrag (h : PySem.Challenge.rw_ij0013_01.row.Holds) : PySem.Challenge.rw_ij0013_01.row.Holds := by
  k_head
end
/- Base -/
section
abbrev prog : Program := PySem.Challenge.rw_ij0013_01.row.prog
abbrev aro (dp un : Nat) (fr : Option (List Env)) (gd : Option (List Code)) : Around := { handled := none, depth := dp, frames := fr, guards := gd, units := un }

/-- the ground: what the top left, the code tables hidden -/
structure Gr (w : World) (loose : List Str) (mean : ExcName → Option Value) (mg mb : Str → Option Value) (g : Heap) : Prop where
  X : (kfrag.heap_1 w.params).In g
  T : Top topProg loose mean mg mb g

theorem Gr.keeps {w : World} {loose : List Str} {mean : ExcName → Option Value} {mg mb : Str → Option Value} {g g' : Heap} (G : Gr w loose mean mg mb g) (k : g.StaysIn g') : Gr w loose mean mg mb g' :=
  ⟨G.X.keeps k, G.T.keeps k⟩

theorem enter {w : World} {A : Around} {R : Result → Shared → Prop} {s : Shared} {K : Frag} {p : Program} {loose : List Str} {mean : ExcName → Option Value} {mg mb : Str → Option Value}
    {name qual : Str} {params : Arguments} {body : List Stmt} {scope : Scope} {dV kV doc pm cdv ct oc : Value} {an od : Option Addr} {osl : Array (Option Value)} {f : Addr} {args : Args} (binds : List (Str × Value))
    {g : Heap} (X : K.In g) (T : Top p loose mean mg mb g) (st : g.StaysIn s.heap) (news : List (Addr × Obj)) (hn : ∀ p ∈ news, s.heap.get? p.1 = some p.2 ∧ g.get? p.1 = none)
    (ho : K.lookup f = some ⟨oc, od, .func (fnOf name qual params body scope dV kV doc pm an cdv ct), osl⟩) (hcd : codeIn K cdv qual = true) (hroom : A.depth < recursionLimit)
    (hbind : bindArgs (fnOf name qual params body scope dV kV doc pm an cdv ct) args = pure binds) (hloc : ∀ y ∈ binds, scope.names.lookup y.1 = some .local)
    (h : ∀ g' L h₁, g' = hideAll s.heap (news.map (·.1)) → K.In g' → Top p loose mean mg mb g' → Fr g' L h₁ (fun y => binds.reverse.lookup y) → News g' L h₁ news → (∀ p ∈ news, p.1 < L) →
      wpAny (model prog w) (A.deeper (envX qual scope L f cdv [])) (execs body (envX qual scope L f cdv []))
        (fun fl s' => R (.ok (.ret (match fl with | .ret v => v | _ => .none))) s') (fun _ _ => False)
        { s with heap := h₁, toks := s.toks + binds.length })
    (hco : scope.isCoroutine = false) (hgen : scope.isGenerator = false) (hk : scope.kind = .function)
    (hcell : ∀ x ∈ scope.names, x.2 ≠ .cell) : codeAny (model prog w) A (.call (.ref f) args) R s := by
  have st' : g.StaysIn (hideAll s.heap (news.map (·.1))) := fun b o e => hideAll_get _ (st b o e) fun q => by
    obtain ⟨p, hp, rfl⟩ := List.mem_map.mp q
    rw [(hn p hp).2] at e; cases e
  refine codeAny_call_def (fd := fnOf name qual params body scope dV kV doc pm an cdv ct) (body := body) (binds := binds) hroom (st _ _ (X _ _ ho)) rfl (T.nolimit.keeps st) (codeRec_of (X.keeps st) hcd) rfl (BindsTo.of_eq hbind) hcell hloc (fun h₁ hns hk₁ => ?_) hco hgen hk
  exact wpAny_mono (h _ s.heap.objs.size h₁ rfl (X.keeps st') (T.keeps st') ⟨hns, fun b o e => hk₁ b o (of_hideAll _ e), Nat.le_of_eq (hideAll_size _ _)⟩
    (fun p hp => ⟨hk₁ _ _ (hn p hp).1, Nat.ne_of_lt (Heap.lt_size (hn p hp).1), hideAll_none _ (List.mem_map_of_mem hp)⟩) (fun p hp => Heap.lt_size (hn p hp).1)) (fun _ _ q => q) fun _ _ q => q.elim

/-- as enter, of a def some of whose arguments are kept in cells -/
theorem enterC {w : World} {A : Around} {R : Result → Shared → Prop} {s : Shared} {K : Frag} {p : Program} {loose : List Str} {mean : ExcName → Option Value} {mg mb : Str → Option Value}
    {name qual : Str} {params : Arguments} {body : List Stmt} {scope : Scope} {dV kV doc pm cdv ct oc : Value} {an od : Option Addr} {osl : Array (Option Value)} {f : Addr} {args : Args} (binds : List (Str × Value))
    {g : Heap} (X : K.In g) (T : Top p loose mean mg mb g) (st : g.StaysIn s.heap) (news : List (Addr × Obj)) (hn : ∀ p ∈ news, s.heap.get? p.1 = some p.2 ∧ g.get? p.1 = none)
    (ho : K.lookup f = some ⟨oc, od, .func (fnOf name qual params body scope dV kV doc pm an cdv ct), osl⟩) (hcd : codeIn K cdv qual = true) (hroom : A.depth < recursionLimit)
    (hbind : bindArgs (fnOf name qual params body scope dV kV doc pm an cdv ct) args = pure binds)
    (hkind : (binds.all fun y => scope.names.lookup y.1 == some .local || scope.names.lookup y.1 == some .cell) = true)
    (hnd : ((cellsFrom 0 scope.names []).map (·.1)).Nodup)
    (h : ∀ g' L h₁ tk cells, g' = hideAll s.heap (news.map (·.1)) → K.In g' → Top p loose mean mg mb g' → Fr g' L h₁ (bindL (envOfC qual scope L f cdv).kindOf binds fun _ => none) → News g' L h₁ (cells ++ news) →
      CellsAre (bindC (envOfC qual scope L f cdv).kindOf binds fun _ => none) (cellsFrom (L + 1) scope.names []) cells → (∀ p ∈ news, p.1 < L) →
      wpAny (model prog w) (A.deeper (envOfC qual scope L f cdv)) (execs body (envOfC qual scope L f cdv))
        (fun fl s' => R (.ok (.ret (match fl with | .ret v => v | _ => .none))) s') (fun _ _ => False)
        { s with heap := h₁, toks := tk })
    (hco : scope.isCoroutine = false) (hgen : scope.isGenerator = false) (hk : scope.kind = .function) : codeAny (model prog w) A (.call (.ref f) args) R s := by
  have st' : g.StaysIn (hideAll s.heap (news.map (·.1))) := fun b o e => hideAll_get _ (st b o e) fun q => by
    obtain ⟨p, hp, rfl⟩ := List.mem_map.mp q
    rw [(hn p hp).2] at e; cases e
  refine codeAny_call_function hroom (st _ _ (X _ _ ho)) rfl hco hgen rfl (codeRec_of (X.keeps st) hcd) (BindsTo.of_eq hbind _ _ _ _ ?_)
  refine wpAny_newFunctionEnv_cells hk (kindsX hkind _) fun env' he s' x => ?_
  subst he
  refine ⟨(T.nolimit.keeps st).keeps x.toInCall.keep, codeAny_func ?_⟩
  obtain ⟨h₁, tk, rfl, _⟩ := x.done
  have hk₁ := x.toInCall.keep
  obtain ⟨cells, NC, Y⟩ := Cl.news (h₀ := s.heap) (Nat.le_refl _) fun n c hm => ⟨x.cell n c (lookup_of_mem_nodup (cellsFrom_names scope.names 0 (s.heap.objs.size + 1) [] [] rfl ▸ hnd) hm), x.above n c hm⟩
  refine wpAny_mono (h _ s.heap.objs.size h₁ tk cells rfl (X.keeps st') (T.keeps st') ⟨x.toInCall.ns, fun b o e => hk₁ b o (of_hideAll _ e), Nat.le_of_eq (hideAll_size _ _)⟩ (fun p hp => ?_) Y (fun p hp => Heap.lt_size (hn p hp).1)) (fun _ _ q => q) fun _ _ q => q.elim
  rcases List.mem_append.mp hp with hp | hp
  · refine ⟨(NC p hp).1, (NC p hp).2.1, ?_⟩
    cases q : (hideAll s.heap (news.map (·.1))).get? p.1 with
    | none => rfl
    | some o => have := of_hideAll _ q; rw [(NC p hp).2.2] at this; cases this
  · exact ⟨hk₁ _ _ (hn p hp).1, Nat.ne_of_lt (Heap.lt_size (hn p hp).1), hideAll_none _ (List.mem_map_of_mem hp)⟩
end
/- Help -/
section
theorem frKeep {g h h2 : Heap} {L : Addr} {m : Str → Option Value} (F : Fr g L h m) (k : h.StaysIn h2) : Fr g L h2 m := ⟨F.ns.keeps k, fun b o e => k b o (F.keep b o e), F.above⟩
theorem newsKeep {g h h2 : Heap} {L : Addr} {news : List (Addr × Obj)} (N : News g L h news) (k : h.StaysIn h2) : News g L h2 news := fun p hp => ⟨k _ _ (N p hp).1, (N p hp).2⟩
theorem newsAdd {g h h2 : Heap} {L T : Addr} {m : Str → Option Value} {o : Obj} {news : List (Addr × Obj)} (F : Fr g L h m) (N : News g L h2 news) (hT : h2.get? T = some o) (fT : h.get? T = none) : News g L h2 ((T, o) :: news) := fun p hp => by
  rcases List.mem_cons.mp hp with rfl | hp
  · refine ⟨hT, fun q => ?_, ?_⟩
    · obtain ⟨oL, es, ep, e, r⟩ := F.ns
      rw [← (show T = L from q), fT] at e; cases e
    · cases q : g.get? T with
      | none => rfl
      | some o => have := F.keep _ _ q; rw [fT] at this; cases this
  · exact N p hp
end
/- Zip -/
section
abbrev siH1 (h : Heap) (x : Str) (t : Tok) : Heap := h.push { cls := .type (strIterType x), data := .fields #[.str x t, .int 0 0] }
abbrev siH2 (h : Heap) (x : Str) (t : Tok) (l : Addr) : Heap := (siH1 h x t).push { cls := .type "list_iterator", data := .fields #[.ref l, .int 0 0] }
abbrev siH3 (h : Heap) (x : Str) (t : Tok) (l : Addr) : Heap := (siH2 h x t l).push { cls := .type "tuple", data := .seq #[.ref h.objs.size, .ref (siH1 h x t).objs.size] }
abbrev siH4 (h : Heap) (x : Str) (t : Tok) (l : Addr) : Heap := (siH3 h x t l).push { cls := .type "tuple", data := .seq #[.none, .none] }
abbrev siH5 (h : Heap) (x : Str) (t : Tok) (l : Addr) : Heap := (siH4 h x t l).push { cls := .type "zip", data := .fields #[.none, .bool false, .bool false, .ref (siH2 h x t l).objs.size, .ref (siH3 h x t l).objs.size] }

theorem meets_zip_sl (x : Str) (t : Tok) (l : Addr) (ys : Array Value) :
    Meets (Builtin.«zip.__new__» ⟨[.type "zip", .str x t, .ref l], []⟩) (fun _ R s => s.heap.IsList l ys ∧
      R (.ok (.ret (.ref (siH4 s.heap x t l).objs.size))) { s with heap := siH5 s.heap x t l }) :=
  .of_wp fun prog w A R s h => by
    obtain ⟨hp, g, d, tk, os⟩ := s; obtain ⟨hl, h⟩ := h
    have hsub := sub_zip
    have hL2 : Heap.IsList (Shared.heap ⟨siH1 hp x t, g, d, tk, os⟩) l ys := Heap.IsList.push hl _
    wp_walk using wpAny_pyIter_strU, wpAny_pyIter_list hL2
    exact ⟨_, rfl, h⟩

/-- the objects of a zip over a text and a list, at the i-th turn -/
structure ZipSt (h : Heap) (n : Nat) (x : Str) (t : Tok) (l : Addr) (f0 : Value) (i : Nat) (o4 o3 o2 o1 o0 : Obj) : Prop where
  e4 : o4 = { cls := .type "zip", data := .fields #[f0, .bool false, .bool false, .ref (n + 2), .ref (n + 3)] }
  e3 : ∃ a b, o3 = { cls := .type "tuple", data := .seq #[a, b] }
  e2 : o2 = { cls := .type "tuple", data := .seq #[.ref n, .ref (n + 1)] }
  e1 : o1.cls = .type "list_iterator" ∧ o1.data = .fields #[.ref l, .int i 0]
  e0 : o0.cls = .type (strIterType x) ∧ o0.data = .fields #[.str x t, .int i 0]
  g4 : h.get? (n + 4) = some o4
  g3 : h.get? (n + 3) = some o3
  g2 : h.get? (n + 2) = some o2
  g1 : h.get? (n + 1) = some o1
  g0 : h.get? n = some o0

section
variable {prog : Program} {w : World} {A : Around} {E : Value → Shared → Prop} {s : Shared}
theorem call_zip_sl {x : Str} {t : Tok} {l : Addr} {ys : Array Value} {Q : Value → Shared → Prop} (hl : s.heap.IsList l ys)
    (h : ∀ h' o4 o3 o2 o1 o0, ZipSt h' s.heap.objs.size x t l .none 0 o4 o3 o2 o1 o0 → s.heap.StaysIn h' → Q (.ref (s.heap.objs.size + 4)) { s with heap := h' }) :
    wpAny (model prog w) A (call (.type "zip") [.str x t, .ref l]) Q E s := by
  refine callType_new F.called_zip (by decide) (F.typeCall_zip_2 _ _) (F.newCall_zip_2 _ _) (fun obj => F.args_object_init_3 obj _ _) F.entry_zip_new
    (meets_zip_sl x t l ys) ⟨hl, ?_⟩
  have z1 : (siH1 s.heap x t).objs.size = s.heap.objs.size + 1 := Heap.size_push ..
  have z2 : (siH2 s.heap x t l).objs.size = s.heap.objs.size + 2 := by rw [Heap.size_push, z1]
  have z3 : (siH3 s.heap x t l).objs.size = s.heap.objs.size + 3 := by rw [Heap.size_push, z2]
  have z4 : (siH4 s.heap x t l).objs.size = s.heap.objs.size + 4 := by rw [Heap.size_push, z3]
  have g5 : (siH5 s.heap x t l).get? (siH4 s.heap x t l).objs.size = some _ := Heap.get?_push_size _ rfl
  have g4 : (siH5 s.heap x t l).get? (siH3 s.heap x t l).objs.size = some _ := Heap.get?_push_of_some _ (Heap.get?_push_size _ rfl)
  have g3 : (siH5 s.heap x t l).get? (siH2 s.heap x t l).objs.size = some _ := Heap.get?_push_of_some _ (Heap.get?_push_of_some _ (Heap.get?_push_size _ rfl))
  have g2 : (siH5 s.heap x t l).get? (siH1 s.heap x t).objs.size = some _ := Heap.get?_push_of_some _ (Heap.get?_push_of_some _ (Heap.get?_push_of_some _ (Heap.get?_push_size _ rfl)))
  have g1 : (siH5 s.heap x t l).get? s.heap.objs.size = some _ := Heap.get?_push_of_some _ (Heap.get?_push_of_some _ (Heap.get?_push_of_some _ (Heap.get?_push_of_some _ (Heap.get?_push_size _ rfl))))
  show _ ∧ _
  rw [z2, z3, z4] at g5
  rw [z1, z2] at g3
  rw [z3] at g4
  rw [z1] at g2
  rw [z4]
  exact ⟨⟨_, g5, rfl⟩, h _ _ _ _ _ _ ⟨rfl, ⟨_, _, rfl⟩, rfl, ⟨rfl, rfl⟩, ⟨rfl, rfl⟩, g5, g4, g3, g2, g1⟩ fun c o x =>
    Heap.get?_push_of_some _ (Heap.get?_push_of_some _ (Heap.get?_push_of_some _ (Heap.get?_push_of_some _ (Heap.get?_push_of_some _ x))))⟩
end
end
/- Zip2 -/
section
section
variable {prog : Program} {w : World} {A : Around} {E : Value → Shared → Prop} {s : Shared}

theorem nextOf_str_item {it : Addr} {x : Str} {t : Tok} {i c : Nat} {Q : Value → Shared → Prop} (hit : s.heap.IsStrIter it (strIterType x) x t i) (hx : x.cps[i]? = some c)
    (hQ : ∀ h', h'.IsStrIter it (strIterType x) x t (i + 1) → Heap.SameBut it s.heap h' → Q (.str ⟨#[c]⟩ s.toks) { s with heap := h', toks := s.toks + 1 }) :
    wpAny (model prog w) A (Builtin.SmallTypes.nextOf (.ref it)) Q E s := by
  by_cases ha : x.cps.all (· < 128) = true
  · rw [show strIterType x = "str_ascii_iterator" from if_pos ha] at hit hQ
    exact wpAny_nextOf_ascii_item hit hx hQ
  · rw [show strIterType x = "str_iterator" from if_neg ha] at hit hQ
    exact wpAny_nextOf_wide_item hit hx hQ

theorem nextOf_str_end {it : Addr} {x : Str} {t : Tok} {i : Nat} {Q : Value → Shared → Prop} (hh : A.handled = none)
    (hit : s.heap.IsStrIter it (strIterType x) x t i) (hx : x.cps[i]? = none)
    (hE : ∀ h' e, Heap.ExtBut it s.heap h' → (∃ o, h'.get? e = some o ∧ o.cls = .type "StopIteration") → E (.ref e) { s with heap := h' }) :
    wpAny (model prog w) A (Builtin.SmallTypes.nextOf (.ref it)) Q E s := by
  by_cases ha : x.cps.all (· < 128) = true
  · rw [show strIterType x = "str_ascii_iterator" from if_pos ha] at hit
    exact wpAny_nextOf_ascii_end hh hit hx hE
  · rw [show strIterType x = "str_iterator" from if_neg ha] at hit
    exact wpAny_nextOf_wide_end hh hit hx hE

theorem siAt {h h' : Heap} {a : Addr} {ty : String} {x : Str} {t : Tok} {i : Nat} (H : h.IsStrIter a ty x t i) (e : ∀ o, h.get? a = some o → h'.get? a = some o) : h'.IsStrIter a ty x t i := let ⟨o, ho, r⟩ := H; ⟨o, e _ ho, r⟩
theorem siExt {h h' : Heap} {a b : Addr} {ty : String} {x : Str} {t : Tok} {i : Nat} (H : h.IsStrIter a ty x t i) (e : Heap.ExtBut b h h') (n : a ≠ b) : h'.IsStrIter a ty x t i := let ⟨o, ho, r⟩ := H; ⟨o, e _ _ n ho, r⟩

structure ZApart (z TI TO i1 i2 l2 : Addr) : Prop where
  TIz : TI ≠ z
  TOz : TO ≠ z
  i1z : i1 ≠ z
  i2z : i2 ≠ z
  TITO : TI ≠ TO
  TIi1 : TI ≠ i1
  TIi2 : TI ≠ i2
  TOi1 : TO ≠ i1
  TOi2 : TO ≠ i2
  i12 : i1 ≠ i2
  l2z : l2 ≠ z
  l2TO : l2 ≠ TO
  l2i1 : l2 ≠ i1
  l2i2 : l2 ≠ i2

theorem zsl_next_item {z TI TO i1 i2 l2 : Addr} {k1 k2 c : Nat} {xs : Str} {tx : Tok} {ys : Array Value} {y a b : Value} {Q : Value → Shared → Prop} (D : ZApart z TI TO i1 i2 l2)
    (hz : IsZip s.heap z TI TO .none) (hTI : IsPair s.heap TI (.ref i1) (.ref i2)) (hTO : IsPair s.heap TO a b)
    (h1 : s.heap.IsStrIter i1 (strIterType xs) xs tx k1) (h2 : s.heap.IsListIter i2 l2 k2) (hl2 : s.heap.IsList l2 ys) (hx : xs.cps[k1]? = some c) (hy : ys[k2]? = some y)
    (hQ : ∀ h' tk tx', IsZip h' z TI TO (rawInt s.heap.objs.size) → IsPair h' TO (.str ⟨#[c]⟩ tx') y → h'.IsStrIter i1 (strIterType xs) xs tx (k1 + 1) → h'.IsListIter i2 l2 (k2 + 1) → IsPair h' s.heap.objs.size (.str ⟨#[c]⟩ tx') y → h'.objs.size = s.heap.objs.size + 1 →
      (∀ c o, c ≠ z → c ≠ TO → c ≠ i1 → c ≠ i2 → s.heap.get? c = some o → h'.get? c = some o) → Q (.ref s.heap.objs.size) { s with heap := h', toks := tk }) :
    wpAny (model prog w) A (Builtin.«zip.__next__» ⟨[.ref z], []⟩) (fun fin s' => ∃ v, fin = .done (.ret v) ∧ Q v s') E s := by
  show wpAny _ _ (field (.ref z) 2 >>= _) _ _ _
  refine wpAny_bind (wpAny_field hz rfl (x := .bool false) rfl ?_)
  show wpAny _ _ (field (.ref z) 3 >>= _) _ _ _
  refine wpAny_bind (wpAny_field hz rfl (x := .ref TI) rfl ?_)
  refine wpAny_bind (wpAny_seqItems hTI rfl ?_)
  show wpAny _ _ (Builtin.SmallTypes.ownedTupleIsFree (.ref z) >>= _) _ _ _
  refine wpAny_bind ?_
  unfold Builtin.SmallTypes.ownedTupleIsFree
  refine wpAny_bind (wpAny_field hz rfl (x := .none) rfl (wpAny_pure ?_))
  simp only [if_true]
  refine wpAny_bind (wpAny_rule ?_)
  refine wpAny_bind (wpAny_field hz rfl (x := .ref TO) rfl ?_)
  refine wpAny_bind (wpAny_setField_rec hz (by simp) fun h₁ hz₁ hs₁ => ?_)
  replace hz₁ : IsZip h₁ z TI TO .ellipsis := hz₁
  refine wpAny_bind ?_
  simp only [List.zipIdx_cons, List.zipIdx_nil, List.forIn_cons, List.forIn_nil]
  refine wpAny_bind (wpAny_bind (wpAny_onRaise ?_))
  show wpAny _ _ (Builtin.SmallTypes.nextOf (.ref i1) >>= _) _ _ _
  refine wpAny_bind (nextOf_str_item (siExt h1 hs₁.extBut D.i1z) hx fun h₂ h1₂ hs₂ => wpAny_pure ?_)
  have hTO₂ : IsPair h₂ TO a b := hs₂.extBut _ _ D.TOi1 (hs₁.extBut _ _ D.TOz hTO)
  refine wpAny_bind (wpAny_seqItems hTO₂ rfl ?_)
  refine wpAny_bind (wpAny_updateSeq_pair hTO₂ fun h₃ hTO₃ hs₃ => ?_)
  replace hTO₃ : IsPair h₃ TO (.str ⟨#[c]⟩ s.toks) b := hTO₃
  refine wpAny_bind (wpAny_letGo (wpAny_pure ?_))
  refine wpAny_bind (wpAny_bind (wpAny_onRaise ?_))
  show wpAny _ _ (Builtin.SmallTypes.nextOf (.ref i2) >>= _) _ _ _
  refine wpAny_bind (wpAny_nextOf_list_item (((h2.extBut hs₁.extBut D.i2z).extBut hs₂.extBut D.i12.symm).extBut hs₃.extBut D.TOi2.symm)
    (((hl2.extBut hs₁.extBut D.l2z).extBut hs₂.extBut D.l2i1).extBut hs₃.extBut D.l2TO) hy fun h₄ h2₄ hs₄ => wpAny_pure ?_)
  have hTO₄ : IsPair h₄ TO (.str ⟨#[c]⟩ s.toks) b := hs₄.extBut _ _ D.TOi2 hTO₃
  refine wpAny_bind (wpAny_seqItems hTO₄ rfl ?_)
  refine wpAny_bind (wpAny_updateSeq_pair hTO₄ fun h₅ hTO₅ hs₅ => ?_)
  replace hTO₅ : IsPair h₅ TO (.str ⟨#[c]⟩ s.toks) y := hTO₅
  refine wpAny_bind (wpAny_letGo (wpAny_pure (wpAny_pure ?_)))
  refine wpAny_bind (wpAny_seqItems hTO₅ rfl ?_)
  refine wpAny_bind (wpAny_newTuple ?_)
  have hsz : h₅.objs.size = s.heap.objs.size := by rw [hs₅.1, hs₄.1, hs₃.1, hs₂.1, hs₁.1]
  have hz₅ : IsZip h₅ z TI TO .ellipsis := hs₅.extBut _ _ D.TOz.symm (hs₄.extBut _ _ D.i2z.symm (hs₃.extBut _ _ D.TOz.symm (hs₂.extBut _ _ D.i1z.symm hz₁)))
  have hk₅ : ∀ c o, c ≠ z → c ≠ TO → c ≠ i1 → c ≠ i2 → s.heap.get? c = some o → h₅.get? c = some o := fun c o c1 c2 c3 c4 e =>
    hs₅.extBut _ _ c2 (hs₄.extBut _ _ c4 (hs₃.extBut _ _ c2 (hs₂.extBut _ _ c3 (hs₁.extBut _ _ c1 e))))
  have h1₅ : h₅.IsStrIter i1 (strIterType xs) xs tx (k1 + 1) := siExt (siExt (siExt h1₂ hs₃.extBut D.TOi1.symm) hs₄.extBut D.i12) hs₅.extBut D.TOi1.symm
  have h2₅ : h₅.IsListIter i2 l2 (k2 + 1) := h2₄.extBut hs₅.extBut D.TOi2.symm
  have hzlt : z < h₅.objs.size := Heap.lt_size hz₅
  have hTOlt : TO < h₅.objs.size := Heap.lt_size hTO₅
  show wpAny _ _ (Builtin.SmallTypes.ownedTupleHandOut (.ref z) (.ref h₅.objs.size) >>= _) _ _ _
  refine wpAny_bind ?_
  unfold Builtin.SmallTypes.ownedTupleHandOut
  have hz₆ : IsZip (h₅.push { cls := .type "tuple", data := .seq #[.str ⟨#[c]⟩ s.toks, y] }) z TI TO .ellipsis := Heap.get?_push_of_some _ hz₅
  refine wpAny_bind (wpAny_setField_rec hz₆ (by simp) fun h₇ hz₇ hs₇ => ?_)
  replace hz₇ : IsZip h₇ z TI TO (rawInt h₅.objs.size) := hz₇
  refine wpAny_setField_rec hz₇ (by simp) fun h₈ hz₈ hs₈ => ?_
  replace hz₈ : IsZip h₈ z TI TO (rawInt h₅.objs.size) := hz₈
  have up : ∀ c o, c ≠ z → h₅.get? c = some o → h₈.get? c = some o := fun c o c1 e => hs₈.extBut _ _ c1 (hs₇.extBut _ _ c1 (Heap.get?_push_of_some _ e))
  have hT₈ : IsPair h₈ h₅.objs.size (.str ⟨#[c]⟩ s.toks) y := hs₈.extBut _ _ (Nat.ne_of_gt hzlt) (hs₇.extBut _ _ (Nat.ne_of_gt hzlt) (Heap.get?_push_size _ rfl))
  have hz8 : h₈.objs.size = h₅.objs.size + 1 := by rw [hs₈.1, hs₇.1, Heap.size_push]
  rw [hsz] at hz₈ hT₈ hz8
  refine wpAny_pure ⟨_, rfl, ?_⟩
  show Q (.ref h₅.objs.size) _
  rw [hsz]
  exact hQ h₈ _ _ hz₈ (up _ _ D.TOz hTO₅) (siAt h1₅ fun o e => up _ o D.i1z e) (h2₅.at fun o e => up _ o D.i2z e) hT₈ hz8 fun c o c1 c2 c3 c4 e => up c o c1 (hk₅ c o c1 c2 c3 c4 e)

theorem zsl_next_end {z TI TO i1 i2 l2 : Addr} {k1 k2 : Nat} {xs : Str} {tx : Tok} {ys : Array Value} {a b : Value} {Q : Fin → Shared → Prop} (hh : A.handled = none) (D : ZApart z TI TO i1 i2 l2)
    (hz : IsZip s.heap z TI TO .none) (hTI : IsPair s.heap TI (.ref i1) (.ref i2)) (hTO : IsPair s.heap TO a b)
    (h1 : s.heap.IsStrIter i1 (strIterType xs) xs tx k1) (h2 : s.heap.IsListIter i2 l2 k2) (hl2 : s.heap.IsList l2 ys) (hend : xs.cps[k1]? = none ∨ ys[k2]? = none)
    (hE : ∀ h' tk e, (∀ c o, c ≠ z → c ≠ TO → c ≠ i1 → c ≠ i2 → s.heap.get? c = some o → h'.get? c = some o) → (∃ o, h'.get? e = some o ∧ o.cls = .type "StopIteration") → E (.ref e) { s with heap := h', toks := tk }) :
    wpAny (model prog w) A (Builtin.«zip.__next__» ⟨[.ref z], []⟩) Q E s := by
  show wpAny _ _ (field (.ref z) 2 >>= _) _ _ _
  refine wpAny_bind (wpAny_field hz rfl (x := .bool false) rfl ?_)
  show wpAny _ _ (field (.ref z) 3 >>= _) _ _ _
  refine wpAny_bind (wpAny_field hz rfl (x := .ref TI) rfl ?_)
  refine wpAny_bind (wpAny_seqItems hTI rfl ?_)
  show wpAny _ _ (Builtin.SmallTypes.ownedTupleIsFree (.ref z) >>= _) _ _ _
  refine wpAny_bind ?_
  unfold Builtin.SmallTypes.ownedTupleIsFree
  refine wpAny_bind (wpAny_field hz rfl (x := .none) rfl (wpAny_pure ?_))
  simp only [if_true]
  refine wpAny_bind (wpAny_rule ?_)
  refine wpAny_bind (wpAny_field hz rfl (x := .ref TO) rfl ?_)
  refine wpAny_bind (wpAny_setField_rec hz (by simp) fun h₁ hz₁ hs₁ => ?_)
  replace hz₁ : IsZip h₁ z TI TO .ellipsis := hz₁
  refine wpAny_bind ?_
  simp only [List.zipIdx_cons, List.zipIdx_nil, List.forIn_cons, List.forIn_nil]
  refine wpAny_bind (wpAny_bind (wpAny_onRaise ?_))
  show wpAny _ _ (Builtin.SmallTypes.nextOf (.ref i1) >>= _) _ _ _
  cases hx : xs.cps[k1]? with
  | none =>
    refine wpAny_bind (nextOf_str_end hh (siExt h1 hs₁.extBut D.i1z) hx fun h₂ e hs₂ he => ?_)
    obtain ⟨oe, hoe, hce⟩ := he
    have hz₂ : IsZip h₂ z TI TO .ellipsis := hs₂ _ _ D.i1z.symm hz₁
    have hez : e ≠ z := fun x => by subst x; rw [hz₂] at hoe; cases hoe; simp at hce
    refine wpAny_setField_rec hz₂ (by simp) fun h₃ _ hs₃ => hE h₃ _ e (fun c o c1 _ c3 _ x => hs₃.extBut _ _ c1 (hs₂ _ _ c3 (hs₁.extBut _ _ c1 x))) ⟨oe, hs₃.extBut _ _ hez hoe, hce⟩
  | some x =>
    have hy : ys[k2]? = none := by rcases hend with h | h; rw [hx] at h; cases h; exact h
    refine wpAny_bind (nextOf_str_item (siExt h1 hs₁.extBut D.i1z) hx fun h₂ h1₂ hs₂ => wpAny_pure ?_)
    have hTO₂ : IsPair h₂ TO a b := hs₂.extBut _ _ D.TOi1 (hs₁.extBut _ _ D.TOz hTO)
    refine wpAny_bind (wpAny_seqItems hTO₂ rfl ?_)
    refine wpAny_bind (wpAny_updateSeq_pair hTO₂ fun h₃ hTO₃ hs₃ => ?_)
    refine wpAny_bind (wpAny_letGo (wpAny_pure ?_))
    refine wpAny_bind (wpAny_bind (wpAny_onRaise ?_))
    show wpAny _ _ (Builtin.SmallTypes.nextOf (.ref i2) >>= _) _ _ _
    refine wpAny_bind (wpAny_nextOf_list_end hh (((h2.extBut hs₁.extBut D.i2z).extBut hs₂.extBut D.i12.symm).extBut hs₃.extBut D.TOi2.symm)
      (((hl2.extBut hs₁.extBut D.l2z).extBut hs₂.extBut D.l2i1).extBut hs₃.extBut D.l2TO) hy fun h₄ e hs₄ he => ?_)
    obtain ⟨oe, hoe, hce⟩ := he
    have hz₄ : IsZip h₄ z TI TO .ellipsis := hs₄ _ _ D.i2z.symm (hs₃.extBut _ _ D.TOz.symm (hs₂.extBut _ _ D.i1z.symm hz₁))
    have hez : e ≠ z := fun x => by subst x; rw [hz₄] at hoe; cases hoe; simp at hce
    refine wpAny_setField_rec hz₄ (by simp) fun h₅ _ hs₅ => hE h₅ _ e (fun c o c1 c2 c3 c4 x => hs₅.extBut _ _ c1 (hs₄ _ _ c4 (hs₃.extBut _ _ c2 (hs₂.extBut _ _ c3 (hs₁.extBut _ _ c1 x))))) ⟨oe, hs₅.extBut _ _ hez hoe, hce⟩

/-- what a zip over a text and a list is, before the i-th turn -/
def ZSt (z TI TO i1 i2 l2 : Addr) (xs : Str) (tx : Tok) (ys : Array Value) (i : Nat) (h : Heap) : Prop :=
  IsZip h z TI TO .none ∧ IsPair h TI (.ref i1) (.ref i2) ∧ (∃ a b, IsPair h TO a b) ∧ h.IsStrIter i1 (strIterType xs) xs tx i ∧ h.IsListIter i2 l2 i ∧ h.IsList l2 ys

theorem walks_zsl (hh : A.handled = none) (z TI TO i1 i2 l2 : Addr) (D : ZApart z TI TO i1 i2 l2) (xs : Str) (tx : Tok) (ys : Array Value) :
    WalksT prog w A z [z, TI, TO, i1, i2, l2] [z, TO, i1, i2] (min xs.cps.size ys.size)
      (fun i vals => ∃ c u y, xs.cps[i]? = some c ∧ ys[i]? = some y ∧ vals = #[.str ⟨#[c]⟩ u, y])
      (ZSt z TI TO i1 i2 l2 xs tx ys)
      (fun i T h => IsZip h z TI TO (rawInt T) ∧ IsPair h TI (.ref i1) (.ref i2) ∧ (∃ a b, IsPair h TO a b) ∧ h.IsStrIter i1 (strIterType xs) xs tx (i + 1) ∧ h.IsListIter i2 l2 (i + 1) ∧ h.IsList l2 ys ∧
        T ≠ z ∧ T ≠ TO ∧ T ≠ i1 ∧ T ≠ i2) where
  sub := fun c hc => by simp at hc ⊢; rcases hc with rfl | rfl | rfl | rfl <;> simp
  frame := fun i h h' hst hk => by
    obtain ⟨hz, hTI, ⟨a, b, hTO⟩, h1, h2, hl2⟩ := hst
    exact ⟨hk z (by simp) _ hz, hk TI (by simp) _ hTI, ⟨a, b, hk TO (by simp) _ hTO⟩, siAt h1 fun o e => hk i1 (by simp) o e, h2.at fun o e => hk i2 (by simp) o e, hl2.at fun o e => hk l2 (by simp) o e⟩
  item := fun i s Q E hi hst hQ => by
    obtain ⟨hz, hTI, ⟨a, b, hTO⟩, h1, h2, hl2⟩ := hst
    have hix : i < xs.cps.size := Nat.lt_of_lt_of_le hi (Nat.min_le_left ..)
    have hiy : i < ys.size := Nat.lt_of_lt_of_le hi (Nat.min_le_right ..)
    have hT : s.TypeIs (.ref z) "zip" := ⟨_, hz, rfl⟩
    have lt : ∀ {c o}, s.heap.get? c = some o → s.heap.objs.size ≠ c := fun e => Nat.ne_of_gt (Heap.lt_size e)
    unfold pyNext
    refine wpAny_bind (wpAny_attempt (wpAny_callSpecial?_slot (name := Str.ofString "__next__") hT F.slot_zip_next
      (wpAny_call_entry F.slot_zip_next hT F.entry_zip_next
        (zsl_next_item D hz hTI hTO h1 h2 hl2 (Array.getElem?_eq_getElem hix) (Array.getElem?_eq_getElem hiy) fun h' tk tx' a1 a2 a3 a4 a5 a6 hk => wpAny_pure ?_) (F.args_zip_next_1 _))))
    exact hQ s.heap.objs.size #[.str ⟨#[xs.cps[i]]⟩ tx', ys[i]] h' tk ⟨_, _, _, Array.getElem?_eq_getElem hix, Array.getElem?_eq_getElem hiy, rfl⟩ (Nat.le_refl _) ⟨_, a5, rfl, _, rfl⟩
      ⟨a1, hk _ _ D.TIz D.TITO D.TIi1 D.TIi2 hTI, ⟨_, _, a2⟩, a3, a4, hl2.at fun o e => hk _ o D.l2z D.l2TO D.l2i1 D.l2i2 e,
        lt hz, lt hTO, (by obtain ⟨_, e, _⟩ := h1; exact lt e), (by obtain ⟨_, e, _⟩ := h2; exact lt e)⟩
      fun c o hc e => hk c o (fun x => hc (by simp [x])) (fun x => hc (by simp [x])) (fun x => hc (by simp [x])) (fun x => hc (by simp [x])) e
  go := fun elts k pos i T s Q E hm hQ => by
    obtain ⟨hz, hTI, ⟨a, b, hTO⟩, h1, h2, hl2, _⟩ := hm
    refine wpAny_letOwnedTupleGo_zip hz fun h' hz' hs' => hQ h' ⟨hz', hs'.extBut _ _ D.TIz hTI, ⟨a, b, hs'.extBut _ _ D.TOz hTO⟩, siExt h1 hs'.extBut D.i1z, h2.extBut hs'.extBut D.i2z,
      hl2.extBut hs'.extBut D.l2z⟩ fun c o hc e => hs'.extBut _ _ (fun x => hc (by simp [x])) e
  apart := fun i T h hm hT => by
    obtain ⟨_, _, _, _, _, _, t1, t2, t3, t4⟩ := hm
    simp at hT
    rcases hT with rfl | rfl | rfl | rfl
    · exact t1 rfl
    · exact t2 rfl
    · exact t3 rfl
    · exact t4 rfl
  done := fun s Q E hst hQ => by
    obtain ⟨hz, hTI, ⟨a, b, hTO⟩, h1, h2, hl2⟩ := hst
    have hend : xs.cps[min xs.cps.size ys.size]? = none ∨ ys[min xs.cps.size ys.size]? = none := by
      rcases Nat.le_total xs.cps.size ys.size with h | h
      · exact .inl (by rw [Nat.min_eq_left h]; exact Array.getElem?_eq_none (Nat.le_refl _))
      · exact .inr (by rw [Nat.min_eq_right h]; exact Array.getElem?_eq_none (Nat.le_refl _))
    have hT : s.TypeIs (.ref z) "zip" := ⟨_, hz, rfl⟩
    unfold pyNext
    refine wpAny_bind (wpAny_attempt (wpAny_callSpecial?_slot (name := Str.ofString "__next__") hT F.slot_zip_next
      (wpAny_call_entry F.slot_zip_next hT F.entry_zip_next (zsl_next_end hh D hz hTI hTO h1 h2 hl2 hend fun h' tk e hk he => ?_) (F.args_zip_next_1 _))))
    obtain ⟨o, ho, hc⟩ := he
    refine wpAny_bind (wpAny_isInstance (T := "StopIteration") (b := true) ⟨o, ho, hc⟩ isSubtype_stop ?_)
    exact wpAny_pure (hQ h' tk fun c o hc e =>
      hk c o (fun x => hc (by simp [x])) (fun x => hc (by simp [x])) (fun x => hc (by simp [x])) (fun x => hc (by simp [x])) e)
  self := fun i s Q E hst hQ => wpAny_pyIter_zip hst.1 hQ
end
end
/- ForZ -/
section
theorem newsSub {h₀ h : Heap} {L : Addr} {a b : List (Addr × Obj)} (N : News h₀ L h b) (k : ∀ p ∈ a, p ∈ b) : News h₀ L h a := fun p hp => N p (k p hp)
theorem newsKeepBut {g h h2 : Heap} {L : Addr} {news : List (Addr × Obj)} {wr : List Addr} (N : News g L h news) (hw : ∀ p ∈ news, p.1 ∉ wr) (k : ∀ b o, b ∉ wr → h.get? b = some o → h2.get? b = some o) : News g L h2 news :=
  fun p hp => ⟨k _ _ (hw p hp) (N p hp).1, (N p hp).2⟩
theorem frKeepBut {g h h2 : Heap} {L : Addr} {m : Str → Option Value} {wr : List Addr} (F : Fr g L h m) (hL : L ∉ wr) (hg : ∀ b ∈ wr, g.get? b = none) (k : ∀ b o, b ∉ wr → h.get? b = some o → h2.get? b = some o) : Fr g L h2 m :=
  ⟨F.ns.at' fun o e => k _ o hL e, fun b o e => k b o (fun q => by rw [hg b q] at e; cases e) (F.keep b o e), F.above⟩

theorem zApart {l n : Nat} (h : l < n) : ZApart (n + 4) (n + 2) (n + 3) n (n + 1) l := by
  have k : ∀ a b : Nat, (a < b ∨ b < a) → (a : Addr) ≠ b := fun a b h e => by
    have e : a = b := e
    omega
  constructor <;> refine k _ _ ?_ <;> omega
theorem zipSt_zst {h : Heap} {n : Nat} {x : Str} {t : Tok} {l : Addr} {o4 o3 o2 o1 o0 : Obj} {ys : Array Value} (Z : ZipSt h n x t l .none 0 o4 o3 o2 o1 o0) (hl : h.IsList l ys) :
    ZSt (n + 4) (n + 2) (n + 3) n (n + 1) l x t ys 0 h := by
  obtain ⟨a, b, e3⟩ := Z.e3
  exact ⟨Z.g4.trans (congrArg some Z.e4), Z.g2.trans (congrArg some Z.e2), ⟨a, b, Z.g3.trans (congrArg some e3)⟩, ⟨o0, Z.g0, Z.e0.1, Z.e0.2⟩, ⟨o1, Z.g1, Z.e1.1, Z.e1.2⟩, hl⟩
/-- what a turn of the loop over a zip hands on -/
inductive ZOut (h₀ : Heap) (L C : Addr) (its rest : List (Addr × Obj)) (s : Shared) (J : (Str → Option Value) → List (Addr × Obj) → Prop) (f : Flow) (s₃ : Shared) : Prop
  | mk (hf : f = .next ∨ f = .cont) (h' : Heap) (tk' : Nat) (m₂ : Str → Option Value) (oc' : Obj) (vc' : Option Value) (rest₂ : List (Addr × Obj)) (e : s₃ = { s with heap := h', toks := tk' }) (F : Fr h₀ L h' m₂) (N : News h₀ L h' ((C, oc') :: rest₂ ++ its))
    (hd : oc'.data = .cell vc') (hm : rest₂.map (·.1) = rest.map (·.1)) (hJ : J m₂ rest₂) : ZOut h₀ L C its rest s J f s₃
/-- where the loop over a zip stands -/
inductive ZAt (h₀ : Heap) (L C : Addr) (St : Nat → Heap → Prop) (n : Nat) (rest : List (Addr × Obj)) (s : Shared) (J : Nat → (Str → Option Value) → List (Addr × Obj) → Prop) (k : Nat) (s' : Shared) : Prop
  | mk (h' : Heap) (tk : Nat) (m' : Str → Option Value) (oc' : Obj) (vc' : Option Value) (rest' : List (Addr × Obj)) (i : Nat) (e : s' = { s with heap := h', toks := tk }) (hst : St i h') (F : Fr h₀ L h' m') (N : News h₀ L h' ((C, oc') :: rest')) (hd : oc'.data = .cell vc')
    (hm : rest'.map (·.1) = rest.map (·.1)) (hJ : J i m' rest') (hi : i ≤ n) (hk : k = n + 1 - i) : ZAt h₀ L C St n rest s J k s'
section
variable {prog : Program} {w : World} {A : Around} {s : Shared} {env : Env} {h₀ : Heap}
/-- the for over a zip of a text and a list, the first name a cell, the second a local -/
theorem forLoop_zsl {R : Result → Shared → Prop} {xi xc : Str} {pk pv pt : Pos} {x1 : Nat} {body : List Stmt} {C z TI TO i1 i2 l2 : Addr} {xs : Str} {tx : Tok} {ys : Array Value} {vc : Option Value}
    {m : Str → Option Value} {oc : Obj} {rest : List (Addr × Obj)} (hh : A.handled = none) (D : ZApart z TI TO i1 i2 l2) (hl2 : h₀.IsList l2 ys)
    (hxi : env.kindOf xi = some .cell) (hci : env.cells.lookup xi = some C) (hkind : env.scope.kind = .function) (hxc : env.kindOf xc = some .local)
    (hp : (env.scope.kind == .class || (env.scope.kind == .module && env.locals != env.globals)) = false)
    (hLf : env.locals ∉ [z, TI, TO, i1, i2]) (hfr : ∀ b ∈ [z, TI, TO, i1, i2], h₀.get? b = none) (hCf : C ∉ [z, TI, TO, i1, i2]) (hrf : ∀ p ∈ rest, p.1 ∉ [z, TI, TO, i1, i2]) (hrC : ∀ p ∈ rest, p.1 ≠ C)
    (hst : ZSt z TI TO i1 i2 l2 xs tx ys 0 s.heap) (F : Fr h₀ env.locals s.heap m) (N : News h₀ env.locals s.heap ((C, oc) :: rest)) (hoc : oc.data = .cell vc)
    (J : Nat → (Str → Option Value) → List (Addr × Obj) → Prop) (h0 : J 0 m rest)
    (step : ∀ i c u y oz oTI oTO o1 o2 oc m₁ rest₁ h tk, i < min xs.cps.size ys.size → xs.cps[i]? = some c → ys[i]? = some y → J i m₁ rest₁ → rest₁.map (·.1) = rest.map (·.1) →
      Fr h₀ env.locals h (fun q => if q = xc then some y else m₁ q) → News h₀ env.locals h ((C, oc) :: rest₁ ++ [(z, oz), (TI, oTI), (TO, oTO), (i1, o1), (i2, o2)]) → oc.data = .cell (some (.str ⟨#[c]⟩ u)) →
      wpAny (model prog w) A (execs body env) (ZOut h₀ env.locals C [(z, oz), (TI, oTI), (TO, oTO), (i1, o1), (i2, o2)] rest s (J (i + 1))) (fun _ _ => False) { s with heap := h, toks := tk })
    (hR : ∀ h' tk m' oc' vc' rest', Fr h₀ env.locals h' m' → News h₀ env.locals h' ((C, oc') :: rest') → oc'.data = .cell vc' → rest'.map (·.1) = rest.map (·.1) → J (min xs.cps.size ys.size) m' rest' → R (.ok .next) { s with heap := h', toks := tk }) :
    codeAny (model prog w) A (.forLoop (.Tuple [.Name xi pk, .Name xc pv] x1 pt) (.ref z) body [] env) R s := by
  have W := walks_zsl (prog := prog) (w := w) hh z TI TO i1 i2 l2 D xs tx ys
  have wf : ∀ b ∈ [z, TO, i1, i2], b ∈ [z, TI, TO, i1, i2] := fun b hb => by simp at hb ⊢; rcases hb with rfl | rfl | rfl | rfl <;> simp
  have hl2f : l2 ∉ [z, TI, TO, i1, i2] := fun q => by have := hfr _ q; obtain ⟨o, ho, _⟩ := hl2; rw [this] at ho; cases ho
  have hLw : env.locals ∉ [z, TO, i1, i2] := fun q => hLf (wf _ q)
  have old : ∀ b o, h₀.get? b = some o → b ∉ [z, TI, TO, i1, i2] := fun b o e hb => by rw [hfr b hb] at e; cases e
  have hrf' : ∀ rest' : List (Addr × Obj), rest'.map (·.1) = rest.map (·.1) → ∀ p ∈ rest', p.1 ∉ [z, TI, TO, i1, i2] ∧ p.1 ≠ C := fun rest' ha p hp => by
    have : p.1 ∈ rest.map (·.1) := ha ▸ List.mem_map.mpr ⟨p, hp, rfl⟩
    obtain ⟨q, hq, e⟩ := List.mem_map.mp this
    exact e ▸ ⟨hrf q hq, hrC q hq⟩
  have hCL : C ≠ env.locals := (N (C, oc) (.head _)).2.1
  have hC0 : h₀.get? C = none := (N (C, oc) (.head _)).2.2
  refine codeAny_forLoop_any
    (ZAt h₀ env.locals C (ZSt z TI TO i1 i2 l2 xs tx ys) (min xs.cps.size ys.size) rest s J) ?_ (min xs.cps.size ys.size + 1)
    ⟨s.heap, s.toks, m, oc, vc, rest, 0, rfl, hst, F, N, hoc, rfl, h0, Nat.zero_le _, rfl⟩
  rintro k s' ⟨H, tk, m', oc', vc', rest', i, rfl, hst', F', N', hoc', ha', hJ, hi, rfl⟩
  by_cases hlt : i < min xs.cps.size ys.size
  · refine W.item i _ _ _ hlt hst' fun T vals h₁ tk₁ hPt hTsz hT hMid hk₁ => ?_
    obtain ⟨c, u, y, hc, hy, rfl⟩ := hPt
    refine W.go _ x1 pt i T _ _ _ hMid fun h₂ hst₂ hk₂ => ?_
    have ht₂ : h₂.IsTuple T #[.str ⟨#[c]⟩ u, y] := hT.at fun o e => hk₂ T o (W.apart i T h₁ hMid) e
    refine wpAny_assign_Tuple hh ht₂ rfl rfl fun h₃ hx₃ => ?_
    replace hx₃ : Heap.ExtBut h₂.objs.size h₂ h₃ := hx₃
    have up₃ : ∀ b o, b ∉ [z, TO, i1, i2] → H.get? b = some o → h₃.get? b = some o := fun b o hb x => by
      have x2 := hk₂ b o hb (hk₁ b o hb x)
      exact hx₃ b o (Nat.ne_of_lt (Heap.lt_size x2)) x2
    have st3 : ∀ b o, h₂.get? b = some o → h₃.get? b = some o := fun b o x => hx₃ b o (Nat.ne_of_lt (Heap.lt_size x)) x
    have F₃ := frKeepBut F' hLw (fun b hb => hfr b (wf b hb)) up₃
    have N₃ := newsKeepBut N' (fun p hp q => by
      rcases List.mem_cons.mp hp with rfl | hp
      · exact hCf (wf _ q)
      · exact (hrf' _ ha' p hp).1 (wf _ q)) up₃
    have hst₃ : ZSt z TI TO i1 i2 l2 xs tx ys (i + 1) h₃ := W.frame _ _ _ hst₂ fun b _ o e => st3 b o e
    show wpAny _ A (do holding [y] (assign (.Name xi pk) env (.str ⟨#[c]⟩ u)); do holding [] (assign (.Name xc pv) env y); pure ()) _ _ _
    refine wpAny_bind (wpAny_holding (wpAny_assign_Name (wpAny_storeName_cell hkind hxi hci ⟨oc', N₃.get (.head _), hoc'⟩ fun h₄ hv₄ hs₄ => ?_)))
    replace hs₄ : Heap.SameBut C h₃ h₄ := hs₄
    obtain ⟨oc₄, ho₄, hd₄⟩ := hv₄
    have F₄ : Fr h₀ env.locals h₄ m' := ⟨F₃.ns.sameBut hs₄ (Ne.symm hCL), fun b o e => hs₄.extBut b o (fun q => by rw [q, hC0] at e; cases e) (F₃.keep b o e), F₃.above⟩
    have N₄ : News h₀ env.locals h₄ ((C, oc₄) :: rest') := N₃.setHead (fun p hp => (hrf' _ ha' p hp).2) hs₄ ho₄
    have hst₄ : ZSt z TI TO i1 i2 l2 xs tx ys (i + 1) h₄ := W.frame _ _ _ hst₃ fun b hb o e => hs₄.extBut b o (fun q => by
      subst q
      have hb' : b ∈ [z, TI, TO, i1, i2] ∨ b = l2 := by simp at hb ⊢; rcases hb with rfl | rfl | rfl | rfl | rfl | rfl <;> simp
      rcases hb' with q | q
      · exact hCf q
      · obtain ⟨ol, hol, _⟩ := hl2; rw [← q, hC0] at hol; cases hol) e
    refine wpAny_bind (wpAny_holding (wpAny_assign_Name (wpAny_storeName_local hxc F₄.ns (fun h₅ hn₅ hs₅ => wpAny_pure ?_) hp)))
    replace hs₅ : Heap.SameBut env.locals h₄ h₅ := hs₅
    have F₅ := F₄.set hn₅ hs₅
    have N₅ : News h₀ env.locals h₅ ((C, oc₄) :: rest') := N₄.set hs₅
    have hst₅ : ZSt z TI TO i1 i2 l2 xs tx ys (i + 1) h₅ := W.frame _ _ _ hst₄ fun b hb o e => hs₅.extBut b o (fun q => by
      subst q
      have hb' : env.locals ∈ [z, TI, TO, i1, i2] ∨ env.locals = l2 := by simp at hb ⊢; rcases hb with q | q | q | q | q | q <;> simp [q]
      rcases hb' with q | q
      · exact hLf q
      · obtain ⟨ol, hol, _⟩ := hl2; rw [← q] at hol; exact Nat.lt_irrefl _ (Nat.lt_of_lt_of_le (Heap.lt_size hol) F.above)) e
    obtain ⟨hz, hTI, ⟨a, b, hTO⟩, ⟨o1, h1, h1r⟩, ⟨o2, h2, h2r⟩, hl2'⟩ := hst₅
    have N₆ : News h₀ env.locals h₅ ((C, oc₄) :: rest' ++ [(z, _), (TI, _), (TO, _), (i1, o1), (i2, o2)]) := fun p hp => by
      rcases List.mem_append.mp hp with hp | hp
      · exact N₅ p hp
      · have e1 : p.1 ∈ [z, TI, TO, i1, i2] := by simp at hp ⊢; rcases hp with rfl | rfl | rfl | rfl | rfl <;> simp
        refine ⟨?_, fun q => hLf (q ▸ e1), hfr _ e1⟩
        simp at hp
        rcases hp with rfl | rfl | rfl | rfl | rfl
        · exact hz
        · exact hTI
        · exact hTO
        · exact h1
        · exact h2
    refine wpAny_mono (step i c u y _ _ _ _ _ _ m' rest' _ _ hlt hc hy hJ ha' F₅ N₆ hd₄) (fun f s₃ h₆ => ?_) fun _ _ e => e.elim
    obtain ⟨hf, h₆', tk₆, m₂, oc₆, vc₆, rest₆, rfl, F₆, N₆', hoc₆, ha₆, hJ₆⟩ := h₆
    have fin : ∃ m, m < min xs.cps.size ys.size + 1 - i ∧ ZAt h₀ env.locals C (ZSt z TI TO i1 i2 l2 xs tx ys) (min xs.cps.size ys.size) rest s J m { s with heap := h₆', toks := tk₆ } := by
      refine ⟨min xs.cps.size ys.size + 1 - (i + 1), by omega, h₆', tk₆, m₂, oc₆, vc₆, rest₆, i + 1, rfl, ?_, F₆, newsSub N₆' fun p hp => List.mem_append_left _ hp, hoc₆, ha₆, hJ₆, hlt, rfl⟩
      have q : ∀ p ∈ [(z, _), (TI, _), (TO, _), (i1, o1), (i2, o2)], h₆'.get? p.1 = some p.2 := fun p hp => (N₆' p (List.mem_append_right _ hp)).1
      exact ⟨q (z, _) (by simp), q (TI, _) (by simp), ⟨a, b, q (TO, _) (by simp)⟩, ⟨o1, q (i1, _) (by simp), h1r⟩, ⟨o2, q (i2, _) (by simp), h2r⟩, hl2.at fun o e => F₆.keep _ _ e⟩
    rcases hf with rfl | rfl <;> exact fin
  · have hin : i = min xs.cps.size ys.size := by omega
    subst hin
    refine W.done _ _ _ hst' fun h₁ tk₁ hk₁ => wpAny_execs_nil ?_
    exact hR h₁ tk₁ m' oc' vc' rest' (frKeepBut F' hLw (fun b hb => hfr b (wf b hb)) hk₁) (newsKeepBut N' (fun p hp q => by
      rcases List.mem_cons.mp hp with rfl | hp
      · exact hCf (wf _ q)
      · exact (hrf' _ ha' p hp).1 (wf _ q)) hk₁) hoc' ha' hJ
/-- as forLoop_zsl, where the body stores no name of the frame's but the loop's own -/
theorem forLoop_zsl2 {R : Result → Shared → Prop} {xi xc : Str} {pk pv pt : Pos} {x1 : Nat} {body : List Stmt} {C z TI TO i1 i2 l2 : Addr} {xs : Str} {tx : Tok} {ys : Array Value} {vc : Option Value}
    {m : Str → Option Value} {oc : Obj} {rest : List (Addr × Obj)} (hh : A.handled = none) (D : ZApart z TI TO i1 i2 l2) (hl2 : h₀.IsList l2 ys)
    (hxi : env.kindOf xi = some .cell) (hci : env.cells.lookup xi = some C) (hkind : env.scope.kind = .function) (hxc : env.kindOf xc = some .local)
    (hp : (env.scope.kind == .class || (env.scope.kind == .module && env.locals != env.globals)) = false)
    (hLf : env.locals ∉ [z, TI, TO, i1, i2]) (hfr : ∀ b ∈ [z, TI, TO, i1, i2], h₀.get? b = none) (hCf : C ∉ [z, TI, TO, i1, i2]) (hrf : ∀ p ∈ rest, p.1 ∉ [z, TI, TO, i1, i2]) (hrC : ∀ p ∈ rest, p.1 ≠ C)
    (hst : ZSt z TI TO i1 i2 l2 xs tx ys 0 s.heap) (F : Fr h₀ env.locals s.heap m) (N : News h₀ env.locals s.heap ((C, oc) :: rest)) (hoc : oc.data = .cell vc)
    (J : Nat → List (Addr × Obj) → Prop) (h0 : J 0 rest)
    (step : ∀ i c u y oz oTI oTO o1 o2 oc rest₁ h tk, i < min xs.cps.size ys.size → xs.cps[i]? = some c → ys[i]? = some y → J i rest₁ → rest₁.map (·.1) = rest.map (·.1) →
      Fr h₀ env.locals h (fun q => if q = xc then some y else m q) → News h₀ env.locals h ((C, oc) :: rest₁ ++ [(z, oz), (TI, oTI), (TO, oTO), (i1, o1), (i2, o2)]) → oc.data = .cell (some (.str ⟨#[c]⟩ u)) →
      wpAny (model prog w) A (execs body env) (ZOut h₀ env.locals C [(z, oz), (TI, oTI), (TO, oTO), (i1, o1), (i2, o2)] rest s (fun m₂ rest₂ => (∃ v, m₂ = fun q => if q = xc then v else m q) ∧ J (i + 1) rest₂)) (fun _ _ => False) { s with heap := h, toks := tk })
    (hR : ∀ h' tk v oc' vc' rest', Fr h₀ env.locals h' (fun q => if q = xc then v else m q) → News h₀ env.locals h' ((C, oc') :: rest') → oc'.data = .cell vc' → rest'.map (·.1) = rest.map (·.1) → J (min xs.cps.size ys.size) rest' → R (.ok .next) { s with heap := h', toks := tk }) :
    codeAny (model prog w) A (.forLoop (.Tuple [.Name xi pk, .Name xc pv] x1 pt) (.ref z) body [] env) R s := by
  refine forLoop_zsl hh D hl2 hxi hci hkind hxc hp hLf hfr hCf hrf hrC hst F N hoc (fun i m₁ r => (∃ v, m₁ = fun q => if q = xc then v else m q) ∧ J i r)
    ⟨⟨m xc, funext fun q => by by_cases e : q = xc <;> simp [e]⟩, h0⟩ ?_ ?_
  · rintro i c u y oz oTI oTO o1 o2 oc m₁ rest₁ h tk hi hc hy ⟨⟨v, rfl⟩, hJ⟩ ha F N hd
    have e : (fun q => if q = xc then some y else if q = xc then v else m q) = fun q => if q = xc then some y else m q := funext fun q => by by_cases e : q = xc <;> simp [e]
    rw [e] at F
    exact step i c u y oz oTI oTO o1 o2 oc rest₁ h tk hi hc hy hJ ha F N hd
  · rintro h' tk m' oc' vc' rest' F N hd ha ⟨⟨v, rfl⟩, hJ⟩
    exact hR h' tk v oc' vc' rest' F N hd ha hJ
end
end
/- ForG -/
section
/-- what a turn of a for hands on -/
inductive LOut (h₀ : Heap) (L I : Addr) (oI : Obj) (s s₃ : Shared) (J : (Str → Option Value) → List (Addr × Obj) → Prop) : Prop
  | mk (h' : Heap) (tk' : Nat) (m₂ : Str → Option Value) (news₂ : List (Addr × Obj)) (e : s₃ = { s with heap := h', toks := tk' }) (F : Fr h₀ L h' m₂) (N : News h₀ L h' ((I, oI) :: news₂)) (hI : ∀ p ∈ news₂, p.1 ≠ I) (hJ : J m₂ news₂) : LOut h₀ L I oI s s₃ J
/-- where a for stands -/
inductive LAt (h₀ : Heap) (L I : Addr) (Ok : Nat → Obj → Prop) (n : Nat) (J : Nat → (Str → Option Value) → List (Addr × Obj) → Prop) (s : Shared) (k : Nat) (s' : Shared) : Prop
  | mk (h' : Heap) (tk : Nat) (m' : Str → Option Value) (oI : Obj) (news' : List (Addr × Obj)) (i : Nat) (e : s' = { s with heap := h', toks := tk }) (F : Fr h₀ L h' m') (N : News h₀ L h' ((I, oI) :: news')) (ho : Ok i oI) (hI : ∀ p ∈ news', p.1 ≠ I)
    (hJ : J i m' news') (hi : i ≤ n) (hk : k = n + 1 - i) : LAt h₀ L I Ok n J s k s'
section
variable {prog : Program} {w : World} {A : Around} {s : Shared} {env : Env} {h₀ : Heap}
theorem forLoopG {R : Result → Shared → Prop} {x : Str} {px : Pos} {body : List Stmt} {I : Addr} {fp : List Addr} {n : Nat} {P : Nat → Value → Prop} {St : Nat → Heap → Prop} {Ok : Nat → Obj → Prop} {m : Str → Option Value} {oI : Obj} {news : List (Addr × Obj)}
    (W : Walks prog w A I fp [I] n P St) (J : Nat → (Str → Option Value) → List (Addr × Obj) → Prop)
    (hSt : ∀ i h m' news' oI, Fr h₀ env.locals h m' → News h₀ env.locals h ((I, oI) :: news') → Ok i oI → J i m' news' → St i h) (hOk : ∀ i h, St i h → ∃ oI, h.get? I = some oI ∧ Ok i oI)
    (hx : env.kindOf x = some .local) (hp : (env.scope.kind == .class || (env.scope.kind == .module && env.locals != env.globals)) = false)
    (F : Fr h₀ env.locals s.heap m) (N : News h₀ env.locals s.heap ((I, oI) :: news)) (ho : Ok 0 oI) (hI : ∀ p ∈ news, p.1 ≠ I) (h0 : J 0 m news)
    (step : ∀ i v oI m₁ news₁ h tk, i < n → P i v → J i m₁ news₁ → (∀ p ∈ news₁, p.1 ≠ I) → Ok (i + 1) oI → Fr h₀ env.locals h (fun q => if q = x then some v else m₁ q) → News h₀ env.locals h ((I, oI) :: news₁) →
      wpAny (model prog w) A (execs body env) (fun f s₃ => match f with
        | .next | .cont => LOut h₀ env.locals I oI s s₃ (J (i + 1))
        | .brk => R (.ok .next) s₃
        | .ret v => R (.ok (.ret v)) s₃) (fun _ _ => False) { s with heap := h, toks := tk })
    (hR : ∀ h' tk m' news', Fr h₀ env.locals h' m' → News h₀ env.locals h' news' → J n m' news' → R (.ok .next) { s with heap := h', toks := tk }) :
    codeAny (model prog w) A (.forLoop (.Name x px) (.ref I) body [] env) R s := by
  have hLI : env.locals ≠ I := (N _ (.head _)).2.1.symm
  have hI0 : h₀.get? I = none := (N _ (.head _)).2.2
  refine codeAny_forLoop (LAt h₀ env.locals I Ok n J s) ?_ (n + 1) ⟨s.heap, s.toks, m, oI, news, 0, rfl, F, N, ho, hI, h0, Nat.zero_le _, rfl⟩
  rintro k s' ⟨H, tk, m', oI', news', i, rfl, F', N', ho', hI', hJ, hi, rfl⟩
  have next : ∀ h₁ : Heap, (∀ b o, b ∉ [I] → H.get? b = some o → h₁.get? b = some o) → Fr h₀ env.locals h₁ m' ∧ News h₀ env.locals h₁ news' := fun h₁ hk₁ =>
    ⟨frKeepBut F' (by simpa using hLI) (fun b hb => by rw [List.mem_singleton.mp hb]; exact hI0) hk₁, newsKeepBut (newsSub N' fun p hp => .tail _ hp) (fun p hp => by simpa using hI' p hp) hk₁⟩
  by_cases hlt : i < n
  · refine W.item i _ _ _ hlt (hSt i _ _ _ _ F' N' ho' hJ) fun v h₁ tk₁ hPv hst₁ hk₁ => ?_
    obtain ⟨F₁, N₁⟩ := next h₁ hk₁
    obtain ⟨o₁, hg₁, ho₁⟩ := hOk _ _ hst₁
    refine wpAny_assign_Name (wpAny_storeName_local hx F₁.ns (fun h₂ hn₂ hs₂ => ?_) hp)
    replace hs₂ : Heap.SameBut env.locals h₁ h₂ := hs₂
    refine wpAny_mono (step i v o₁ m' news' _ _ hlt hPv hJ hI' ho₁ (F₁.set hn₂ hs₂) (fun p hp => ?_)) (fun f s₃ h₆ => ?_) fun _ _ e => e.elim
    · rcases List.mem_cons.mp hp with rfl | hp
      · exact ⟨hs₂.extBut _ _ hLI.symm hg₁, hLI.symm, hI0⟩
      · exact N₁.set hs₂ p hp
    · have go : LOut h₀ env.locals I o₁ s s₃ (J (i + 1)) → ∃ k', k' < n + 1 - i ∧ LAt h₀ env.locals I Ok n J s k' s₃ := by
        rintro ⟨h₆', tk₆, m₂, news₂, rfl, F₆, N₆, hI₆, hJ₆⟩
        exact ⟨n + 1 - (i + 1), by omega, h₆', tk₆, m₂, o₁, news₂, i + 1, rfl, F₆, N₆, ho₁, hI₆, hJ₆, hlt, rfl⟩
      cases f with
      | ret v => exact h₆
      | brk => exact h₆
      | cont => exact go h₆
      | next => exact go h₆
  · have hin : i = n := by omega
    subst hin
    refine W.done _ _ _ (hSt _ _ _ _ _ F' N' ho' hJ) fun h₁ tk₁ hk₁ => wpAny_execs_nil ?_
    obtain ⟨F₁, N₁⟩ := next h₁ hk₁
    exact hR h₁ tk₁ m' news' F₁ N₁ hJ
end
end
/- ForR -/
section
def rit (n i : Nat) : Obj := { cls := .type "range_iterator", dict := none, data := .fields #[rawInt (0 + (i : Nat) * 1), rawInt ((n : Int) - (i : Nat)), rawInt 1], slots := #[] }

section
variable {prog : Program} {w : World} {A : Around} {s : Shared} {env : Env} {h₀ : Heap}
theorem forLoop_range {R : Result → Shared → Prop} {x : Str} {px : Pos} {body : List Stmt} {I : Addr} {n : Nat} {m : Str → Option Value} {news : List (Addr × Obj)} (hh : A.handled = none)
    (hx : env.kindOf x = some .local) (hp : (env.scope.kind == .class || (env.scope.kind == .module && env.locals != env.globals)) = false)
    (F : Fr h₀ env.locals s.heap m) (N : News h₀ env.locals s.heap ((I, rit n 0) :: news)) (hI : ∀ p ∈ news, p.1 ≠ I)
    (J : Nat → (Str → Option Value) → List (Addr × Obj) → Prop) (h0 : J 0 m news)
    (step : ∀ i t m₁ news₁ h tk, i < n → J i m₁ news₁ → (∀ p ∈ news₁, p.1 ≠ I) → Fr h₀ env.locals h (fun q => if q = x then some (.int (i : Nat) t) else m₁ q) → News h₀ env.locals h ((I, rit n (i + 1)) :: news₁) →
      wpAny (model prog w) A (execs body env) (fun f s₃ => match f with
        | .next | .cont => LOut h₀ env.locals I (rit n (i + 1)) s s₃ (J (i + 1))
        | .brk => R (.ok .next) s₃
        | .ret v => R (.ok (.ret v)) s₃) (fun _ _ => False) { s with heap := h, toks := tk })
    (hR : ∀ h' tk m' news', Fr h₀ env.locals h' m' → News h₀ env.locals h' news' → J n m' news' → R (.ok .next) { s with heap := h', toks := tk }) :
    codeAny (model prog w) A (.forLoop (.Name x px) (.ref I) body [] env) R s := by
  refine forLoopG (Walks.range (prog := prog) (w := w) hh I 0 1 n) (Ok := fun i o => o = rit n i) J (fun i h m' news' oI F N ho hJ => ?_) (fun i h hs => ⟨_, hs, rfl⟩) hx hp F N rfl hI h0 (fun i v oI m₁ news₁ h tk hi hv hJ hI ho F N => ?_) hR
  · subst ho; exact (N _ (.head _)).1
  · subst ho
    obtain ⟨t, rfl⟩ := hv
    rw [show (0 : Int) + (i : Nat) * 1 = (i : Nat) by omega] at F
    exact step i t m₁ news₁ h tk hi hJ hI F N

theorem rangeN {E : Value → Shared → Prop} {n : Nat} {t : Tok} {L : Addr} {m : Str → Option Value} {news : List (Addr × Obj)} {Q : Value → Shared → Prop} (F : Fr h₀ L s.heap m) (N : News h₀ L s.heap news) (hn : n < 1000)
    (h : ∀ I h' tk, Fr h₀ L h' m → News h₀ L h' ((I, rit n 0) :: news) → (∀ p ∈ news, p.1 ≠ I) → s.heap.StaysIn h' → s.heap.objs.size < I → s.toks ≤ tk → Q (.ref I) { s with heap := h', toks := tk }) :
    wpAny (model prog w) A (call (.type "range") [.int (n : Int) t]) (fun xv s₁ => wpAny (model prog w) A (pyIter xv) Q E s₁) E s := by
  refine call_range_1 ?_
  refine wpAny_pyIter_range (IsRange.new ..) (small_one (by decide) (by decide) (by omega) (by omega)) ?_
  have z : ∀ o : Obj, (s.heap.push o).objs.size = s.heap.objs.size + 1 := fun o => Heap.size_push ..
  have er : Builtin.Range.rangeSize 0 (n : Int) 1 = (n : Int) - ((0 : Nat) : Int) := by
    rw [rangeSize_one]; split <;> omega
  rw [er]
  have st : ∀ o1 o2, s.heap.StaysIn ((s.heap.push o1).push o2) := fun o1 o2 b o e => Heap.get?_push_of_some _ (Heap.get?_push_of_some _ e)
  refine h _ _ _ (frKeep F (st _ _)) (newsAdd F (newsKeep N (st _ _)) (Heap.get?_push_size _ rfl) (Heap.get?_none_of_le (by rw [z]; exact Nat.le_succ _))) (fun p hp q => ?_) (st _ _) (by show s.heap.objs.size < (s.heap.push _).objs.size; rw [z]; exact Nat.lt_succ_self _) (Nat.le_succ_of_le (Nat.le_succ _))
  have hl := Heap.lt_size (N p hp).1
  rw [q] at hl
  have : s.heap.objs.size + 1 < s.heap.objs.size := by rw [← z]; exact hl
  exact absurd this (by omega)
end
theorem neObj {g h : Heap} {L : Addr} {news : List (Addr × Obj)} {a b : Addr} {oa ob : Obj} (N : News g L h news) (ha : (a, oa) ∈ news) (hb : (b, ob) ∈ news) (hne : oa ≠ ob) : a ≠ b := fun q => by
  have h1 := (N _ ha).1
  have h2 := (N _ hb).1
  simp only at h1 h2
  rw [q, h2] at h1
  exact hne (Option.some.inj h1).symm
theorem storeCell {M : Model} {A : Around} {E : Value → Shared → Prop} {s : Shared} {env : Env} {g : Heap} {L C : Addr} {m : Str → Option Value} {x : Str} {o1 : Obj} {v : Value} {v₀ : Option Value} {news : List (Addr × Obj)} {Q : Unit → Shared → Prop}
    (F : Fr g L s.heap m) (N : News g L s.heap ((C, o1) :: news)) (hne : ∀ p ∈ news, p.1 ≠ C) (hd : o1.data = .cell v₀) (hk : env.scope.kind = .function) (hl : env.kindOf x = some .cell) (hc : env.cells.lookup x = some C)
    (h : ∀ h' o', Fr g L h' m → News g L h' ((C, o') :: news) → o'.data = .cell (some v) → Q () { s with heap := h' }) : wpAny M A (storeName env x v) Q E s := by
  refine wpAny_storeName_cell hk hl hc ⟨o1, (N _ (.head _)).1, hd⟩ fun h' hv hs => ?_
  obtain ⟨o', ho', hd'⟩ := hv
  have hCL : C ≠ L := (N _ (.head _)).2.1
  have hC0 : g.get? C = none := (N _ (.head _)).2.2
  exact h h' o' ⟨F.ns.sameBut hs (Ne.symm hCL), fun b o e => hs.extBut b o (fun q => by rw [q, hC0] at e; cases e) (F.keep b o e), F.above⟩ (N.setHead hne hs ho') hd'
theorem frFive {g h : Heap} {L : Addr} {a b c d : Str} {va vb vc vd ua ub uc ud : Option Value} {M : Str → Option Value}
    (F : Fr g L h (fun q => if q = d then vd else if q = c then vc else if q = b then vb else if q = a then va else if q = a then ua else if q = b then ub else if q = c then uc else if q = d then ud else M q)) (hn : [a, b, c, d].Nodup) :
    Fr g L h (fun q => if q = a then va else if q = b then vb else if q = c then vc else if q = d then vd else M q) := by
  have e : (fun q => if q = a then va else if q = b then vb else if q = c then vc else if q = d then vd else M q) = fun q => if q = d then vd else if q = c then vc else if q = b then vb else if q = a then va else if q = a then ua else if q = b then ub else if q = c then uc else if q = d then ud else M q := funext fun q => by
    simp only [List.nodup_cons, List.mem_cons, List.not_mem_nil, or_false, not_or] at hn
    obtain ⟨⟨h1, h2, h3⟩, ⟨h4, h5⟩, h6, _⟩ := hn
    by_cases q1 : q = a
    · subst q1; simp [h1, h2, h3]
    · by_cases q2 : q = b
      · subst q2; simp [q1, h4, h5]
      · by_cases q3 : q = c
        · subst q3; simp [q1, q2, h6]
        · by_cases q4 : q = d
          · subst q4; simp [q1, q2, q3]
          · simp [q1, q2, q3, q4]
  rw [e]; exact F
end
/- ForS -/
section
theorem walks_str {prog : Program} {w : World} {A : Around} (hh : A.handled = none) (I : Addr) (x : Str) (t : Tok) :
    Walks prog w A I [I] [I] x.cps.size (SignAt x) (fun i h => h.IsStrIter I (strIterType x) x t i) := by
  by_cases ha : x.cps.all (· < 128) = true
  · rw [show strIterType x = "str_ascii_iterator" from if_pos ha]; exact Walks.strAscii hh I x t
  · rw [show strIterType x = "str_iterator" from if_neg ha]; exact Walks.strWide hh I x t

def SitO (x : Str) (t : Tok) (i : Nat) (o : Obj) : Prop := o.cls = .type (strIterType x) ∧ o.data = .fields #[.str x t, .int i 0]

section
variable {prog : Program} {w : World} {A : Around} {s : Shared} {env : Env} {h₀ : Heap}
theorem forLoop_str {R : Result → Shared → Prop} {x : Str} {px : Pos} {body : List Stmt} {I : Addr} {y : Str} {ty : Tok} {m : Str → Option Value} {oI : Obj} {news : List (Addr × Obj)} (hh : A.handled = none)
    (hx : env.kindOf x = some .local) (hp : (env.scope.kind == .class || (env.scope.kind == .module && env.locals != env.globals)) = false)
    (F : Fr h₀ env.locals s.heap m) (N : News h₀ env.locals s.heap ((I, oI) :: news)) (ho : SitO y ty 0 oI) (hI : ∀ p ∈ news, p.1 ≠ I)
    (J : Nat → (Str → Option Value) → List (Addr × Obj) → Prop) (h0 : J 0 m news)
    (step : ∀ i v oI m₁ news₁ h tk, i < y.cps.size → SignAt y i v → J i m₁ news₁ → (∀ p ∈ news₁, p.1 ≠ I) → SitO y ty (i + 1) oI → Fr h₀ env.locals h (fun q => if q = x then some v else m₁ q) → News h₀ env.locals h ((I, oI) :: news₁) →
      wpAny (model prog w) A (execs body env) (fun f s₃ => match f with
        | .next | .cont => LOut h₀ env.locals I oI s s₃ (J (i + 1))
        | .brk => R (.ok .next) s₃
        | .ret v => R (.ok (.ret v)) s₃) (fun _ _ => False) { s with heap := h, toks := tk })
    (hR : ∀ h' tk m' news', Fr h₀ env.locals h' m' → News h₀ env.locals h' news' → J y.cps.size m' news' → R (.ok .next) { s with heap := h', toks := tk }) :
    codeAny (model prog w) A (.forLoop (.Name x px) (.ref I) body [] env) R s :=
  forLoopG (walks_str (prog := prog) (w := w) hh I y ty) (Ok := SitO y ty) J (fun i h m' news' oI F N ho hJ => ⟨oI, (N _ (.head _)).1, ho⟩) (fun i h hs => hs) hx hp F N ho hI h0 step hR

theorem strN {E : Value → Shared → Prop} {y : Str} {t : Tok} {L : Addr} {m : Str → Option Value} {news : List (Addr × Obj)} {Q : Value → Shared → Prop} (F : Fr h₀ L s.heap m) (N : News h₀ L s.heap news)
    (h : ∀ I oI h', Fr h₀ L h' m → News h₀ L h' ((I, oI) :: news) → SitO y t 0 oI → (∀ p ∈ news, p.1 ≠ I) → s.heap.StaysIn h' → s.heap.objs.size ≤ I → Q (.ref I) { s with heap := h' }) :
    wpAny (model prog w) A (pyIter (.str y t)) Q E s := by
  refine wpAny_pyIter_strU ?_
  have st : ∀ o1, s.heap.StaysIn (s.heap.push o1) := fun o1 b o e => Heap.get?_push_of_some _ e
  refine h _ _ _ (frKeep F (st _)) (newsAdd F (newsKeep N (st _)) (Heap.get?_push_size _ rfl) (Heap.get?_none_of_le (Nat.le_refl _))) ⟨rfl, rfl⟩ (fun p hp q => ?_) (st _) (Nat.le_refl _)
  have hl := Heap.lt_size (N p hp).1
  rw [q] at hl
  exact Nat.lt_irrefl _ hl
end

theorem pickB {items : Array Value} {lo hi : Option Int} {a b : Nat} (h : sliceBounds lo hi none items.size = ((a : Int), (b : Int), 1)) : slicePick items lo hi none = ((items.toList.drop a).take (b - a)).toArray := by
  unfold slicePick
  rw [h]
  simp only [sliceRange_one, pick_run]
theorem pick_mid {items : Array Value} : slicePick items (some (-3)) (some (-2)) none = if items.size < 3 then #[] else ((items.toList.drop (items.size - 3)).take 1).toArray := by
  by_cases h : items.size < 3
  · rw [if_pos h, pickB (a := 0) (b := 0)]
    · rfl
    · simp only [sliceBounds, Option.getD_none, show (1 : Int) > 0 by decide, if_true, show ((-3 : Int) < 0) by decide, show ((-2 : Int) < 0) by decide]
      congr 1
      · omega
      · congr 1; omega
  · rw [if_neg h, pickB (a := items.size - 3) (b := items.size - 2)]
    · congr 2; omega
    · simp only [sliceBounds, Option.getD_none, show (1 : Int) > 0 by decide, if_true, show ((-3 : Int) < 0) by decide, show ((-2 : Int) < 0) by decide]
      congr 1
      · omega
      · congr 1; omega
theorem pick_last {items : Array Value} (h : 3 ≤ items.size) : slicePick items (some (-2)) none none = (items.toList.drop (items.size - 2)).toArray := by
  rw [pickB (a := items.size - 2) (b := items.size)]
  · congr 1; apply List.take_of_length_le; simp
  · simp only [sliceBounds, Option.getD_none, show (1 : Int) > 0 by decide, if_true, show ((-2 : Int) < 0) by decide]
    congr 1
    omega
theorem pick_init {items : Array Value} (h : 3 ≤ items.size) : slicePick items none (some (-3)) none = (items.toList.take (items.size - 3)).toArray := by
  rw [pickB (a := 0) (b := items.size - 3)]
  · rfl
  · simp only [sliceBounds, Option.getD_none, show (1 : Int) > 0 by decide, if_true, show ((-3 : Int) < 0) by decide]
    congr 1
    congr 1; omega
theorem pick_tail {items : Array Value} : slicePick items (some 1) none none = (items.toList.drop 1).toArray := by
  by_cases h : 1 ≤ items.size
  · rw [pickB (a := 1) (b := items.size)]
    · congr 1; apply List.take_of_length_le; simp
    · simp only [sliceBounds, Option.getD_none, show (1 : Int) > 0 by decide, if_true, show ¬ ((1 : Int) < 0) by decide, if_false]
      congr 1
      omega
  · have h0 : items.size = 0 := by omega
    have e : items.toList = [] := List.eq_nil_of_length_eq_zero (by simpa using h0)
    rw [pickB (a := 0) (b := 0)]
    · rw [e]; rfl
    · simp only [sliceBounds, Option.getD_none, show (1 : Int) > 0 by decide, if_true, show ¬ ((1 : Int) < 0) by decide, if_false, h0]
      rfl
theorem pick_head {items : Array Value} : slicePick items none (some 1) none = (items.toList.take 1).toArray := by
  by_cases h : 1 ≤ items.size
  · rw [pickB (a := 0) (b := 1)]
    · rfl
    · simp only [sliceBounds, Option.getD_none, show (1 : Int) > 0 by decide, if_true, show ¬ ((1 : Int) < 0) by decide, if_false]
      congr 1
      congr 1
      omega
  · have h0 : items.size = 0 := by omega
    have e : items.toList = [] := List.eq_nil_of_length_eq_zero (by simpa using h0)
    rw [pickB (a := 0) (b := 0)]
    · rw [e]; rfl
    · simp only [sliceBounds, Option.getD_none, show (1 : Int) > 0 by decide, if_true, show ¬ ((1 : Int) < 0) by decide, if_false, h0]
      rfl
theorem pushTwo {g h : Heap} {L : Addr} {m : Str → Option Value} {news : List (Addr × Obj)} (F : Fr g L h m) (N : News g L h news) (a : Obj) (its : Array Value) :
    Fr g L ((h.push a).push (W.listOf its 0)) m ∧ News g L ((h.push a).push (W.listOf its 0)) ((h.objs.size + 1, W.listOf its 0) :: news) ∧ (∀ p ∈ news, p.1 < h.objs.size + 1) := by
  have st : h.StaysIn ((h.push a).push (W.listOf its 0)) := fun b o e => Heap.get?_push_of_some _ (Heap.get?_push_of_some _ e)
  have hg : ((h.push a).push (W.listOf its 0)).get? (h.objs.size + 1) = some (W.listOf its 0) := by
    have := Heap.get?_push_size (h.push a) (o := W.listOf its 0) rfl
    rwa [Heap.size_push] at this
  exact ⟨frKeep F st, newsAdd F (newsKeep N st) hg (Heap.get?_none_of_le (Nat.le_succ _)), fun p hp => Nat.lt_succ_of_lt (Heap.lt_size (N p hp).1)⟩
theorem eq_one {prog : Program} {w : World} {A : Around} {E : Value → Shared → Prop} {s : Shared} {l b : Addr} {x y : Str} {t u : Tok} {Q : Value → Shared → Prop} (hl : s.heap.IsList l #[.str x t]) (hb : s.heap.IsList b #[.str y u]) (hu : A.units < cLine)
    (h : Q (.bool (x == y)) s) : wpAny (model prog w) A (compareOp .Eq (.ref l) (.ref b)) Q E s := by
  refine SeqAt.RcAt.lists (e := fun _ => x == y) hl hb rfl hu (fun j h1 h2 => ?_) prog w E Q ?_
  · have : j = 0 := by simpa using h1
    subst this
    exact (eqGives_str x y t u).at _ _
  · have : (List.range (#[Value.str x t] : Array Value).size).all (fun _ => x == y) = (x == y) := by
      show (List.range 1).all _ = _
      simp [List.range_succ]
    rw [this]; exact h
theorem eq_lens {prog : Program} {w : World} {A : Around} {E : Value → Shared → Prop} {s : Shared} {l b : Addr} {items items2 : Array Value} {Q : Value → Shared → Prop} (hl : s.heap.IsList l items) (hb : s.heap.IsList b items2) (hu : A.units < cLine)
    (hn : items.size ≠ items2.size) (h : Q (.bool false) s) : wpAny (model prog w) A (compareOp .Eq (.ref l) (.ref b)) Q E s :=
  SeqAt.RcAt.lists_lengths hl hb (by simpa using hn) hu prog w E Q h
end
/- ForL -/
section
def LitO (ax : Addr) (i : Nat) (o : Obj) : Prop := o.cls = .type "list_iterator" ∧ o.data = .fields #[.ref ax, .int i 0]

section
variable {prog : Program} {w : World} {A : Around} {s : Shared} {env : Env} {h₀ : Heap}
theorem forLoop_list {R : Result → Shared → Prop} {x : Str} {px : Pos} {body : List Stmt} {I : Addr} {ax : Addr} {items : Array Value} {m : Str → Option Value} {oI : Obj} {news : List (Addr × Obj)} (hh : A.handled = none) (hax : h₀.IsList ax items)
    (hx : env.kindOf x = some .local) (hp : (env.scope.kind == .class || (env.scope.kind == .module && env.locals != env.globals)) = false)
    (F : Fr h₀ env.locals s.heap m) (N : News h₀ env.locals s.heap ((I, oI) :: news)) (ho : LitO ax 0 oI) (hI : ∀ p ∈ news, p.1 ≠ I)
    (J : Nat → (Str → Option Value) → List (Addr × Obj) → Prop) (h0 : J 0 m news)
    (step : ∀ i v oI m₁ news₁ h tk, i < items.size → items[i]? = some v → J i m₁ news₁ → (∀ p ∈ news₁, p.1 ≠ I) → LitO ax (i + 1) oI → Fr h₀ env.locals h (fun q => if q = x then some v else m₁ q) → News h₀ env.locals h ((I, oI) :: news₁) →
      wpAny (model prog w) A (execs body env) (fun f s₃ => match f with
        | .next | .cont => LOut h₀ env.locals I oI s s₃ (J (i + 1))
        | .brk => R (.ok .next) s₃
        | .ret v => R (.ok (.ret v)) s₃) (fun _ _ => False) { s with heap := h, toks := tk })
    (hR : ∀ h' tk m' news', Fr h₀ env.locals h' m' → News h₀ env.locals h' news' → J items.size m' news' → R (.ok .next) { s with heap := h', toks := tk }) :
    codeAny (model prog w) A (.forLoop (.Name x px) (.ref I) body [] env) R s := by
  have hxI : ax ≠ I := fun q => by obtain ⟨o, ho, _⟩ := hax; rw [q, (N _ (.head _)).2.2] at ho; cases ho
  exact forLoopG (Walks.list (prog := prog) (w := w) hh I ax hxI items) (Ok := LitO ax) J (fun i h m' news' oI F N ho hJ => ⟨⟨oI, (N _ (.head _)).1, ho⟩, hax.at fun o e => F.keep _ _ e⟩) (fun i h hs => hs.1) hx hp F N ho hI h0 step hR

theorem listN {E : Value → Shared → Prop} {ax : Addr} {items : Array Value} {L : Addr} {m : Str → Option Value} {news : List (Addr × Obj)} {Q : Value → Shared → Prop} (F : Fr h₀ L s.heap m) (N : News h₀ L s.heap news) (hax : s.heap.IsList ax items)
    (h : ∀ I oI h', Fr h₀ L h' m → News h₀ L h' ((I, oI) :: news) → LitO ax 0 oI → (∀ p ∈ news, p.1 ≠ I) → s.heap.StaysIn h' → s.heap.objs.size ≤ I → Q (.ref I) { s with heap := h' }) :
    wpAny (model prog w) A (pyIter (.ref ax)) Q E s := by
  refine wpAny_pyIter_list hax ?_
  have st : ∀ o1, s.heap.StaysIn (s.heap.push o1) := fun o1 b o e => Heap.get?_push_of_some _ e
  refine h _ _ _ (frKeep F (st _)) (newsAdd F (newsKeep N (st _)) (Heap.get?_push_size _ rfl) (Heap.get?_none_of_le (Nat.le_refl _))) ⟨rfl, rfl⟩ (fun p hp q => ?_) (st _) (Nat.le_refl _)
  have hl := Heap.lt_size (N p hp).1
  rw [q] at hl
  exact Nat.lt_irrefl _ hl
end
end
/- Hex -/
section
theorem beginHex : True := by
  w_top off
  trivial
def figs : Str := Str.ofString "0123456789abcdefABCDEF"
def inFigs (c : Str) : Bool := !(Builtin.Str.occurrences figs c 0 figs.length 1).isEmpty
def hexB (x : Str) : Bool := if x.length = 2 then inFigs (Txt.item x 0) && inFigs (Txt.item x 1) else false
theorem hexS {w : World} {loose : List Str} {mean : ExcName → Option Value} {mg mb : Str → Option Value} {dp un : Nat} {fr : Option (List Env)} {gd : Option (List Code)} {s : Shared} {R : Result → Shared → Prop} {g : Heap} {x : Str} {t : Tok}
    (G : Gr w loose mean mg mb g) (st : g.StaysIn s.heap) (hdp : dp + 2 < recursionLimit) (hun : un + 8 < cLine) (hx : x.length ≤ 17)
    (h : ∀ h' tk, s.heap.StaysIn h' → R (.ok (.ret (.bool (hexB x)))) { s with heap := h', toks := tk }) :
    codeAny (model prog w) (aro dp un fr gd) (.call (.ref 114) ⟨[.str x t], []⟩) R s := by
  refine' enter [("two", .str x t)] G.X G.T st [] (fun _ q => nomatch q) ?ho ?hcd ?hroom ?hbind ?hloc ?_ ?c1 ?c2 ?c3 ?c4
  case ho => k_is
  case hcd => k_is
  case hroom => (show dp < _); omega
  case hbind => rfl
  case hloc => exact locs rfl
  case c1 => rfl
  case c2 => rfl
  case c3 => rfl
  case c4 => decide
  intro g' L h₁ eg X' T' F N l1
  replace eg : g' = s.heap := eg
  subst eg
  (try dsimp only)
  k_steps
  · rename_i h2 h3 h4
    rename Fr _ _ _ _ => F
    have e : hexB x = inFigs (Txt.item x 0) := by
      have e0 : inFigs (Txt.item x 0) = false := by show (!_) = false; rw [show (Builtin.Str.occurrences figs (Txt.item x 0) 0 figs.length 1).isEmpty = true from h4]; rfl
      unfold hexB; rw [if_pos (by omega), e0]; rfl
    rw [e] at h
    exact h _ _ F.keep
  · rename_i h2 h3 h4 h5
    rename Fr _ _ _ _ => F
    have e : hexB x = inFigs (Txt.item x 1) := by
      have e0 : inFigs (Txt.item x 0) = true := by show (!_) = true; rw [show (Builtin.Str.occurrences figs (Txt.item x 0) 0 figs.length 1).isEmpty = false from h4]; rfl
      unfold hexB; rw [if_pos (by omega), e0]; rfl
    rw [e] at h
    exact h _ _ F.keep
  · rename_i h2
    rename Fr _ _ _ _ => F
    have e : hexB x = ((x.length : Int) == 2) := by
      unfold hexB; rw [if_neg (by omega)]; symm; simpa using h2
    rw [e] at h
    exact h _ _ F.keep
theorem hexL {w : World} {loose : List Str} {mean : ExcName → Option Value} {mg mb : Str → Option Value} {dp un : Nat} {fr : Option (List Env)} {gd : Option (List Code)} {s : Shared} {R : Result → Shared → Prop} {g : Heap} {a : Addr} {c0 c1 : Nat} {t0 t1 : Tok}
    (G : Gr w loose mean mg mb g) (st : g.StaysIn s.heap) (hdp : dp + 2 < recursionLimit) (hun : un + 8 < cLine) (hl : s.heap.IsList a #[.str ⟨#[c0]⟩ t0, .str ⟨#[c1]⟩ t1])
    (h : ∀ h' tk, s.heap.StaysIn h' → R (.ok (.ret (.bool (inFigs ⟨#[c0]⟩ && inFigs ⟨#[c1]⟩)))) { s with heap := h', toks := tk }) :
    codeAny (model prog w) (aro dp un fr gd) (.call (.ref 114) ⟨[.ref a], []⟩) R s := by
  refine' enter [("two", .ref a)] G.X G.T st [] (fun _ q => nomatch q) ?ho ?hcd ?hroom ?hbind ?hloc ?_ ?c1 ?c2 ?c3 ?c4
  case ho => k_is
  case hcd => k_is
  case hroom => (show dp < _); omega
  case hbind => rfl
  case hloc => exact locs rfl
  case c1 => rfl
  case c2 => rfl
  case c3 => rfl
  case c4 => decide
  intro g' L h₁ eg X' T' F N l1
  replace eg : g' = s.heap := eg
  subst eg
  (try dsimp only)
  iterate 18 (first | (k_unfold; (try dsimp only)) | walk1)
  rw [if_pos (show (((#[Value.str ⟨#[c0]⟩ t0, Value.str ⟨#[c1]⟩ t1].size : Nat) : Int) == 2) = true from rfl)]
  k_steps
  · rename_i h4
    rename Fr _ _ _ _ => F
    have e0 : inFigs ⟨#[c0]⟩ = false := by show (!_) = false; rw [show (Builtin.Str.occurrences figs ⟨#[c0]⟩ 0 figs.length 1).isEmpty = true from h4]; rfl
    rw [show (inFigs ⟨#[c0]⟩ && inFigs ⟨#[c1]⟩) = inFigs ⟨#[c0]⟩ by rw [e0]; rfl] at h
    exact h _ _ F.keep
  · rename_i h4
    rename Fr _ _ _ _ => F
    have e0 : inFigs ⟨#[c0]⟩ = true := by show (!_) = true; rw [show (Builtin.Str.occurrences figs ⟨#[c0]⟩ 0 figs.length 1).isEmpty = false from h4]; rfl
    rw [show (inFigs ⟨#[c0]⟩ && inFigs ⟨#[c1]⟩) = inFigs ⟨#[c1]⟩ by rw [e0]; rfl] at h
    exact h _ _ F.keep
end
/- Due -/
section
theorem beginDue : True := by
  w_top off
  trivial
def duePiece (y : Str) : Str := if hexB (Txt.slice y none (some 2)) then Txt.upper (Txt.slice y none (some 2)) ++ Txt.slice y (some 2) none else y
theorem sliceAll {x : Str} {t : Tok} {l u : Option (Int × Tok)} {Q : Value → Shared → Prop} {s : Shared} (lo hi : Option Int) (hlo : l.map (·.1) = lo) (hhi : u.map (·.1) = hi) (hx : x.length ≤ 17) (h : ∀ t' k, Q (.str (Txt.slice x lo hi) t') { s with toks := k }) : (sliceMade x t l u none).post Q s := by
  subst hlo hhi
  by_cases hc : ((1 : Int) == 1 && (Builtin.Str.strSliceIndices (l.map (·.1)) (u.map (·.1)) 1 x.length).length == x.length) = true
  · have e1 : Txt.slice x (l.map (·.1)) (u.map (·.1)) = x := if_pos hc
    have e2 : sliceMade x t l u none = .val (.str x t) := if_pos hc
    rw [e2]; rw [e1] at h; exact h t s.toks
  · have e1 : Txt.slice x (l.map (·.1)) (u.map (·.1)) = _ := if_neg hc
    have e2 : sliceMade x t l u none = .str (Txt.slice x (l.map (·.1)) (u.map (·.1))) := (if_neg hc).trans (congrArg Made.str e1.symm)
    rw [e2]; exact ⟨Nat.le_trans (Txt.slice_le _ _ _) (by rw [sizeLine_eq]; omega), h s.toks (s.toks + 1)⟩
theorem strsAre_app {a b : List Value} {x y : List Str} (h1 : StrsAre a x) (h2 : StrsAre b y) : StrsAre (a ++ b) (x ++ y) := by
  induction h1 with
  | nil => exact h2
  | cons y t _ ih => exact .cons y t ih
theorem strsAre_vals : ∀ l : List (Str × Tok), StrsAre (strValues l) (l.map (·.1))
  | [] => .nil
  | (x, t) :: l => .cons x t (strsAre_vals l)
theorem strsAre_len {a : List Value} {x : List Str} (h : StrsAre a x) : a.length = x.length := by
  induction h with
  | nil => rfl
  | cons y t _ ih => simp [ih]
theorem strsAre_paired {ys : List Value} : ∀ {l : List (Str × Tok)}, Paired (fun v y => ∃ a t t', v = .str a t ∧ y = .str (duePiece a) t') (strValues l) ys → StrsAre ys ((l.map (·.1)).map duePiece)
  | [], h => by cases h; exact .nil
  | (x, t) :: l, h => by
    cases h with
    | cons e r =>
      obtain ⟨a, t1, t2, e1, rfl⟩ := e
      cases e1
      exact .cons _ _ (strsAre_paired r)
theorem split_len (x y : Str) : (Txt.split x y).length ≤ x.length + 2 := by
  unfold Txt.split
  split
  · simp
  · split
    · simp
    · unfold Builtin.Str.partsBetween
      have := StrLaws.occ_length_le_len x y 0 x.length (x.length + 1)
      simp only [List.length_map, List.length_zip, List.length_cons, List.length_append, List.length_nil]
      omega
theorem duePiece_le (y : Str) (h : y.length ≤ 17) : (duePiece y).length ≤ 70 := by
  unfold duePiece
  split
  · have h1 := len_upper (Txt.slice y none (some 2))
    have h2 : (Txt.slice y none (some 2)).length ≤ y.length := Txt.slice_le _ _ _
    have h3 : (Txt.slice y (some 2) none).length ≤ y.length := Txt.slice_le _ _ _
    rw [Str.length_append]; omega
  · omega
theorem sum_le : ∀ (l : List Str), (∀ a ∈ l, a.length ≤ 70) → (l.map (·.length)).sum ≤ 70 * l.length
  | [], _ => by simp
  | a :: l, h => by
    have h1 := h a (.head _)
    have h2 := sum_le l fun b hb => h b (.tail _ hb)
    simp only [List.map_cons, List.sum_cons, List.length_cons]; omega
theorem due {w : World} {loose : List Str} {mean : ExcName → Option Value} {mg mb : Str → Option Value} {dp un : Nat} {fr : Option (List Env)} {gd : Option (List Code)} {s : Shared} {R : Result → Shared → Prop} {g : Heap} {x : Str} {t : Tok}
    (G : Gr w loose mean mg mb g) (st : g.StaysIn s.heap) (hdp : dp + 10 < recursionLimit) (hun : un + 40 < cLine) (hx : x.length ≤ 17)
    (h : ∀ h' tk tr, s.heap.StaysIn h' → R (.ok (.ret (.str (Txt.join (Str.ofString "%") ((Txt.split x (Str.ofString "%")).take 1 ++ ((Txt.split x (Str.ofString "%")).drop 1).map duePiece)) tr))) { s with heap := h', toks := tk }) :
    codeAny (model prog w) (aro dp un fr gd) (.call (.ref 119) ⟨[.str x t], []⟩) R s := by
  refine' enter [("text", .str x t)] G.X G.T st [] (fun _ q => nomatch q) ?ho ?hcd ?hroom ?hbind ?hloc ?_ ?c1 ?c2 ?c3 ?c4
  case ho => k_is
  case hcd => k_is
  case hroom => (show dp < _); omega
  case hbind => rfl
  case hloc => exact locs rfl
  case c1 => rfl
  case c2 => rfl
  case c3 => rfl
  case c4 => decide
  intro g' L h₁ eg X' T' F N l1
  replace eg : g' = s.heap := eg
  subst eg
  (try dsimp only)
  iterate 10 (first | (k_unfold; (try dsimp only)) | walk1)
  rename_i l _ _ hl hls hll _ _ _
  rename Fr _ _ _ _ => F
  rename News _ _ _ _ => N
  generalize Array.size _ = P at N ⊢
  iterate 3 (first | (k_unfold; (try dsimp only)) | walk1)
  refine wpAny_Assign_ListComp_free (fun _ => true) (fun v y => ∃ a t t', v = .str a t ∧ y = .str (duePiece a) t') (cl := []) rfl rfl (by decide) rfl (by decide) rfl rfl rfl ?_ (fun _ => rfl)
  refine wpAny_Subscript_list_slice ?_ (fun _ _ => rfl)
  iterate 4 (first | (k_unfold; (try dsimp only)) | walk1)
  have hsz : (strValues l).toArray.size ≤ 19 := by
    have h1 := split_len x (Str.ofString "%")
    rw [← hl, List.length_map] at h1
    have h2 : (strValues l).toArray.size = l.length := by simp [strValues]
    omega
  rename Fr _ _ _ _ => F
  rename News _ _ _ _ => N
  refine ⟨P, (strValues l).toArray, some 1, none, rfl, ⟨_, (N _ (.head _)).1, rfl, _, rfl⟩, by rw [sizeLine_eq]; omega, .int _ _, .none, ?_⟩
  have hP := fun a => pushTwo F N a (slicePick (strValues l).toArray (some 1) none none)
  rw [pick_tail] at hP ⊢
  (try dsimp only)
  replace hP := hP { cls := .type "slice", data := .fields #[.int 1 tk, .none, .none] }
  generalize ((Heap.push _ _).push _) = h6 at hP ⊢
  generalize Array.size _ + 1 = D6 at hP ⊢
  obtain ⟨F6, N6, hD6⟩ := hP
  clear F N
  have hDl : D6 < h6.objs.size := Heap.lt_size (N6 _ (.head _)).1
  have hLl : L < h6.objs.size := F6.ns.lt
  have hst : ∀ o, h6.StaysIn (h6.push o) := fun o b o' e => Heap.get?_push_of_some _ e
  refine wpAny_pyIter_list (items := (List.drop 1 (strValues l)).toArray) ⟨_, (N6 _ (.head _)).1, rfl, _, rfl⟩ ?_
  have hz1 : ∀ o, (h6.push o).objs.size = h6.objs.size + 1 := fun o => Heap.size_push ..
  have hkeep : ∀ {o : Obj} {h' : Heap}, (∀ b o', b ∉ [h6.objs.size] → (h6.push o).get? b = some o' → h'.get? b = some o') → h6.StaysIn h' := fun k b o' e =>
    k b o' (fun q => by rw [List.mem_singleton.mp q] at e; exact Nat.lt_irrefl _ (Heap.lt_size e)) (Heap.get?_push_of_some _ e)
  refine ⟨h6.objs.size, _, _, _, _, _, _, rfl, Walks.list rfl h6.objs.size D6 (Nat.ne_of_lt hDl) (List.drop 1 (strValues l)).toArray, ?_, ⟨⟨_, Heap.get?_push_size _ rfl, rfl, rfl⟩, Heap.IsList.push ⟨_, (N6 _ (.head _)).1, rfl, _, rfl⟩ _⟩, ?_, ?_, (frKeep F6 (hst _)).ns, ⟨?_, ?_⟩, ?_⟩
  · rw [sizeLine_eq]; simp at hsz ⊢; omega
  · intro b hb
    show b < (h6.push _).objs.size
    rw [hz1]
    simp only [List.mem_cons, List.not_mem_nil, or_false] at hb
    rcases hb with rfl | rfl
    · exact Nat.lt_succ_self _
    · exact Nat.lt_succ_of_lt hDl
  · show L ∉ [h6.objs.size]
    rw [List.mem_singleton]; exact Nat.ne_of_lt hLl
  · intro C j v s₃ m₃ E' hC hP hns hm hk htk
    simp only [List.forIn_nil]
    exact wpAny_pure ⟨rfl, _, _, rfl, fun _ _ e => e⟩
  · intro C j v s₃ m₃ E' hC hP hpv hns hm hk htk
    have F3 : Fr s.heap L s₃.heap _ := frKeep F6 (hkeep hk)
    have hLC : L < C := Nat.lt_of_lt_of_le hLl (Nat.le_trans (Nat.le_succ _) (Nat.le_trans (Nat.le_of_eq (hz1 _).symm) hC))
    obtain ⟨oC, es, ep, hoC, hoD⟩ := hns
    have hoN : LCg.NsObj oC m₃ := ⟨es, ep, hoD⟩
    have N3 : News s.heap L s₃.heap [(C, oC)] := fun p hp => by
      rw [List.mem_singleton.mp hp]
      exact ⟨hoC, Nat.ne_of_gt hLC, Heap.get?_none_of_le (Nat.le_trans F6.above (Nat.le_of_lt hLC))⟩
    obtain ⟨y, ty, hv, hyl⟩ : ∃ y ty, v = .str y ty ∧ y.length ≤ 17 := by
      have hP' : (List.drop 1 (strValues l)).toArray[j]? = some v := hP
      have hm : v ∈ strValues l := List.mem_of_mem_drop (List.mem_of_getElem? (by simpa using hP'))
      obtain ⟨p, hp, rfl⟩ := List.mem_map.mp hm
      exact ⟨p.1, p.2, rfl, Nat.le_trans (hll p.1 (List.mem_map_of_mem hp)) hx⟩
    subst hv
    clear N6 F6
    iterate 7 (first | (k_unfold; (try dsimp only)) | walk1)
    refine wpAny_Subscript_str_slice ?_ (fun _ _ => rfl)
    iterate 4 (first | (k_unfold; (try dsimp only)) | walk1)
    refine ⟨y, ty, none, some (2, _), rfl, rfl, rfl, sliceAll none (some 2) rfl rfl hyl fun t1 k1 => ?_⟩
    generalize hH1 : Heap.push _ _ = H1
    have st1 : s₃.heap.StaysIn H1 := fun b o e => hH1 ▸ Heap.get?_push_of_some _ e
    have F4 := frKeep F3 st1
    have N4 := newsKeep N3 st1
    (try dsimp only)
    iterate 1 (first | (k_unfold; (try dsimp only)) | walk1)
    refine ⟨X'.keeps F4.keep, ?_⟩
    refine wpAny_call (hexS ⟨X', T'⟩ F4.keep (by show dp + 1 + 2 < _; omega) (by show un + 3 + 8 < _; omega) (Nat.le_trans (Txt.slice_le _ _ _) hyl) fun h7 tk7 st7 => ?_)
    have F7 := frKeep F4 st7
    have N7 := newsKeep N4 st7
    clear F3 N3 F4 N4
    (try dsimp only)
    refine wpAny_truthy_bool ?_
    by_cases hb : hexB (Txt.slice y none (some 2)) = true
    · rw [if_pos hb]
      iterate 3 (first | (k_unfold; (try dsimp only)) | walk1)
      refine wpAny_Subscript_str_slice ?_ (fun _ _ => rfl)
      iterate 4 (first | (k_unfold; (try dsimp only)) | walk1)
      refine ⟨y, ty, none, some (2, _), rfl, rfl, rfl, sliceAll none (some 2) rfl rfl hyl fun t2 k2 => ?_⟩
      generalize hH2 : Heap.push _ _ = H2
      have st2 : h7.StaysIn H2 := fun b o e => hH2 ▸ Heap.get?_push_of_some _ e
      have F8 := frKeep F7 st2
      have N8 := newsKeep N7 st2
      clear F7 N7
      (try dsimp only)
      have hl2 : (Txt.slice y none (some 2)).length ≤ y.length := Txt.slice_le _ _ _
      iterate 3 (first | (k_unfold; (try dsimp only)) | walk1)
      refine wpAny_Subscript_str_slice ?_ (fun _ _ => rfl)
      iterate 4 (first | (k_unfold; (try dsimp only)) | walk1)
      refine ⟨y, ty, some (2, _), none, rfl, rfl, rfl, sliceAll (some 2) none rfl rfl hyl fun t3 k3 => ?_⟩
      generalize hH3 : Heap.push _ _ = H3
      have st3 : H2.StaysIn H3 := fun b o e => hH3 ▸ Heap.get?_push_of_some _ e
      have hl3 := len_upper (Txt.slice y none (some 2))
      have hl4 : (Txt.slice y (some 2) none).length ≤ y.length := Txt.slice_le _ _ _
      (try dsimp only)
      have e1 : duePiece y = _ := if_pos hb
      refine SBL.add (fun t' k _ => ?_) (by rw [sizeLine_eq]; omega)
      exact ⟨⟨y, ty, t', rfl, by rw [e1]⟩, _, _, rfl, fun b o e => st3 b o (st2 b o (st7 b o (st1 b o e)))⟩
    · rw [if_neg hb]
      iterate 1 (first | (k_unfold; (try dsimp only)) | walk1)
      have e1 : duePiece y = y := if_neg hb
      exact ⟨⟨y, ty, ty, rfl, by rw [e1]⟩, _, _, rfl, fun b o e => st7 b o (st1 b o e)⟩
  · intro D h5 tk5 ys vs hD hys hpl hvl hvp hpr hns5 hk5
    have hgL : ∀ b o, s.heap.get? b = some o → b ≠ L := fun b o e => Nat.ne_of_lt (Nat.lt_of_lt_of_le (Heap.lt_size e) F6.above)
    have hg6 : ∀ b o, h6.get? b = some o → b ∉ [h6.objs.size] := fun b o e q => by rw [List.mem_singleton.mp q] at e; exact Nat.lt_irrefl _ (Heap.lt_size e)
    have F5 : Fr s.heap L h5 _ := ⟨hns5, fun b o e => hk5 b o (hgL b o e) (hg6 b o (F6.keep b o e)) (Heap.get?_push_of_some _ (F6.keep b o e)), F6.above⟩
    obtain ⟨nD, hDo⟩ := hpl
    have hD6n : h6.get? D = none := by
      cases q : h6.get? D with
      | none => rfl
      | some o' => rw [show (h6.push _).get? D = some o' from Heap.get?_push_of_some _ q] at hD; cases hD
    have hDL : D ≠ L := fun q => by obtain ⟨oL, es, ep, eL, _⟩ := F6.ns; rw [q] at hD6n; rw [hD6n] at eL; cases eL
    have hDg : s.heap.get? D = none := by
      cases q : s.heap.get? D with
      | none => rfl
      | some o' => have := F6.keep _ _ q; rw [hD6n] at this; cases this
    have N5 : News s.heap L h5 [(D, W.listOf ys nD), (P, W.listOf (strValues l).toArray 0)] := fun p hp => by
      rcases List.mem_cons.mp hp with rfl | hp
      · exact ⟨hDo, hDL, hDg⟩
      · rw [List.mem_singleton.mp hp]
        have z := N6 (P, W.listOf (strValues l).toArray 0) (.tail _ (.head _))
        exact ⟨hk5 _ _ z.2.1 (hg6 _ _ z.1) (Heap.get?_push_of_some _ z.1), z.2⟩
    have hvv : vs = strValues (l.drop 1) := by
      refine List.ext_getElem? fun j => ?_
      have e0 : strValues (l.drop 1) = (strValues l).drop 1 := by unfold strValues; rw [List.map_drop]
      rw [e0]
      cases hj : vs[j]? with
      | some u => have := hvp j u hj; simpa using this.symm
      | none => exact (List.getElem?_eq_none (by have := List.getElem?_eq_none_iff.mp hj; rw [hvl] at this; simpa using this)).symm
    have hpr' : Paired (fun v y => ∃ a t t', v = .str a t ∧ y = .str (duePiece a) t') (strValues (l.drop 1)) ys.toList := by
      have e9 : vs.filter (fun _ => true) = vs := List.filter_eq_self.mpr fun _ _ => rfl
      rw [e9] at hpr; rw [← hvv]; exact hpr
    clear N6 F6 hk5 hns5
    (try dsimp only)
    have hyd : StrsAre ys.toList (((Txt.split x (Str.ofString "%")).drop 1).map duePiece) := by
      have := strsAre_paired hpr'
      rwa [List.map_drop, hl] at this
    iterate 8 (first | (k_unfold; (try dsimp only)) | walk1)
    refine wpAny_Subscript_list_slice ?_ (fun _ _ => rfl)
    iterate 4 (first | (k_unfold; (try dsimp only)) | walk1)
    refine ⟨P, (strValues l).toArray, none, some 1, rfl, ⟨_, (N5 _ (.tail _ (.head _))).1, rfl, _, rfl⟩, by rw [sizeLine_eq]; omega, .none, .int _ _, ?_⟩
    have hP := fun a => pushTwo F5 N5 a (slicePick (strValues l).toArray none (some 1) none)
    rw [pick_head] at hP ⊢
    (try dsimp only)
    replace hP := hP { cls := .type "slice", data := .fields #[.none, .int 1 (tk5 + 1), .none] }
    generalize ((Heap.push _ _).push _) = h7 at hP ⊢
    generalize Array.size _ + 1 = D7 at hP ⊢
    obtain ⟨F7, N7, _⟩ := hP
    clear F5 N5
    iterate 1 (first | (k_unfold; (try dsimp only)) | walk1)
    have hysz : ys.size ≤ 19 := by
      have h1 := strsAre_len hyd
      rw [List.length_map, List.length_drop, ← hl, List.length_map] at h1
      have h2 : l.length ≤ 19 := by simpa [strValues] using hsz
      have h3 : ys.toList.length = ys.size := by simp
      omega
    refine PySem.P.add_list (items := (List.take 1 (strValues l)).toArray) (items2 := ys) (n := 0) (n2 := nD) (N7 _ (.head _)).1 (N7 _ (.tail _ (.head _))).1 ?_ (by rw [sizeLine_eq, List.size_toArray, List.length_take]; omega)
    have F8 := F7.push { cls := .type "list", data := .seq ((List.take 1 (strValues l)).toArray ++ ys) }
    iterate 1 (first | (k_unfold; (try dsimp only)) | walk1)
    refine join_list (ys := (Txt.split x (Str.ofString "%")).take 1 ++ ((Txt.split x (Str.ofString "%")).drop 1).map duePiece) ⟨_, Heap.get?_push_size _ rfl, rfl, _, rfl⟩ ?_ ?_ fun t' k' => ?_
    · have e1 := strsAre_vals (l.take 1)
      rw [List.map_take, hl] at e1
      have e2 : (List.take 1 (strValues l)) = strValues (l.take 1) := by unfold strValues; rw [List.map_take]
      have := strsAre_app e1 hyd
      simpa [e2] using this
    · have hb : ∀ a ∈ (Txt.split x (Str.ofString "%")).take 1 ++ ((Txt.split x (Str.ofString "%")).drop 1).map duePiece, a.length ≤ 70 := fun a ha => by
        have hs : ∀ b ∈ Txt.split x (Str.ofString "%"), b.length ≤ 17 := fun b hb => Nat.le_trans (hll b (hl ▸ hb)) hx
        rcases List.mem_append.mp ha with ha | ha
        · exact Nat.le_trans (hs a (List.mem_of_mem_take ha)) (by omega)
        · obtain ⟨b, hb, rfl⟩ := List.mem_map.mp ha
          exact duePiece_le b (hs b (List.mem_of_mem_drop hb))
      have h1 := sum_le _ hb
      have h2 : ((Txt.split x (Str.ofString "%")).take 1 ++ ((Txt.split x (Str.ofString "%")).drop 1).map duePiece).length ≤ 40 := by
        rw [List.length_append, List.length_map, List.length_take, List.length_drop, ← hl, List.length_map]
        have h2 : l.length ≤ 19 := by simpa [strValues] using hsz
        omega
      have h3 : (Str.ofString "%").length = 1 := rfl
      rw [h3]; omega
    · exact h _ _ _ F8.keep
end
/- LiA2 -/
section
theorem entry_md_get : entryFor table "method_descriptor.__get__" = some Builtin.«method_descriptor.__get__» := entryFor_of_tree (by kernel_rfl)
theorem plain_md_get : plainId "method_descriptor.__get__" = true := by decide +kernel
theorem chk_md_get (T : Addr) : checkBuiltinCall "method_descriptor.__get__" ⟨[.builtin "list.append", .ref T, .type "list"], []⟩ = pure () := by kernel_rfl
theorem own_append : (".".intercalate ("list.append".cutAt '.').dropLast) = "list" := by decide +kernel
theorem sub_ll : isSubtype (.type "list") (.type (".".intercalate ("list.append".cutAt '.').dropLast)) = pure true := by rw [own_append, isSubtype_type]; kernel_rfl
end
/- LiAttr -/
section
open Builtin Builtin.ObjectAttr
theorem lk_list_append : typeLookup (.type "list") "append" = pure (some (.builtin "list.append")) := by rw [typeLookup_type, builtinLookup_eq_fast]; kernel_rfl
theorem bt_append : builtinType "list.append" = pure (.type "method_descriptor") := by kernel_rfl
theorem lk_md_get : typeLookup (.type "method_descriptor") "__get__" = pure (some (.builtin "method_descriptor.__get__")) := by rw [typeLookup_type, builtinLookup_eq_fast]; kernel_rfl
theorem lk_md_set : typeLookup (.type "method_descriptor") "__set__" = pure none := by rw [typeLookup_type, builtinLookup_eq_fast]; kernel_rfl
theorem lk_md_del : typeLookup (.type "method_descriptor") "__delete__" = pure none := by rw [typeLookup_type, builtinLookup_eq_fast]; kernel_rfl
theorem sub_list_static : isSubtype (.type "list") (.type "staticmethod") = pure false := by rw [isSubtype_type]; kernel_rfl
theorem sub_list_classm : isSubtype (.type "list") (.type "classmethod") = pure false := by rw [isSubtype_type]; kernel_rfl
theorem lk_list_getattr : typeLookup (.type "list") "__getattr__" = pure none := by rw [typeLookup_type, builtinLookup_eq_fast]; kernel_rfl
section
variable {prog : Program} {w : World} {A : Around} {E : Value → Shared → Prop} {h : Heap} {g : Array GenState} {d : Drawn} {t : Nat} {os : OsState} {T : Addr}
abbrev bmO (T : Addr) : Obj := { cls := .type "builtin_function_or_method", data := .fields #[.builtin "list.append", .ref T] }
theorem li_entry {tk : Tok} {its : Array Value} {k : Nat} {Q : Fin → Shared → Prop} (hM : h.get? T = some (W.listOf its k))
    (hq : Q (.done (.ret (.ref h.objs.size))) ⟨h.push (bmO T), g, d, t, os⟩) : wpAny (model prog w) A (Builtin.«object.__getattribute__» ⟨[.ref T, .str (Str.ofString "append") tk], []⟩) Q E ⟨h, g, d, t, os⟩ := by
  have hT : (⟨h, g, d, t, os⟩ : Shared).TypeIs (.ref T) "list" := ⟨_, hM, rfl⟩
  have f1 := lk_list_append
  have f3 := sub_list_static
  have f2 := sub_list_classm
  have f4 := bt_append
  have f5 := lk_md_get
  have f6 := lk_md_set
  have f7 := lk_md_del
  repeat (any_goals (first | assumption | wp_step))
  refine codeAny_call_builtin plain_md_get entry_md_get (wpAny_of_eq (chk_md_get T) ?_)
  have f8 := sub_ll
  repeat (any_goals (first | assumption | wp_step))
theorem li_getAttr {ex : Bool} {its : Array Value} {k : Nat} {Q : Value → Shared → Prop} (hM : h.get? T = some (W.listOf its k))
    (hq : Q (.ref h.objs.size) ⟨h.push (bmO T), g, d, t + 1, os⟩) : wpAny (model prog w) A (getAttr (.ref T) (Str.ofString "append") ex) Q E ⟨h, g, d, t, os⟩ := by
  have hT : (⟨h, g, d, t, os⟩ : Shared).TypeIs (.ref T) "list" := ⟨_, hM, rfl⟩
  have hT1 : (⟨h, g, d, t + 1, os⟩ : Shared).TypeIs (.ref T) "list" := ⟨_, hM, rfl⟩
  have f1 := F.slot_list_getattribute.lookup
  have f2 := F.slot_list_getattribute.bind (.ref T)
  have f3 := lk_list_getattr
  cases ex
  all_goals (
    repeat (any_goals (first | assumption | wp_step))
    refine codeAny_call_builtin F.slot_list_getattribute.plain F.entry_list_ga (F.slot_list_getattribute.check _ _ _ _ _ _ _ _ hT1 (F.args_list_getattribute_2 _ _) (li_entry hM ?_))
    repeat (any_goals (first | assumption | wp_step)))
end
end
/- LiCall -/
section
section
variable {prog : Program} {w : World} {A : Around} {E : Value → Shared → Prop} {h : Heap} {g : Array GenState} {d : Drawn} {t : Nat} {os : OsState} {T B : Addr}
theorem sub_list_module : isSubtype (.type "list") (.type "module") = pure false := by rw [isSubtype_type]; kernel_rfl
theorem sub_list_type : isSubtype (.type "list") (.type "type") = pure false := by rw [isSubtype_type]; kernel_rfl
theorem bm_check {its : Array Value} {n : Nat} {x : Value} {Q : Unit → Shared → Prop} (hM : h.get? T = some (W.listOf its n)) (hq : Q () ⟨h, g, d, t, os⟩) :
    wpAny (model prog w) A (checkBoundCall "list.append" ⟨[.ref T, x], []⟩) Q E ⟨h, g, d, t, os⟩ := by
  have hT : (⟨h, g, d, t, os⟩ : Shared).TypeIs (.ref T) "list" := ⟨_, hM, rfl⟩
  unfold checkBoundCall
  have f1 := sub_list_module
  have f2 := sub_list_type
  repeat (any_goals (first | assumption | wp_step))
theorem call_bm {its : Array Value} {n : Nat} {x : Value} {Q : Value → Shared → Prop} (hB : h.get? B = some (bmO T)) (hM : h.get? T = some (W.listOf its n)) (hsz : its.size ≤ sizeLine)
    (hq : ∀ h', Heap.SameBut T h h' → h'.get? T = some (W.listOf (its.push x) (n + 1)) → Q .none ⟨h', g, d, t, os⟩) :
    wpAny (model prog w) A (call (.ref B) [x]) Q E ⟨h, g, d, t, os⟩ := by
  refine wpAny_call (codeAny_of_tree ?_)
  show wpAny _ _ (load B >>= _) _ _ _
  refine wpAny_bind (wpAny_load hB ?_)
  show wpAny _ _ (checkBoundCall "list.append" ⟨[.ref T, x], []⟩ >>= fun _ => again (.builtin "list.append" ⟨[.ref T, x], []⟩)) _ _ _
  refine wpAny_bind (bm_check hM (wpAny_pure ⟨Code.quiet_builtin _ (by decide +kernel), codeAny_builtin entry_list_append ?_⟩))
  show wpAny _ _ (updateSeq T (·.push x) >>= fun _ => ret .none) _ _ _
  refine wpAny_bind ?_
  refine wpAny_updateSeq hM rfl (wpAny_pure ?_)
  refine hq _ (Heap.SameBut.update ..) ?_
  rw [Heap.get?_update_self _ hM (by rw [mapSeq_push]; rfl), mapSeq_push]
theorem callWith_bm {M : Model} {env : Env} {s : Shared} {pos : Pos} {e : Expr} {rest : List Expr} {Q : Value → Shared → Prop}
    (h : wpAny M A (spliced (backTo pos (starEach (e :: rest) env))) (fun vs s₁ => s₁.heap.get? B = some (bmO T) ∧ wpAny M A (call (.ref B) vs) Q E s₁) E s)
    (he : starEach (e :: rest) env = (false, eval e env) :: starEach rest env := by rfl)
    (hplain : (backTo pos (starEach rest env)).any (·.1) = false := by rfl) :
    wpAny M A (callWith pos (.ref B) [] (backTo pos (starEach (e :: rest) env)) []) Q E s := by
  rw [he] at h ⊢
  have hp : (backTo pos ((false, eval e env) :: starEach rest env)).any (·.1) = false := by show (false || (backTo pos (starEach rest env)).any (·.1)) = false; rw [hplain]; rfl
  unfold callWith
  have h2 : wpAny M A (evalArgs (.ref B) true (backTo pos ((false, eval e env) :: starEach rest env)) []) (fun a s₁ => s₁.heap.get? B = some (bmO T) ∧ wpAny M A (call (.ref B) a.pos a.kw) Q E s₁) E s := evalArgs_plain h
  refine wpAny_bind (wpAny_holding (wpAny_mono h2 (fun a s₁ h₁ => wpAny_bind (wpAny_standAt ?_)) fun _ _ x => x))
  simp only [hp, List.any_nil, Bool.or_false]
  refine wpAny_bind ?_
  unfold keeperOf
  refine wpAny_bind (wpAny_load h₁.1 ?_)
  show wpAny _ _ (pure Keeper.machine) _ _ _
  refine wpAny_pure ?_
  exact wpAny_bind (wpAny_mono h₁.2 (fun r s₂ hr => wpAny_bind (wpAny_holding (wpAny_point (wpAny_pure hr)))) fun _ _ x => x)
end
end
/- Esc0 -/
section
theorem sub_key_lookup : isSubtype (.type "KeyError") (.type "LookupError") = pure true := by rw [isSubtype_type]; kernel_rfl
theorem keysOf_int {prog : Program} {w : World} {es : Array DictEntry} (h : (es.toList.all fun e => match e.key with | .int k _ => decide (e.hash = hashInt k) | _ => false) = true) : KeysOf (intKind prog w) es := by
  intro e he
  have := List.all_eq_true.mp h e (by simpa using he)
  revert this
  cases e.key with
  | int k t => intro q; exact ⟨k, by simp [intKind, Value.isInt], of_decide_eq_true q⟩
  | _ => intro q; cases q
section
variable {prog : Program} {w : World} {A : Around} {E : Value → Shared → Prop} {h : Heap} {g : Array GenState} {d : Drawn} {t : Nat} {os : OsState} {D : Addr}
theorem table_keep {c : Int} {n : Nat} (hc : c = n) {f : Int → Option Value} {Q : Builtin.Str.Mapped → Shared → Prop} (hm : h.MapOf (intKind prog w) D f) (hD : (D == sysModules) = false) (hh : A.handled = none) (hf : f c = none)
    (hq : ∀ h' tk, h.StaysIn h' → Q .keep ⟨h', g, d, tk, os⟩) :
    wpAny (model prog w) A (Builtin.Str.tableLookup (.ref D) n) Q E ⟨h, g, d, t, os⟩ := by
  subst hc
  unfold Builtin.Str.tableLookup
  refine wpAny_bind (wpAny_attempt ?_)
  show wpAny _ _ (fresh >>= _) _ _ _
  refine wpAny_bind (wpAny_fresh ?_)
  refine wpAny_getItem_missing_of (intKind_is prog w _ _) hD hh hm hf fun h' e he => ?_
  obtain ⟨ob, tt, hob, hcl, hdt⟩ := he.there
  show wpAny _ _ (isInstance (.ref e) (.type "LookupError") >>= _) _ _ _
  refine wpAny_bind (wpAny_isInstance (T := "KeyError") (b := true) ⟨ob, hob, hcl⟩ sub_key_lookup ?_)
  rw [if_pos rfl]
  exact wpAny_bind (wpAny_rule (wpAny_pure (hq _ _ he.keeps)))
theorem translate_pct {f : Int → Option Value} {x : Nat} {tx : Tok} {Q : Fin → Shared → Prop} (hm : h.MapOf (intKind prog w) D f) (hD : (D == sysModules) = false) (hh : A.handled = none) (hx : x < 128) (hf : f x = none)
    (hq : ∀ h' tk tr, h.StaysIn h' → Q (.done (.ret (.str ⟨#[x]⟩ tr))) ⟨h', g, d, tk, os⟩) :
    wpAny (model prog w) A (Builtin.«str.translate» ⟨[.str ⟨#[x]⟩ tx, .ref D], []⟩) Q E ⟨h, g, d, t, os⟩ := by
  unfold Builtin.«str.translate»
  have e1 : Builtin.Str.strOneArg "translate" ⟨[.str ⟨#[x]⟩ tx, .ref D], []⟩ = pure (.str ⟨#[x]⟩ tx, ⟨#[x]⟩, .ref D) := by rfl
  refine wpAny_bind (wpAny_of_eq e1 ?_)
  dsimp only
  have ha : (#[x].all fun x => decide (x < 128)) = true := by simp [hx]
  rw [if_neg (by show ¬ ((1 : Nat) == 0) = true; decide), ha]
  refine wpAny_bind ?_
  rw [show ∀ (β : Type) (b : β) (f : Nat → β → Sem (ForInStep β)), forIn (#[x] : Array Nat) b f = forIn [x] b f from fun _ _ _ => by simp]
  simp only [List.forIn_cons, List.forIn_nil]
  refine wpAny_bind ?_
  rw [if_neg (by decide)]
  rw [if_pos True.intro]
  show wpAny _ _ (Builtin.Str.tableLookup (Value.ref D) x >>= _) _ _ _
  refine wpAny_bind (table_keep (c := x) rfl hm hD hh hf fun h' tk st => ?_)
  dsimp only
  refine wpAny_bind (wpAny_pure ?_)
  dsimp only
  refine wpAny_pure ?_
  dsimp only
  refine wpAny_pure ?_
  rw [if_neg (show ¬ Builtin.Str.tooLong 1 = true by decide)]
  show wpAny _ _ (mkStr ⟨#[x]⟩ >>= _) _ _ _
  refine wpAny_bind (wpAny_mkStr' ?_ (show (1 : Nat) ≤ sizeLine by decide))
  exact wpAny_pure (hq _ _ _ st)
theorem call_translate_pct {f : Int → Option Value} {x : Nat} {tx : Tok} {Q : Value → Shared → Prop} (hm : h.MapOf (intKind prog w) D f) (hD : (D == sysModules) = false) (hh : A.handled = none) (hx : x < 128) (hf : f x = none)
    (hq : ∀ h' tk tr, h.StaysIn h' → Q (.str ⟨#[x]⟩ tr) ⟨h', g, d, tk, os⟩) :
    wpAny (model prog w) A (call (.builtin "str.translate") [.str ⟨#[x]⟩ tx, .ref D]) Q E ⟨h, g, d, t, os⟩ :=
  wpAny_call_entry F.slot_str_translate (typeIs_str _ _ _) F.entry_str_translate (translate_pct hm hD hh hx hf fun h' tk tr st => ⟨_, rfl, hq h' tk tr st⟩) (F.args_str_translate_2 _ _)
theorem gm_translate {x : Str} {tx : Tok} {pl : Sem Bool} {M : Model} {s : Shared} {Q : Value × List Value → Shared → Prop} (h : Q (.builtin "str.translate", [.str x tx]) s) : wpAny M A (getMethod (.str x tx) (Str.ofString "translate") pl) Q E s := by
  with_reducible exact GM.of (.str x tx) (typeIs_str _ _ _) F.slot_str_translate F.type_str_translate GM.noRef h
end
end
/- Esc -/
section
theorem beginEsc : True := by
  w_top off
  trivial
theorem escape {w : World} {loose : List Str} {mean : ExcName → Option Value} {mg mb : Str → Option Value} {dp un : Nat} {fr : Option (List Env)} {gd : Option (List Code)} {s : Shared} {R : Result → Shared → Prop} {g : Heap} {t : Tok}
    (G : Gr w loose mean mg mb g) (st : g.StaysIn s.heap) (hdp : dp + 10 < recursionLimit) (hun : un + 40 < cLine)
    (h : ∀ h' tk tr, s.heap.StaysIn h' → R (.ok (.ret (.str (Str.ofString "%") tr))) { s with heap := h', toks := tk }) :
    codeAny (model prog w) (aro dp un fr gd) (.call (.ref 62) ⟨[.str (Str.ofString "%") t], []⟩) R s := by
  refine' enter [("pattern", .str (Str.ofString "%") t)] G.X G.T st [] (fun _ q => nomatch q) ?ho ?hcd ?hroom ?hbind ?hloc ?_ ?c1 ?c2 ?c3 ?c4
  case ho => k_is
  case hcd => k_is
  case hroom => (show dp < _); omega
  case hbind => rfl
  case hloc => exact locs rfl
  case c1 => rfl
  case c2 => rfl
  case c3 => rfl
  case c4 => decide
  intro g' L h₁ eg X' T' F N l1
  replace eg : g' = s.heap := eg
  subst eg
  (try dsimp only)
  iterate 19 (first | (k_unfold; (try dsimp only)) | walk1)
  refine gm_translate ?_
  iterate 4 (first | (k_unfold; (try dsimp only)) | walk1)
  try dsimp only
  obtain ⟨o52, k52, c52', c52⟩ : ∃ o, (kfrag.heap_1 w.params).lookup 52 = some o ∧ o.ExactDict ∧ ∃ es ep, o.data = .dict es ep ∧ KeysOf (intKind topProg w) es ∧ findBy Value.isInt es 37 = none := by
    exact ⟨_, by k_is, ⟨rfl, rfl, rfl⟩, _, _, rfl, keysOf_int (by decide +kernel), by decide +kernel⟩
  obtain ⟨es, ep, d52, q52, n52⟩ := c52
  refine call_translate_pct (f := fun k => findBy Value.isInt es k) (x := 37) ⟨o52, es, ep, F.keep _ _ (X' _ _ k52), c52', d52, q52, fun k => rfl⟩ rfl ?hh (by decide) n52 fun h' tk tr st => ?_
  case hh => rfl
  exact h _ _ _ (fun b o e => st b o (F.keep b o e))
end
/- LamA -/
section
theorem codeCases (pos : Pos) (ps : List Value) : codeAmong pos ps = none ∨ ∃ v, codeAmong pos ps = some v := by
  cases codeAmong pos ps with
  | none => exact .inl rfl
  | some v => exact .inr ⟨v, rfl⟩
theorem triplesSnoc {ps : Array Value} {a b : Int} {c : Value} (ht : TriplesOk ps.toList) : TriplesOk (ps ++ #[rawInt a, rawInt b, c]).toList := by
  have hl : (ps ++ #[rawInt a, rawInt b, c]).toList = ps.toList ++ [rawInt a, rawInt b, c] := by simp
  rw [hl]; exact TriplesOk_snoc _ _ _ _ ht
section
variable {M : Model} {A : Around} {E : Value → Shared → Prop} {s : Shared} {h₀ : Heap} {L a c P : Addr} {m mg mb : Str → Option Value} {cn : Str} {cs : Scope} {ccd : Value} {cl : List (Str × Addr)} {rest : List (Addr × Obj)}
  {p : Program} {loose : List Str} {mean : ExcName → Option Value} {params : Arguments} {body : Expr} {scope : Scope} {ps : Array Value} {pos : Pos} {clos : List (Str × Addr)}
/-- a lambda made in a body whose code table holds anything -/
theorem lam_any {Q : Value → Shared → Prop} (F : Fr h₀ L s.heap m) (N : News h₀ L s.heap ((P, tabObj ps) :: rest)) (hP : ∀ q ∈ rest, q.1 ≠ P) (T : Top p loose mean mg mb h₀) (C : CodeHd h₀ c P) (hcd : ccd = .ref c) (ht : TriplesOk ps.toList)
    (hdef : defaultsOf params (envX cn cs L a ccd cl) = ([], []))
    (hcl : closureFor scope (envX cn cs L a ccd cl) = pure clos)
    (h : ∀ f fo ps' h' tk, Fr h₀ L h' m → News h₀ L h' ((P, tabObj ps') :: rest) → TriplesOk ps'.toList → h'.get? f = some fo → fo.cls = .type "function" → Q (.ref f) { s with heap := h', toks := tk }) :
    wpAny M A (eval (.Lambda params body scope pos) (envX cn cs L a ccd cl)) Q E s := by
  refine kla_eval hdef ?_
  rcases codeCases pos ps.toList with hc | ⟨v, hc⟩
  · refine kla_nest F N T C hcd (.head hP) ht hc hcl fun f c' oc vs t ctv h' tk F' N' d1 d2 l1 l2 => ?_
    exact h f _ _ h' tk F' (fun q hq => N' q (.tail _ (.tail _ hq))) (triplesSnoc ht) (N' _ (.head _)).1 rfl
  · have hm := N (P, tabObj ps) (.head _)
    have hgs := T.g.keeps F.keep
    obtain ⟨bm, ob, b1, b2, b3, b4, b5, b6⟩ := T.bmain
    have hbP : bm ≠ P := fun q => by
      have e := F.keep _ _ b3
      rw [q, hm.1] at e; cases e; cases b4
    have hbG : bm ≠ mainGlobals := fun q => by
      obtain ⟨o, es, ep, e, hd, _⟩ := T.g
      rw [q, e] at b3; cases b3; rw [hd] at b6; cases b6
    refine kla_makeFunctionHit (mg := mg) hcl rfl hgs hcd (C.keeps F.keep) hm.1 ht hc ⟨bm, ob, b1, b2, hbG, hbP, F.keep _ _ b3, b4, b5, b6⟩ fun ctv h' tk hk hsz => ?_
    have st : s.heap.StaysIn (h'.push { cls := .type "function", data := .func (kla_fn "<lambda>" ((envX cn cs L a ccd cl).qual ++ "<lambda>") params body scope clos ((mg "__name__").getD .none) v ctv) }) := fun b o e => Heap.get?_push_of_some _ (hk b o e)
    exact h _ _ ps _ tk ⟨F.ns.keeps st, fun b o e => st b o (F.keep b o e), F.above⟩ (fun q hq => ⟨st _ _ (N q hq).1, (N q hq).2⟩) ht (Heap.get?_push_size _ rfl) rfl
/-- the code of a generator expression, whatever the code table holds -/
theorem genexprCode_any {env : Env} {q : Str} {Q : Value → Shared → Prop} (hc : env.code = .ref c) (C : CodeHd s.heap c P) (hP : s.heap.get? P = some (tabObj ps)) (ht : TriplesOk ps.toList)
    (h : ∀ code h' tk ps', Heap.ExtBut P s.heap h' → s.heap.objs.size ≤ h'.objs.size → h'.get? P = some (tabObj ps') → TriplesOk ps'.toList → Q code { s with heap := h', toks := tk }) :
    wpAny M A (genexprCode env pos q scope) Q E s := by
  rcases codeCases pos ps.toList with hn | ⟨v, hn⟩
  · exact wpAny_genexprCodeX hc (C.code hP ht) (C.tab hP) hn fun c' h' tk hx hge hlt _ _ htab _ => h _ _ _ _ hx (Nat.le_trans hge (Nat.le_of_lt hlt)) htab.2 (triplesSnoc ht)
  · exact wpAny_genexprCode_hit hc (C.code hP ht) hn (h _ _ s.toks ps (Heap.ExtBut.refl _ _) (Nat.le_refl _) hP ht)
end
end
/- GenJ -/
section
theorem passAll (n : Nat) : passing (fun _ => true) n 0 = List.range n := by simp [passing]
def genF (ts : List Str) (f : Str → Str) (j : Nat) (y : Value) : Prop := ∃ i, (List.range ts.length)[j]? = some i ∧ ∃ b t, ts[i]? = some b ∧ y = .str (f b) t
section
variable {prog : Program} {w : World} {A : Around} {E : Value → Shared → Prop} {s : Shared} {h₀ : Heap} {L c P D : Addr} {m mg mb : Str → Option Value} {rest : List (Addr × Obj)}
  {p : Program} {loose : List Str} {mean : ExcName → Option Value} {ps : Array Value} {pos : Pos}
/-- a generator expression over a list of texts, whatever the code table holds: what it hands out, text by text -/
theorem gen_strs {env : Env} {elt iter : Expr} {x : Str} {px : Pos} {scope : Scope} {cl : List (Str × Addr)} {Q : Value → Shared → Prop} {vs : Array Value} {ts : List Str} {f : Str → Str}
    (F : Fr h₀ L s.heap m) (N : News h₀ L s.heap ((P, tabObj ps) :: rest)) (hPr : ∀ q ∈ rest, q.1 ≠ P) (T : Top p loose mean mg mb h₀) (C : CodeHd h₀ c P) (ht : TriplesOk ps.toList) (G : AllBare s.gens)
    (hcode : env.code = .ref c) (hge : env.globals = mainGlobals)
    (hh : A.handled = none) (hco : scope.isCoroutine = false) (hclos : closureFor scope env = pure cl) (hcell : ∀ y ∈ scope.names, y.2 ≠ .cell) (h0 : scope.names.lookup (".0" : Str) = some NameKind.local)
    (hx : scope.names.lookup x = some .local) (hkind : scope.kind = .function) (hroom : A.depth < recursionLimit)
    (hit : ∀ Q' : Value → Shared → Prop, Q' (.ref D) s → wpAny (model prog w) A (eval iter env) Q' E s)
    (hl : s.heap.IsList D vs) (hi : StrsAre vs.toList ts)
    (helt : ∀ (C : Addr) (code : Value) (A' : Around) (E' : Value → Shared → Prop) (b : Str) (t : Tok) (u : Shared) m₂, A'.handled = none → u.heap.Ns C m₂ → m₂ x = some (.str b t) → b ∈ ts →
      wpAny (model prog w) A' (eval elt (genEnv scope cl C code builtinsNs env)) (fun y s₃ => (∃ t', y = .str (f b) t') ∧ Keeps u s₃) E' u)
    (h : ∀ a K ps' h₅ g₅ tk₅, Fr h₀ L h₅ m → News h₀ L h₅ ((P, tabObj ps') :: rest) → TriplesOk ps'.toList → AllBare g₅ → L ≤ K → P ≤ K → (∀ q ∈ rest, q.1 ≤ K) →
      Gen prog w A K a ts.length (genF ts f) ⟨h₅, g₅, s.drawn, tk₅, s.os⟩ → Q (.ref a) ⟨h₅, g₅, s.drawn, tk₅, s.os⟩)
    (hs : ∀ x, genFold iter env x = pure x) :
    wpAny (model prog w) A (eval (.GeneratorExp elt [⟨.Name x px, iter, [], 0⟩] scope pos) env) Q E s := by
  have hlim : s.heap.NoLimit := T.nolimit.keeps F.keep
  have hm := N (P, tabObj ps) (.head _)
  have hPlt : P < s.heap.objs.size := Heap.lt_size hm.1
  have hDlt : D < s.heap.objs.size := by obtain ⟨_, e, _⟩ := hl; exact Heap.lt_size e
  have hDP : D ≠ P := fun e => by
    obtain ⟨o, ho, hc, _⟩ := hl
    rw [e, hm.1] at ho; cases ho; exact absurd hc (by simp)
  have hLlt : L < s.heap.objs.size := F.ns.lt
  obtain ⟨bm, ob, b1, b2, b3, b4, b5, b6⟩ := T.bmain
  have hbP : bm ≠ P := fun q => by
    have e := F.keep _ _ b3
    rw [q, hm.1] at e; cases e; cases b4
  have hcP : cStatics ≠ P := fun e => by
    obtain ⟨_, hns, _⟩ := hlim
    obtain ⟨o, es, ep, ho, hd, _⟩ := hns
    rw [e, hm.1] at ho; cases ho; cases hd
  have hsz : vs.size = ts.length := by rw [← hi.length]; simp
  refine wpAny_GeneratorExp_walksQD hh hco hclos hcell h0 hx hkind hroom (hit _ ?_) hs
  refine wpAny_pyIter_list hl ⟨hlim.push _, ?_⟩
  have st1 : s.heap.StaysIn (s.heap.push { cls := .type "list_iterator", data := .fields #[.ref D, .int 0 0] }) := fun b o e => Heap.get?_push_of_some _ e
  refine genexprCode_any hcode ((C.keeps F.keep).keeps st1) (st1 _ _ hm.1) ht fun code h₃ tk₃ ps' hx₃ hge₃ hP₃ ht₃ => ?_
  have hsz1 : (s.heap.push { cls := .type "list_iterator", data := .fields #[.ref D, .int 0 0] }).objs.size = s.heap.objs.size + 1 := Heap.size_push ..
  have hgs := T.g.keeps F.keep
  have hgP : mainGlobals ≠ P := fun q => by
    obtain ⟨o, es, ep, e, hd, _⟩ := hgs
    rw [q, hm.1] at e; cases e; cases hd
  have k₃ : ∀ b o, b ≠ P → s.heap.get? b = some o → h₃.get? b = some o := fun b o hb e => hx₃ b o hb (st1 b o e)
  have hg₃ : h₃.Ns mainGlobals mg := hgs.at' fun o e => k₃ _ o hgP e
  have hl₃ : h₃.NoLimit := (hlim.push _).extBut hx₃ hcP
  have hs₃ : s.heap.objs.size < h₃.objs.size := Nat.lt_of_lt_of_le (Nat.lt_of_lt_of_le (Nat.lt_succ_self _) (Nat.le_of_eq hsz1.symm)) hge₃
  rw [hge]
  refine wpAny_builtinsFor hg₃ b1 b2 (k₃ _ _ hbP (F.keep _ _ b3)) b4 b5 b6 ?_
  have hIP : s.heap.objs.size ≠ P := Nat.ne_of_gt hPlt
  have hcS : cStatics < s.heap.objs.size := by obtain ⟨_, hns, _⟩ := hlim; exact hns.lt
  refine ⟨s.heap.objs.size, [s.heap.objs.size, D], [s.heap.objs.size], vs.size, _, _, (fun _ => true), (fun i y => ∃ b t, ts[i]? = some b ∧ y = .str (f b) t), rfl,
    (fun A' hA => Walks.list hA _ _ (Nat.ne_of_lt hDlt) vs), ?st, ?fp, hl₃, ?cw, (fun href hhref => ⟨?tests, ?elt⟩), fun a h₅ tk gs hgb hag hsz₅ hk₅ W hat => ?fin⟩
  case st => exact ⟨⟨_, hx₃ _ _ hIP (Heap.get?_push_size _ rfl), rfl, rfl⟩, by obtain ⟨o, ho, r⟩ := hl; exact ⟨o, k₃ _ _ hDP ho, r⟩⟩
  case fp =>
    intro b hb
    simp only [List.mem_cons, List.not_mem_nil, or_false] at hb
    rcases hb with rfl | rfl
    · exact hs₃
    · exact Nat.lt_trans hDlt hs₃
  case cw =>
    intro hb
    rw [List.mem_singleton] at hb
    exact absurd hb (Nat.ne_of_lt hcS)
  case tests =>
    intro A' E' i v s₂ m₂ hA hD hU hP hn hm hkp
    simp only [List.forIn_nil]
    exact wpAny_pure ⟨rfl, _, _, rfl, fun _ _ e => e⟩
  case elt =>
    intro A' E' i v s₂ m₂ hA hD hU hP _ hn hm₂ hkp
    have hv : vs.toList[i]? = some v := by simpa using hP
    have hlt : i < ts.length := by rw [← hi.length]; exact (List.getElem?_eq_some_iff.mp hv).1
    obtain ⟨t, ht⟩ := hi.get i ts[i] (List.getElem?_eq_getElem hlt)
    rw [hv] at ht
    cases ht
    refine wpAny_mono (helt _ code A' E' ts[i] t s₂ m₂ hA hn hm₂ (List.getElem_mem hlt)) (fun y s₃ hy => ?_) fun _ _ e => e
    obtain ⟨⟨t', rfl⟩, hk⟩ := hy
    exact ⟨⟨_, t', List.getElem?_eq_getElem hlt, rfl⟩, hk⟩
  case fin =>
    have k₅ : ∀ b o, b ≠ P → s.heap.get? b = some o → h₅.get? b = some o := fun b o hb e => hk₅ b o (k₃ b o hb e)
    have old : ∀ b o, h₀.get? b = some o → b ≠ P := fun b o e q => by rw [q, hm.2.2] at e; cases e
    have hKlt : s.heap.objs.size - 1 < s.heap.objs.size := Nat.sub_lt (Nat.lt_of_le_of_lt (Nat.zero_le _) hLlt) (Nat.zero_lt_one)
    have le1 : ∀ b, b < s.heap.objs.size → b ≤ s.heap.objs.size - 1 := fun b hb => Nat.le_sub_one_of_lt hb
    refine h a (s.heap.objs.size - 1) ps' h₅ _ tk ⟨F.ns.at' fun o e => k₅ _ o hm.2.1.symm e, fun b o e => k₅ b o (old b o e) (F.keep b o e), F.above⟩ (fun q hq => ?_) ht₃ (G.push hgb) (le1 _ hLlt) (le1 _ hPlt)
      (fun q hq => le1 _ (Heap.lt_size (N q (.tail _ hq)).1)) ?_
    · rcases List.mem_cons.mp hq with rfl | hq
      · exact ⟨hk₅ _ _ hP₃, hm.2⟩
      · exact ⟨k₅ _ _ (hPr q hq) (N q (.tail _ hq)).1, (N q (.tail _ hq)).2⟩
    · rw [passAll] at W
      rw [hsz] at W hat
      have hn : (List.range ts.length).length = ts.length := List.length_range
      rw [hn] at W
      refine ⟨_, _, _, _, W, hat, (fun i s' st => st.1.typeIs), List.mem_cons_self, ?_, ?_⟩
      · intro b hb
        show b < h₅.objs.size
        rw [hsz₅]
        rcases List.mem_cons.mp hb with rfl | hb
        · exact Nat.lt_succ_self _
        · rcases List.mem_cons.mp hb with rfl | hb
          · exact Nat.lt_succ_of_lt hag
          · exact Nat.lt_succ_of_lt (Nat.lt_trans (List.mem_range.mp hb) hag)
      · intro b hb
        rcases List.mem_cons.mp hb with rfl | hb
        · exact Nat.lt_trans hKlt hs₃
        · rw [List.mem_singleton.mp hb]; exact hKlt
theorem map_getD (ts : List Str) (f : Str → Str) : (List.range ts.length).map (fun j => f (ts.getD j "")) = ts.map f := by
  have e : ((List.range ts.length).map fun j => ts.getD j "") = ts := range_getD ts ""
  conv => rhs; rw [← e]
  rw [List.map_map]; rfl
theorem join_strs {K a : Addr} {sep : Str} {t : Tok} {ts : List Str} {f : Str → Str} {Q : Value → Shared → Prop} (F : Fr h₀ L s.heap m) (N : News h₀ L s.heap ((P, tabObj ps) :: rest)) (G : AllBare s.gens)
    (hLK : L ≤ K) (hPK : P ≤ K) (hrK : ∀ q ∈ rest, q.1 ≤ K) (X : Gen prog w A K a ts.length (genF ts f) s) (hok : ((ts.map f).map (·.length)).sum + (ts.map f).length * sep.length ≤ 16777216) (hsz : ts.length ≤ sizeLine)
    (hQ : ∀ h' g' d' tk t', Fr h₀ L h' m → News h₀ L h' ((P, tabObj ps) :: rest) → AllBare g' → Q (.str (Txt.join sep (ts.map f)) t') ⟨h', g', d', tk, s.os⟩) :
    wpAny (model prog w) A (call (.builtin "str.join") [.str sep t, .ref a]) Q E s := by
  have e := map_getD ts f
  refine join_rowsK F G X hLK (fun j => f (ts.getD j "")) (fun j v hv => ?_) (by rw [e]; exact joinOk_of hok) (fun s' t' F' G' ho hk => ?_) hsz
  · obtain ⟨i, hi, b, t, hb, rfl⟩ := hv
    have : i = j := by
      have hj := (List.getElem?_eq_some_iff.mp hi).1
      rw [List.getElem?_range (by simpa using hj)] at hi
      exact (Option.some.inj hi).symm
    subst this
    exact ⟨t, by rw [List.getD_eq_getElem?_getD, hb]; rfl⟩
  · rw [e]
    obtain ⟨h', g', d', tk, os'⟩ := s'
    cases ho
    exact hQ h' g' d' tk t' F' (fun q hq => by
      have n := N q hq
      refine ⟨hk _ _ ?_ n.1, n.2⟩
      rcases List.mem_cons.mp hq with rfl | hq
      · exact hPK
      · exact hrK _ hq) G'
end
end
/- Sub0 -/
section
theorem plainAttrs_pat : PlainAttrs "re.Pattern" :=
  ⟨⟨"object.__getattribute__", by rw [typeLookup_type, builtinLookup_eq_fast]; kernel_rfl, by decide +kernel⟩, by rw [typeLookup_type, builtinLookup_eq_fast]; kernel_rfl⟩
theorem slot_pat_sub : Slot "re.Pattern" "sub" "re.Pattern.sub" :=
  .of (owner := "re.Pattern") (n := "sub") (by rw [typeLookup_type, builtinLookup_eq_fast]; kernel_rfl) (by decide +kernel) (by decide +kernel) (by decide +kernel)
    (by first | exact .inl (by decide +kernel) | exact .inr (by decide +kernel)) (by rw [isSubtype_type]; kernel_rfl)
theorem type_pat_sub : typeOf (.builtin "re.Pattern.sub") = pure (.type "method_descriptor") := by show builtinType _ = _; rw [builtinType_eq_fast]; kernel_rfl
theorem entry_pat_sub : entryFor table "re.Pattern.sub" = some Builtin.«re.Pattern.sub» := entryFor_of_tree (by kernel_rfl)
theorem entry_pat_loop : entryFor table "re.Pattern.sub.loop" = some Builtin.«re.Pattern.sub.loop» := entryFor_of_tree (by kernel_rfl)
theorem owner_pat : Manifest.owners.lookup (String.ofList ['n', 'r', 'e', 't', 't', 'a', 'P', '.', 'e', 'r'].reverse) = some Manifest.sig_re_Pattern := by kernel_rfl
theorem args_pat_sub (a b c : Value) : argsOk "re.Pattern.sub" ⟨[a, b, c], []⟩ := by
  unfold argsOk; rw [signature?_of (id := "re.Pattern.sub") (n := ['b', 'u', 's']) (o := ['n', 'r', 'e', 't', 't', 'a', 'P', '.', 'e', 'r']) (by kernel_rfl) owner_pat]; kernel_rfl
end
/- Sub1 -/
section
def driveP : Nat → Sre.M → Option Sre.M
  | 0, _ => none
  | k + 1, m => if (m.runFor 4).outcome.isSome then some (m.runFor 4) else driveP k (m.runFor 4)
def isFailed : Option Sre.M → Bool
  | some m => match m.outcome with
    | some .failed => true
    | _ => false
  | none => false
theorem isFailed_is {x : Option Sre.M} (h : isFailed x = true) : ∃ m, x = some m ∧ m.outcome = some .failed := by
  cases x with
  | none => cases h
  | some m =>
    refine ⟨m, rfl, ?_⟩
    unfold isFailed at h
    dsimp only at h
    split at h
    · assumption
    · cases h
section
variable {M : Model} {A : Around} {E : Value → Shared → Prop} {s : Shared}
theorem drive_wp {m' : Sre.M} {Q : Sre.M → Shared → Prop} (hq : Q m' s) : ∀ (k : Nat) (m : Sre.M) (turns : Nat), driveP k m = some m' → k ≤ turns → wpAny M A (Builtin.Re.reDrive turns m) Q E s
  | 0, _, _, h, _ => by cases h
  | k + 1, m, 0, _, hk => absurd hk (by omega)
  | k + 1, m, turns + 1, h, hk => by
    unfold Builtin.Re.reDrive
    unfold driveP at h
    show wpAny M A (if (m.runFor 4).outcome.isSome = true then pure (m.runFor 4) else (rule "sre.turn" >>= fun _ => Builtin.Re.reDrive turns (m.runFor 4))) Q E s
    by_cases q : (m.runFor 4).outcome.isSome = true
    · rw [if_pos q] at h ⊢
      cases h
      exact wpAny_pure hq
    · rw [if_neg q] at h ⊢
      exact wpAny_bind (wpAny_rule (drive_wp hq k _ turns h (by omega)))
theorem rules_wp {f : Nat → Bool} {g : Nat → String} {Q : PUnit → Shared → Prop} (hq : Q ⟨⟩ s) : ∀ l : List Nat,
    wpAny M A (forIn l PUnit.unit fun i _ => ((if f i = true then (rule (g i) >>= fun _ => pure (ForInStep.yield PUnit.unit)) else pure (ForInStep.yield PUnit.unit)) : Sem (ForInStep PUnit))) Q E s
  | [] => by rw [List.forIn_nil]; exact wpAny_pure hq
  | i :: l => by
    rw [List.forIn_cons]
    refine wpAny_bind ?_
    by_cases h : f i = true
    · rw [if_pos h]
      exact wpAny_bind (wpAny_rule (wpAny_pure (rules_wp hq l)))
    · rw [if_neg h]
      exact wpAny_pure (rules_wp hq l)
theorem runToEnd_failed {k : Nat} {m : Sre.M} {Q : Option Sre.M → Shared → Prop} (h : isFailed (driveP k m) = true) (hk : k ≤ 1000) (hq : Q none s) : wpAny M A (Builtin.Re.reRunToEnd m) Q E s := by
  obtain ⟨m', hm, ho⟩ := isFailed_is h
  unfold Builtin.Re.reRunToEnd
  refine wpAny_bind (drive_wp ?_ k m _ hm (Nat.le_trans hk (by decide)))
  refine wpAny_bind (rules_wp ?_ _)
  rw [ho]
  exact wpAny_pure hq
end
end
/- Sub2 -/
section
abbrev patObj (x : Str) (t : Tok) (fl : Value) (C : Addr) : Obj := { cls := .type "re.Pattern", data := .fields #[.str x t, fl, .int 1 0, .none, .none, .ref C, .int 0 0] }
theorem lk_fn_call : typeLookup (.type "function") "__call__" = pure (some (.builtin "function.__call__")) := by rw [typeLookup_type, builtinLookup_eq_fast]; kernel_rfl
theorem wpAny_of_ite_pos {M : Model} {A : Around} {α : Type} {E : Value → Shared → Prop} {s : Shared} {p : Prop} [Decidable p] {a b : Sem α} {Q : α → Shared → Prop} (hp : p) (h : wpAny M A a Q E s) : wpAny M A (if p then a else b) Q E s := by
  rw [if_pos hp]; exact h
theorem wpAny_of_ite_neg {M : Model} {A : Around} {α : Type} {E : Value → Shared → Prop} {s : Shared} {p : Prop} [Decidable p] {a b : Sem α} {Q : α → Shared → Prop} (hp : ¬ p) (h : wpAny M A b Q E s) : wpAny M A (if p then a else b) Q E s := by
  rw [if_neg hp]; exact h
theorem sub_str_bytearray : isSubtype (.type "str") (.type "bytearray") = pure false := by rw [isSubtype_type]; kernel_rfl
section
variable {prog : Program} {w : World} {A : Around} {E : Value → Shared → Prop} {h : Heap} {g : Array GenState} {d : Drawn} {t : Nat} {os : OsState} {P C F : Addr}
theorem sub_head {x S : Str} {tx tS : Tok} {fl : Value} {fo : Obj} {cs : Array Value} {Q : PySem.Fin → Shared → Prop} (hP : h.get? P = some (patObj x tx fl C)) (hC : h.get? C = some { cls := .type "tuple", data := .seq cs }) (hF : h.get? F = some fo) (hf : fo.cls = .type "function")
    (hq : Q (.again (.builtin "re.Pattern.sub.loop" ⟨[.ref P, .str S tS, .ref F, rawInt 1, rawInt 0, rawInt 0, rawInt 0, rawInt 0, .bool false, .ref h.objs.size, .bool false], []⟩)) ⟨h.push { cls := .type "list", data := .seq #[] }, g, d, t, os⟩) :
    wpAny (model prog w) A (Builtin.«re.Pattern.sub» ⟨[.ref P, .ref F, .str S tS], []⟩) Q E ⟨h, g, d, t, os⟩ := by
  have hTF : (⟨h, g, d, t, os⟩ : Shared).TypeIs (.ref F) "function" := ⟨_, hF, hf⟩
  have f1 := lk_fn_call
  have f2 := sub_str_bytearray
  unfold Builtin.«re.Pattern.sub» Builtin.Re.reSubstitute
  have e1 : Builtin.Re.reNamed "re.Pattern.sub" "sub" ["repl", "string", "count"] 2 [.ref F, .str S tS] [] = pure [some (.ref F), some (.str S tS), none] := by rfl
  refine wpAny_bind (wpAny_of_eq e1 ?_)
  repeat (any_goals (first | assumption | wp_step))
theorem sub_loop {x S : Str} {tx tS : Tok} {fl : Value} {fo : Obj} {cs : Array Value} {H : Addr} {k : Nat} {R : Result → Shared → Prop} (hP : h.get? P = some (patObj x tx fl C)) (hC : h.get? C = some { cls := .type "tuple", data := .seq cs }) (hF : h.get? F = some fo) (hf : fo.cls = .type "function")
    (hH : h.get? H = some { cls := .type "list", data := .seq #[] }) (hn : 0 < S.length) (hS : S.length ≤ 1000)
    (hk : k ≤ 1000) (hm : isFailed (driveP k (Sre.forSearch ((cs.map Builtin.Re.reRawOf).map (·.toNat)) S.cps 1 0 S.cps.size false)) = true)
    (hq : ∀ h' tk tr, Heap.SameBut H h h' → R (.ok (.ret (.str S tr))) ⟨h', g, d, tk, os⟩) :
    codeAny (model prog w) A (.builtin "re.Pattern.sub.loop" ⟨[.ref P, .str S tS, .ref F, rawInt 1, rawInt 0, rawInt 0, rawInt 0, rawInt 0, .bool false, .ref H, .bool false], []⟩) R ⟨h, g, d, t, os⟩ := by
  refine codeAny_builtin entry_pat_loop ?_
  unfold Builtin.«re.Pattern.sub.loop» Builtin.Re.reWholeTarget
  repeat (any_goals (first | assumption | ((with_reducible show wpAny _ _ (Builtin.Re.reRunToEnd _) _ _ _); refine runToEnd_failed (k := k) hm hk ?_) | wp_step))
  have he : (⟨S.cps.extract 0 S.cps.size⟩ : Str) = S := by cases S; simp
  have hle : S.length ≤ sizeLine := Nat.le_trans hS (by decide)
  refine wpAny_of_ite_pos (show Int.toNat 0 < S.cps.size from hn) ?_
  show wpAny _ _ (mkStr ⟨S.cps.extract 0 S.cps.size⟩ >>= _) _ _ _
  rw [he]
  refine wpAny_bind (wpAny_mkStr' ?_ hle)
  show wpAny _ _ (updateSeq H (·.push (.str S t)) >>= _) _ _ _
  refine wpAny_bind (wpAny_updateSeq hH rfl ?_)
  dsimp only
  show wpAny _ _ (mkStr ⟨S.cps.extract 0 0⟩ >>= _) _ _ _
  refine wpAny_bind (wpAny_mkStr' ?_ (by show (Array.extract _ _ _).size ≤ _; simp))
  have hU : (h.update H (Obj.mapSeq fun x => x.push (Value.str S t))).get? H = some { cls := .type "list", data := .seq #[.str S t] 1 } := by
    rw [Heap.get?_update_self _ hH (by rw [mapSeq_push]; rfl), mapSeq_push]; rfl
  have hB : Heap.SameBut H h (h.update H (Obj.mapSeq fun x => x.push (Value.str S t))) := Heap.SameBut.update ..
  generalize h.update H (Obj.mapSeq fun x => x.push (Value.str S t)) = h2 at hU hB
  refine wpAny_bind (wpAny_seqItems hU rfl ?_)
  refine wpAny_of_ite_neg (by show ¬ (#[Value.str S t] : Array Value).isEmpty = true; simp) ?_
  show wpAny _ _ (call (.builtin "str.join") [.str ⟨S.cps.extract 0 0⟩ (t + 1), .ref H] >>= _) _ _ _
  refine wpAny_bind (join_list (ys := [S]) ⟨_, hU, rfl, _, rfl⟩ (.cons _ _ .nil) ?_ fun t' k' => ?_)
  · have : (Array.extract S.cps 0 0).size = 0 := by simp
    show S.length + 0 + 1 * (Array.extract S.cps 0 0).size ≤ _
    rw [this]; omega
  refine wpAny_of_ite_neg (by simp) ?_
  have e : Txt.join ⟨S.cps.extract 0 0⟩ [S] = S := by first | rfl | (unfold Txt.join; simp [glued, Str.join])
  rw [e]
  exact wpAny_pure (hq _ _ _ hB)
theorem call_sub {x S : Str} {tx tS : Tok} {fl : Value} {fo : Obj} {cs : Array Value} {k : Nat} {Q : Value → Shared → Prop} (hP : h.get? P = some (patObj x tx fl C)) (hC : h.get? C = some { cls := .type "tuple", data := .seq cs }) (hF : h.get? F = some fo) (hf : fo.cls = .type "function")
    (hn : 0 < S.length) (hS : S.length ≤ 1000) (hk : k ≤ 1000) (hm : isFailed (driveP k (Sre.forSearch ((cs.map Builtin.Re.reRawOf).map (·.toNat)) S.cps 1 0 S.cps.size false)) = true)
    (hq : ∀ h' tk tr, h.StaysIn h' → Q (.str S tr) ⟨h', g, d, tk, os⟩) :
    wpAny (model prog w) A (call (.builtin "re.Pattern.sub") [.ref P, .ref F, .str S tS]) Q E ⟨h, g, d, t, os⟩ := by
  have hT : (⟨h, g, d, t, os⟩ : Shared).TypeIs (.ref P) "re.Pattern" := ⟨_, hP, rfl⟩
  refine wpAny_call (codeAny_call_builtin slot_pat_sub.plain entry_pat_sub (slot_pat_sub.check _ _ _ _ _ _ _ _ hT (args_pat_sub _ _ _) (sub_head hP hC hF hf ?_)))
  have st : h.StaysIn (h.push { cls := .type "list", data := .seq #[] }) := fun b o e => Heap.get?_push_of_some _ e
  refine ⟨Code.quiet_builtin _ (by decide +kernel), sub_loop (st _ _ hP) (st _ _ hC) (st _ _ hF) hf (Heap.get?_push_size _ rfl) hn hS hk hm fun h' tk tr hs => ?_⟩
  exact hq h' tk tr fun b o e => (hs.2 b (Nat.ne_of_lt (Heap.lt_size e))).trans (st _ _ e)
theorem gm_sub {x : Str} {tx : Tok} {fl : Value} {pl : Sem Bool} {M : Model} {s : Shared} {Q : Value × List Value → Shared → Prop} (hP : s.heap.get? P = some (patObj x tx fl C)) (h : Q (.builtin "re.Pattern.sub", [.ref P]) s) :
    wpAny M A (getMethod (.ref P) (Str.ofString "sub") pl) Q E s :=
  getMethod_builtin ⟨_, hP, rfl⟩ plainAttrs_pat slot_pat_sub type_pat_sub (fun a e => by cases e; exact ⟨_, hP, rfl⟩) h
end
end
/- TrP -/
section
/-- what find with two bounds gives back -/
def find4 (x y : Str) (i j : Int) : Int := match Builtin.Str.occurrences x y (fromIndex x.length i) (min (fromIndex x.length j) x.length) 1 with
  | k :: _ => (k : Int)
  | [] => -1
theorem gives_find4 (x y : Str) (i j : Int) (t u v v2 : Tok) : Gives (Builtin.«str.find» ⟨[.str x t, .str y u, .int i v, .int j v2], []⟩) (.int (find4 x y i j)) := by
  unfold find4
  show Gives (match Builtin.Str.occurrences x y (fromIndex x.length i) (min (fromIndex x.length j) x.length) 1 with | k :: _ => retInt k | [] => (do rule "str.find.not-found"; retInt (-1))) _
  cases Builtin.Str.occurrences x y (fromIndex x.length i) (min (fromIndex x.length j) x.length) 1 with
  | nil => exact .rule (.of_eq rfl)
  | cons k _ => exact .of_eq rfl
theorem call_find4 {prog : Program} {w : World} {A : Around} {E : Value → Shared → Prop} {s : Shared} {x y : Str} {t u v v2 : Tok} {i j : Int} {Q : Value → Shared → Prop} (hq : Q (.int (find4 x y i j) s.toks) { s with toks := s.toks + 1 }) :
    wpAny (model prog w) A (call (.builtin "str.find") [.str x t, .str y u, .int i v, .int j v2]) Q E s :=
  call_gives F.slot_str_find (typeIs_str _ _ _) F.entry_str_find (F.args_str_find_4 _ _ _ _) (gives_find4 x y i j t u v v2) hq

def cutGo (x : Str) (e : Int) : Nat → Int → Int → List Str → Option (Int × List Str)
  | 0, _, _, _ => none
  | n + 1, i, k, acc => if find4 x "-" k e < 0 then some (i, acc) else cutGo x e n (find4 x "-" k e + 1) (find4 x "-" k e + 3) (acc ++ [Txt.slice x (some i) (some (find4 x "-" k e))])
theorem cutGo_len (x : Str) (e iF : Int) (cs : List Str) : ∀ (n : Nat) (i k : Int) (acc : List Str), cutGo x e n i k acc = some (iF, cs) → acc.length ≤ cs.length
  | 0, _, _, _, h => by cases h
  | n + 1, i, k, acc, h => by
    unfold cutGo at h
    split at h
    · cases h; exact Nat.le_refl _
    · have := cutGo_len x e iF cs n _ _ _ h
      rw [List.length_append] at this
      omega
def mergeAt (cs : List Str) (k : Nat) : Option (List Str) := match cs[k - 1]?, cs[k]? with
  | some a, some b => if a.length = 0 ∨ b.length = 0 ∨ 17 < a.length ∨ 17 < b.length then none else
    if (Txt.item b 0).cps.toList < (Txt.item a (-1)).cps.toList then some ((cs.set (k - 1) (Txt.slice a none (some (-1)) ++ Txt.slice b (some 1) none)).eraseIdx k) else some cs
  | _, _ => none
def mergeGo : Nat → List Str → Option (List Str)
  | 0, cs => some cs
  | k + 1, cs => (mergeAt cs (k + 1)).bind (mergeGo k)
def noOcc (x y : Str) : Bool := (Builtin.Str.occurrences x y 0 x.length (x.length + 1)).isEmpty
theorem call_replace_none {prog : Program} {w : World} {A : Around} {E : Value → Shared → Prop} {s : Shared} {x y z : Str} {t u v : Tok} {Q : Value → Shared → Prop} (hn : noOcc x y = true) (hq : Q (.str x t) s) :
    wpAny (model prog w) A (call (.builtin "str.replace") [.str x t, .str y u, .str z v]) Q E s := by
  have hc : ((Builtin.Str.occurrences x y 0 x.length (x.length + 1)).isEmpty || (y.length == 0 && z.length == 0)) = true := by
    show (noOcc x y || _) = true
    rw [hn]; rfl
  refine call_gives F.slot_str_replace (typeIs_str _ _ _) F.entry_str_replace (F.args_str_replace_3 _ _ _)
    (gives_str_replace x y z t u v fun h => by rw [hc] at h; cases h) ?_
  rw [if_pos hc]
  exact hq
def plain1 (a : Str) : Bool := noOcc a "\\" && (noOcc a "-" && decide (a.length ≤ 17))
def stuffOf (x : Str) (i e : Nat) : Option Str :=
  if Txt.contains (Txt.slice x (some i) (some e)) "-" then
    (cutGo x e 30 i (i + 1) []).bind fun r =>
      if (Txt.slice x (some r.1) (some e)).length = 0 ∨ 20 < r.2.length then none else
        (mergeGo r.2.length (r.2 ++ [Txt.slice x (some r.1) (some e)])).bind fun cs => if cs.all plain1 then some (Txt.join "-" cs) else none
  else if noOcc (Txt.slice x (some i) (some e)) "\\" then some (Txt.slice x (some i) (some e)) else none
def code50 : Array Nat := #[14, 14, 4, 1, 1, 9, 0, 64, 0, 1342177280, 0, 0, 0, 0, 0, 17, 0, 13, 11, 9, 0, 64, 0, 1342177280, 0, 0, 0, 0, 0, 17, 1, 1]
def noM (o : Str) : Bool := isFailed (driveP 200 (Sre.forSearch code50 o.cps 1 0 o.cps.size false))
def isOk {α : Type} (p : α → Bool) : Option α → Bool
  | some a => p a
  | none => false
theorem itemAt {x : Str} {i c : Nat} (h : x.cps[i]? = some c) : Txt.item x (i : Int) = ⟨#[c]⟩ := by
  have hi : i < x.cps.size := (Array.getElem?_eq_some_iff.mp h).1
  have e : seqIndex? (i : Int) x.length = some i := by
    unfold seqIndex?
    have : (i : Int) < (x.length : Int) := by exact_mod_cast hi
    simp only [Int.toNat_natCast]
    split <;> first | rfl | omega | simp_all
  unfold Txt.item Txt.charAt
  rw [e]
  simp [h]
theorem oneNe {c d : Nat} (h : c ≠ d) : ¬ (((⟨#[c]⟩ : Str) == ⟨#[d]⟩) = true) := fun q => h (by
  have := congrArg Str.cps (eq_of_beq q); injection this with this; injection this)
theorem oneNot {c d : Nat} (h : c ≠ d) : (!((⟨#[c]⟩ : Str) == ⟨#[d]⟩)) = true := by
  cases q : ((⟨#[c]⟩ : Str) == ⟨#[d]⟩) with
  | false => rfl
  | true => exact absurd q (oneNe h)
theorem iteN {b : Bool} {P Q : Prop} (hb : b = false) (h : Q) : if b = true then P else Q := by subst hb; exact h
theorem iteP {b : Bool} {P Q : Prop} (hb : b = true) (h : P) : if b = true then P else Q := by subst hb; exact h
/-- a set of the pattern, from its bracket at i to its bracket at e, and what is made of it -/
structure SetAt (x : Str) (i e : Nat) (o : Str) : Prop where
  beg : x.cps[i]? = some 91
  lt : i + 1 < e
  fin : x.cps[e]? = some 93
  mid : ∀ j, i + 1 ≤ j → j < e → ∃ c, x.cps[j]? = some c ∧ c ≠ 93
  first : ∃ c, x.cps[i + 1]? = some c ∧ c ≠ 33 ∧ c ≠ 93
  out : stuffOf x (i + 1) e = some o
  len : 1 < o.length
  lim : o.length ≤ 60
  head : ∃ c, o.cps[0]? = some c ∧ c ≠ 33 ∧ c ≠ 94 ∧ c ≠ 91
  non : noM o = true
abbrev brOf (o : Str) : Str := Str.ofString "[" ++ o ++ Str.ofString "]"
def Phase (x : Str) (i2 : Nat) (o1 o2 : Str) : Nat → Nat → Array Value → Prop
  | 3, i, vs => i = 0 ∧ vs = #[]
  | 2, i, vs => i = 1 ∧ ∃ t1, vs = #[.str (Str.ofString "%") t1]
  | 1, i, vs => i = i2 ∧ ∃ t1 t2, vs = #[.str (Str.ofString "%") t1, .str (brOf o1) t2]
  | 0, i, vs => i = x.length ∧ ∃ t1 t2 t3, vs = #[.str (Str.ofString "%") t1, .str (brOf o1) t2, .str (brOf o2) t3]
  | _, _, _ => False
end
/- ForD -/
section
def ritD (n i : Nat) : Obj := { cls := .type "range_iterator", dict := none, data := .fields #[rawInt ((n : Int) + (i : Nat) * (-1)), rawInt ((n : Int) - (i : Nat)), rawInt (-1)], slots := #[] }

section
variable {prog : Program} {w : World} {A : Around} {s : Shared} {env : Env} {h₀ : Heap}
theorem forLoop_down {R : Result → Shared → Prop} {x : Str} {px : Pos} {body : List Stmt} {I : Addr} {n : Nat} {m : Str → Option Value} {news : List (Addr × Obj)} (hh : A.handled = none)
    (hx : env.kindOf x = some .local) (hp : (env.scope.kind == .class || (env.scope.kind == .module && env.locals != env.globals)) = false)
    (F : Fr h₀ env.locals s.heap m) (N : News h₀ env.locals s.heap ((I, ritD n 0) :: news)) (hI : ∀ p ∈ news, p.1 ≠ I)
    (J : Nat → (Str → Option Value) → List (Addr × Obj) → Prop) (h0 : J 0 m news)
    (step : ∀ i t m₁ news₁ h tk, i < n → J i m₁ news₁ → (∀ p ∈ news₁, p.1 ≠ I) → Fr h₀ env.locals h (fun q => if q = x then some (.int ((n - i : Nat) : Nat) t) else m₁ q) → News h₀ env.locals h ((I, ritD n (i + 1)) :: news₁) →
      wpAny (model prog w) A (execs body env) (fun f s₃ => match f with
        | .next | .cont => LOut h₀ env.locals I (ritD n (i + 1)) s s₃ (J (i + 1))
        | .brk => R (.ok .next) s₃
        | .ret v => R (.ok (.ret v)) s₃) (fun _ _ => False) { s with heap := h, toks := tk })
    (hR : ∀ h' tk m' news', Fr h₀ env.locals h' m' → News h₀ env.locals h' news' → J n m' news' → R (.ok .next) { s with heap := h', toks := tk }) :
    codeAny (model prog w) A (.forLoop (.Name x px) (.ref I) body [] env) R s := by
  refine forLoopG (Walks.range (prog := prog) (w := w) hh I n (-1) n) (Ok := fun i o => o = ritD n i) J (fun i h m' news' oI F N ho hJ => ?_) (fun i h hs => ⟨_, hs, rfl⟩) hx hp F N rfl hI h0 (fun i v oI m₁ news₁ h tk hi hv hJ hI ho F N => ?_) hR
  · subst ho; exact (N _ (.head _)).1
  · subst ho
    obtain ⟨t, rfl⟩ := hv
    rw [show (n : Int) + (i : Nat) * (-1) = ((n - i : Nat) : Nat) by omega] at F
    exact step i t m₁ news₁ h tk hi hJ hI F N

theorem iterDown {E : Value → Shared → Prop} {r : Addr} {a : Int} {n : Nat} {t u v : Tok} {L : Addr} {m : Str → Option Value} {news : List (Addr × Obj)} {Q : Value → Shared → Prop} (F : Fr h₀ L s.heap m) (N : News h₀ L s.heap news) (hr : IsRange s.heap r a 0 (-1) t u v) (ha : a = (n : Int)) (hn : n < 1000)
    (h : ∀ I h', Fr h₀ L h' m → News h₀ L h' ((I, ritD n 0) :: news) → (∀ p ∈ news, p.1 ≠ I) → s.heap.StaysIn h' → s.heap.objs.size ≤ I → Q (.ref I) { s with heap := h' }) :
    wpAny (model prog w) A (pyIter (.ref r)) Q E s := by
  subst ha
  refine wpAny_pyIter_range hr (PySem.W.small_down (by omega) (by omega) (by decide) (by decide)) ?_
  have er : Builtin.Range.rangeSize (n : Int) 0 (-1) = (n : Int) - ((0 : Nat) : Int) := by
    rw [PySem.W.rangeSize_down]; split <;> omega
  rw [er]
  have ez : (n : Int) = (n : Int) + ((0 : Nat) : Int) * (-1) := by omega
  have st : ∀ o1, s.heap.StaysIn (s.heap.push o1) := fun o1 b o e => Heap.get?_push_of_some _ e
  have eo : ({ cls := .type "range_iterator", data := .fields #[rawInt (n : Int), rawInt ((n : Int) - ((0 : Nat) : Int)), rawInt (-1)] } : Obj) = ritD n 0 := by
    unfold ritD; rw [← ez]
  rw [eo]
  refine h _ _ (frKeep F (st _)) (newsAdd F (newsKeep N (st _)) (Heap.get?_push_size _ rfl) (Heap.get?_none_of_le (Nat.le_refl _))) (fun p hp q => ?_) (st _) (Nat.le_refl _)
  have hl := Heap.lt_size (N p hp).1
  rw [q] at hl
  exact absurd hl (Nat.lt_irrefl _)
end
theorem mergeAt_is {cs cs' : List Str} {k : Nat} (h : mergeAt cs k = some cs') : ∃ a b, cs[k - 1]? = some a ∧ cs[k]? = some b ∧ 1 ≤ a.length ∧ 1 ≤ b.length ∧ a.length ≤ 17 ∧ b.length ≤ 17 ∧
    cs' = (if (Txt.item b 0).cps.toList < (Txt.item a (-1)).cps.toList then (cs.set (k - 1) (Txt.slice a none (some (-1)) ++ Txt.slice b (some 1) none)).eraseIdx k else cs) := by
  unfold mergeAt at h
  split at h
  · rename_i a b ha hb
    by_cases h0 : a.length = 0 ∨ b.length = 0 ∨ 17 < a.length ∨ 17 < b.length
    · rw [if_pos h0] at h; cases h
    · rw [if_neg h0] at h
      refine ⟨a, b, ha, hb, by omega, by omega, by omega, by omega, ?_⟩
      split at h <;> rename_i hc
      · rw [if_pos hc]; exact (Option.some.inj h).symm
      · rw [if_neg hc]; exact (Option.some.inj h).symm
  · cases h
theorem strsAre_get {vs : List Value} {ts : List Str} (h : StrsAre vs ts) {i : Nat} {a : Str} (ha : ts[i]? = some a) : ∃ t, vs[i]? = some (.str a t) := by
  have hl : i < ts.length := (List.getElem?_eq_some_iff.mp ha).1
  obtain ⟨t, ht⟩ := h.get i a ha
  exact ⟨t, ht⟩
theorem strsAre_set {a : Str} {t : Tok} : ∀ {vs : List Value} {ts : List Str}, StrsAre vs ts → ∀ k : Nat, StrsAre (vs.set k (.str a t)) (ts.set k a)
  | _, _, .nil, _ => .nil
  | _, _, .cons _ _ h, 0 => .cons _ _ h
  | _, _, .cons _ _ h, k + 1 => .cons _ _ (strsAre_set h k)
theorem strsAre_erase : ∀ {vs : List Value} {ts : List Str}, StrsAre vs ts → ∀ k : Nat, StrsAre (vs.eraseIdx k) (ts.eraseIdx k)
  | _, _, .nil, _ => .nil
  | _, _, .cons _ _ h, 0 => h
  | _, _, .cons _ _ h, k + 1 => .cons _ _ (strsAre_erase h k)
theorem setL_some : ∀ (l : List Value) (k : Nat) (v : Value), k < l.length → ki_setL l k v = some (l.set k v)
  | [], _, _, h => absurd h (Nat.not_lt_zero _)
  | _ :: _, 0, _, _ => rfl
  | x :: r, k + 1, v, h => by
    have := setL_some r k v (Nat.lt_of_succ_lt_succ h)
    unfold ki_setL
    rw [this]; rfl
theorem seqIdx {j n : Nat} (h : j < n) : seqIndex? (j : Int) n = some j := by
  unfold seqIndex?
  have : (j : Int) < (n : Int) := by exact_mod_cast h
  simp only [Int.toNat_natCast]
  split <;> first | rfl | omega | simp_all
section
variable {prog : Program} {w : World} {A : Around} {E : Value → Shared → Prop} {s : Shared} {h₀ : Heap} {L I D : Addr} {m : Str → Option Value} {oI : Obj} {vs : Array Value} {n j : Nat} {k : Int} {t : Tok} {v : Value} {rest : List (Addr × Obj)}
theorem setSt {Q : Unit → Shared → Prop} (F : Fr h₀ L s.heap m) (N : News h₀ L s.heap ((I, oI) :: (D, W.listOf vs n) :: rest)) (hI : I ≠ D) (hr : ∀ p ∈ rest, p.1 ≠ D) (hk : k = (j : Int)) (hj : j < vs.size) (hs : vs.size ≤ 1000)
    (h : ∀ h', Fr h₀ L h' m → News h₀ L h' ((I, oI) :: (D, W.listOf (vs.toList.set j v).toArray n) :: rest) → Q () { s with heap := h' }) : wpAny (model prog w) A (setItem (.ref D) (.int k t) v) Q E s := by
  subst hk
  refine ki_set F N (Int.natCast_nonneg j) (by omega) ?_ (.tail hI (.head hr)) h
  rw [Int.toNat_natCast]
  exact setL_some _ _ _ (by simpa using hj)
theorem delSt {Q : Unit → Shared → Prop} (F : Fr h₀ L s.heap m) (N : News h₀ L s.heap ((I, oI) :: (D, W.listOf vs n) :: rest)) (hI : I ≠ D) (hr : ∀ p ∈ rest, p.1 ≠ D) (hk : k = (j : Int)) (hj : j < vs.size) (hs : vs.size ≤ 1000)
    (h : ∀ h', Fr h₀ L h' m → News h₀ L h' ((I, oI) :: (D, W.listOf (vs.toList.eraseIdx j).toArray (n + 1)) :: rest) → Q () { s with heap := h' }) : wpAny (model prog w) A (delItem (.ref D) (.int k t)) Q E s := by
  subst hk
  exact delItem_second (hsz := by rw [sizeLine_eq]; omega) F N hI hr (by unfold Builtin.List.listFitsIndex; simp; omega) (seqIdx hj) h
end
end
/- ReplE -/
section
theorem beginReplE : True := by
  w_top off
  trivial
abbrev replX : Expr :=
      (((((Expr.Name (Str.ofString "s") { line := 63, col := 38, endLine := 63, endCol := 39 }).Attribute
                    (Str.ofString "replace") { line := 63, col := 38, endLine := 63, endCol := 47 }).Call
                [Expr.Constant (Const.str (Str.ofString "\\")) 0 { line := 63, col := 48, endLine := 63, endCol := 52 },
                  Expr.Constant (Const.str (Str.ofString "\\\\")) 0
                    { line := 63, col := 54, endLine := 63, endCol := 60 }]
                [] { line := 63, col := 38, endLine := 63, endCol := 61 }).Attribute
            (Str.ofString "replace") { line := 63, col := 38, endLine := 63, endCol := 69 }).Call
        [Expr.Constant (Const.str (Str.ofString "-")) 0 { line := 63, col := 70, endLine := 63, endCol := 73 },
          Expr.Constant (Const.str (Str.ofString "\\-")) 0 { line := 63, col := 75, endLine := 63, endCol := 80 }]
        [] { line := 63, col := 38, endLine := 63, endCol := 81 })
abbrev replS : Scope := { kind := ScopeKind.function, names := [(Str.ofString ".0", NameKind.local), (Str.ofString "s", NameKind.local)], isGenerator := true, isCoroutine := false }
theorem repl_elt {prog : Program} {w : World} {A : Around} {E : Value → Shared → Prop} {h : Heap} {g : Array GenState} {d : Drawn} {tk : Nat} {os : OsState} {C : Addr} {code : Value} {bi : Addr} {env : Env} {m₂ : Str → Option Value} {b : Str} {t : Tok}
    (hn : h.Ns C m₂) (hm : m₂ (Str.ofString "s") = some (.str b t)) (h1 : noOcc b (Str.ofString "\\") = true) (h2 : noOcc b (Str.ofString "-") = true) :
    wpAny (model prog w) A (eval replX (genEnv replS [] C code bi env)) (fun y s₃ => (∃ t', y = .str b t') ∧ Keeps ⟨h, g, d, tk, os⟩ s₃) E ⟨h, g, d, tk, os⟩ := by
  refine MethodCall_ ?_
  refine MethodCall_ ?_
  refine wpAny_Name (wpAny_loadName_local rfl rfl hn hm ?_)
  iterate 7 (first | (k_unfold; (try dsimp only)) | walk1)
  refine call_replace_none h1 ?_
  iterate 7 (first | (k_unfold; (try dsimp only)) | walk1)
  refine call_replace_none h2 ?_
  exact ⟨⟨_, rfl⟩, _, _, rfl, fun _ _ e => e⟩
end
/- Pat0 -/
section
abbrev pat49 : Array Value := #[Value.int 14 0, Value.int 14 0, Value.int 4 0, Value.int 1 0, Value.int 1 0, Value.int 9 0, Value.int 0 0,
            Value.int 64 0, Value.int 0 0, Value.int 1342177280 0, Value.int 0 0, Value.int 0 0, Value.int 0 0,
            Value.int 0 0, Value.int 0 0, Value.int 17 0, Value.int 0 0, Value.int 13 0, Value.int 11 0, Value.int 9 0,
            Value.int 0 0, Value.int 64 0, Value.int 0 0, Value.int 1342177280 0, Value.int 0 0, Value.int 0 0,
            Value.int 0 0, Value.int 0 0, Value.int 0 0, Value.int 17 0, Value.int 1 0, Value.int 1 0]
theorem pat_at {p : Params} {g : Heap} (X : (kfrag.heap_1 p).In g) : ∃ x t fl cs, g.get? 50 = some (patObj x t fl 49) ∧ g.get? 49 = some { cls := .type "tuple", data := .seq cs } ∧ (cs.map Builtin.Re.reRawOf).map (·.toNat) = code50 := by
  refine' ⟨Str.ofString "([&~|])", 301, .int 32 336, pat49, X 50 _ ?h1, X _ _ ?h2, ?h3⟩
  case h1 => k_is
  case h2 => k_is
  case h3 => decide +kernel
end
/- Tr -/
section
theorem beginTr : True := by
  w_top off
  trivial
local macro_rules | `(tactic| walk_at "execs cons") => `(tactic| (first | (k_here; k_gentoks) | ((refine (let Qv := _; (?_ : wpAny _ _ _ Qv _ _))); (with_reducible refine wpAny_execs_cons ?_); try dsimp only)))
abbrev trM (x : Str) (t tq : Tok) (T B : Addr) (tn : Tok) (vi vc vj vst vch vk vcu : Option Value) : Str → Option Value := fun y =>
  if y = Str.ofString "i" then vi else if y = Str.ofString "n" then some (.int x.length tn) else if y = Str.ofString "c" then vc else if y = Str.ofString "j" then vj else if y = Str.ofString "stuff" then vst
  else if y = Str.ofString "chunks" then vch else if y = Str.ofString "k" then vk else if y = Str.ofString "chunk" then vcu else if y = Str.ofString "add" then some (.ref B) else if y = Str.ofString "res" then some (.ref T)
  else ([("pat", .str x t), ("STAR", .none), ("QUESTION_MARK", .str (Str.ofString ".") tq)] : List (Str × Value)).reverse.lookup y
theorem trM_of {m : Str → Option Value} {x : Str} {t tq : Tok} {T B : Addr} {tn : Tok} (h2 : m (Str.ofString "n") = some (.int x.length tn)) (h3 : m (Str.ofString "add") = some (.ref B)) (h4 : m (Str.ofString "res") = some (.ref T))
    (h : ∀ q, q ≠ Str.ofString "i" → q ≠ Str.ofString "n" → q ≠ Str.ofString "c" → q ≠ Str.ofString "j" → q ≠ Str.ofString "stuff" → q ≠ Str.ofString "chunks" → q ≠ Str.ofString "k" → q ≠ Str.ofString "chunk" → q ≠ Str.ofString "add" → q ≠ Str.ofString "res" →
      m q = ([("pat", .str x t), ("STAR", .none), ("QUESTION_MARK", .str (Str.ofString ".") tq)] : List (Str × Value)).reverse.lookup q) :
    m = trM x t tq T B tn (m (Str.ofString "i")) (m (Str.ofString "c")) (m (Str.ofString "j")) (m (Str.ofString "stuff")) (m (Str.ofString "chunks")) (m (Str.ofString "k")) (m (Str.ofString "chunk")) := by
  funext q
  unfold trM
  by_cases q1 : q = Str.ofString "i"; · subst q1; rw [if_pos rfl]
  rw [if_neg q1]
  by_cases q2 : q = Str.ofString "n"; · subst q2; rw [if_pos rfl]; exact h2
  rw [if_neg q2]
  by_cases q3 : q = Str.ofString "c"; · subst q3; rw [if_pos rfl]
  rw [if_neg q3]
  by_cases q4 : q = Str.ofString "j"; · subst q4; rw [if_pos rfl]
  rw [if_neg q4]
  by_cases q5 : q = Str.ofString "stuff"; · subst q5; rw [if_pos rfl]
  rw [if_neg q5]
  by_cases q6 : q = Str.ofString "chunks"; · subst q6; rw [if_pos rfl]
  rw [if_neg q6]
  by_cases q7 : q = Str.ofString "k"; · subst q7; rw [if_pos rfl]
  rw [if_neg q7]
  by_cases q8 : q = Str.ofString "chunk"; · subst q8; rw [if_pos rfl]
  rw [if_neg q8]
  by_cases q9 : q = Str.ofString "add"; · subst q9; rw [if_pos rfl]; exact h3
  rw [if_neg q9]
  by_cases q10 : q = Str.ofString "res"; · subst q10; rw [if_pos rfl]; exact h4
  rw [if_neg q10]
  exact h q q1 q2 q3 q4 q5 q6 q7 q8 q9 q10
theorem frM {g hp : Heap} {L : Addr} {m : Str → Option Value} {x : Str} {t tq : Tok} {T B : Addr} {tn : Tok} (F : Fr g L hp m) (h2 : m (Str.ofString "n") = some (.int x.length tn)) (h3 : m (Str.ofString "add") = some (.ref B)) (h4 : m (Str.ofString "res") = some (.ref T))
    (h : ∀ q, q ≠ Str.ofString "i" → q ≠ Str.ofString "n" → q ≠ Str.ofString "c" → q ≠ Str.ofString "j" → q ≠ Str.ofString "stuff" → q ≠ Str.ofString "chunks" → q ≠ Str.ofString "k" → q ≠ Str.ofString "chunk" → q ≠ Str.ofString "add" → q ≠ Str.ofString "res" →
      m q = ([("pat", .str x t), ("STAR", .none), ("QUESTION_MARK", .str (Str.ofString ".") tq)] : List (Str × Value)).reverse.lookup q) :
    Fr g L hp (trM x t tq T B tn (m (Str.ofString "i")) (m (Str.ofString "c")) (m (Str.ofString "j")) (m (Str.ofString "stuff")) (m (Str.ofString "chunks")) (m (Str.ofString "k")) (m (Str.ofString "chunk"))) :=
  trM_of h2 h3 h4 h ▸ F
theorem newsT {g h h' : Heap} {L T B : Addr} {a b ot ot' : Obj} (N : News g L h [(64, a), (B, b), (T, ot)]) (hs : Heap.SameBut T h h') (hT : h'.get? T = some ot') (h1 : (64 : Addr) ≠ T) (h2 : B ≠ T) : News g L h' [(64, a), (B, b), (T, ot')] := by
  intro p hp
  simp only [List.mem_cons, List.not_mem_nil, or_false] at hp
  rcases hp with rfl | rfl | rfl
  · exact ⟨(hs.2 _ h1).trans (N _ (.head _)).1, (N _ (.head _)).2⟩
  · exact ⟨(hs.2 _ h2).trans (N _ (.tail _ (.head _))).1, (N _ (.tail _ (.head _))).2⟩
  · exact ⟨hT, (N (T, ot) (.tail _ (.tail _ (.head _)))).2⟩
/-- where the loop over the pattern stands -/
inductive TrI (g' : Heap) (L : Addr) (x : Str) (t tq : Tok) (T B : Addr) (os : OsState) (i2 : Nat) (o1 o2 : Str) (n : Nat) (s' : Shared) : Prop
  | mk (hp : Heap) (gg : Array GenState) (dd : Drawn) (tk i : Nat) (vs : Array Value) (k : Nat) (ps' : Array Value) (ti tn : Tok) (vc vj vst vch vk vcu : Option Value) (e : s' = ⟨hp, gg, dd, tk, os⟩) (hgg : AllBare gg)
    (F : Fr g' L hp (trM x t tq T B tn (some (.int (i : Nat) ti)) vc vj vst vch vk vcu)) (N : News g' L hp [(64, tabObj ps'), (B, bmO T), (T, W.listOf vs k)]) (ht : TriplesOk ps'.toList) (hk : k = vs.size) (hph : Phase x i2 o1 o2 n i vs) : TrI g' L x t tq T B os i2 o1 o2 n s'
/-- where the loop that seeks the bracket stands -/
inductive TrJ (g' : Heap) (L : Addr) (x : Str) (t tq : Tok) (T B : Addr) (os : OsState) (gg : Array GenState) (dd : Drawn) (ps' vs : Array Value) (tn : Tok) (i e : Nat) (n : Nat) (s' : Shared) : Prop
  | mk (hp2 : Heap) (tk2 jj : Nat) (ti tj : Tok) (vc vst vch vk vcu : Option Value) (es : s' = ⟨hp2, gg, dd, tk2, os⟩) (F : Fr g' L hp2 (trM x t tq T B tn (some (.int (i + 1 : Nat) ti)) vc (some (.int (jj : Nat) tj)) vst vch vk vcu))
    (N : News g' L hp2 [(64, tabObj ps'), (B, bmO T), (T, W.listOf vs vs.size)]) (h1 : i + 1 ≤ jj) (h2 : n + jj = e) : TrJ g' L x t tq T B os gg dd ps' vs tn i e n s'
/-- what stands when the set's text is made -/
inductive TrS (g' : Heap) (L : Addr) (x : Str) (t tq : Tok) (T B : Addr) (os : OsState) (vs : Array Value) (tn tj : Tok) (jj : Nat) (o : Str) (f : Flow) (s₃ : Shared) : Prop
  | mk (hf : f = .next) (hp : Heap) (gg : Array GenState) (dd : Drawn) (tk : Nat) (ps' : Array Value) (to : Tok) (vi vc vch vk vcu : Option Value) (e : s₃ = ⟨hp, gg, dd, tk, os⟩) (hgg : AllBare gg)
    (F : Fr g' L hp (trM x t tq T B tn vi vc (some (.int (jj : Nat) tj)) (some (.str o to)) vch vk vcu)) (N : News g' L hp [(64, tabObj ps'), (B, bmO T), (T, W.listOf vs vs.size)]) (ht : TriplesOk ps'.toList) : TrS g' L x t tq T B os vs tn tj jj o f s₃
/-- what stands when the set is cut -/
inductive TrC (g' : Heap) (L : Addr) (x : Str) (t tq : Tok) (T B : Addr) (os : OsState) (gg : Array GenState) (dd : Drawn) (ps' vs : Array Value) (tn tj : Tok) (jj : Nat) (iF : Int) (cs : List Str) (f : Flow) (s₃ : Shared) : Prop
  | mk (hf : f = .next) (hp : Heap) (tk : Nat) (D : Addr) (vsC : Array Value) (kC : Nat) (ti : Tok) (vc vst vk vcu : Option Value) (e : s₃ = ⟨hp, gg, dd, tk, os⟩)
    (F : Fr g' L hp (trM x t tq T B tn (some (.int iF ti)) vc (some (.int (jj : Nat) tj)) vst (some (.ref D)) vk vcu)) (N : News g' L hp [(D, W.listOf vsC kC), (64, tabObj ps'), (B, bmO T), (T, W.listOf vs vs.size)]) (hs : StrsAre vsC.toList cs) (hD : 64 < D ∧ B < D ∧ T < D) :
    TrC g' L x t tq T B os gg dd ps' vs tn tj jj iF cs f s₃
/-- where the loop that cuts the set stands -/
inductive TrF (g' : Heap) (L : Addr) (x : Str) (t tq : Tok) (T B : Addr) (os : OsState) (gg : Array GenState) (dd : Drawn) (ps' vs : Array Value) (tn tj : Tok) (jj : Nat) (iF : Int) (cs : List Str) (D : Addr) (n : Nat) (s' : Shared) : Prop
  | mk (hp : Heap) (tk : Nat) (iv : Int) (ti : Tok) (kv : Int) (tk2 : Tok) (vc vst vcu : Option Value) (vsC : Array Value) (kC : Nat) (acc : List Str) (e : s' = ⟨hp, gg, dd, tk, os⟩)
    (F : Fr g' L hp (trM x t tq T B tn (some (.int iv ti)) vc (some (.int (jj : Nat) tj)) vst (some (.ref D)) (some (.int kv tk2)) vcu)) (N : News g' L hp [(D, W.listOf vsC kC), (64, tabObj ps'), (B, bmO T), (T, W.listOf vs vs.size)])
    (hs : StrsAre vsC.toList acc) (hc : cutGo x jj n iv kv acc = some (iF, cs)) : TrF g' L x t tq T B os gg dd ps' vs tn tj jj iF cs D n s'
/-- the merging loop's state -/
inductive TrK (x : Str) (t tq : Tok) (T B : Addr) (ps' vs : Array Value) (tn tj : Tok) (jj : Nat) (cs csF : List Str) (D : Addr) (ix : Nat) (m₁ : Str → Option Value) (news₁ : List (Addr × Obj)) : Prop
  | mk (vsE : Array Value) (kE : Nat) (csE : List Str) (vi vc vst vk vcu : Option Value) (h1 : news₁ = [(D, W.listOf vsE kE), (64, tabObj ps'), (B, bmO T), (T, W.listOf vs vs.size)])
    (h2 : m₁ = trM x t tq T B tn vi vc (some (.int (jj : Nat) tj)) vst (some (.ref D)) vk vcu) (h3 : StrsAre vsE.toList csE) (h4 : mergeGo (cs.length - ix) csE = some csF) (h5 : cs.length - ix < vsE.size) (h6 : vsE.size ≤ 21) : TrK x t tq T B ps' vs tn tj jj cs csF D ix m₁ news₁
theorem translate {w : World} {loose : List Str} {mean : ExcName → Option Value} {mg mb : Str → Option Value} {dp un : Nat} {fr : Option (List Env)} {gd : Option (List Code)} {s : Shared} {R : Result → Shared → Prop} {g : Heap} {x : Str} {t tq : Tok} {ps : Array Value}
    {i2 e2 : Nat} {o1 o2 : Str} (hx0 : x.cps[0]? = some 37) (S1 : SetAt x 1 (i2 - 1) o1) (S2 : SetAt x i2 e2 o2) (hi2 : 0 < i2) (he2 : e2 + 1 = x.length)
    (G : Gr w loose mean mg mb g) (st : g.StaysIn s.heap) (h64 : s.heap.get? 64 = some (tabObj ps)) (n64 : g.get? 64 = none) (hps : TriplesOk ps.toList) (hb : AllBare s.gens) (hdp : dp + 20 < recursionLimit) (hun : un + 60 < cLine) (hx : x.length ≤ 60)
    (h : ∀ l h' g' d' tk t1 t2 t3 ps', Heap.ExtBut 64 s.heap h' → h'.get? 64 = some (tabObj ps') → h'.get? l = some (W.listOf #[.str (Str.ofString "%") t1, .str (brOf o1) t2, .str (brOf o2) t3] 3) → s.heap.get? l = none → AllBare g' → R (.ok (.ret (.ref l))) ⟨h', g', d', tk, s.os⟩) :
    codeAny (model prog w) (aro dp un fr gd) (.call (.ref 69) ⟨[.str x t, .none, .str (Str.ofString ".") tq], []⟩) R s := by
  refine' enter [("pat", .str x t), ("STAR", .none), ("QUESTION_MARK", .str (Str.ofString ".") tq)] G.X G.T st [(64, tabObj ps)] ?hn ?ho ?hcd ?hroom ?hbind ?hloc ?_ ?c1 ?c2 ?c3 ?c4
  case hn => exact List.forall_mem_cons.mpr ⟨⟨h64, n64⟩, fun _ q => nomatch q⟩
  case ho => k_is
  case hcd => k_is
  case hroom => (show dp < _); omega
  case hbind => rfl
  case hloc => exact locs rfl
  case c1 => rfl
  case c2 => rfl
  case c3 => rfl
  case c4 => decide
  intro g' L h₁ eg X' T' F N l1
  (try dsimp only)
  refine (let ev := envX _ _ _ _ _ _; (?_ : wpAny _ (Around.deeper _ ev) (execs _ ev) _ _ _))
  refine (let Av := Around.deeper _ _; (?_ : wpAny _ Av _ _ _ _))
  (try dsimp only)
  iterate 12 (first | (k_unfold; (try dsimp only)) | walk1)
  rename Fr _ _ _ _ => F
  rename News _ _ _ _ => N
  refine li_getAttr (N _ (.head _)).1 ?_
  rename_i T _ lT h3 _
  have lB : T < h3.objs.size := Heap.lt_size (N _ (.head _)).1
  replace N := News.push F N (bmO T)
  replace F := Fr.pushS F (bmO T)
  generalize h3.push (bmO T) = h2 at F N ⊢
  generalize h3.objs.size = B at N lB ⊢
  iterate 26 (first | (k_unfold; (try dsimp only)) | walk1)
  rename Fr _ _ _ _ => F
  rename News _ _ _ _ => N
  refine wpAny_While (codeAny_whileLoop (TrI g' L x t tq T B s.os i2 o1 o2) ?turn 3 ?init)
  case init =>
    replace F := frM (t := t) (tq := tq) F rfl rfl rfl (fun q q1 q2 q3 q4 q5 q6 q7 q8 q9 q10 => by ((repeat (refine Eq.trans (if_neg (by assumption)) ?_)); rfl))
    exact ⟨_, _, _, _, 0, #[], 0, ps, _, _, _, _, _, _, _, _, rfl, hb, F, newsSub N (fun p hp => by simp only [List.mem_cons, List.not_mem_nil, or_false] at hp ⊢; rcases hp with rfl | rfl | rfl <;> simp), hps, rfl, rfl, rfl⟩
  have gg : g.StaysIn g' := fun b o e => eg ▸ hideAll_get _ (st b o e) (by
    intro q; rw [List.mem_singleton.mp q] at e; rw [n64] at e; cases e)
  have g64 : g'.get? 64 = none := (N _ (.tail _ (.tail _ (.tail _ (.head _))))).2.2
  have gT : g'.get? T = none := (N _ (.tail _ (.tail _ (.head _)))).2.2
  clear F N
  rintro n s' ⟨hp, gg, dd, tk, i, vs, k, ps', ti, tn, vc, vj, vst, vch, vk, vcu, rfl, hgg, F, N, ht', rfl, hph⟩
  refine wpAny_mono (E := fun _ _ => False) ?_ (fun _ _ q => q) (fun _ _ q => q.elim)
  have hcase : (i = x.length ∧ ∃ t1 t2 t3, vs = #[.str (Str.ofString "%") t1, .str (brOf o1) t2, .str (brOf o2) t3]) ∨ (n = 3 ∧ i = 0 ∧ vs = #[]) ∨
      (∃ m e o, n = m + 1 ∧ SetAt x i e o ∧ vs.size ≤ 5 ∧ ∀ t, Phase x i2 o1 o2 m (e + 1) (vs.push (.str (brOf o) t))) := by
    match n, hph with
    | 0, hp => exact .inl hp
    | 1, ⟨q1, t1, t2, q2⟩ => exact .inr (.inr ⟨0, e2, o2, rfl, q1 ▸ S2, by rw [q2]; simp, fun t => ⟨he2, t1, t2, t, by rw [q2]; rfl⟩⟩)
    | 2, ⟨q1, t1, q2⟩ => exact .inr (.inr ⟨1, i2 - 1, o1, rfl, q1 ▸ S1, by rw [q2]; simp, fun t => ⟨by omega, t1, t, by rw [q2]; rfl⟩⟩)
    | 3, hp => exact .inr (.inl ⟨rfl, hp⟩)
  iterate 4 (first | (k_unfold; (try dsimp only)) | walk1)
  refine wpAny_truthy_bool ?_
  rcases hcase with ⟨rfl, t1, t2, t3, rfl⟩ | ⟨rfl, rfl, rfl⟩ | ⟨m, e, o, rfl, S, hvs, hnext⟩
  · rw [if_neg (by simp)]
    iterate 7 (first | (k_unfold; (try dsimp only)) | walk1)
    refine wpAny_truthy_bool ?_
    rw [if_pos (by simp)]
    iterate 3 (first | (k_unfold; (try dsimp only)) | walk1)
    refine h T hp gg dd _ t1 t2 t3 ps' (fun b o hb e => F.keep b o (eg ▸ hideAll_get _ e (by simpa using hb))) (N _ (.head _)).1 (N _ (.tail _ (.tail _ (.head _)))).1 ?_ hgg
    cases q : s.heap.get? T with
    | none => rfl
    | some o =>
      have : g'.get? T = some o := eg ▸ hideAll_get _ q (by simpa using Nat.ne_of_gt lT)
      rw [gT] at this; cases this
  · have hlen : 0 < x.length := (Array.getElem?_eq_some_iff.mp hx0).1
    rw [if_pos (by simpa using hlen)]
    iterate 6 (first | (k_unfold; (try dsimp only)) | walk1)
    rw [itemAt hx0]
    iterate 40 (first | (k_unfold; (try dsimp only)) | walk1)
    refine callWith_bm (T := T) ?_
    iterate 7 (first | (k_unfold; (try dsimp only)) | walk1)
    rename Fr _ _ _ _ => F2
    rename News _ _ _ _ => N2
    refine ⟨X'.keeps F2.keep, ?_⟩
    refine wpAny_call (escape ⟨X', T'⟩ F2.keep (by show dp + 1 + 10 < _; omega) (by show un + 3 + 40 < _; omega) fun h5 tk5 tr5 st5 => ?_)
    have F5 := frKeep F2 st5
    have N5 := newsKeep N2 st5
    clear F2 N2
    iterate 1 (first | (k_unfold; (try dsimp only)) | walk1)
    refine ⟨(N5 _ (.tail _ (.head _))).1, call_bm (N5 _ (.tail _ (.head _))).1 (N5 _ (.tail _ (.tail _ (.head _)))).1 (by decide) fun h6 hs6 hT6 => ?_⟩
    have F6 := F5.change hs6 (N5 _ (.tail _ (.tail _ (.head _)))).2.1 gT
    have N6 := newsT N5 hs6 hT6 (Nat.ne_of_lt lT) (Nat.ne_of_gt lB)
    clear F5 N5
    iterate 2 (first | (k_unfold; (try dsimp only)) | walk1)
    repeat ((try dsimp only); refine wpAny_execs_nil ?_)
    replace F6 := frM (t := t) (tq := tq) F6 rfl rfl rfl (fun q q1 q2 q3 q4 q5 q6 q7 q8 q9 q10 => by ((repeat (refine Eq.trans (if_neg (by assumption)) ?_)); rfl))
    exact ⟨2, by omega, h6, gg, dd, _, 1, _, _, ps', _, _, _, _, _, _, _, _, rfl, hgg, F6, N6, ht', rfl, rfl, tr5, rfl⟩
  · have hlt : i < x.length := (Array.getElem?_eq_some_iff.mp S.beg).1
    rw [if_pos (by simpa using hlt)]
    iterate 6 (first | (k_unfold; (try dsimp only)) | walk1)
    rw [itemAt S.beg]
    obtain ⟨c1, hc1, hc33, hc93⟩ := S.first
    have hit1 : Txt.item x ((i : Int) + 1) = ⟨#[c1]⟩ := itemAt hc1
    have hlt1 : i + 1 < x.length := (Array.getElem?_eq_some_iff.mp hc1).1
    have hltI : (i : Int) + 1 < (x.length : Int) := by exact_mod_cast hlt1
    iterate 46 (first | (k_unfold; (try dsimp only)) | walk1)
    refine wpAny_truthy_bool ?_
    rw [if_pos (decide_eq_true hltI)]
    iterate 6 (first | (k_unfold; (try dsimp only)) | walk1)
    rw [hit1]
    iterate 2 (first | (k_unfold; (try dsimp only)) | walk1)
    refine wpAny_truthy_bool ?_
    rw [if_neg (show ¬ (((⟨#[c1]⟩ : Str) == Str.ofString "!") = true) from oneNe hc33)]
    iterate 20 (first | (k_unfold; (try dsimp only)) | walk1)
    rw [hit1]
    refine wpAny_truthy_bool ?_
    rw [if_neg (show ¬ (((⟨#[c1]⟩ : Str) == Str.ofString "]") = true) from oneNe hc93)]
    iterate 4 (first | (k_unfold; (try dsimp only)) | walk1)
    rename Fr _ _ _ _ => F2
    rename News _ _ _ _ => N2
    refine wpAny_While (codeAny_whileLoop (TrJ g' L x t tq T B s.os gg dd ps' vs tn i e) ?turn2 (e - (i + 1)) ?init2)
    case init2 =>
      replace F2 := frM (t := t) (tq := tq) F2 rfl rfl rfl (fun q q1 q2 q3 q4 q5 q6 q7 q8 q9 q10 => by ((repeat (refine Eq.trans (if_neg (by assumption)) ?_)); rfl))
      exact ⟨_, _, i + 1, _, _, _, _, _, _, _, rfl, F2, N2, Nat.le_refl _, by have := S.lt; omega⟩
    clear F2 N2
    rintro n2 s2 ⟨hp2, tk2, jj, ti2, tj, vc2, vst2, vch2, vk2, vcu2, rfl, F, N, hj1, hj2⟩
    refine wpAny_mono (E := fun _ _ => False) ?_ (fun _ _ q => q) (fun _ _ q => q.elim)
    have hel : e < x.length := (Array.getElem?_eq_some_iff.mp S.fin).1
    have hjI : (jj : Int) < (x.length : Int) := by exact_mod_cast (by omega : jj < x.length)
    iterate 13 (first | (k_unfold; (try dsimp only)) | walk1)
    by_cases hje : jj < e
    · obtain ⟨cj, hcj, hcn⟩ := S.mid jj hj1 hje
      rw [itemAt hcj]
      iterate 2 (first | (k_unfold; (try dsimp only)) | walk1)
      refine wpAny_truthy_bool ?_
      rw [if_pos (show ((⟨#[cj]⟩ : Str) != Str.ofString "]") = true from oneNot hcn)]
      iterate 11 (first | (k_unfold; (try dsimp only)) | walk1)
      (try dsimp only)
      rename Fr _ _ _ _ => F2
      rename News _ _ _ _ => N2
      replace F2 := frM (t := t) (tq := tq) F2 rfl rfl rfl (fun q q1 q2 q3 q4 q5 q6 q7 q8 q9 q10 => by ((repeat (refine Eq.trans (if_neg (by assumption)) ?_)); rfl))
      exact ⟨n2 - 1, by omega, _, _, jj + 1, _, _, _, _, _, _, _, rfl, F2, N2, by omega, by omega⟩
    · have hje2 : jj = e := by omega
      subst hje2
      rw [itemAt S.fin]
      iterate 28 (first | (k_unfold; (try dsimp only)) | walk1)
      rename Fr _ _ _ _ => F2
      rename News _ _ _ _ => N2
      replace F2 := frM (t := t) (tq := tq) F2 rfl rfl rfl (fun q q1 q2 q3 q4 q5 q6 q7 q8 q9 q10 => by ((repeat (refine Eq.trans (if_neg (by assumption)) ?_)); rfl))
      refine wpAny_mono (E := fun _ _ => False) (Q := TrS g' L x t tq T B s.os vs tn tj jj o) ?_ (fun f s₃ h₃ => ?_) (fun _ _ q => q.elim)
      · iterate 5 (first | (k_unfold; (try dsimp only)) | walk1)
        have hout := S.out
        unfold stuffOf at hout
        refine wpAny_truthy_bool ?_
        by_cases hct : Txt.contains (Txt.slice x (some ((i + 1 : Nat) : Int)) (some (jj : Int))) (Str.ofString "-") = true
        · rw [if_pos hct] at hout
          refine iteN (show (!(Txt.contains (Txt.slice x (some ((i + 1 : Nat) : Int)) (some (jj : Int))) (Str.ofString "-"))) = false by rw [hct]; rfl) ?_
          iterate 16 (first | (k_unfold; (try dsimp only)) | walk1)
          rw [itemAt hc1]
          iterate 2 (first | (k_unfold; (try dsimp only)) | walk1)
          refine wpAny_truthy_bool ?_
          refine iteN (show ((⟨#[c1]⟩ : Str) == Str.ofString "!") = false from Bool.eq_false_iff.mpr (oneNe hc33)) ?_
          iterate 6 (first | (k_unfold; (try dsimp only)) | walk1)
          obtain ⟨⟨iF, cs⟩, hcut, hout⟩ := Option.bind_eq_some_iff.mp hout
          dsimp only at hout
          split at hout
          · cases hout
          rename_i hnl
          have hcs20 : cs.length ≤ 20 := by omega
          have hchk : (Txt.slice x (some iF) (some (jj : Int))).length ≠ 0 := fun q => hnl (.inl q)
          clear hnl
          rename Fr _ _ _ _ => F2
          rename News _ _ _ _ => N2
          replace F2 := frM (t := t) (tq := tq) F2 rfl rfl rfl (fun q q1 q2 q3 q4 q5 q6 q7 q8 q9 q10 => by ((repeat (refine Eq.trans (if_neg (by assumption)) ?_)); rfl))
          refine wpAny_mono (E := fun _ _ => False) (Q := TrC g' L x t tq T B s.os gg dd ps' vs tn tj jj iF cs) ?_ (fun f s₃ h₃ => ?_) (fun _ _ q => q.elim)
          · rename_i D _ lD _ _ _ _ _
            refine wpAny_While (codeAny_whileLoop (TrF g' L x t tq T B s.os gg dd ps' vs tn tj jj iF cs D) ?turn3 30 ?init3)
            case init3 => exact ⟨_, _, _, _, _, _, _, _, _, #[], 0, [], rfl, F2, N2, .nil, hcut⟩
            clear F2 N2 hcut
            rintro n3 s3 ⟨hp3, tk3, iv, ti3, kv, tkk, vc3, vst3, vcu3, vsC, kC, acc, rfl, F, N, hacc, hcut⟩
            refine wpAny_mono (E := fun _ _ => False) ?_ (fun _ _ q => q) (fun _ _ q => q.elim)
            cases n3 with
            | zero => cases hcut
            | succ n3 =>
            unfold cutGo at hcut
            iterate 17 (first | (k_unfold; (try dsimp only)) | walk1)
            refine call_find4 ?_
            iterate 8 (first | (k_unfold; (try dsimp only)) | walk1)
            refine wpAny_truthy_bool ?_
            by_cases hneg : find4 x (Str.ofString "-") kv jj < 0
            · rw [if_pos (decide_eq_true hneg)]
              rw [if_pos hneg] at hcut
              cases hcut
              iterate 3 (first | (k_unfold; (try dsimp only)) | walk1)
              (try dsimp only)
              rename Fr _ _ _ _ => F2
              rename News _ _ _ _ => N2
              replace F2 := frM (t := t) (tq := tq) F2 rfl rfl rfl (fun q q1 q2 q3 q4 q5 q6 q7 q8 q9 q10 => by ((repeat (refine Eq.trans (if_neg (by assumption)) ?_)); rfl))
              exact ⟨rfl, _, _, D, vsC, kC, _, _, _, _, _, rfl, F2, N2, hacc, lD⟩
            · rw [if_neg (by simpa using hneg)]
              rw [if_neg hneg] at hcut
              have hal := cutGo_len _ _ _ _ _ _ _ _ hcut
              rw [List.length_append] at hal
              have hvl : vsC.size = acc.length := by rw [← hacc.length]; simp
              iterate 35 (first | (k_unfold; (try dsimp only)) | walk1)
              (try dsimp only)
              rename Fr _ _ _ _ => F2
              rename News _ _ _ _ => N2
              replace F2 := frM (t := t) (tq := tq) F2 rfl rfl rfl (fun q q1 q2 q3 q4 q5 q6 q7 q8 q9 q10 => by ((repeat (refine Eq.trans (if_neg (by assumption)) ?_)); rfl))
              refine ⟨n3, by omega, _, _, _, _, _, _, _, _, _, _, _, _, rfl, F2, N2, ?_, hcut⟩
              rw [Array.toList_push]
              exact strsAre_app hacc (.cons _ _ .nil)
          · clear F2 N2
            obtain ⟨rfl, hp3, tk3, D, vsC, kC, ti3, vc3, vst3, vk3, vcu3, rfl, F, N, hcsA, lD⟩ := h₃
            iterate 16 (first | (k_unfold; (try dsimp only)) | walk1)
            have hsl : (Txt.slice x (some iF) (some (jj : Int))).length ≤ x.length := Txt.slice_le _ _ _
            refine P.truthy_str (by omega) ?_
            rw [if_pos (show ((Txt.slice x (some iF) (some (jj : Int))).length : Int) != 0 by simpa using hchk)]
            have hvl : vsC.size = cs.length := by rw [← hcsA.length]; simp
            iterate 9 (first | (k_unfold; (try dsimp only)) | walk1)
            (try dsimp only)
            rename_i tck _ _ _ _ _ _ _
            rename Fr _ _ _ _ => F2
            rename News _ _ _ _ => N2
            refine append_K F2 N2 (.head fun p hp => by
              simp only [List.mem_cons, List.not_mem_nil, or_false] at hp; rcases hp with rfl | rfl | rfl
              · exact Nat.ne_of_lt lD.1
              · exact Nat.ne_of_lt lD.2.1
              · exact Nat.ne_of_lt lD.2.2) (fun h4 F4 N4 => ?_) (by rw [sizeLine_eq]; omega)
            have hcsB : StrsAre (vsC.push (.str (Txt.slice x (some iF) (some (jj : Int))) tck)).toList (cs ++ [Txt.slice x (some iF) (some (jj : Int))]) := by
              rw [Array.toList_push]; exact strsAre_app hcsA (.cons _ _ .nil)
            clear F2 N2
            have hsz2 : (vsC.push (.str (Txt.slice x (some iF) (some (jj : Int))) tck)).size = cs.length + 1 := by rw [Array.size_push, hvl]
            generalize vsC.push (.str (Txt.slice x (some iF) (some (jj : Int))) tck) = vsD at hcsB hsz2 F4 N4
            generalize cs ++ [Txt.slice x (some iF) (some (jj : Int))] = cs2 at hcsB hout
            (try dsimp only)
            iterate 2 (first | (k_unfold; (try dsimp only)) | walk1)
            first | refine wpAny_For ?_ (fun _ => rfl) | ((first | (k_unfold; (try dsimp only)) | walk1); first | refine wpAny_For ?_ (fun _ => rfl) | ((first | (k_unfold; (try dsimp only)) | walk1); first | refine wpAny_For ?_ (fun _ => rfl) | ((first | (k_unfold; (try dsimp only)) | walk1); first | refine wpAny_For ?_ (fun _ => rfl) | ((first | (k_unfold; (try dsimp only)) | walk1); refine wpAny_For ?_ (fun _ => rfl)))))
            iterate 22 (first | (k_unfold; (try dsimp only)) | walk1)
            rename Fr _ _ _ _ => F2
            rename News _ _ _ _ => N2
            rename IsRange _ _ _ _ _ _ _ _ => hrg
            obtain ⟨csF, hmg, hout⟩ := Option.bind_eq_some_iff.mp hout
            replace F2 := frM (t := t) (tq := tq) F2 rfl rfl rfl (fun q q1 q2 q3 q4 q5 q6 q7 q8 q9 q10 => by ((repeat (refine Eq.trans (if_neg (by assumption)) ?_)); rfl))
            refine iterDown F2 N2 hrg (n := cs.length) (by omega) (by omega) fun I h5 F5 N5 hI st5 hlI => ?_
            clear F2 N2 hrg
            refine forLoop_down rfl rfl rfl F5 N5 hI (TrK x t tq T B ps' vs tn tj jj cs csF D) ⟨vsD, _, cs2, _, _, _, _, _, rfl, rfl, hcsB, hmg, by omega, by omega⟩ ?_ ?_
            · clear F5 N5 hsz2 hcsB hmg
              rintro ix tkx m₁ news₁ h6 tk6 hix ⟨vsE, kE, csE, vi6, vc6, vst6, vk6, vcu6, rfl, rfl, hE, hmg, hEs, hE21⟩ hI6 F N
              obtain ⟨kk, hkk⟩ : ∃ kk, cs.length - ix = kk + 1 := ⟨cs.length - ix - 1, by omega⟩
              rw [hkk] at hmg hEs F
              unfold mergeGo at hmg
              obtain ⟨csG, hat, hmg⟩ := Option.bind_eq_some_iff.mp hmg
              obtain ⟨sa, sb, ha, hb, hal, hbl, ha17, hb17, hcsG⟩ := mergeAt_is hat
              rw [Nat.add_sub_cancel] at ha hcsG
              obtain ⟨ta, hva⟩ := strsAre_get hE ha
              obtain ⟨tb, hvb⟩ := strsAre_get hE hb
              have hI6D : I ≠ D := (hI6 _ (.head _)).symm
              have hI7 : ∀ oo, ∀ p ∈ [(D, oo), ((64 : Addr), tabObj ps'), (B, bmO T), (T, W.listOf vs vs.size)], p.1 ≠ I := by
                intro oo p hp
                rcases List.mem_cons.mp hp with rfl | hp
                · exact hI6D.symm
                · exact hI6 p (.tail _ hp)
              have hr6 : ∀ p ∈ [((64 : Addr), tabObj ps'), (B, bmO T), (T, W.listOf vs vs.size)], p.1 ≠ D := by
                intro p hp
                simp only [List.mem_cons, List.not_mem_nil, or_false] at hp; rcases hp with rfl | rfl | rfl
                · exact Nat.ne_of_lt lD.1
                · exact Nat.ne_of_lt lD.2.1
                · exact Nat.ne_of_lt lD.2.2
              have hIL : h6.IsList D vsE := ⟨_, (N _ (.tail _ (.head _))).1, rfl, _, rfl⟩
              iterate 10 (first | (k_unfold; (try dsimp only)) | walk1)
              refine item_list hIL (show (0 : Int) ≤ ((kk + 1 : Nat) : Int) - 1 by omega) (show ((kk + 1 : Nat) : Int) - 1 < 2 ^ 63 by omega) (show vsE[(((kk + 1 : Nat) : Int) - 1).toNat]? = some (.str sa ta) by
                rw [show (((kk + 1 : Nat) : Int) - 1).toNat = kk by omega]; simpa using hva) ?_ (by with_unfolding_all rfl) (by intro _; with_unfolding_all rfl)
              iterate 9 (first | (k_unfold; (try dsimp only)) | walk1)
              refine item_list hIL (show (0 : Int) ≤ ((kk + 1 : Nat) : Int) by omega) (show ((kk + 1 : Nat) : Int) < 2 ^ 63 by omega) (show vsE[(((kk + 1 : Nat) : Int)).toNat]? = some (.str sb tb) by
                rw [show (((kk + 1 : Nat) : Int)).toNat = kk + 1 by omega]; simpa using hvb) ?_ (by with_unfolding_all rfl) (by intro _; with_unfolding_all rfl)
              iterate 3 (first | (k_unfold; (try dsimp only)) | walk1)
              clear st5 hlI
              iterate 1 (first | (k_unfold; (try dsimp only)) | walk1)
              refine wpAny_truthy_bool ?_
              by_cases hc : (Txt.item sb 0).cps.toList < (Txt.item sa (-1)).cps.toList
              · rw [if_pos hc] at hcsG
                rw [if_pos (by first | exact decide_eq_true hc | simpa using hc)]
                iterate 11 (first | (k_unfold; (try dsimp only)) | walk1)
                refine item_list hIL (show (0 : Int) ≤ ((kk + 1 : Nat) : Int) - 1 by omega) (show ((kk + 1 : Nat) : Int) - 1 < 2 ^ 63 by omega) (show vsE[(((kk + 1 : Nat) : Int) - 1).toNat]? = some (.str sa ta) by
                  rw [show (((kk + 1 : Nat) : Int) - 1).toNat = kk by omega]; simpa using hva) ?_ (by with_unfolding_all rfl) (by intro _; with_unfolding_all rfl)
                iterate 7 (first | (k_unfold; (try dsimp only)) | walk1)
                refine slice_strN_ns (hsz := ?hsz) (s := ⟨_, _, _, _, _⟩) F N ?_
                case hsz => rw [sizeLine_eq]; omega
                intro h7 t7 k7 F7 N7
                have hIL7 : h7.IsList D vsE := ⟨_, (N7 _ (.tail _ (.head _))).1, rfl, _, rfl⟩
                clear F N hIL
                iterate 4 (first | (k_unfold; (try dsimp only)) | walk1)
                refine item_list hIL7 (show (0 : Int) ≤ ((kk + 1 : Nat) : Int) by omega) (show ((kk + 1 : Nat) : Int) < 2 ^ 63 by omega) (show vsE[(((kk + 1 : Nat) : Int)).toNat]? = some (.str sb tb) by
                  rw [show (((kk + 1 : Nat) : Int)).toNat = kk + 1 by omega]; simpa using hvb) ?_ (by with_unfolding_all rfl) (by intro _; with_unfolding_all rfl)
                iterate 5 (first | (k_unfold; (try dsimp only)) | walk1)
                refine slice_strN_sn (hsz := ?hsz) (s := ⟨_, _, _, _, _⟩) F7 N7 ?_
                case hsz => rw [sizeLine_eq]; omega
                intro h8 t8 k8 F8 N8
                clear F7 N7 hIL7
                have hl1 : (Txt.slice sa none (some (-1))).length ≤ sa.length := Txt.slice_le _ _ _
                have hl2 : (Txt.slice sb (some 1) none).length ≤ sb.length := Txt.slice_le _ _ _
                iterate 6 (first | (k_unfold; (try dsimp only)) | walk1)
                refine setSt F8 N8 hI6D hr6 (j := kk) (by omega) (by omega) (by omega) fun h9 F9 N9 => ?_
                clear F8 N8
                (try dsimp only)
                iterate 7 (first | (k_unfold; (try dsimp only)) | walk1)
                rename_i tnew _ _ _
                refine delSt F9 N9 hI6D hr6 (j := kk + 1) (by omega) (by simp; omega) (by simp; omega) fun h10 F10 N10 => ?_
                clear F9 N9
                (try dsimp only)
                iterate 1 (first | (k_unfold; (try dsimp only)) | walk1)
                repeat ((try dsimp only); refine wpAny_execs_nil ?_)
                replace F10 := frM (t := t) (tq := tq) F10 rfl rfl rfl (fun q q1 q2 q3 q4 q5 q6 q7 q8 q9 q10 => by ((repeat (refine Eq.trans (if_neg (by assumption)) ?_)); rfl))
                refine ⟨_, _, _, _, rfl, F10, N10, hI7 _, _, _, csG, _, _, _, _, _, rfl, rfl, ?_, by rw [show cs.length - (ix + 1) = kk by omega]; exact hmg, ?_, ?_⟩
                · rw [hcsG]
                  exact strsAre_erase (strsAre_set hE _) _
                · simp [List.length_eraseIdx, List.length_set]; split <;> omega
                · simp [List.length_eraseIdx, List.length_set]; split <;> omega
              · rw [if_neg hc] at hcsG
                rw [if_neg (by first | simpa using hc | (simp; exact hc))]
                repeat ((try dsimp only); refine wpAny_execs_nil ?_)
                replace F := frM (t := t) (tq := tq) F rfl rfl rfl (fun q q1 q2 q3 q4 q5 q6 q7 q8 q9 q10 => by ((repeat (refine Eq.trans (if_neg (by assumption)) ?_)); rfl))
                exact ⟨_, _, _, _, rfl, F, N, hI6, vsE, kE, csE, _, _, _, _, _, rfl, rfl, hE, by rw [show cs.length - (ix + 1) = kk by omega, ← hcsG]; exact hmg, by omega, hE21⟩
            · intro h7 tk7 m7 news7 F7 N7 ⟨vsE, kE, csE, vi6, vc6, vst6, vk6, vcu6, e1, e2, hE, hmgE, hEs, hE21⟩
              subst e1 e2
              rw [Nat.sub_self] at hmgE
              cases hmgE
              replace F7 : Fr g' L h7 _ := F7
              replace N7 : News g' L h7 [(D, W.listOf vsE kE), (64, tabObj ps'), (B, bmO T), (T, W.listOf vs vs.size)] := N7
              iterate 7 (first | (k_unfold; (try dsimp only)) | walk1)
              have C68 : CodeHd g' 68 64 := codeHd_of_K X' (by kernel_rfl)
              have N8 : News g' L h7 ((64, tabObj ps') :: [(D, W.listOf vsE kE), (B, bmO T), (T, W.listOf vs vs.size)]) := newsSub N7 fun p hp => by
                simp only [List.mem_cons, List.not_mem_nil, or_false] at hp ⊢; rcases hp with rfl | rfl | rfl | rfl <;> simp
              have hallF := hout
              by_cases hpl : csF.all plain1 = true
              · rw [if_pos hpl] at hout
                cases hout
                refine gen_strs (f := id) (ts := csF) F7 N8 ?hPr T' C68 ht' hgg rfl rfl rfl rfl rfl ?hcell rfl rfl rfl ?hroom ?hit ⟨_, (N7 _ (.head _)).1, rfl, _, rfl⟩ hE ?helt ?hgo (fun _ => rfl)
                case hPr =>
                  intro q hq
                  simp only [List.mem_cons, List.not_mem_nil, or_false] at hq; rcases hq with rfl | rfl | rfl
                  · exact Nat.ne_of_gt lD.1
                  · exact Nat.ne_of_gt (Nat.lt_trans lT lB)
                  · exact Nat.ne_of_gt lT
                case hcell => decide
                case hroom => show dp + 1 < _; omega
                case hit =>
                  intro Q' hq
                  iterate 1 (first | (k_unfold; (try dsimp only)) | walk1)
                  exact hq
                case helt =>
                  intro C code A' E' b tb u m₂ hA hn hm₂ hb
                  have hpb := List.all_eq_true.mp hpl b hb
                  unfold plain1 at hpb
                  simp only [Bool.and_eq_true] at hpb
                  obtain ⟨huh, hug, hud, hut, huo⟩ := u
                  exact repl_elt hn hm₂ hpb.1 hpb.2.1
                case hgo =>
                  intro a K ps8 h8 g8 tk8 F8 N8' ht8 hg8 hLK hPK hrK X8
                  clear F7 N7 N8
                  iterate 1 (first | (k_unfold; (try dsimp only)) | walk1)
                  (try dsimp only)
                  have hlF : csF.length ≤ 21 := by rw [← hE.length]; simpa using hE21
                  have hsF := sum_le csF fun z hz => by
                    have := List.all_eq_true.mp hpl z hz
                    unfold plain1 at this
                    simp only [Bool.and_eq_true, decide_eq_true_eq] at this
                    omega
                  refine join_strs F8 N8' hg8 hLK hPK hrK X8 (by rw [List.map_id]; show _ + _ * 1 ≤ _; omega) (by rw [sizeLine_eq]; omega) fun h9 g9 d9 tk9 t9 F9 N9 hg9 => ?_
                  rw [List.map_id]
                  clear F8 N8' X8
                  iterate 1 (first | (k_unfold; (try dsimp only)) | walk1)
                  repeat ((try dsimp only); refine wpAny_execs_nil ?_)
                  rename Fr _ _ _ _ => F2
                  rename News _ _ _ _ => N2
                  replace F2 := frM (t := t) (tq := tq) F2 rfl rfl rfl (fun q q1 q2 q3 q4 q5 q6 q7 q8 q9 q10 => by ((repeat (refine Eq.trans (if_neg (by assumption)) ?_)); rfl))
                  exact ⟨rfl, _, g9, d9, _, ps8, _, _, _, _, _, _, rfl, hg9, F2, newsSub N2 (fun p hp => by
                    simp only [List.mem_cons, List.not_mem_nil, or_false] at hp ⊢; rcases hp with rfl | rfl | rfl <;> simp), ht8⟩
              · rw [if_neg hpl] at hout; cases hout
        · rw [if_neg hct] at hout
          refine iteP (show (!(Txt.contains (Txt.slice x (some ((i + 1 : Nat) : Int)) (some (jj : Int))) (Str.ofString "-"))) = true by rw [Bool.not_eq_true] at hct; rw [hct]; rfl) ?_
          iterate 12 (first | (k_unfold; (try dsimp only)) | walk1)
          split at hout
          · rename_i hno
            cases hout
            refine call_replace_none hno ?_
            iterate 3 (first | (k_unfold; (try dsimp only)) | walk1)
            rename Fr _ _ _ _ => F2
            rename News _ _ _ _ => N2
            replace F2 := frM (t := t) (tq := tq) F2 rfl rfl rfl (fun q q1 q2 q3 q4 q5 q6 q7 q8 q9 q10 => by ((repeat (refine Eq.trans (if_neg (by assumption)) ?_)); rfl))
            exact ⟨rfl, _, gg, dd, _, ps', _, _, _, _, _, _, rfl, hgg, F2, N2, ht'⟩
          · cases hout
      · obtain ⟨rfl, hp4, gg4, dd4, tk4, ps4, to4, vi4, vc4, vch4, vk4, vcu4, rfl, hgg4, F, N, ht4⟩ := h₃
        clear F2 N2
        obtain ⟨px, pt, pf, pcs, hP50, hP49, hcode⟩ := pat_at X'
        iterate 4 (first | (k_unfold; (try dsimp only)) | walk1)
        refine gm_sub (F.keep _ _ hP50) ?_
        iterate 2 (first | (k_unfold; (try dsimp only)) | walk1)
        have C68 : CodeHd g' 68 64 := codeHd_of_K X' (by kernel_rfl)
        refine lam_any F N (by
          intro q hq
          simp only [List.mem_cons, List.not_mem_nil, or_false] at hq; rcases hq with rfl | rfl
          · exact Nat.ne_of_gt (Nat.lt_trans lT lB)
          · exact Nat.ne_of_gt lT) T' C68 rfl ht4 rfl rfl fun lf fo ps5 h5 tk5 F5 N5 ht5 hlf hfo => ?_
        clear F N
        (try dsimp only)
        iterate 3 (first | (k_unfold; (try dsimp only)) | walk1)
        refine call_sub (F5.keep _ _ hP50) (F5.keep _ _ hP49) hlf hfo (by have := S.len; omega) (by have := S.lim; omega) (k := 200) (by decide) (by rw [hcode]; exact S.non) fun h6 tk6 tr6 st6 => ?_
        have F6 := frKeep F5 st6
        have N6 := newsKeep N5 st6
        clear F5 N5 hlf
        (try dsimp only)
        obtain ⟨c0, hc0, hn33, hn94, hn91⟩ := S.head
        have hit0 : Txt.item o 0 = ⟨#[c0]⟩ := itemAt hc0
        have hol := S.len
        have holim := S.lim
        iterate 14 (first | (k_unfold; (try dsimp only)) | walk1)
        refine P.truthy_str (by omega) ?_
        refine iteN (show (!((o.length : Int) != 0)) = false by simp; intro q; omega) ?_
        iterate 7 (first | (k_unfold; (try dsimp only)) | walk1)
        refine wpAny_truthy_bool ?_
        refine iteN (show (o == Str.ofString "!") = false from Bool.eq_false_iff.mpr fun q => by
          have := congrArg Str.length (eq_of_beq q)
          rw [show (Str.ofString "!").length = 1 from rfl] at this; omega) ?_
        iterate 8 (first | (k_unfold; (try dsimp only)) | walk1)
        rw [hit0]
        iterate 2 (first | (k_unfold; (try dsimp only)) | walk1)
        refine wpAny_truthy_bool ?_
        refine iteN (show ((⟨#[c0]⟩ : Str) == Str.ofString "!") = false from Bool.eq_false_iff.mpr (oneNe hn33)) ?_
        iterate 8 (first | (k_unfold; (try dsimp only)) | walk1)
        rw [hit0]
        iterate 7 (first | (k_unfold; (try dsimp only)) | walk1)
        rename Fr _ _ _ _ => F7
        rename News _ _ _ _ => N7
        refine in_tuple_strs (ys := [Str.ofString "^", Str.ofString "["]) (News.isTup N7 (.head _)) (.cons _ _ (.cons _ _ .nil)) ?_
        refine wpAny_truthy_bool ?_
        refine iteN (show ([Str.ofString "^", Str.ofString "["].any (· == (⟨#[c0]⟩ : Str))) = false by
          simp only [List.any_cons, List.any_nil, Bool.or_false, Bool.or_eq_false_iff]
          exact ⟨Bool.eq_false_iff.mpr (oneNe (Ne.symm hn94)), Bool.eq_false_iff.mpr (oneNe (Ne.symm hn91))⟩) ?_
        iterate 6 (first | (k_unfold; (try dsimp only)) | walk1)
        first | refine callWith_bm (T := T) ?_ | ((first | (k_unfold; (try dsimp only)) | walk1); first | refine callWith_bm (T := T) ?_ | ((first | (k_unfold; (try dsimp only)) | walk1); first | refine callWith_bm (T := T) ?_ | ((first | (k_unfold; (try dsimp only)) | walk1); first | refine callWith_bm (T := T) ?_ | ((first | (k_unfold; (try dsimp only)) | walk1); first | refine callWith_bm (T := T) ?_ | ((first | (k_unfold; (try dsimp only)) | walk1); refine callWith_bm (T := T) ?_)))))
        iterate 4 (first | (k_unfold; (try dsimp only)) | walk1)
        iterate 5 (first | (k_unfold; (try dsimp only)) | walk1)
        have hlen1 : (Str.empty ++ Str.ofString "[" ++ o).length = 1 + o.length := by
          rw [Str.length_append, Str.length_append]; rfl
        have hlen2 : (Str.empty ++ Str.ofString "[" ++ o ++ Str.ofString "]").length = 2 + o.length := by
          rw [Str.length_append, hlen1]; show 1 + o.length + 1 = _; omega
        refine ⟨by rw [hlen1, sizeLine_eq]; omega, ?_⟩
        iterate 2 (first | (k_unfold; (try dsimp only)) | walk1)
        (try dsimp only)
        refine ⟨by rw [hlen2, sizeLine_eq]; omega, ?_⟩
        iterate 2 (first | (k_unfold; (try dsimp only)) | walk1)
        (try dsimp only)
        rw [show (Str.empty ++ Str.ofString "[" ++ o ++ Str.ofString "]") = brOf o from rfl]
        have nB := N7 _ (.tail _ (.tail _ (.head _)))
        have nT := N7 _ (.tail _ (.tail _ (.tail _ (.head _))))
        refine ⟨nB.1, call_bm nB.1 nT.1 (by rw [sizeLine_eq]; omega) fun h8 hs8 hT8 => ?_⟩
        have F8 := F7.change hs8 nT.2.1 gT
        have N8 := newsT (newsSub N7 (fun p hp => .tail _ hp)) hs8 hT8 (Nat.ne_of_lt lT) (Nat.ne_of_gt lB)
        clear F7 N7
        repeat ((try dsimp only); refine wpAny_execs_nil ?_)
        replace F8 := frM (t := t) (tq := tq) F8 rfl rfl rfl (fun q q1 q2 q3 q4 q5 q6 q7 q8 q9 q10 => by ((repeat (refine Eq.trans (if_neg (by assumption)) ?_)); rfl))
        exact ⟨m, by omega, h8, gg4, dd4, _, jj + 1, _, _, ps5, _, _, _, _, _, _, _, _, rfl, hgg4, F8, N8, ht5, by rw [Array.size_push], hnext _⟩
end
/- Dress -/
section
def isC (x : Str) (i : Nat) (p : Nat → Bool) : Bool := match x.cps[i]? with
  | some c => p c
  | none => false
theorem isC_is {x : Str} {i : Nat} {p : Nat → Bool} (h : isC x i p = true) : ∃ c, x.cps[i]? = some c ∧ p c = true := by
  unfold isC at h
  split at h
  · rename_i c hc; exact ⟨c, hc, h⟩
  · cases h
def setChk (x : Str) (i e : Nat) (o : Str) : Bool :=
  (isC x i (· == 91) && isC x e (· == 93)) && (decide (i + 1 < e) && ((List.range (e - (i + 1))).all fun j => isC x (i + 1 + j) (· != 93))) &&
  (isC x (i + 1) (fun c => c != 33 && c != 93) && (stuffOf x (i + 1) e == some o)) && (decide (1 < o.length) && decide (o.length ≤ 60)) &&
  (isC o 0 (fun c => c != 33 && (c != 94 && c != 91)) && noM o)
theorem setAt_of {x : Str} {i e : Nat} {o : Str} (h : setChk x i e o = true) : SetAt x i e o := by
  unfold setChk at h
  simp only [Bool.and_eq_true, decide_eq_true_eq] at h
  obtain ⟨⟨⟨⟨⟨h1, h2⟩, h3, h4⟩, h5, h6⟩, h7, h8⟩, h9, h10⟩ := h
  obtain ⟨c1, e1, p1⟩ := isC_is h1
  obtain ⟨c2, e2, p2⟩ := isC_is h2
  obtain ⟨c5, e5, p5⟩ := isC_is h5
  obtain ⟨c9, e9, p9⟩ := isC_is h9
  simp only [Bool.and_eq_true, bne_iff_ne, beq_iff_eq] at p1 p2 p5 p9
  refine ⟨by rw [e1, p1], h3, by rw [e2, p2], fun j hj hje => ?_, ⟨c5, e5, p5.1, p5.2⟩, eq_of_beq h6, h7, h8, ⟨c9, e9, p9.1, p9.2.1, p9.2.2⟩, h10⟩
  have := List.all_eq_true.mp h4 (j - (i + 1)) (List.mem_range.mpr (by omega))
  obtain ⟨c, hc, hp⟩ := isC_is this
  rw [show i + 1 + (j - (i + 1)) = j by omega] at hc
  exact ⟨c, hc, by simpa using hp⟩
abbrev pct (d : Str) : Str := Str.ofString "%[" ++ d ++ Str.ofString "][" ++ d ++ Str.ofString "]"
def dress : Nat → Str
  | 0 => "0-9a-fA-F"
  | 1 => "A-Fa-f0-9"
  | 2 => "0123456789abcdefABCDEF"
  | 3 => "f-a0-9A-Fa-f"
  | _ => "a-fA-F0-9z-y"
def dressO : Nat → Str
  | 0 => "0-9a-fA-F"
  | 1 => "A-Fa-f0-9"
  | 2 => "0123456789abcdefABCDEF"
  | 3 => "0-9A-Fa-f"
  | _ => "a-fA-F0-9"
theorem set1 : ∀ k < 5, setChk (pct (dress k)) 1 ((dress k).length + 2) (dressO k) = true := by decide +kernel
theorem set2 : ∀ k < 5, setChk (pct (dress k)) ((dress k).length + 3) (2 * (dress k).length + 4) (dressO k) = true := by decide +kernel
end
/- ForN -/
section
section
variable {prog : Program} {w : World} {A : Around} {s : Shared} {env : Env} {h₀ : Heap}
theorem forLoop_listN {R : Result → Shared → Prop} {x : Str} {px : Pos} {body : List Stmt} {I : Addr} {ax : Addr} {items : Array Value} {m : Str → Option Value} {oI : Obj} {news : List (Addr × Obj)} (hh : A.handled = none) {oA : Obj} (hA : oA.cls = .type "list") {nA : Nat} (hA2 : oA.data = .seq items nA)
    (hx : env.kindOf x = some .local) (hp : (env.scope.kind == .class || (env.scope.kind == .module && env.locals != env.globals)) = false)
    (F : Fr h₀ env.locals s.heap m) (N : News h₀ env.locals s.heap ((I, oI) :: news)) (ho : LitO ax 0 oI) (hI : ∀ p ∈ news, p.1 ≠ I)
    (J : Nat → (Str → Option Value) → List (Addr × Obj) → Prop) (h0 : J 0 m news) (hin : ∀ i m₁ news₁, J i m₁ news₁ → (ax, oA) ∈ news₁)
    (step : ∀ i v oI m₁ news₁ h tk, i < items.size → items[i]? = some v → J i m₁ news₁ → (∀ p ∈ news₁, p.1 ≠ I) → LitO ax (i + 1) oI → Fr h₀ env.locals h (fun q => if q = x then some v else m₁ q) → News h₀ env.locals h ((I, oI) :: news₁) →
      wpAny (model prog w) A (execs body env) (fun f s₃ => match f with
        | .next | .cont => LOut h₀ env.locals I oI s s₃ (J (i + 1))
        | .brk => R (.ok .next) s₃
        | .ret v => R (.ok (.ret v)) s₃) (fun _ _ => False) { s with heap := h, toks := tk })
    (hR : ∀ h' tk m' news', Fr h₀ env.locals h' m' → News h₀ env.locals h' news' → J items.size m' news' → R (.ok .next) { s with heap := h', toks := tk }) :
    codeAny (model prog w) A (.forLoop (.Name x px) (.ref I) body [] env) R s := by
  have hxI : ax ≠ I := hI _ (hin _ _ _ h0)
  exact forLoopG (Walks.list (prog := prog) (w := w) hh I ax hxI items) (Ok := LitO ax) J (fun i h m' news' oI F N ho hJ => ⟨⟨oI, (N _ (.head _)).1, ho⟩, ⟨_, (N _ (.tail _ (hin _ _ _ hJ))).1, hA, _, hA2⟩⟩) (fun i h hs => hs.1) hx hp F N ho hI h0 step hR
end
end
/- Stands -/
section
theorem beginStands : True := by
  w_top off
  trivial
/-- a list of pairs of texts, on the heap -/
def RangesAt (h : Heap) (l : Addr) (rs : List (Str × Str)) : Prop :=
  rs.length ≤ 30 ∧ ∃ vs : List Value, h.IsList l vs.toArray ∧ vs.length = rs.length ∧ ∀ (i : Nat) (v : Value), vs[i]? = some v → ∃ (a : Addr) (r : Str × Str) (t1 t2 : Tok), v = Value.ref a ∧ rs[i]? = some r ∧ Heap.IsTuple h a #[.str r.1 t1, .str r.2 t2]
def ItemsAt (h : Heap) (l : Addr) (r1 r2 r3 : List (Str × Str)) : Prop :=
  ∃ a b c, h.IsList l #[.ref a, .ref b, .ref c] ∧ RangesAt h a r1 ∧ RangesAt h b r2 ∧ RangesAt h c r3
theorem RangesAt.keeps {h h' : Heap} {l : Addr} {rs : List (Str × Str)} (H : RangesAt h l rs) (k : h.StaysIn h') : RangesAt h' l rs := by
  obtain ⟨n30, vs, hl, n, e⟩ := H
  refine ⟨n30, vs, hl.at fun o q => k _ o q, n, fun i v q => ?_⟩
  obtain ⟨a, r, t1, t2, e1, e2, e3⟩ := e i v q
  exact ⟨a, r, t1, t2, e1, e2, e3.at fun o q => k _ o q⟩
theorem ItemsAt.keeps {h h' : Heap} {l : Addr} {r1 r2 r3 : List (Str × Str)} (H : ItemsAt h l r1 r2 r3) (k : h.StaysIn h') : ItemsAt h' l r1 r2 r3 := by
  obtain ⟨a, b, c, hl, h1, h2, h3⟩ := H
  exact ⟨a, b, c, hl.at fun o q => k _ o q, h1.keeps k, h2.keeps k, h3.keeps k⟩
/-- whether a sign lies in one of the ranges -/
def fits (rs : List (Str × Str)) (x : Str) : Bool := rs.any fun r => !(x.cps.toList < r.1.cps.toList) && !(r.2.cps.toList < x.cps.toList)
def cnt (xs : Str) (rr : List (List (Str × Str))) (n : Nat) : Nat :=
  ((List.range n).filter fun j => match xs.cps[j]?, rr[j]? with | some c, some rs => fits rs ⟨#[c]⟩ | _, _ => false).length
def standsB (r1 r2 r3 : List (Str × Str)) (y : Str) : Bool := cnt y [r1, r2, r3] (min y.cps.size 3) == 3
theorem ne_nil {prog : Program} {w : World} {A : Around} {E : Value → Shared → Prop} {s : Shared} {l b : Addr} {items : Array Value} {Q : Value → Shared → Prop} (hl : s.heap.IsList l items) (hb : s.heap.IsList b #[]) (hu : A.units < cLine)
    (h : Q (.bool (items.size != 0)) s) : wpAny (model prog w) A (compareOp .NotEq (.ref l) (.ref b)) Q E s := by
  by_cases hs : items.size = 0
  · refine SeqAt.RcNeAt.lists (e := fun _ => true) hl hb hs hu (fun j h1 _ => by omega) prog w E Q ?_
    rw [hs] at h ⊢; exact h
  · refine SeqAt.RcNeAt.lists_lengths hl hb (by simp [hs]) hu prog w E Q ?_
    rw [show (items.size != 0) = true by simp [hs]] at h; exact h
theorem eq_nil {prog : Program} {w : World} {A : Around} {E : Value → Shared → Prop} {s : Shared} {l b : Addr} {items : Array Value} {Q : Value → Shared → Prop} (hl : s.heap.IsList l items) (hb : s.heap.IsList b #[]) (hu : A.units < cLine)
    (h : Q (.bool (items.size == 0)) s) : wpAny (model prog w) A (compareOp .Eq (.ref l) (.ref b)) Q E s := by
  by_cases hs : items.size = 0
  · refine SeqAt.RcAt.lists (e := fun _ => true) hl hb hs hu (fun j h1 _ => by omega) prog w E Q ?_
    rw [hs] at h ⊢; exact h
  · refine SeqAt.RcAt.lists_lengths hl hb (by simp [hs]) hu prog w E Q ?_
    rw [show (items.size == 0) = false by simp [hs]] at h; exact h
def pairFits (h : Heap) (x : Str) : Value → Bool
  | .ref a => match h.get? a with
    | some o => match o.data with
      | Data.seq vs _ => match vs[0]?, vs[1]? with
        | some (Value.str lo _), some (Value.str hi _) => !(x.cps.toList < lo.cps.toList) && !(hi.cps.toList < x.cps.toList)
        | _, _ => false
      | _ => false
    | none => false
  | _ => false
theorem pairFits_eq {h : Heap} {x : Str} {a : Addr} {lo hi : Str} {t1 t2 : Tok} (H : h.IsTuple a #[.str lo t1, .str hi t2]) : pairFits h x (.ref a) = (!(x.cps.toList < lo.cps.toList) && !(hi.cps.toList < x.cps.toList)) := by
  obtain ⟨o, ho, _, n, hd⟩ := H
  simp [pairFits, ho, hd]
theorem filter_fits {h : Heap} {x : Str} {rs : List (Str × Str)} {vs : List Value} (hn : vs.length = rs.length)
    (H : ∀ (i : Nat) (v : Value), vs[i]? = some v → ∃ (a : Addr) (r : Str × Str) (t1 t2 : Tok), v = Value.ref a ∧ rs[i]? = some r ∧ Heap.IsTuple h a #[.str r.1 t1, .str r.2 t2]) :
    ((vs.filter (pairFits h x)).length != 0) = fits rs x := by
  have e : vs.map (pairFits h x) = rs.map fun r => !(x.cps.toList < r.1.cps.toList) && !(r.2.cps.toList < x.cps.toList) := by
    refine List.ext_getElem? fun i => ?_
    rw [List.getElem?_map, List.getElem?_map]
    cases hv : vs[i]? with
    | none => rw [show rs[i]? = none from List.getElem?_eq_none (hn ▸ List.getElem?_eq_none_iff.mp hv)]; rfl
    | some v =>
      obtain ⟨a, r, t1, t2, rfl, hr, ht⟩ := H i v hv
      rw [hr]; simp only [Option.map_some]; rw [pairFits_eq ht]
  have e2 : fits rs x = vs.any (pairFits h x) := by
    have := congrArg (fun l => l.any id) e
    simp only [List.any_map] at this
    exact this.symm
  rw [e2]
  cases q : vs.any (pairFits h x) with
  | false =>
    have : vs.filter (pairFits h x) = [] := List.filter_eq_nil_iff.mpr fun v hv hp => by
      have : vs.any (pairFits h x) = true := List.any_eq_true.mpr ⟨v, hv, hp⟩
      rw [q] at this; cases this
    rw [this]; rfl
  | true =>
    obtain ⟨v, hv, hp⟩ := List.any_eq_true.mp q
    have : v ∈ vs.filter (pairFits h x) := List.mem_filter.mpr ⟨hv, hp⟩
    have : 0 < (vs.filter (pairFits h x)).length := List.length_pos_of_mem this
    simp; exact ⟨v, hv, hp⟩
theorem cnt_succ {xs : Str} {rr : List (List (Str × Str))} {n c : Nat} {rs : List (Str × Str)} (h1 : xs.cps[n]? = some c) (h2 : rr[n]? = some rs) : cnt xs rr (n + 1) = cnt xs rr n + (if fits rs ⟨#[c]⟩ then 1 else 0) := by
  unfold cnt
  rw [List.range_succ, List.filter_append, List.length_append]
  simp only [List.filter_cons, List.filter_nil, h1, h2]
  split <;> rfl
theorem cnt_le (xs : Str) (rr : List (List (Str × Str))) (n : Nat) : cnt xs rr n ≤ n := by
  unfold cnt
  exact Nat.le_trans (List.length_filter_le _ _) (by simp)
theorem offT {L T n : Nat} (h1 : L + 1 < T) (h2 : T < n) : ∀ q ∈ [L + 1, n + 4, n + 2, n + 3, n, n + 1], q ≠ T := by
  intro q hq
  simp only [List.mem_cons, List.not_mem_nil, or_false] at hq
  omega
theorem five {n a : Nat} (h : a < n) : a ∉ [n + 4, n + 2, n + 3, n, n + 1] := by simp; omega
theorem stands {w : World} {loose : List Str} {mean : ExcName → Option Value} {mg mb : Str → Option Value} {dp un : Nat} {fr : Option (List Env)} {gd : Option (List Code)} {s : Shared} {R : Result → Shared → Prop} {g : Heap} {l : Addr} {r1 r2 r3 : List (Str × Str)} {x : Str} {t tf : Tok} {first : Int}
    (G : Gr w loose mean mg mb g) (st : g.StaysIn s.heap) (hdp : dp + 2 < recursionLimit) (hun : un + 8 < cLine) (hi : ItemsAt s.heap l r1 r2 r3) (hx : x.length ≤ 17) (h0 : 0 ≤ first)
    (h : ∀ h' tk, s.heap.StaysIn h' → R (.ok (.ret (.bool (standsB r1 r2 r3 (Txt.slice x (some first) (some (first + 3))))))) { s with heap := h', toks := tk }) :
    codeAny (model prog w) (aro dp un fr gd) (.call (.ref 88) ⟨[.ref l, .str x t, .int first tf], []⟩) R s := by
  refine' enterC [("items", .ref l), ("text", .str x t), ("first", .int first tf)] G.X G.T st [] (fun _ q => nomatch q) ?ho ?hcd ?hroom ?hbind ?hloc ?hnd ?_ ?c1 ?c2 ?c3
  case ho => k_is
  case hcd => k_is
  case hroom => (show dp < _); omega
  case hbind => rfl
  case hloc => rfl
  case hnd => decide +kernel
  case c1 => rfl
  case c2 => rfl
  case c3 => rfl
  intro g' L h₁ tk cells eg X' T' F N Y l1
  obtain ⟨oc, rfl, hoc⟩ := CellsAre.one Y
  replace eg : g' = s.heap := eg
  subst eg
  replace hoc : oc.data = .cell none := hoc
  clear Y
  obtain ⟨a, b, c, hl, ha, hb, hc⟩ := hi
  (try dsimp only)
  iterate 8 (first | (k_unfold; (try dsimp only)) | walk1)
  refine wpAny_For ?_ (fun _ => rfl)
  iterate 25 (first | (k_unfold; (try dsimp only)) | walk1)
  rename Fr _ _ _ _ => F
  rename News _ _ _ _ => N
  refine call_zip_sl (hl.at fun o e => F.keep _ _ e) fun h2 oz oT oI oi2 oi1 Z st2 => ?_
  refine wpAny_pyIter_zip (Z.g4.trans (congrArg some Z.e4)) ?_
  rename_i T _ lT _ _ _ h3 tt k3 _
  have hCT : L + 1 < T := lT (L + 1, oc) (by simp)
  have hTn : T < h3.objs.size := Heap.lt_size (N.get (.head _))
  have hln : l < h3.objs.size := by obtain ⟨o, ho, _⟩ := hl; exact Heap.lt_size (F.keep _ _ ho)
  have hgn : ∀ k, s.heap.get? (h3.objs.size + k) = none := fun k => Heap.get?_none_of_le (Nat.le_trans F.above (Nat.le_trans (Nat.le_of_lt (Nat.lt_of_succ_lt (Nat.lt_trans hCT hTn))) (Nat.le_add_right _ _)))
  have F2 := frKeep F st2
  have N2 := newsKeep N st2
  refine forLoop_zsl2 (h₀ := s.heap) rfl (zApart hln) hl rfl rfl rfl rfl rfl ?_ ?_ ?_ ?_ ?_ (zipSt_zst Z (hl.at fun o e => F2.keep _ _ e)) F2 (rest := [(T, W.listOf #[] 0)]) (newsSub N2 fun p hp => by simp at hp ⊢; rcases hp with rfl | rfl <;> simp) hoc
    (fun i rest => ∃ vs k, rest = [(T, W.listOf vs k)] ∧ vs.size = cnt (Txt.slice x (some first) (some (first + 3))) [r1, r2, r3] i) ⟨#[], 0, rfl, rfl⟩ ?_ ?_
  · exact five (Nat.lt_trans (Nat.lt_succ_self _) (Nat.lt_trans hCT hTn))
  · intro b hb
    simp only [List.mem_cons, List.not_mem_nil, or_false] at hb
    rcases hb with rfl | rfl | rfl | rfl | rfl
    · exact hgn 4
    · exact hgn 2
    · exact hgn 3
    · exact hgn 0
    · exact hgn 1
  · exact five (Nat.lt_trans hCT hTn)
  · intro p hp
    rw [List.mem_singleton.mp hp]
    exact five hTn
  · intro p hp
    rw [List.mem_singleton.mp hp]
    exact Nat.ne_of_gt hCT
  · clear Z st2
    repeat (rename Fr _ _ _ _ => Fx; clear Fx)
    repeat (rename News _ _ _ _ => Nx; clear Nx)
    intro i cc u y oz oTI oTO o1 o2 oc' rest₁ hp tk hlt hcc hy hJ haa F N hd
    obtain ⟨vs, k, rfl, hvs⟩ := hJ
    replace N : News s.heap L hp [(L + 1, oc'), (T, W.listOf vs k), (h3.objs.size + 4, oz), (h3.objs.size + 2, oTI), (h3.objs.size + 3, oTO), (h3.objs.size, o1), (h3.objs.size + 1, o2)] := N
    replace F : Fr s.heap L hp _ := F
    have hra : ∃ ra rs, y = .ref ra ∧ RangesAt s.heap ra rs ∧ [r1, r2, r3][i]? = some rs := by
      match i, hy with
      | 0, hy => simp at hy; exact ⟨a, r1, hy.symm, ha, rfl⟩
      | 1, hy => simp at hy; exact ⟨b, r2, hy.symm, hb, rfl⟩
      | 2, hy => simp at hy; exact ⟨c, r3, hy.symm, hc, rfl⟩
    obtain ⟨ra, rs, rfl, ⟨hrs30, vv, hvv, hvn, hvp⟩, hrs⟩ := hra
    iterate 3 (first | (k_unfold; (try dsimp only)) | walk1)
    refine wpAny_ListComp_free (pairFits s.heap ⟨#[cc]⟩) (fun _ _ => True) (cl := [("sign", L + 1)]) rfl (by decide) rfl (by decide) rfl ?_ (fun _ => rfl)
    iterate 1 (first | (k_unfold; (try dsimp only)) | walk1)
    refine wpAny_pyIter_list (hvv.at fun o e => F.keep _ _ e) ?_
    have hrl : ra < hp.objs.size := by obtain ⟨o, ho, _⟩ := hvv; exact Heap.lt_size (F.keep _ _ ho)
    have kp : ∀ {h' : Heap}, (∀ b o, b ∉ [hp.objs.size] → (hp.push { cls := .type "list_iterator", data := .fields #[.ref ra, .int 0 0] }).get? b = some o → h'.get? b = some o) → hp.StaysIn h' := fun k b o e =>
      k b o (fun q => by rw [List.mem_singleton.mp q] at e; exact Nat.lt_irrefl _ (Heap.lt_size e)) (Heap.get?_push_of_some _ e)
    have hLp : L < hp.objs.size := F.ns.lt
    have Nc : News s.heap L hp [(L + 1, oc')] := newsSub N fun p hp => by simp at hp ⊢; simp [hp]
    have hvn : vv.toArray.size = rs.length := by simpa using hvn
    refine ⟨hp.objs.size, _, _, _, _, _, rfl, Walks.list rfl hp.objs.size ra (Nat.ne_of_lt hrl) vv.toArray, ?_, ?_, ?_, ⟨?_, ?_⟩, ?_⟩
    · rw [hvn, sizeLine_eq]; omega
    · exact ⟨⟨_, Heap.get?_push_size _ rfl, rfl, rfl⟩, Heap.IsList.push (hvv.at fun o e => F.keep _ _ e) _⟩
    · intro b hb
      have e1 : (hp.push { cls := .type "list_iterator", data := .fields #[.ref ra, .int 0 0] }).objs.size = hp.objs.size + 1 := Heap.size_push ..
      show b < (hp.push _).objs.size
      rw [e1]
      simp only [List.mem_cons, List.not_mem_nil, or_false] at hb
      rcases hb with rfl | rfl
      · exact Nat.lt_succ_self _
      · exact Nat.lt_succ_of_lt hrl
    · intro C j v s₃ m₃ E' hC hP hns hm hk htk
      have F3 : Fr s.heap L s₃.heap _ := frKeep F (kp hk)
      have N3 : News s.heap L s₃.heap [(L + 1, oc')] := newsKeep Nc (kp hk)
      clear N F Nc
      obtain ⟨er, r, t1, t2, rfl, hrr, hti⟩ := hvp j v (by simpa using hP)
      have hC1 : hp.objs.size < C := Nat.lt_of_lt_of_le (Nat.lt_succ_self _) (Nat.le_trans (Nat.le_of_eq (Heap.size_push ..).symm) hC)
      have hLC : L < C := Nat.lt_trans hLp hC1
      obtain ⟨oC, es, ep, hoC, hoD⟩ := hns
      have hoN : LCg.NsObj oC m₃ := ⟨es, ep, hoD⟩
      have N4 : News s.heap L s₃.heap [(C, oC), (L + 1, oc')] := fun p hp => by
        rcases List.mem_cons.mp hp with rfl | hp
        · exact ⟨hoC, Nat.ne_of_gt hLC, Heap.get?_none_of_le (Nat.le_trans F3.above (Nat.le_of_lt hLC))⟩
        · exact N3 p hp
      clear N3
      simp only [List.forIn_cons, List.forIn_nil, if_true]
      refine wpAny_bind (wpAny_bind ?_)
      iterate 8 (first | (k_unfold; (try dsimp only)) | walk1)
      refine wpAny_truthy_bool ?_
      by_cases q1 : (({ cps := #[cc] } : Str).cps.toList < r.1.cps.toList)
      · rw [if_neg (by simp [q1])]
        refine wpAny_pure (wpAny_pure ⟨?_, _, _, rfl, fun _ _ e => e⟩)
        rw [pairFits_eq hti]
        simp [q1]
      · rw [if_pos (by simp [q1])]
        iterate 7 (first | (k_unfold; (try dsimp only)) | walk1)
        refine wpAny_pure (wpAny_pure ⟨?_, _, _, rfl, fun _ _ e => e⟩)
        rw [pairFits_eq hti]
        simp [q1]
    · intro C j v s₃ m₃ E' hC hP hpv hns hm hk htk
      exact wpAny_Name (wpAny_loadName_local rfl rfl hns hm ⟨trivial, _, _, rfl, fun _ _ e => e⟩)
    · intro Dl h4 tk4 ys us hD hys _ hul hup hpr hk
      have hyl : (ys.size != 0) = fits rs ⟨#[cc]⟩ := by
        have e1 : us = vv := by
          refine List.ext_getElem? fun j => ?_
          cases hj : us[j]? with
          | some u => have := hup j u hj; simpa using this.symm
          | none => exact (List.getElem?_eq_none (by have := List.getElem?_eq_none_iff.mp hj; rw [hul] at this; simpa using this)).symm
        have e2 := hpr.length
        rw [e1] at e2
        rw [← filter_fits (h := s.heap) (x := ⟨#[cc]⟩) (by simpa using hvn) hvp, e2]
        simp
      obtain ⟨oD, hoD, hoD2⟩ := hys
      have hDn : hp.get? Dl = none := by
        cases q : hp.get? Dl with
        | none => rfl
        | some o => rw [show (hp.push _).get? Dl = some o from Heap.get?_push_of_some _ q] at hD; cases hD
      have F3 := frKeep F (kp hk)
      have N3 := newsAdd F (newsKeep N (kp hk)) hoD hDn
      clear F N Nc hk
      (try dsimp only)
      iterate 3 (first | (k_unfold; (try dsimp only)) | walk1)
      rename Fr _ _ _ _ => F
      rename News _ _ _ _ => N
      refine ne_nil ⟨oD, N.get (by simp), hoD2⟩ ⟨_, N.get (.head _), rfl, _, rfl⟩ (by show un + 3 < _; omega) ?_
      rw [hyl]
      refine wpAny_truthy_bool ?_
      have hcs := cnt_succ hcc hrs
      cases q : fits rs ⟨#[cc]⟩ with
      | true =>
        rw [if_pos rfl]
        rw [q, if_pos rfl] at hcs
        iterate 10 (first | (k_unfold; (try dsimp only)) | walk1)
        replace N := newsSub N (a := [(T, W.listOf vs k), (L + 1, oc'), (h3.objs.size + 4, oz), (h3.objs.size + 2, oTI), (h3.objs.size + 3, oTO), (h3.objs.size, o1), (h3.objs.size + 1, o2)]) (fun p hp => by
          simp only [List.mem_cons, List.not_mem_nil, or_false] at hp ⊢; rcases hp with rfl | rfl | rfl | rfl | rfl | rfl | rfl <;> simp)
        refine append_K F N (.head fun p hp => offT hCT hTn p.1 ?_) (fun h' F' N' => ?_) ?_
        · simp only [List.mem_cons, List.not_mem_nil, or_false] at hp ⊢; rcases hp with rfl | rfl | rfl | rfl | rfl | rfl <;> simp
        · clear F N
          iterate 3 (first | (k_unfold; (try dsimp only)) | walk1)
          refine ⟨.inl rfl, _, _, _, oc', _, [(T, W.listOf (vs.push (.str ⟨#[cc]⟩ u)) (k + 1))], rfl, F', newsSub N' (fun p hp => ?_), hd, rfl, ⟨_, rfl⟩, vs.push (.str ⟨#[cc]⟩ u), k + 1, rfl, ?_⟩
          · simp only [List.cons_append, List.nil_append, List.mem_cons, List.not_mem_nil, or_false] at hp ⊢; rcases hp with rfl | rfl | rfl | rfl | rfl | rfl | rfl <;> simp
          · rw [Array.size_push, hvs]; exact hcs.symm
        · have h1 := cnt_le (Txt.slice x (some first) (some (first + 3))) [r1, r2, r3] i
          have h2 : i < 3 := Nat.lt_of_lt_of_le hlt (Nat.min_le_right ..)
          rw [sizeLine_eq, hvs]
          exact Nat.le_trans h1 (by omega)
      | false =>
        rw [if_neg (by simp)]
        rw [q, if_neg (by simp)] at hcs
        iterate 1 (first | (k_unfold; (try dsimp only)) | walk1)
        (try dsimp only)
        iterate 2 (first | (k_unfold; (try dsimp only)) | walk1)
        refine ⟨.inl rfl, _, _, _, oc', _, [(T, W.listOf vs k)], rfl, F, newsSub N (fun p hp => ?_), hd, rfl, ⟨_, rfl⟩, vs, k, rfl, ?_⟩
        · simp only [List.cons_append, List.nil_append, List.mem_cons, List.not_mem_nil, or_false] at hp ⊢; rcases hp with rfl | rfl | rfl | rfl | rfl | rfl | rfl <;> simp
        · rw [hvs]; exact hcs.symm
  · clear Z st2
    repeat (rename Fr _ _ _ _ => Fx; clear Fx)
    repeat (rename News _ _ _ _ => Nx; clear Nx)
    intro hp tk v oc' vc' rest' F N hd haa hJ
    obtain ⟨vs, k, rfl, hvs⟩ := hJ
    replace N : News s.heap L hp [(L + 1, oc'), (T, W.listOf vs k)] := N
    replace F : Fr s.heap L hp _ := F
    (try dsimp only)
    have hv3 : vs.size ≤ 3 := by rw [hvs]; exact Nat.le_trans (cnt_le ..) (Nat.min_le_right ..)
    iterate 9 (first | (k_unfold; (try dsimp only)) | walk1)
    refine len_list (items := vs) ⟨W.listOf vs k, N.get (.tail _ (.head _)), rfl, _, rfl⟩ (by omega) ?_
    iterate 8 (first | (k_unfold; (try dsimp only)) | walk1)
    rename Fr _ _ _ _ => F
    have e : ((vs.size : Int) == ((#[Value.ref a, Value.ref b, Value.ref c].size : Nat) : Int)) = standsB r1 r2 r3 (Txt.slice x (some first) (some (first + 3))) := by
      rw [hvs]
      unfold standsB
      show ((_ : Int) == 3) = ((_ : Nat) == 3)
      rw [Bool.eq_iff_iff]
      simp only [beq_iff_eq]
      exact ⟨fun q => Int.ofNat_inj.mp q, fun q => Int.ofNat_inj.mpr q⟩
    rw [e]
    exact h _ _ F.keep
end
/- PlainA -/
section
section
variable (hx : Nat → Bool) (U : List Nat → List Nat)
/-- an escape: a % and two hexadecimal figures -/
def esc : List Nat → Bool
  | [a, b, c] => a == 37 && (hx b && hx c)
  | _ => false
def capL : List Nat → List Nat
  | [] => []
  | a :: l => if esc hx (a :: l.take 2) then 37 :: (U (l.take 2) ++ capL (l.drop 2)) else a :: capL l
termination_by l => l.length
decreasing_by all_goals (simp [List.length_drop]; try omega)
def dueL (p : List Nat) : List Nat := if esc hx (37 :: p.take 2) then U (p.take 2) ++ p.drop 2 else p
variable {hx U}
theorem esc_iff {l : List Nat} : esc hx l = true ↔ ∃ b c, l = [37, b, c] ∧ hx b = true ∧ hx c = true := by
  unfold esc
  split
  · rename_i a b c
    simp only [Bool.and_eq_true, beq_iff_eq]
    constructor
    · rintro ⟨rfl, h1, h2⟩; exact ⟨b, c, rfl, h1, h2⟩
    · rintro ⟨b', c', h, h1, h2⟩; cases h; exact ⟨rfl, h1, h2⟩
  · rename_i h
    constructor
    · intro q; cases q
    · rintro ⟨b, c, rfl, _⟩; exact absurd rfl (h 37 b c)
theorem capL_free : ∀ (p l : List Nat), 37 ∉ p → capL hx U (p ++ l) = p ++ capL hx U l
  | [], _, _ => rfl
  | a :: p, l, h => by
    have ha : a ≠ 37 := fun q => h (by simp [q])
    have hp : 37 ∉ p := fun q => h (by simp [q])
    have he : esc hx (a :: (p ++ l).take 2) = false := by
      rw [Bool.eq_false_iff, Ne, esc_iff]
      rintro ⟨b, c, q, _⟩
      exact ha (List.cons.inj q).1
    show capL hx U (a :: (p ++ l)) = _
    rw [capL, he, if_neg (by simp), capL_free p l hp]; rfl
/-- a list that is empty or begins with a % -/
def PctHead (l : List Nat) : Prop := l = [] ∨ ∃ r, l = 37 :: r
theorem capL_piece (h37 : hx 37 = false) (p l : List Nat) (hp : 37 ∉ p) (hl : PctHead l) : capL hx U (37 :: (p ++ l)) = 37 :: (dueL hx U p ++ capL hx U l) := by
  match p, hp with
  | [], _ =>
    have he : esc hx (37 :: l.take 2) = false := by
      rw [Bool.eq_false_iff, Ne, esc_iff]
      rintro ⟨b, c, q, h1, _⟩
      rcases hl with rfl | ⟨r, rfl⟩
      · cases q
      · simp only [List.take_succ_cons, List.cons.injEq, true_and] at q
        rw [← q.1, h37] at h1; cases h1
    show capL hx U (37 :: l) = 37 :: (dueL hx U [] ++ capL hx U l)
    rw [capL, he, if_neg (by simp)]; rfl
  | [a], _ =>
    have he : esc hx (37 :: ([a] ++ l).take 2) = false := by
      rw [Bool.eq_false_iff, Ne, esc_iff]
      rintro ⟨b, c, q, _, h2⟩
      rcases hl with rfl | ⟨r, rfl⟩
      · cases q
      · simp only [List.cons_append, List.nil_append, List.take_succ_cons, List.take_zero, List.cons.injEq, true_and] at q
        rw [← q.2.1, h37] at h2; cases h2
    rw [capL, he, if_neg (by simp)]
    have ha : 37 ∉ [a] := by assumption
    rw [capL_free [a] l ha]; rfl
  | a :: b :: p, hp =>
    have e : (a :: b :: p ++ l).take 2 = [a, b] := rfl
    have e2 : (a :: b :: p ++ l).drop 2 = p ++ l := rfl
    have hp2 : 37 ∉ p := fun q => hp (by simp [q])
    unfold dueL
    rw [capL, e, e2, show (a :: b :: p).take 2 = [a, b] from rfl, show (a :: b :: p).drop 2 = p from rfl]
    by_cases he : esc hx [37, a, b] = true
    · rw [if_pos he, if_pos he, capL_free p l hp2, List.append_assoc]
    · rw [if_neg he, if_neg he, capL_free (a :: b :: p) l hp]
/-- the pieces laid behind one another, a % before each -/
def lay : List (List Nat) → List Nat
  | [] => []
  | p :: r => 37 :: (p ++ lay r)
theorem lay_head (r : List (List Nat)) : PctHead (lay r) := by cases r with
  | nil => exact .inl rfl
  | cons p r => exact .inr ⟨_, rfl⟩
theorem capL_lay (h37 : hx 37 = false) : ∀ r : List (List Nat), (∀ p ∈ r, 37 ∉ p) → capL hx U (lay r) = lay (r.map (dueL hx U))
  | [], _ => by rw [lay, capL]; rfl
  | p :: r, h => by
    rw [lay, capL_piece h37 p _ (h p (.head _)) (lay_head r), capL_lay h37 r fun q hq => h q (.tail _ hq)]; rfl

/-- what is left: the same step as leftStep -/
def stepL (hx : Nat → Bool) (st : List Nat) (c : Nat) : List Nat :=
  if esc hx ((st ++ [c]).drop ((st ++ [c]).length - 3)) then (st ++ [c]).take ((st ++ [c]).length - 3) else st ++ [c]
theorem step_no {st : List Nat} {c : Nat} (h : hx c = false) : stepL hx st c = st ++ [c] := by
  unfold stepL
  rw [if_neg]
  rw [esc_iff]
  rintro ⟨a, b, e, _, hb⟩
  have h1 := congrArg List.getLast? e
  have h2 : ((st ++ [c]).drop ((st ++ [c]).length - 3)).getLast? = some c := by
    rw [List.getLast?_drop, if_neg (by simp; omega)]; simp
  rw [h2] at h1
  have h3 : c = b := by simpa using h1
  rw [← h3, h] at hb; cases hb
theorem step_mid (h37 : hx 37 = false) {st : List Nat} {a : Nat} : stepL hx (st ++ [37]) a = st ++ [37] ++ [a] := by
  unfold stepL
  rw [if_neg]
  rw [esc_iff]
  rintro ⟨p, b, e, hp, _⟩
  have hl := congrArg List.length e
  simp only [List.length_drop, List.length_append, List.length_cons, List.length_nil] at hl
  have h1 := congrArg (fun l => l[1]?) e
  simp only [List.getElem?_drop, List.length_append, List.length_cons, List.length_nil] at h1
  rw [List.getElem?_append_left (by simp; omega), List.getElem?_append_right (by omega)] at h1
  rw [show st.length + (0 + 1) + (0 + 1) - 3 + 1 - st.length = 0 by omega] at h1
  have h3 : 37 = p := by simpa using h1
  rw [← h3, h37] at hp; cases hp
theorem step_esc {st : List Nat} {a b : Nat} (ha : hx a = true) (hb : hx b = true) : stepL hx (st ++ [37] ++ [a]) b = st := by
  have e : st ++ [37] ++ [a] ++ [b] = st ++ [37, a, b] := by simp
  unfold stepL
  rw [e, show (st ++ [37, a, b]).length - 3 = st.length by simp, List.drop_left, List.take_left, if_pos]
  exact esc_iff.mpr ⟨a, b, rfl, ha, hb⟩
theorem fold_esc (h37 : hx 37 = false) {st : List Nat} {a b : Nat} (ha : hx a = true) (hb : hx b = true) : [37, a, b].foldl (stepL hx) st = st := by
  simp only [List.foldl_cons, List.foldl_nil]
  rw [step_no h37, step_mid h37, step_esc ha hb]
theorem fold_none : ∀ (l st : List Nat), (∀ i, esc hx (((st ++ l).drop i).take 3) = false) → l.foldl (stepL hx) st = st ++ l
  | [], st, _ => by simp
  | c :: l, st, h => by
    have e : st ++ c :: l = st ++ [c] ++ l := by simp
    have h1 : stepL hx st c = st ++ [c] := by
      unfold stepL
      rw [if_neg]
      intro q
      have hlen : ((st ++ [c]).drop ((st ++ [c]).length - 3)).length = 3 := by
        obtain ⟨a, b, q2, _⟩ := esc_iff.mp q; rw [q2]; rfl
      have hh := h ((st ++ [c]).length - 3)
      rw [e, List.drop_append_of_le_length (by omega)] at hh
      have : ((List.drop ((st ++ [c]).length - 3) (st ++ [c])) ++ l).take 3 = (st ++ [c]).drop ((st ++ [c]).length - 3) := by
        rw [List.take_append_of_le_length (by omega), List.take_of_length_le (by omega)]
      rw [this, q] at hh; cases hh
    rw [List.foldl_cons, h1, fold_none l (st ++ [c]) (by rw [← e]; exact h), e]
theorem fold_cut (h37 : hx 37 = false) {l : List Nat} {i : Nat} (h : esc hx ((l.drop i).take 3) = true) : (l.take i ++ l.drop (i + 3)).foldl (stepL hx) [] = l.foldl (stepL hx) [] := by
  obtain ⟨a, b, e, ha, hb⟩ := esc_iff.mp h
  have e2 : l = l.take i ++ ([37, a, b] ++ l.drop (i + 3)) := by
    rw [← e, show l.drop (i + 3) = (l.drop i).drop 3 by rw [List.drop_drop], List.take_append_drop, List.take_append_drop]
  conv => rhs; rw [e2]
  rw [List.foldl_append, List.foldl_append, List.foldl_append, fold_esc h37 ha hb]
end
end
/- Left -/
section
theorem beginLeft : True := by
  w_top off
  trivial
def leftStep (st : List Nat) (c : Nat) : List Nat :=
  match (st ++ [c]).drop ((st ++ [c]).length - 3) with
  | [p, a, b] => if p = 37 ∧ (inFigs ⟨#[a]⟩ && inFigs ⟨#[b]⟩) = true then (st ++ [c]).take ((st ++ [c]).length - 3) else st ++ [c]
  | _ => st ++ [c]
def CharsAre (vs : Array Value) (st : List Nat) : Prop := vs.size = st.length ∧ ∀ (i c : Nat), st[i]? = some c → ∃ t, vs[i]? = some (.str ⟨#[c]⟩ t)
theorem charsPush {vs : Array Value} {st : List Nat} {c : Nat} {u : Tok} (h : CharsAre vs st) : CharsAre (vs.push (.str ⟨#[c]⟩ u)) (st ++ [c]) := by
  refine ⟨by rw [Array.size_push, List.length_append, h.1]; rfl, fun i d q => ?_⟩
  by_cases hi : i < st.length
  · rw [List.getElem?_append_left hi] at q
    obtain ⟨t, ht⟩ := h.2 i d q
    refine ⟨t, ?_⟩
    rw [Array.getElem?_push, if_neg (by rw [h.1]; omega)]; exact ht
  · have hi2 : i = st.length := by
      have := (List.getElem?_eq_some_iff.mp q).1
      rw [List.length_append] at this; simp at this; omega
    subst hi2
    rw [List.getElem?_append_right (Nat.le_refl _), Nat.sub_self] at q
    cases q
    exact ⟨u, by rw [Array.getElem?_push, if_pos h.1.symm]⟩
theorem leftStep_short {st st' : List Nat} {c : Nat} (h : st ++ [c] = st') (hl : st'.length < 3) : leftStep st c = st' := by
  unfold leftStep
  rw [h, show st'.length - 3 = 0 by omega, List.drop_zero]
  match st', hl with
  | [], _ => rfl
  | [_], _ => rfl
  | [_, _], _ => rfl
  | _ :: _ :: _ :: _, hl => simp at hl; omega
theorem leftStep_long {st st' pre : List Nat} {c p a b : Nat} (h : st ++ [c] = st') (h2 : st' = pre ++ [p, a, b]) :
    leftStep st c = if p = 37 ∧ (inFigs ⟨#[a]⟩ && inFigs ⟨#[b]⟩) = true then pre else st' := by
  unfold leftStep
  rw [h, h2, show (pre ++ [p, a, b]).length - 3 = pre.length by simp, List.drop_left, List.take_left]
theorem drop3 {α : Type} {l : List α} {n : Nat} {v0 v1 v2 : α} (hn : l.length = n + 3) (h0 : l[n]? = some v0) (h1 : l[n + 1]? = some v1) (h2 : l[n + 2]? = some v2) : l.drop n = [v0, v1, v2] := by
  obtain ⟨_, e0⟩ := List.getElem?_eq_some_iff.mp h0
  obtain ⟨_, e1⟩ := List.getElem?_eq_some_iff.mp h1
  obtain ⟨_, e2⟩ := List.getElem?_eq_some_iff.mp h2
  rw [List.drop_eq_getElem_cons (by omega), List.drop_eq_getElem_cons (by omega), List.drop_eq_getElem_cons (by omega), List.drop_of_length_le (by omega), e0, e1, e2]
theorem ends3 {st' : List Nat} (h : 3 ≤ st'.length) : ∃ pre p a b, st' = pre ++ [p, a, b] := by
  refine ⟨st'.take (st'.length - 3), st'[st'.length - 3], st'[st'.length - 3 + 1], st'[st'.length - 3 + 2], ?_⟩
  have := drop3 (l := st') (n := st'.length - 3) (by omega) (List.getElem?_eq_getElem (by omega)) (List.getElem?_eq_getElem (by omega)) (List.getElem?_eq_getElem (by omega))
  rw [← this, List.take_append_drop]
theorem frOne {g h : Heap} {L : Addr} {a : Str} {v u : Option Value} {M : Str → Option Value} (F : Fr g L h (fun q => if q = a then v else if q = a then u else M q)) : Fr g L h (fun q => if q = a then v else M q) := by
  have e : (fun q => if q = a then v else M q) = fun q => if q = a then v else if q = a then u else M q := funext fun q => by by_cases h : q = a <;> simp [h]
  rw [e]; exact F
theorem frRow {g h : Heap} {L : Addr} {a b : Str} {va vb ua ub : Option Value} {M : Str → Option Value} (F : Fr g L h (fun q => if q = b then vb else if q = a then va else if q = a then ua else if q = b then ub else M q)) (hn : a ≠ b) :
    Fr g L h (fun q => if q = a then va else if q = b then vb else M q) := by
  have e : (fun q => if q = a then va else if q = b then vb else M q) = fun q => if q = b then vb else if q = a then va else if q = a then ua else if q = b then ub else M q := funext fun q => by
    by_cases q1 : q = a
    · subst q1; simp [hn]
    · by_cases q2 : q = b
      · subst q2; simp [Ne.symm hn]
      · simp [q1, q2]
  rw [e]; exact F
theorem charsStrs {vs : Array Value} {st : List Nat} (h : CharsAre vs st) : StrsAre vs.toList (st.map fun c => ⟨#[c]⟩) := by
  have key : ∀ (st : List Nat) (l : List Value), l.length = st.length → (∀ (i c : Nat), st[i]? = some c → ∃ t, l[i]? = some (.str ⟨#[c]⟩ t)) → StrsAre l (st.map fun c => ⟨#[c]⟩) := by
    intro st
    induction st with
    | nil => intro l hl _; rw [List.eq_nil_of_length_eq_zero hl]; exact .nil
    | cons c st ih =>
      intro l hl he
      match l, hl with
      | v :: l, hl =>
        obtain ⟨t, ht⟩ := he 0 c rfl
        have : v = .str ⟨#[c]⟩ t := by simpa using ht
        rw [this]
        exact .cons _ _ (ih l (by simpa using hl) fun i d q => by have := he (i + 1) d (by simpa using q); simpa using this)
  exact key st vs.toList (by simpa using h.1) fun i c q => by obtain ⟨t, ht⟩ := h.2 i c q; exact ⟨t, by simpa using ht⟩
inductive LeftJ (x : Str) (t : Tok) (i : Nat) (m : Str → Option Value) (news : List (Addr × Obj)) : Prop
  | mk (T : Addr) (vs : Array Value) (k : Nat) (vsg : Option Value) (h1 : news = [(T, W.listOf vs k)]) (h2 : m = (fun q => if q = Str.ofString "sign" then vsg else if q = Str.ofString "row" then some (.ref T) else ([(Str.ofString "text", Value.str x t)] : List (Str × Value)).reverse.lookup q))
    (h3 : CharsAre vs ((x.cps.toList.take i).foldl leftStep [])) (h4 : vs.size ≤ i) : LeftJ x t i m news
theorem left {w : World} {loose : List Str} {mean : ExcName → Option Value} {mg mb : Str → Option Value} {dp un : Nat} {fr : Option (List Env)} {gd : Option (List Code)} {s : Shared} {R : Result → Shared → Prop} {g : Heap} {x : Str} {t : Tok}
    (G : Gr w loose mean mg mb g) (st : g.StaysIn s.heap) (hdp : dp + 10 < recursionLimit) (hun : un + 40 < cLine) (hx : x.length ≤ 17)
    (h : ∀ h' tk tr, s.heap.StaysIn h' → R (.ok (.ret (.str (Txt.join (Str.ofString "") ((x.cps.toList.foldl leftStep []).map fun c => ⟨#[c]⟩)) tr))) { s with heap := h', toks := tk }) :
    codeAny (model prog w) (aro dp un fr gd) (.call (.ref 126) ⟨[.str x t], []⟩) R s := by
  refine' enter [("text", .str x t)] G.X G.T st [] (fun _ q => nomatch q) ?ho ?hcd ?hroom ?hbind ?hloc ?_ ?c1 ?c2 ?c3 ?c4
  case ho => k_is
  case hcd => k_is
  case hroom => (show dp < _); omega
  case hbind => rfl
  case hloc => exact locs rfl
  case c1 => rfl
  case c2 => rfl
  case c3 => rfl
  case c4 => decide
  intro g' L h₁ eg X' T' F N l1
  replace eg : g' = s.heap := eg
  subst eg
  (try dsimp only)
  iterate 8 (first | (k_unfold; (try dsimp only)) | walk1)
  refine wpAny_For ?_ (fun _ => rfl)
  iterate 1 (first | (k_unfold; (try dsimp only)) | walk1)
  rename Fr _ _ _ _ => F
  rename News _ _ _ _ => N
  refine strN F N fun I oI h2 F2 N2 ho hI st2 hlI => ?_
  have hxs : x.cps.size ≤ 17 := hx
  clear F N
  refine forLoop_str rfl rfl rfl F2 N2 ho hI (LeftJ x t) ⟨_, _, _, none, rfl, ?_, ⟨rfl, fun i c q => by simp at q⟩, Nat.le_refl _⟩ ?_ ?_
  · funext q
    by_cases q1 : q = Str.ofString "sign"
    · rw [q1]; rfl
    · rw [if_neg q1]
  · clear F2 N2
    rintro i v oI2 m₁ news₁ h3 tk3 hi ⟨cc, u, hcc, rfl⟩ ⟨T, vs, k, vsg, rfl, rfl, hch, hvi⟩ hI2 hoI F N
    replace F : Fr s.heap L h3 _ := F
    replace N : News s.heap L h3 [(I, oI2), (T, W.listOf vs k)] := N
    have hTI : T ≠ I := hI2 (T, W.listOf vs k) (.head _)
    iterate 9 (first | (k_unfold; (try dsimp only)) | walk1)
    refine append_K F (newsSub N (a := [(T, W.listOf vs k), (I, oI2)]) fun p hp => by
      simp only [List.mem_cons, List.not_mem_nil, or_false] at hp ⊢; rcases hp with rfl | rfl <;> simp) (.head fun p hp => by
      rw [List.mem_singleton.mp hp]; exact hTI.symm) (fun h4 F4 N4 => ?_) (by rw [sizeLine_eq]; omega)
    clear F N
    (try dsimp only)
    iterate 4 (first | (k_unfold; (try dsimp only)) | walk1)
    refine wpAny_Subscript_list_slice ?_ (fun _ _ => rfl)
    iterate 9 (first | (k_unfold; (try dsimp only)) | walk1)
    refine ⟨T, vs.push (.str ⟨#[cc]⟩ u), some (-3), some (-2), rfl, ⟨_, (N4 _ (.head _)).1, rfl, _, rfl⟩, by rw [sizeLine_eq, Array.size_push]; omega, .int _ _, .int _ _, ?_⟩
    have hP := pushTwo F4 N4 { cls := .type "slice", data := .fields #[.int (-3) (tk3 + 1), .int (-2) (tk3 + 3), .none] } (slicePick (vs.push (.str ⟨#[cc]⟩ u)) (some (-3)) (some (-2)) none)
    (try dsimp only)
    generalize ((h4.push _).push _) = h5 at hP ⊢
    generalize h4.objs.size + 1 = D at hP ⊢
    obtain ⟨F5, N5, hD⟩ := hP
    have hch2 : CharsAre (vs.push (.str ⟨#[cc]⟩ u)) ((x.cps.toList.take i).foldl leftStep [] ++ [cc]) := charsPush hch
    have hnx : (x.cps.toList.take (i + 1)).foldl leftStep [] = leftStep ((x.cps.toList.take i).foldl leftStep []) cc := by
      rw [List.take_add_one, show x.cps.toList[i]? = some cc by simpa using hcc, List.foldl_append]; rfl
    rw [pick_mid] at N5
    clear F4 N4
    iterate 5 (first | (k_unfold; (try dsimp only)) | walk1)
    rename Fr _ _ _ _ => F
    rename News _ _ _ _ => N
    generalize hvs' : vs.push (.str ⟨#[cc]⟩ u) = vs' at N hch2
    generalize hst' : (x.cps.toList.take i).foldl leftStep [] ++ [cc] = st' at hch2
    have hvs'i : vs'.size ≤ i + 1 := by rw [← hvs', Array.size_push]; omega
    have hTm : ∀ {a b o1 : _}, (T, W.listOf vs' (k + 1)) ∈ (a :: (D, o1) :: (T, W.listOf vs' (k + 1)) :: b : List (Addr × Obj)) := by intros; simp
    by_cases h3 : vs'.size < 3
    · rw [if_pos h3] at N
      refine eq_lens (items := #[]) (items2 := #[.str (Str.ofString "%") _]) ⟨_, N.get (.tail _ (.head _)), rfl, _, rfl⟩ ⟨_, N.get (.head _), rfl, _, rfl⟩ (by show un + 3 < _; omega) (show (0 : Nat) ≠ 1 by decide) ?_
      refine wpAny_truthy_bool ?_
      rw [if_neg (by decide)]
      iterate 1 (first | (k_unfold; (try dsimp only)) | walk1)
      refine wpAny_execs_nil ?_
      (try dsimp only)
      refine wpAny_execs_nil ?_
      (try dsimp only)
      refine ⟨_, _, _, [(T, W.listOf vs' (k + 1))], rfl, frOne F, newsSub N fun p hp => ?_, fun p hp => by rw [List.mem_singleton.mp hp]; exact hTI, T, vs', k + 1, _, rfl, rfl, ?_, hvs'i⟩
      · simp only [List.mem_cons, List.not_mem_nil, or_false] at hp ⊢; rcases hp with rfl | rfl <;> simp
      · rw [hnx, leftStep_short hst' (by rw [← hch2.1]; omega)]; exact hch2
    · rw [if_neg h3] at N
      obtain ⟨pre, p, a, b, hpre⟩ := ends3 (st' := st') (by rw [← hch2.1]; omega)
      have hlen : st'.length = pre.length + 3 := by rw [hpre]; simp
      have hsz : vs'.size = pre.length + 3 := by rw [hch2.1, hlen]
      obtain ⟨t0, hv0⟩ := hch2.2 pre.length p (by rw [hpre]; simp)
      obtain ⟨t1, hv1⟩ := hch2.2 (pre.length + 1) a (by rw [hpre]; simp)
      obtain ⟨t2, hv2⟩ := hch2.2 (pre.length + 2) b (by rw [hpre]; simp)
      have hd3 : vs'.toList.drop pre.length = [.str ⟨#[p]⟩ t0, .str ⟨#[a]⟩ t1, .str ⟨#[b]⟩ t2] := drop3 (by simpa using hsz) (by simpa using hv0) (by simpa using hv1) (by simpa using hv2)
      have hd2 : vs'.toList.drop (vs'.size - 2) = [.str ⟨#[a]⟩ t1, .str ⟨#[b]⟩ t2] := by
        rw [show vs'.size - 2 = pre.length + 1 by omega, ← List.drop_drop, hd3]; rfl
      rw [show vs'.size - 3 = pre.length by omega, hd3] at N
      have hlong := leftStep_long hst' hpre
      refine eq_one (x := ⟨#[p]⟩) (y := Str.ofString "%") ⟨_, N.get (.tail _ (.head _)), rfl, _, rfl⟩ ⟨_, N.get (.head _), rfl, _, rfl⟩ (by show un + 3 < _; omega) ?_
      refine wpAny_truthy_bool ?_
      by_cases hp37 : p = 37
      · subst hp37
        rw [if_pos (show ((⟨#[37]⟩ : Str) == Str.ofString "%") = true from rfl)]
        replace N := newsSub N (a := [(T, W.listOf vs' (k + 1)), (I, oI2)]) fun p hp => by
          simp only [List.mem_cons, List.not_mem_nil, or_false] at hp ⊢; rcases hp with rfl | rfl <;> simp
        iterate 6 (first | (k_unfold; (try dsimp only)) | walk1)
        refine wpAny_Subscript_list_slice ?_ (fun _ _ => rfl)
        iterate 6 (first | (k_unfold; (try dsimp only)) | walk1)
        rename Fr _ _ _ _ => F
        refine ⟨T, vs', some (-2), none, rfl, ⟨_, (N _ (.head _)).1, rfl, _, rfl⟩, by rw [sizeLine_eq]; omega, .int _ _, .none, ?_⟩
        have hP := pushTwo F N { cls := .type "slice", data := .fields #[.int (-2) (tk3 + 1 + 1 + 1 + 1 + 1 + 1), .none, .none] } (slicePick vs' (some (-2)) none none)
        rw [pick_last (by omega), hd2] at hP
        rw [pick_last (by omega), hd2]
        (try dsimp only)
        generalize ((Heap.push _ _).push _) = h6 at hP ⊢
        generalize Array.size _ + 1 = D6 at hP ⊢
        obtain ⟨F6, N6, hD6⟩ := hP
        clear F N
        iterate 1 (first | (k_unfold; (try dsimp only)) | walk1)
        refine ⟨X'.keeps F6.keep, ?_⟩
        refine wpAny_call (hexL ⟨X', T'⟩ F6.keep (by show dp + 1 + 2 < _; omega) (by show un + 3 + 8 < _; omega) ⟨_, (N6 _ (.head _)).1, rfl, _, rfl⟩ fun h7 tk7 st7 => ?_)
        have F7 := frKeep F6 st7
        have N7 : News s.heap L h7 [(T, W.listOf vs' (k + 1)), (I, oI2)] := newsKeep (newsSub N6 fun p hp => .tail _ hp) st7
        clear F6 N6
        (try dsimp only)
        refine wpAny_truthy_bool ?_
        by_cases hb : (inFigs ⟨#[a]⟩ && inFigs ⟨#[b]⟩) = true
        · rw [if_pos hb]
          iterate 4 (first | (k_unfold; (try dsimp only)) | walk1)
          refine wpAny_Subscript_list_slice ?_ (fun _ _ => rfl)
          iterate 6 (first | (k_unfold; (try dsimp only)) | walk1)
          refine ⟨T, vs', none, some (-3), rfl, ⟨_, (N7 _ (.head _)).1, rfl, _, rfl⟩, by rw [sizeLine_eq]; omega, .none, .int _ _, ?_⟩
          have hP := pushTwo F7 N7 { cls := .type "slice", data := .fields #[.none, .int (-3) (tk7 + 1), .none] } (slicePick vs' none (some (-3)) none)
          rw [pick_init (by omega)] at hP
          rw [pick_init (by omega)]
          (try dsimp only)
          generalize ((Heap.push _ _).push _) = h8 at hP ⊢
          generalize Array.size _ + 1 = D8 at hP ⊢
          obtain ⟨F8, N8, hD8⟩ := hP
          clear F7 N7
          have hD8I : D8 ≠ I := Nat.ne_of_gt (hD8 (I, oI2) (by simp))
          have hpc : CharsAre ((vs'.toList.take (vs'.size - 3)).toArray) pre := by
            refine ⟨by rw [List.size_toArray, List.length_take, Array.length_toList]; omega, fun j d q => ?_⟩
            have hj := (List.getElem?_eq_some_iff.mp q).1
            obtain ⟨t9, ht9⟩ := hch2.2 j d (by rw [hpre, List.getElem?_append_left hj]; exact q)
            refine ⟨t9, ?_⟩
            simp only [List.getElem?_toArray, List.getElem?_take]
            rw [if_pos (by omega)]
            simpa using ht9
          have hpz : ((vs'.toList.take (vs'.size - 3)).toArray).size ≤ i + 1 := by rw [List.size_toArray, List.length_take]; omega
          generalize (vs'.toList.take (vs'.size - 3)).toArray = v8 at N8 hpc hpz
          iterate 1 (first | (k_unfold; (try dsimp only)) | walk1)
          (try dsimp only)
          refine wpAny_execs_nil ?_
          (try dsimp only)
          refine wpAny_execs_nil ?_
          (try dsimp only)
          rename Fr _ _ _ _ => F
          rename News _ _ _ _ => N
          refine ⟨_, _, _, [(D8, W.listOf v8 0)], rfl, frRow F (by decide), newsSub N fun p hp => ?_, fun p hp => by rw [List.mem_singleton.mp hp]; exact hD8I, D8, v8, 0, _, rfl, rfl, ?_, hpz⟩
          · simp only [List.mem_cons, List.not_mem_nil, or_false] at hp ⊢; rcases hp with rfl | rfl <;> simp
          · rw [hnx, hlong, if_pos ⟨rfl, hb⟩]; exact hpc
        · rw [if_neg hb]
          iterate 1 (first | (k_unfold; (try dsimp only)) | walk1)
          refine wpAny_execs_nil ?_
          (try dsimp only)
          refine wpAny_execs_nil ?_
          (try dsimp only)
          refine ⟨_, _, _, [(T, W.listOf vs' (k + 1))], rfl, frOne F7, newsSub N7 fun p hp => ?_, fun p hp => by rw [List.mem_singleton.mp hp]; exact hTI, T, vs', k + 1, _, rfl, rfl, ?_, hvs'i⟩
          · simp only [List.mem_cons, List.not_mem_nil, or_false] at hp ⊢; rcases hp with rfl | rfl <;> simp
          · rw [hnx, hlong, if_neg (fun q => hb q.2)]; exact hch2
      · rw [if_neg (fun q => hp37 (by have := congrArg Str.cps (eq_of_beq q); injection this with this; injection this))]
        iterate 1 (first | (k_unfold; (try dsimp only)) | walk1)
        refine wpAny_execs_nil ?_
        (try dsimp only)
        refine wpAny_execs_nil ?_
        (try dsimp only)
        refine ⟨_, _, _, [(T, W.listOf vs' (k + 1))], rfl, frOne F, newsSub N fun p hp => ?_, fun p hp => by rw [List.mem_singleton.mp hp]; exact hTI, T, vs', k + 1, _, rfl, rfl, ?_, hvs'i⟩
        · simp only [List.mem_cons, List.not_mem_nil, or_false] at hp ⊢; rcases hp with rfl | rfl <;> simp
        · rw [hnx, hlong, if_neg (fun q => hp37 q.1)]; exact hch2
  · rintro h3 tk3 m' news' F N ⟨T, vs, k, vsg, rfl, rfl, hch, hvi⟩
    replace F : Fr s.heap L h3 _ := F
    replace N : News s.heap L h3 [(T, W.listOf vs k)] := N
    (try dsimp only)
    iterate 9 (first | (k_unfold; (try dsimp only)) | walk1)
    have hxl : x.cps.toList.take x.cps.size = x.cps.toList := List.take_of_length_le (by simp)
    rw [hxl] at hch
    have hsum : ∀ l : List Nat, ((l.map fun c => (⟨#[c]⟩ : Str)).map (·.length)).sum = l.length := fun l => by
      induction l with
      | nil => rfl
      | cons c l ih => simp only [List.map_cons, List.sum_cons, List.length_cons, ih]; show 1 + _ = _; omega
    refine join_list (ys := (x.cps.toList.foldl leftStep []).map fun c => ⟨#[c]⟩) ⟨_, (N _ (.head _)).1, rfl, _, rfl⟩ (charsStrs hch) ?_ fun t' k' => ?_
    · rw [hsum, List.length_map, ← hch.1]
      show vs.size + vs.size * 0 ≤ _
      omega
    · exact h _ _ _ F.keep
end
/- FnAttr -/
section
open Builtin Builtin.ObjectAttr

theorem lk_function_getattr : typeLookup (.type "function") "__getattr__" = pure none := by rw [typeLookup_type, builtinLookup_eq_fast]; kernel_rfl
theorem slot_function_ga : Slot "function" "__getattribute__" "object.__getattribute__" :=
  .of (owner := "object") (n := "__getattribute__") (by rw [typeLookup_type, builtinLookup_eq_fast]; kernel_rfl) (by decide +kernel) (by decide +kernel) (by decide +kernel)
    (by first | exact .inl (by decide +kernel) | exact .inr (by decide +kernel)) (by rw [isSubtype_type]; kernel_rfl)
theorem slot_function_sa : Slot "function" "__setattr__" "object.__setattr__" :=
  .of (owner := "object") (n := "__setattr__") (by rw [typeLookup_type, builtinLookup_eq_fast]; kernel_rfl) (by decide +kernel) (by decide +kernel) (by decide +kernel)
    (by first | exact .inl (by decide +kernel) | exact .inr (by decide +kernel)) (by rw [isSubtype_type]; kernel_rfl)
theorem args_object_ga (a b : Value) : argsOk "object.__getattribute__" ⟨[a, b], []⟩ := by unfold argsOk; kernel_rfl
theorem sub_function_static : isSubtype (.type "function") (.type "staticmethod") = pure false := by rw [isSubtype_type]; kernel_rfl
theorem sub_function_classm : isSubtype (.type "function") (.type "classmethod") = pure false := by rw [isSubtype_type]; kernel_rfl
theorem lk_function_string : typeLookup (.type "function") "string" = pure none := by rw [typeLookup_type, builtinLookup_eq_fast]; kernel_rfl
theorem lk_function_span : typeLookup (.type "function") "span" = pure none := by rw [typeLookup_type, builtinLookup_eq_fast]; kernel_rfl
theorem lk_function_group : typeLookup (.type "function") "group" = pure none := by rw [typeLookup_type, builtinLookup_eq_fast]; kernel_rfl
theorem mro_function : mroOf (.type "function") = pure [.type "function", .type "object"] := by rw [mroOf_type]; kernel_rfl
theorem own_function_sa : classOwn (.type "function") "__setattr__" = pure none := by
  show (pure (builtinOwn "function" "__setattr__") : Sem (Option Value)) = _
  rw [builtinOwn_eq_fast]; kernel_rfl
theorem canon_ga : (Manifest.canonical "object.__getattribute__" != "object.__getattribute__") = false := by decide +kernel

/-- an object that is a dict of names -/
def NsO (o : Obj) (m : Str → Option Value) : Prop := o.isFreed = false ∧ ∃ es ep, o.data = .dict es ep ∧ StrKeys es ∧ UniqKeys es ∧ ∀ n, nsFind es n = m n
theorem NsO.ns1 {h : Heap} {D : Addr} {o : Obj} {m : Str → Option Value} (x : NsO o m) (e : h.get? D = some o) : h.Ns1 D m := let ⟨_, es, ep, a, b, c, d⟩ := x; ⟨o, es, ep, e, a, b, c, d⟩
theorem NsO.of_ns1 {h : Heap} {D : Addr} {m : Str → Option Value} (x : h.Ns1 D m) : ∃ o, h.get? D = some o ∧ NsO o m :=
  let ⟨o, es, ep, e, a, b, c, d⟩ := x; ⟨o, e, (Heap.get?_some_iff.mp e).2, es, ep, a, b, c, d⟩

section
variable {prog : Program} {w : World} {A : Around} {E : Value → Shared → Prop} {h : Heap} {g : Array GenState} {d : Drawn} {t : Nat} {os : OsState} {f D : Addr} {md : Str → Option Value}

theorem refuse_function (f : Addr) : refuseLoop (.ref f) "__setattr__" [.type "function", .type "object"] = pure () := by
  unfold refuseLoop
  simp only [List.forIn_cons, own_function_sa, F.own_object_setattr]
  kernel_rfl

theorem fn_object_entry {name : Str} {tk : Tok} {v : Value} {fd : FuncData} {sl : Array (Option Value)} {Q : Fin → Shared → Prop} (hM : h.get? f = some ⟨.type "function", some D, .func fd, sl⟩) (hD : h.Ns D md) (hnm : typeLookup (.type "function") name = pure none) (hv : md name = some v)
    (hq : Q (.done (.ret v)) ⟨h, g, d, t, os⟩) : wpAny (model prog w) A (Builtin.«object.__getattribute__» ⟨[.ref f, .str name tk], []⟩) Q E ⟨h, g, d, t, os⟩ := by
  have hT : (⟨h, g, d, t, os⟩ : Shared).TypeIs (.ref f) "function" := ⟨_, hM, rfl⟩
  have f1 := sub_function_static
  have f2 := sub_function_classm
  repeat (any_goals (first | assumption | with_reducible apply Flt.wpAny_nsGet_known | with_reducible apply Flt.wpAny_loadPart_known | wp_step))

theorem fn_getMethod {name : Str} {v : Value} {pl : Sem Bool} {fd : FuncData} {sl : Array (Option Value)} {Q : Value × List Value → Shared → Prop} (hM : h.get? f = some ⟨.type "function", some D, .func fd, sl⟩) (hD : h.Ns D md) (hnm : typeLookup (.type "function") name = pure none) (hv : md name = some v)
    (hh : handedOut v = pure v) (hq : Q (v, []) ⟨h, g, d, t + 1, os⟩) : wpAny (model prog w) A (getMethod (.ref f) name pl) Q E ⟨h, g, d, t, os⟩ := by
  have hT : (⟨h, g, d, t, os⟩ : Shared).TypeIs (.ref f) "function" := ⟨_, hM, rfl⟩
  have hT1 : (⟨h, g, d, t + 1, os⟩ : Shared).TypeIs (.ref f) "function" := ⟨_, hM, rfl⟩
  have f1 := slot_function_ga.lookup
  have f2 := lk_function_getattr
  have f4 := slot_function_ga.bind (.ref f)
  unfold getMethod
  refine wpAny_bind (wpAny_specialOf hT f1 ?_)
  show wpAny _ A (if (Manifest.canonical "object.__getattribute__" != "object.__getattribute__") = true then _ else _) Q E _
  rw [canon_ga, if_neg Bool.false_ne_true]
  repeat (any_goals (first | assumption | wp_step))
  refine codeAny_call_builtin slot_function_ga.plain F.entry_object_getattribute (slot_function_ga.check _ _ _ _ _ _ _ _ hT1 (args_object_ga _ _) (fn_object_entry hM hD hnm hv ?_))
  repeat (any_goals (first | assumption | wp_step))

theorem fn_getAttr {name : Str} {v : Value} {ex : Bool} {fd : FuncData} {sl : Array (Option Value)} {Q : Value → Shared → Prop} (hM : h.get? f = some ⟨.type "function", some D, .func fd, sl⟩) (hD : h.Ns D md) (hnm : typeLookup (.type "function") name = pure none) (hv : md name = some v)
    (hh : handedOut v = pure v) (hq : Q v ⟨h, g, d, t + 1, os⟩) : wpAny (model prog w) A (getAttr (.ref f) name ex) Q E ⟨h, g, d, t, os⟩ := by
  have hT : (⟨h, g, d, t, os⟩ : Shared).TypeIs (.ref f) "function" := ⟨_, hM, rfl⟩
  have hT1 : (⟨h, g, d, t + 1, os⟩ : Shared).TypeIs (.ref f) "function" := ⟨_, hM, rfl⟩
  have f1 := slot_function_ga.lookup
  have f2 := lk_function_getattr
  have f4 := slot_function_ga.bind (.ref f)
  cases ex
  all_goals (
    repeat (any_goals (first | assumption | (rw [if_neg (show ¬ (true && onTheHeap (Value.builtin "object.__getattribute__")) = true by decide)]) | wp_step))
    refine codeAny_call_builtin slot_function_ga.plain F.entry_object_getattribute (slot_function_ga.check _ _ _ _ _ _ _ _ hT1 (args_object_ga _ _) (fn_object_entry hM hD hnm hv ?_))
    repeat (any_goals (first | assumption | wp_step)))

theorem fn_setentry {name : Str} {tk : Tok} {v : Value} {Q : Fin → Shared → Prop} {o : Obj} (hM : h.get? f = some o) (hc : o.cls = .type "function") (hnm : typeLookup (.type "function") name = pure none)
    (hq : wpAny (model prog w) A (storeInOwnDict (.ref f) (.type "function") (.str name tk) name v false) Q E ⟨h, g, d, t, os⟩) : wpAny (model prog w) A (Builtin.«object.__setattr__» ⟨[.ref f, .str name tk, v], []⟩) Q E ⟨h, g, d, t, os⟩ := by
  have hT : (⟨h, g, d, t, os⟩ : Shared).TypeIs (.ref f) "function" := ⟨_, hM, hc⟩
  unfold Builtin.«object.__setattr__»
  refine wpAny_bind ?_
  rw [refuse_eq]
  refine wpAny_bind (wpAny_typeOf hT ?_)
  rw [mro_function]
  refine wpAny_bind (wpAny_pure ?_)
  rw [refuse_function]
  refine wpAny_pure ?_
  refine wpAny_bind (wpAny_pure ?_)
  refine wpAny_bind (wpAny_typeOf hT ?_)
  rw [hnm]
  refine wpAny_bind (wpAny_pure ?_)
  refine wpAny_bind (wpAny_pure ?_)
  exact hq

theorem fn_setAttr {name : Str} {v : Value} {Q : Unit → Shared → Prop} {o : Obj} (hM : h.get? f = some o) (hc : o.cls = .type "function") (hnm : typeLookup (.type "function") name = pure none)
    (hq : wpAny (model prog w) A.in1 (storeInOwnDict (.ref f) (.type "function") (.str name t) name v false) (fun fin s' => fin = .done (.ret .none) ∧ Q () s') (fun _ _ => False) ⟨h, g, d, t + 1, os⟩) : wpAny (model prog w) A (setAttr (.ref f) name v) Q E ⟨h, g, d, t, os⟩ := by
  have hT1 : (⟨h, g, d, t + 1, os⟩ : Shared).TypeIs (.ref f) "function" := ⟨_, hM, hc⟩
  have f1 := slot_function_sa.lookup
  have f4 := slot_function_sa.bind (.ref f)
  unfold setAttr callSpecial?
  refine wpAny_bind (wpAny_mkText ?_)
  refine wpAny_bind (wpAny_bind (wpAny_specialOf hT1 f1 ?_))
  refine wpAny_holding (wpAny_bind ?_)
  rw [f4]
  refine wpAny_pure (wpAny_bind (wpAny_call ?_))
  refine codeAny_call_builtin slot_function_sa.plain F.entry_object_setattr (slot_function_sa.check _ _ _ _ _ _ _ _ hT1 (F.args_object_setattr_3 _ _ _) (fn_setentry hM hc hnm (wpAny_mono hq (fun fin s' q => ?_) fun _ _ q => q.elim)))
  obtain ⟨rfl, q⟩ := q
  exact wpAny_pure (wpAny_pure q)

theorem set_fn0 {name : Str} {v : Value} {Q : Unit → Shared → Prop} {fd : FuncData} {sl : Array (Option Value)} {s : Shared} {h₀ : Heap} {L : Addr} {m : Str → Option Value} {news : List (Addr × Obj)} {gg : Obj → List (Addr × Obj)}
    (F : Fr h₀ L s.heap m) (N : News h₀ L s.heap news) (U : UpdF f ⟨.type "function", none, .func fd, sl⟩ news gg) (hnm : typeLookup (.type "function") name = pure none)
    (hq : ∀ D oD h' tk, Fr h₀ L h' m → News h₀ L h' ((D, oD) :: gg ⟨.type "function", some D, .func fd, sl⟩) → NsO oD (fun x => if x = name then some v else none) → (∀ p ∈ news, p.1 < D) → L < D → Q () { s with heap := h', toks := tk }) :
    wpAny (model prog w) A (setAttr (.ref f) name v) Q E s := by
  obtain ⟨own, rest, rfl, hgr, h1, h2⟩ := U.split
  have hm := N (f, _) (List.mem_append_right _ (.head _))
  obtain ⟨hp, gn, dr, tk, os⟩ := s
  dsimp only at F N hm
  refine fn_setAttr hm.1 rfl hnm ?_
  show wpAny _ _ (do match ← ownDictForStores (.ref f) with | some d => storeInDict d (.str name tk) name v | none => noDictFor (.ref f) (.type "function") name false) _ _ _
  refine wpAny_bind ?_
  show wpAny _ _ (instanceDict f true) _ _ _
  unfold instanceDict
  refine wpAny_bind (wpAny_loadPart hm.1 ?_)
  show wpAny _ _ (alloc { cls := .type "dict", data := .dict #[] } >>= fun d => update f (fun o => { o with dict := some d }) >>= fun _ => dictMade (.type "function") f d) _ _ _
  have hx₁ : (hp.push { cls := .type "dict", data := .dict #[] }).get? f = some ⟨.type "function", none, .func fd, sl⟩ := Heap.get?_push_of_some _ hm.1
  have hxs : f ≠ hp.objs.size := Nat.ne_of_lt (Heap.lt_size hm.1)
  refine wpAny_bind (wpAny_alloc' ?_)
  refine wpAny_bind (wpAny_update' hx₁ ?_)
  refine wpAny_pure ?_
  generalize hH : ((hp.push { cls := .type "dict", data := .dict #[] }).update f fun o => { o with dict := some hp.objs.size }) = H
  have hgd : H.get? hp.objs.size = some { cls := .type "dict", data := .dict #[] } := hH ▸ (Heap.get?_update_ne _ _ _ _ hxs.symm).trans (Heap.get?_push_at rfl rfl)
  have hgf : H.get? f = some ⟨.type "function", some hp.objs.size, .func fd, sl⟩ := hH ▸ Heap.get?_update_self _ hx₁ rfl
  have hgo : ∀ b o, b ≠ f → hp.get? b = some o → H.get? b = some o := fun b o hb e => hH ▸ (Heap.get?_update_ne _ _ _ _ hb).trans (Heap.get?_push_of_some _ e)
  have hnd : H.Ns hp.objs.size (fun _ => none) := ⟨_, #[], _, hgd, rfl, fun e he => absurd he (by simp), fun _ => rfl⟩
  show wpAny _ _ (storeInDict hp.objs.size (.str name tk) name v) _ _ _
  unfold storeInDict newKeyGuard
  refine wpAny_bind (wpAny_pure (wpAny_bind (wpAny_nsSet1 (Heap.Ns1.of_empty hnd) fun h' hn' hs => ?_)))
  obtain ⟨oD, esD, epD, hoD, hdD, hcD⟩ := hn'.count (Within.cons name v Within.nil)
  refine wpAny_bind (wpAny_lookBehind hoD (by rw [hdD]; exact pastItsLine_dict (Nat.le_trans hcD (by rw [List.length_cons, List.length_nil, sizeLine_eq]; omega))) ?_)
  refine wpAny_pure ⟨rfl, ?_⟩
  obtain ⟨oD', hoD', NO⟩ := NsO.of_ns1 hn'
  have hL : L < hp.objs.size := F.ns.lt
  have up : ∀ b o, b ≠ f → hp.get? b = some o → h'.get? b = some o := fun b o hb e => (hs.2 b (Nat.ne_of_lt (Heap.lt_size e))).trans (hgo b o hb e)
  have fne : ∀ b o, h₀.get? b = some o → b ≠ f := fun b o e q => by rw [q, hm.2.2] at e; cases e
  refine hq hp.objs.size oD' h' _ ⟨?_, fun b o e => up b o (fne b o e) (F.keep b o e), F.above⟩ ?_ NO (fun p hp' => Heap.lt_size (N p hp').1) hL
  · obtain ⟨oL, es, ep, e, r⟩ := F.ns
    exact ⟨oL, es, ep, up _ _ hm.2.1.symm e, r⟩
  · intro p hp'
    rcases List.mem_cons.mp hp' with rfl | hp'
    · refine ⟨hoD', Nat.ne_of_gt hL, ?_⟩
      cases q : h₀.get? hp.objs.size with
      | none => rfl
      | some o => exact absurd (Heap.lt_size (F.keep _ _ q)) (Nat.lt_irrefl _)
    · rw [hgr] at hp'
      rcases List.mem_append.mp hp' with q | q
      · have n := N p (List.mem_append_left _ q)
        exact ⟨up _ _ (h1 p q) n.1, n.2⟩
      · rcases List.mem_cons.mp q with rfl | q
        · exact ⟨(hs.2 f hxs).trans hgf, hm.2⟩
        · have n := N p (List.mem_append_right _ (.tail _ q))
          exact ⟨up _ _ (h2 p q) n.1, n.2⟩

theorem set_fn1 {name : Str} {v : Value} {Q : Unit → Shared → Prop} {fd : FuncData} {sl : Array (Option Value)} {s : Shared} {h₀ : Heap} {L : Addr} {m : Str → Option Value} {news : List (Addr × Obj)} {gg : Obj → List (Addr × Obj)} {oD : Obj} {ns : List Str}
    (F : Fr h₀ L s.heap m) (N : News h₀ L s.heap news) (hf : (f, ⟨.type "function", some D, .func fd, sl⟩) ∈ news) (U : UpdF D oD news gg) (hD : NsO oD md) (hw : Within md ns) (hl : ns.length < 1000) (hnm : typeLookup (.type "function") name = pure none)
    (hq : ∀ oD' h' tk, Fr h₀ L h' m → News h₀ L h' (gg oD') → NsO oD' (fun x => if x = name then some v else md x) → Q () { s with heap := h', toks := tk }) :
    wpAny (model prog w) A (setAttr (.ref f) name v) Q E s := by
  obtain ⟨own, rest, rfl, hgr, h1, h2⟩ := U.split
  have hm := N _ hf
  have hDm := N (D, oD) (List.mem_append_right _ (.head _))
  obtain ⟨hp, gn, dr, tk, os⟩ := s
  dsimp only at F N hm hDm
  refine fn_setAttr hm.1 rfl hnm ?_
  show wpAny _ _ (do match ← ownDictForStores (.ref f) with | some d => storeInDict d (.str name tk) name v | none => noDictFor (.ref f) (.type "function") name false) _ _ _
  refine wpAny_bind ?_
  show wpAny _ _ (instanceDict f true) _ _ _
  unfold instanceDict
  refine wpAny_bind (wpAny_loadPart hm.1 ?_)
  refine wpAny_pure ?_
  show wpAny _ _ (storeInDict D (.str name tk) name v) _ _ _
  unfold storeInDict newKeyGuard
  refine wpAny_bind (wpAny_pure (wpAny_bind (wpAny_nsSet1 (hD.ns1 hDm.1) fun h' hn' hs => ?_)))
  obtain ⟨oD1, esD, epD, hoD, hdD, hcD⟩ := hn'.count (Within.cons name v hw)
  refine wpAny_bind (wpAny_lookBehind hoD (by rw [hdD]; exact pastItsLine_dict (Nat.le_trans hcD (by rw [List.length_cons, sizeLine_eq]; omega))) ?_)
  refine wpAny_pure ⟨rfl, ?_⟩
  obtain ⟨oD', hoD', NO⟩ := NsO.of_ns1 hn'
  have up : ∀ b, b ≠ D → h'.get? b = hp.get? b := fun b hb => hs.2 b hb
  have dne : ∀ b o, h₀.get? b = some o → b ≠ D := fun b o e q => by rw [q, hDm.2.2] at e; cases e
  refine hq oD' h' _ ⟨?_, fun b o e => (up b (dne b o e)).trans (F.keep b o e), F.above⟩ ?_ NO
  · obtain ⟨oL, es, ep, e, r⟩ := F.ns
    exact ⟨oL, es, ep, (up _ hDm.2.1.symm).trans e, r⟩
  · rw [hgr]
    exact N.setAt h1 h2 hs hoD'
end
end
/- Hit -/
section
local macro_rules | `(tactic| walk_at "setAttr ref") => `(tactic| (k_here; k_dflt (first
  | (refine' set_fn0 ?F ?N ?U ?n ?_; (case F => k_asm); (case N => k_asm); (case U => k_updF); (case n => first | exact lk_function_string | exact lk_function_span | exact lk_function_group); k_whole; intro D' oD' h' tk' F' N' NO' l1 l2; (try dsimp only at N'); (try k_lt l1); (try k_lt2 l2); (try k_sweep))
  | (refine' set_fn1 ?F ?N ?f ?U ?D ?w ?l ?n ?_; (case F => k_asm); (case N => k_asm); (case f => k_mem); (case D => assumption); (case U => k_updF); (case w => within_ways); (case l => decide); (case n => first | exact lk_function_string | exact lk_function_span | exact lk_function_group); k_whole; intro oD' h' tk' F' N' NO'; (try dsimp only at N'); (try k_sweep)))))

/-- a call of a lambda's function object, the objects of a list put into the ledger -/
theorem enterL {w : World} {A : Around} {R : Result → Shared → Prop} {s : Shared} {K : Frag} {p : Program} {loose : List Str} {mean : ExcName → Option Value} {mg mb : Str → Option Value}
    {name qual : Str} {params : Arguments} {body : Expr} {scope : Scope} {cl : List (Str × Addr)} {pm ctv : Value} {c' : Addr} {f : Addr} {args : Args} (binds : List (Str × Value))
    {g : Heap} (X : K.In g) (T : Top p loose mean mg mb g) (st : g.StaysIn s.heap) (news : List (Addr × Obj)) (hn : ∀ p ∈ news, s.heap.get? p.1 = some p.2 ∧ g.get? p.1 = none)
    (ho : s.heap.get? f = some (kla_obj name qual params body scope cl pm c' ctv)) (hcd : s.heap.CodeRec (.ref c') qual) (hroom : A.depth < recursionLimit)
    (hbind : bindArgs (kla_fn name qual params body scope cl pm (.ref c') ctv) args = pure binds) (hloc : ∀ y ∈ binds, scope.names.lookup y.1 = some .local)
    (h : ∀ g' L h₁, g' = hideAll s.heap (news.map (·.1)) → K.In g' → Top p loose mean mg mb g' → Fr g' L h₁ (fun y => binds.reverse.lookup y) → News g' L h₁ news → (∀ p ∈ news, p.1 < L) →
      wpAny (model prog w) (A.deeper (envX qual scope L f (.ref c') cl)) (eval body (envX qual scope L f (.ref c') cl))
        (fun v s' => R (.ok (.ret v)) s') (fun _ _ => False)
        { s with heap := h₁, toks := s.toks + binds.length })
    (hco : scope.isCoroutine = false) (hgen : scope.isGenerator = false) (hk : scope.kind = .function)
    (hcell : ∀ x ∈ scope.names, x.2 ≠ .cell) : codeAny (model prog w) A (.call (.ref f) args) R s := by
  have st' : g.StaysIn (hideAll s.heap (news.map (·.1))) := fun b o e => hideAll_get _ (st b o e) fun q => by
    obtain ⟨p, hp, rfl⟩ := List.mem_map.mp q
    rw [(hn p hp).2] at e; cases e
  refine kla_callFunE hroom ho rfl hco hgen rfl hcd ?_
  rw [hbind]
  refine wpAny_pure (wpAny_newFunctionEnv hcell hloc (fun h₁ hns hsb => ⟨(T.nolimit.keeps st).fresh _ hsb, ?_⟩) hk)
  show codeAny _ _ (.expr body (envX qual scope s.heap.objs.size f (.ref c') cl)) _ _
  have hk₁ : ∀ b o, s.heap.get? b = some o → h₁.get? b = some o := fun b o e => hsb.extBut b o (Nat.ne_of_lt (Heap.lt_size e)) (Heap.get?_push_of_some _ e)
  exact kla_codeExpr (wpAny_mono (h _ s.heap.objs.size h₁ rfl (X.keeps st') (T.keeps st') ⟨hns, fun b o e => hk₁ b o (of_hideAll _ e), Nat.le_of_eq (hideAll_size _ _)⟩
    (fun p hp => ⟨hk₁ _ _ (hn p hp).1, Nat.ne_of_lt (Heap.lt_size (hn p hp).1), hideAll_none _ (List.mem_map_of_mem hp)⟩) (fun p hp => Heap.lt_size (hn p hp).1)) (fun _ _ q => q) fun _ _ q => q.elim)

def lamQ : Str := Str.ofString "_law_hit.<locals>.<lambda>"

/-- the code table of _law_hit: as the top left it, or with the codes of the three lambdas -/
def Tab90 (h : Heap) : Prop := h.get? 90 = some (tabObj #[]) ∨ ∃ c1 c2 c3 : Addr,
  h.get? 90 = some (tabObj #[rawInt 105, rawInt 10, .ref c1, rawInt 107, rawInt 15, .ref c2, rawInt 108, rawInt 16, .ref c3]) ∧ h.CodeRec (.ref c1) lamQ ∧ h.CodeRec (.ref c2) lamQ ∧ h.CodeRec (.ref c3) lamQ

/-- what span(0) of the object hands out, whenever it is called -/
def SpanB (w : World) (h : Heap) (fs : Addr) (a b : Int) : Prop := (∃ o fd, h.get? fs = some o ∧ o.data = .func fd) ∧
  ∀ (dp un : Nat) (fr : Option (List Env)) (gd : Option (List Code)) (s : Shared) (t : Tok) (R : Result → Shared → Prop), Heap.ExtBut 90 h s.heap → dp + 2 < recursionLimit → un + 8 < cLine →
    (∀ T ta tb h' tk, s.heap.StaysIn h' → h'.get? T = some { cls := .type "tuple", data := .seq #[.int a ta, .int b tb] 0 } → s.heap.get? T = none → R (.ok (.ret (.ref T))) { s with heap := h', toks := tk }) →
    codeAny (model prog w) (aro dp un fr gd) (.call (.ref fs) ⟨[.int 0 t], []⟩) R s
/-- what group(1) of the object hands out, whenever it is called -/
def GroupB (w : World) (h : Heap) (fg : Addr) (x : Str) : Prop := (∃ o fd, h.get? fg = some o ∧ o.data = .func fd) ∧
  ∀ (dp un : Nat) (fr : Option (List Env)) (gd : Option (List Code)) (s : Shared) (t : Tok) (R : Result → Shared → Prop), Heap.ExtBut 90 h s.heap → dp + 2 < recursionLimit → un + 8 < cLine →
    (∀ tx h' tk, s.heap.StaysIn h' → R (.ok (.ret (.str x tx))) { s with heap := h', toks := tk }) →
    codeAny (model prog w) (aro dp un fr gd) (.call (.ref fg) ⟨[.int 1 t], []⟩) R s

def HitAt (w : World) (h : Heap) (f : Addr) (x y : Str) (a b : Int) : Prop := ∃ D fd sl md t fs fg,
  h.get? f = some ⟨.type "function", some D, .func fd, sl⟩ ∧ h.Ns D md ∧ md "string" = some (.str x t) ∧ md "span" = some (.ref fs) ∧ md "group" = some (.ref fg) ∧ SpanB w h fs a b ∧ GroupB w h fg y


theorem codeRec_but {h h' : Heap} {c : Addr} {q : Str} (x : h.CodeRec (.ref c) q) (hc : c ≠ 90) (k : Heap.ExtBut 90 h h') : h'.CodeRec (.ref c) q := by
  obtain ⟨c2, o, vs, t, e, g, r⟩ := x
  cases e
  exact ⟨_, o, vs, t, rfl, k _ _ hc g, r⟩

/-- the two behaviours of the object that _law_hit hands out, read off its ledger -/
theorem hit_stay {g g' h' : Heap} {s s' : Shared} (st : g.StaysIn s.heap) (n90 : g.get? 90 = none) (eg : g' = hideAll s.heap [90]) (k : ∀ b o, g'.get? b = some o → h'.get? b = some o) (hs : Heap.ExtBut 90 h' s'.heap) : g.StaysIn s'.heap := fun b o e => by
  have hb : b ≠ 90 := fun q => by rw [q, n90] at e; cases e
  exact hs b o hb (k b o (eg ▸ hideAll_get _ (st b o e) (by simpa using hb)))
theorem hit_new {g g' : Heap} {s : Shared} {L b : Addr} (st : g.StaysIn s.heap) (n90 : g.get? 90 = none) (eg : g' = hideAll s.heap [90]) (ab : g'.objs.size ≤ L) (hb : L ≤ b) : g.get? b = none := by
  cases e : g.get? b with
  | none => rfl
  | some o =>
    have hb9 : b ≠ 90 := fun q => by rw [q, n90] at e; cases e
    have : g'.get? b = some o := eg ▸ hideAll_get _ (st b o e) (by simpa using hb9)
    exact absurd (Nat.lt_of_lt_of_le (Heap.lt_size this) (Nat.le_trans ab hb)) (Nat.lt_irrefl _)


theorem span_new {s h' g2 : Heap} {L2 T : Addr} {o : Obj} {news news' : List (Addr × Obj)} (_ : ∀ p ∈ news, s.get? p.1 = some p.2) (eg : g2 = hideAll s (news.map (·.1))) (N : News g2 L2 h' news') (hm : (T, o) ∈ news') (hT : ∀ p ∈ news, p.1 ≠ T) : s.get? T = none := by
  cases e : s.get? T with
  | none => rfl
  | some o' =>
    have q := (N (T, o) hm).2.2
    have : g2.get? T = some o' := eg ▸ hideAll_get _ e (fun h => by obtain ⟨p, hp, q⟩ := List.mem_map.mp h; exact hT p hp q)
    rw [this] at q
    cases q

theorem stays_back {s h' g2 : Heap} {L2 : Addr} {m : Str → Option Value} {news news' : List (Addr × Obj)} (hn : ∀ p ∈ news, s.get? p.1 = some p.2) (eg : g2 = hideAll s (news.map (·.1))) (F : Fr g2 L2 h' m) (N : News g2 L2 h' news') (hs : ∀ p ∈ news, p ∈ news') : s.StaysIn h' := fun b o e => by
  by_cases hb : b ∈ news.map (·.1)
  · obtain ⟨p, hp, rfl⟩ := List.mem_map.mp hb
    rw [hn p hp] at e
    cases e
    exact (N p (hs p hp)).1
  · exact F.keep b o (eg ▸ hideAll_get _ e hb)
theorem hit0 {w : World} {loose : List Str} {mean : ExcName → Option Value} {mg mb : Str → Option Value} {dp un : Nat} {fr : Option (List Env)} {gd : Option (List Code)} {s : Shared} {R : Result → Shared → Prop} {x : Str} {t ta tb : Tok} {a b : Int} {g : Heap} 
    (G : Gr w loose mean mg mb g) (st : g.StaysIn s.heap) (h90 : s.heap.get? 90 = some (tabObj #[])) (n90 : g.get? 90 = none) (hdp : dp + 2 < recursionLimit) (hun : un + 8 < cLine)
    (hx : x.length ≤ 17) 
    (h : ∀ f h' tk, Heap.ExtBut 90 s.heap h' → Tab90 h' → HitAt w h' f x (Txt.slice x (some (a + 1)) (some b)) a b → R (.ok (.ret (.ref f))) { s with heap := h', toks := tk }) :
    codeAny (model prog w) (aro dp un fr gd) (.call (.ref 95) ⟨[.str x t, .int a ta, .int b tb], []⟩) R s := by
  refine' enterC [("text", .str x t), ("first", .int a ta), ("behind", .int b tb)] G.X G.T st [(90, tabObj #[])] ?hn ?ho ?hcd ?hroom ?hbind ?hloc ?hnd ?_ ?c1 ?c2 ?c3
  case hn => exact List.forall_mem_cons.mpr ⟨⟨h90, n90⟩, fun _ q => nomatch q⟩
  case ho => k_is
  case hcd => k_is
  case hroom => (show dp < _); omega
  case hbind => rfl
  case hloc => rfl
  case hnd => decide +kernel
  case c1 => rfl
  case c2 => rfl
  case c3 => rfl
  intro g' L h₁ tk cells eg X' T' F N Y l1
  replace eg : g' = hideAll s.heap [90] := eg
  have C9 : CodeHd g' 94 90 := codeHd_of_K X' (by kernel_rfl)
  k_lt l1
  obtain ⟨o1, o2, o3, rfl, d1, d2, d3⟩ := CellsAre.three Y
  clear Y
  replace d1 : o1.data = .cell (some (.int b tb)) := d1
  replace d2 : o2.data = .cell (some (.int a ta)) := d2
  replace d3 : o3.data = .cell (some (.str x t)) := d3
  simp only [List.cons_append, List.nil_append] at N
  k_steps
  show R (Except.ok (Flow.ret (Value.ref _))) _
  rename Fr _ _ _ _ => F
  rename News _ _ _ _ => N
  rename NsO _ _ => NO
  have cg := codeRec_news N (.tail _ (.head _)) (by assumption) (by assumption)
  have cs := codeRec_news N (.tail _ (.tail _ (.tail _ (.head _)))) (by assumption) (by assumption)
  have ch := codeRec_news N (.tail _ (.tail _ (.tail _ (.tail _ (.tail _ (.tail _ (.head _))))))) (by assumption) (by assumption)
  have ng := (N _ (.head _)).1
  have ns := (N _ (.tail _ (.tail _ (.head _)))).1
  have nD := (N _ (.tail _ (.tail _ (.tail _ (.tail _ (.head _)))))).1
  have nf := (N _ (.tail _ (.tail _ (.tail _ (.tail _ (.tail _ (.head _))))))).1
  have nb := (N _ (.tail _ (.tail _ (.tail _ (.tail _ (.tail _ (.tail _ (.tail _ (.head _))))))))).1
  have na := (N _ (.tail _ (.tail _ (.tail _ (.tail _ (.tail _ (.tail _ (.tail _ (.tail _ (.head _)))))))))).1
  have nx := (N _ (.tail _ (.tail _ (.tail _ (.tail _ (.tail _ (.tail _ (.tail _ (.tail _ (.tail _ (.head _))))))))))).1
  have nt := (N _ (.tail _ (.tail _ (.tail _ (.tail _ (.tail _ (.tail _ (.tail _ (.tail _ (.tail _ (.tail _ (.head _)))))))))))).1
  dsimp only at ng ns nD nf nb na nx nt
  have g1 : g.get? (L + 1) = none := hit_new st n90 eg F.above (Nat.le_add_right L 1)
  have g2 : g.get? (L + 1 + 1) = none := hit_new st n90 eg F.above (Nat.le_add_right L 2)
  have g3 : g.get? (L + 1 + 1 + 1) = none := hit_new st n90 eg F.above (Nat.le_add_right L 3)
  refine h _ _ _ ?ext (.inr ⟨_, _, _, nt, ch, cs, cg⟩) ⟨_, _, _, _, _, _, _, nf, (NO.ns1 nD).ns, rfl, rfl, rfl, ⟨⟨_, _, ns, rfl⟩, ?_⟩, ⟨_, _, ng, rfl⟩, ?_⟩
  case ext =>
    intro b o hb e
    exact F.keep b o (eg ▸ hideAll_get _ e (by simpa using hb))
  · intro dp un fr gd s' t' R' hs hdp' hun' hR
    have hnn : ∀ p ∈ [(L + 1 + 1, o2), (L + 1 + 1 + 1, o1)], s'.heap.get? p.1 = some p.2 := List.forall_mem_cons.mpr ⟨hs _ _ (neN (by omega)) na, List.forall_mem_cons.mpr ⟨hs _ _ (neN (by omega)) nb, fun _ q => nomatch q⟩⟩
    refine' enterL [("which", .int 0 t')] G.X G.T (hit_stay st n90 eg F.keep hs) [(L + 1 + 1, o2), (L + 1 + 1 + 1, o1)] ?hn (hs _ _ ?n1 ns) (codeRec_but cs ?n2 hs) ?hroom ?hbind ?hloc ?_ ?c1 ?c2 ?c3 ?c4
    case hn => exact List.forall_mem_cons.mpr ⟨⟨hs _ _ (neN (by omega)) na, g2⟩, List.forall_mem_cons.mpr ⟨⟨hs _ _ (neN (by omega)) nb, g3⟩, fun _ q => nomatch q⟩⟩
    case n1 => exact neN (by omega)
    case n2 => exact neN (by omega)
    case hroom => (show dp < _); omega
    case hbind => rfl
    case hloc => exact locs rfl
    case c1 => rfl
    case c2 => rfl
    case c3 => rfl
    case c4 => decide
    intro g2 L2 h2 eg2 X2 T2 F2 N2 l2
    clear F N
    k_steps
    rename Fr _ _ _ _ => F
    rename News _ _ _ _ => N
    exact hR _ _ _ _ _ (stays_back hnn eg2 F N fun p hp => .tail _ (.tail _ (.tail _ hp))) (N _ (.tail _ (.tail _ (.head _)))).1 (span_new hnn eg2 N (.tail _ (.tail _ (.head _))) (by intro p hp; simp only [List.mem_cons, List.not_mem_nil, or_false] at hp; rcases hp with rfl | rfl <;> exact neN (by dsimp only; omega)))
  · intro dp un fr gd s' t' R' hs hdp' hun' hR
    have hnn : ∀ p ∈ [(L + 1, o3), (L + 1 + 1, o2), (L + 1 + 1 + 1, o1)], s'.heap.get? p.1 = some p.2 := List.forall_mem_cons.mpr ⟨hs _ _ (neN (by omega)) nx, List.forall_mem_cons.mpr ⟨hs _ _ (neN (by omega)) na, List.forall_mem_cons.mpr ⟨hs _ _ (neN (by omega)) nb, fun _ q => nomatch q⟩⟩⟩
    refine' enterL [("which", .int 1 t')] G.X G.T (hit_stay st n90 eg F.keep hs) [(L + 1, o3), (L + 1 + 1, o2), (L + 1 + 1 + 1, o1)] ?hn (hs _ _ ?n1 ng) (codeRec_but cg ?n2 hs) ?hroom ?hbind ?hloc ?_ ?c1 ?c2 ?c3 ?c4
    case hn => exact List.forall_mem_cons.mpr ⟨⟨hs _ _ (neN (by omega)) nx, g1⟩, List.forall_mem_cons.mpr ⟨⟨hs _ _ (neN (by omega)) na, g2⟩, List.forall_mem_cons.mpr ⟨⟨hs _ _ (neN (by omega)) nb, g3⟩, fun _ q => nomatch q⟩⟩⟩
    case n1 => exact neN (by omega)
    case n2 => exact neN (by omega)
    case hroom => (show dp < _); omega
    case hbind => rfl
    case hloc => exact locs rfl
    case c1 => rfl
    case c2 => rfl
    case c3 => rfl
    case c4 => decide
    intro g2 L2 h2 eg2 X2 T2 F2 N2 l2
    clear F N
    k_steps
    rename Fr _ _ _ _ => F
    rename News _ _ _ _ => N
    exact hR _ _ _ (stays_back hnn eg2 F N fun p hp => .tail _ hp)
end
/- Hit1 -/
section
local macro_rules | `(tactic| walk_at "setAttr ref") => `(tactic| (k_here; k_dflt (first
  | (refine' set_fn0 ?F ?N ?U ?n ?_; (case F => k_asm); (case N => k_asm); (case U => k_updF); (case n => first | exact lk_function_string | exact lk_function_span | exact lk_function_group); k_whole; intro D' oD' h' tk' F' N' NO' l1 l2; (try dsimp only at N'); (try k_lt l1); (try k_lt2 l2); (try k_sweep))
  | (refine' set_fn1 ?F ?N ?f ?U ?D ?w ?l ?n ?_; (case F => k_asm); (case N => k_asm); (case f => k_mem); (case D => assumption); (case U => k_updF); (case w => within_ways); (case l => decide); (case n => first | exact lk_function_string | exact lk_function_span | exact lk_function_group); k_whole; intro oD' h' tk' F' N' NO'; (try dsimp only at N'); (try k_sweep)))))

theorem hit1 {w : World} {loose : List Str} {mean : ExcName → Option Value} {mg mb : Str → Option Value} {dp un : Nat} {fr : Option (List Env)} {gd : Option (List Code)} {s : Shared} {R : Result → Shared → Prop} {x : Str} {t ta tb : Tok} {a b : Int} {g : Heap} {c1 c2 c3 : Addr}
    (G : Gr w loose mean mg mb g) (st : g.StaysIn s.heap) (h90 : s.heap.get? 90 = some (tabObj #[rawInt 105, rawInt 10, .ref c1, rawInt 107, rawInt 15, .ref c2, rawInt 108, rawInt 16, .ref c3])) (n90 : g.get? 90 = none) (hdp : dp + 2 < recursionLimit) (hun : un + 8 < cLine)
    (hx : x.length ≤ 17) (k1 : s.heap.CodeRec (.ref c1) lamQ) (k2 : s.heap.CodeRec (.ref c2) lamQ) (k3 : s.heap.CodeRec (.ref c3) lamQ) (m1 : c1 ≠ 90) (m2 : c2 ≠ 90) (m3 : c3 ≠ 90)
    (h : ∀ f h' tk, Heap.ExtBut 90 s.heap h' → Tab90 h' → HitAt w h' f x (Txt.slice x (some (a + 1)) (some b)) a b → R (.ok (.ret (.ref f))) { s with heap := h', toks := tk }) :
    codeAny (model prog w) (aro dp un fr gd) (.call (.ref 95) ⟨[.str x t, .int a ta, .int b tb], []⟩) R s := by
  refine' enterC [("text", .str x t), ("first", .int a ta), ("behind", .int b tb)] G.X G.T st [(90, tabObj #[rawInt 105, rawInt 10, .ref c1, rawInt 107, rawInt 15, .ref c2, rawInt 108, rawInt 16, .ref c3])] ?hn ?ho ?hcd ?hroom ?hbind ?hloc ?hnd ?_ ?c1 ?c2 ?c3
  case hn => exact List.forall_mem_cons.mpr ⟨⟨h90, n90⟩, fun _ q => nomatch q⟩
  case ho => k_is
  case hcd => k_is
  case hroom => (show dp < _); omega
  case hbind => rfl
  case hloc => rfl
  case hnd => decide +kernel
  case c1 => rfl
  case c2 => rfl
  case c3 => rfl
  intro g' L h₁ tk cells eg X' T' F N Y l1
  replace eg : g' = hideAll s.heap [90] := eg
  have C9 : CodeHd g' 94 90 := codeHd_of_K X' (by kernel_rfl)
  k_lt l1
  obtain ⟨o1, o2, o3, rfl, d1, d2, d3⟩ := CellsAre.three Y
  clear Y
  replace d1 : o1.data = .cell (some (.int b tb)) := d1
  replace d2 : o2.data = .cell (some (.int a ta)) := d2
  replace d3 : o3.data = .cell (some (.str x t)) := d3
  simp only [List.cons_append, List.nil_append] at N
  k_steps
  show R (Except.ok (Flow.ret (Value.ref _))) _
  rename Fr _ _ _ _ => F
  rename News _ _ _ _ => N
  rename NsO _ _ => NO
  have cg := (codeRec_but k3 m3 (fun b o hb e => F.keep b o (eg ▸ hideAll_get _ e (by simpa using hb)) : Heap.ExtBut 90 s.heap _))
  have cs := (codeRec_but k2 m2 (fun b o hb e => F.keep b o (eg ▸ hideAll_get _ e (by simpa using hb)) : Heap.ExtBut 90 s.heap _))
  have ch := (codeRec_but k1 m1 (fun b o hb e => F.keep b o (eg ▸ hideAll_get _ e (by simpa using hb)) : Heap.ExtBut 90 s.heap _))
  have ng := (N _ (.head _)).1
  have ns := (N _ (.tail _ (.head _))).1
  have nD := (N _ (.tail _ (.tail _ (.head _)))).1
  have nf := (N _ (.tail _ (.tail _ (.tail _ (.head _))))).1
  have nb := (N _ (.tail _ (.tail _ (.tail _ (.tail _ (.head _)))))).1
  have na := (N _ (.tail _ (.tail _ (.tail _ (.tail _ (.tail _ (.head _))))))).1
  have nx := (N _ (.tail _ (.tail _ (.tail _ (.tail _ (.tail _ (.tail _ (.head _)))))))).1
  have nt := (N _ (.tail _ (.tail _ (.tail _ (.tail _ (.tail _ (.tail _ (.tail _ (.head _))))))))).1
  dsimp only at ng ns nD nf nb na nx nt
  have g1 : g.get? (L + 1) = none := hit_new st n90 eg F.above (Nat.le_add_right L 1)
  have g2 : g.get? (L + 1 + 1) = none := hit_new st n90 eg F.above (Nat.le_add_right L 2)
  have g3 : g.get? (L + 1 + 1 + 1) = none := hit_new st n90 eg F.above (Nat.le_add_right L 3)
  refine h _ _ _ ?ext (.inr ⟨_, _, _, nt, ch, cs, cg⟩) ⟨_, _, _, _, _, _, _, nf, (NO.ns1 nD).ns, rfl, rfl, rfl, ⟨⟨_, _, ns, rfl⟩, ?_⟩, ⟨_, _, ng, rfl⟩, ?_⟩
  case ext =>
    intro b o hb e
    exact F.keep b o (eg ▸ hideAll_get _ e (by simpa using hb))
  · intro dp un fr gd s' t' R' hs hdp' hun' hR
    have hnn : ∀ p ∈ [(L + 1 + 1, o2), (L + 1 + 1 + 1, o1)], s'.heap.get? p.1 = some p.2 := List.forall_mem_cons.mpr ⟨hs _ _ (neN (by omega)) na, List.forall_mem_cons.mpr ⟨hs _ _ (neN (by omega)) nb, fun _ q => nomatch q⟩⟩
    refine' enterL [("which", .int 0 t')] G.X G.T (hit_stay st n90 eg F.keep hs) [(L + 1 + 1, o2), (L + 1 + 1 + 1, o1)] ?hn (hs _ _ ?n1 ns) (codeRec_but cs ?n2 hs) ?hroom ?hbind ?hloc ?_ ?c1 ?c2 ?c3 ?c4
    case hn => exact List.forall_mem_cons.mpr ⟨⟨hs _ _ (neN (by omega)) na, g2⟩, List.forall_mem_cons.mpr ⟨⟨hs _ _ (neN (by omega)) nb, g3⟩, fun _ q => nomatch q⟩⟩
    case n1 => exact neN (by omega)
    case n2 => first | exact m1 | exact m2 | exact m3
    case hroom => (show dp < _); omega
    case hbind => rfl
    case hloc => exact locs rfl
    case c1 => rfl
    case c2 => rfl
    case c3 => rfl
    case c4 => decide
    intro g2 L2 h2 eg2 X2 T2 F2 N2 l2
    clear F N
    k_steps
    rename Fr _ _ _ _ => F
    rename News _ _ _ _ => N
    exact hR _ _ _ _ _ (stays_back hnn eg2 F N fun p hp => .tail _ (.tail _ (.tail _ hp))) (N _ (.tail _ (.tail _ (.head _)))).1 (span_new hnn eg2 N (.tail _ (.tail _ (.head _))) (by intro p hp; simp only [List.mem_cons, List.not_mem_nil, or_false] at hp; rcases hp with rfl | rfl <;> exact neN (by dsimp only; omega)))
  · intro dp un fr gd s' t' R' hs hdp' hun' hR
    have hnn : ∀ p ∈ [(L + 1, o3), (L + 1 + 1, o2), (L + 1 + 1 + 1, o1)], s'.heap.get? p.1 = some p.2 := List.forall_mem_cons.mpr ⟨hs _ _ (neN (by omega)) nx, List.forall_mem_cons.mpr ⟨hs _ _ (neN (by omega)) na, List.forall_mem_cons.mpr ⟨hs _ _ (neN (by omega)) nb, fun _ q => nomatch q⟩⟩⟩
    refine' enterL [("which", .int 1 t')] G.X G.T (hit_stay st n90 eg F.keep hs) [(L + 1, o3), (L + 1 + 1, o2), (L + 1 + 1 + 1, o1)] ?hn (hs _ _ ?n1 ng) (codeRec_but cg ?n2 hs) ?hroom ?hbind ?hloc ?_ ?c1 ?c2 ?c3 ?c4
    case hn => exact List.forall_mem_cons.mpr ⟨⟨hs _ _ (neN (by omega)) nx, g1⟩, List.forall_mem_cons.mpr ⟨⟨hs _ _ (neN (by omega)) na, g2⟩, List.forall_mem_cons.mpr ⟨⟨hs _ _ (neN (by omega)) nb, g3⟩, fun _ q => nomatch q⟩⟩⟩
    case n1 => exact neN (by omega)
    case n2 => first | exact m1 | exact m2 | exact m3
    case hroom => (show dp < _); omega
    case hbind => rfl
    case hloc => exact locs rfl
    case c1 => rfl
    case c2 => rfl
    case c3 => rfl
    case c4 => decide
    intro g2 L2 h2 eg2 X2 T2 F2 N2 l2
    clear F N
    k_steps
    rename Fr _ _ _ _ => F
    rename News _ _ _ _ => N
    exact hR _ _ _ (stays_back hnn eg2 F N fun p hp => .tail _ hp)
end
/- Hits -/
section
theorem codeRec_90 {h : Heap} {c : Addr} {c1 c2 c3 : Addr} {q : Str} (h90 : h.get? 90 = some (tabObj #[rawInt 105, rawInt 10, .ref c1, rawInt 107, rawInt 15, .ref c2, rawInt 108, rawInt 16, .ref c3])) (x : h.CodeRec (.ref c) q) : c ≠ 90 := by
  rintro rfl
  obtain ⟨c2, o, vs, t, e, g, hd, r⟩ := x
  cases e
  rw [h90] at g
  cases g
  cases hd
  simp [rawInt] at r
theorem hit {w : World} {loose : List Str} {mean : ExcName → Option Value} {mg mb : Str → Option Value} {dp un : Nat} {fr : Option (List Env)} {gd : Option (List Code)} {s : Shared} {R : Result → Shared → Prop} {x : Str} {t ta tb : Tok} {a b : Int} {g : Heap}
    (G : Gr w loose mean mg mb g) (st : g.StaysIn s.heap) (h90 : Tab90 s.heap) (n90 : g.get? 90 = none) (hdp : dp + 2 < recursionLimit) (hun : un + 8 < cLine)
    (hx : x.length ≤ 17)
    (h : ∀ f h' tk, Heap.ExtBut 90 s.heap h' → Tab90 h' → HitAt w h' f x (Txt.slice x (some (a + 1)) (some b)) a b → R (.ok (.ret (.ref f))) { s with heap := h', toks := tk }) :
    codeAny (model prog w) (aro dp un fr gd) (.call (.ref 95) ⟨[.str x t, .int a ta, .int b tb], []⟩) R s := by
  rcases h90 with h90 | ⟨c1, c2, c3, h90, k1, k2, k3⟩
  · exact hit0 G st h90 n90 hdp hun hx h
  · exact hit1 G st h90 n90 hdp hun hx k1 k2 k3 (codeRec_90 h90 k1) (codeRec_90 h90 k2) (codeRec_90 h90 k3) h
theorem Tab90.keeps {h h' : Heap} (H : Tab90 h) (k : h.StaysIn h') : Tab90 h' := by
  rcases H with H | ⟨c1, c2, c3, H, k1, k2, k3⟩
  · exact .inl (k _ _ H)
  · exact .inr ⟨c1, c2, c3, k _ _ H, k1.keeps k, k2.keeps k, k3.keeps k⟩
/-- what of the code table must lie in the ledger so that it can be read off ground and ledger -/
def TabL (g : Heap) (o : Obj) (rest : List (Addr × Obj)) : Prop := ∀ (L : Addr) (h : Heap), g.StaysIn h → News g L h ((90, o) :: rest) → Tab90 h
def RestC (rest : List (Addr × Obj)) : Prop := ∀ p ∈ rest, ∃ vs q t, p.2.data = .fields vs ∧ vs[1]? = some (.str q t)
theorem tabNews2 {g h : Heap} {L : Addr} {m : Str → Option Value} (F : Fr g L h m) (H : Tab90 h) (n90 : g.get? 90 = none) (L90 : (90 : Addr) ≠ L) : ∃ o rest, News g L h ((90, o) :: rest) ∧ TabL g o rest ∧ RestC rest := by
  rcases H with H | ⟨c1, c2, c3, H, k1, k2, k3⟩
  · exact ⟨_, [], fun p hp => by rw [List.mem_singleton.mp hp]; exact ⟨H, L90, n90⟩, fun L h _ N => .inl (N _ (.head _)).1, fun _ hp => nomatch hp⟩
  · obtain ⟨d1, o1, v1, t1, e1, g1, q1, r1⟩ := k1
    obtain ⟨d2, o2, v2, t2, e2, g2, q2, r2⟩ := k2
    obtain ⟨d3, o3, v3, t3, e3, g3, q3, r3⟩ := k3
    cases e1; cases e2; cases e3
    have hL : ∀ c o v, h.get? c = some o → o.data = .fields v → c ≠ L := fun c o v e d q => by
      obtain ⟨oL, es, ep, eL, dL, _⟩ := F.ns
      rw [q, eL] at e; cases e; rw [dL] at d; cases d
    refine ⟨tabObj #[rawInt 105, rawInt 10, .ref c1, rawInt 107, rawInt 15, .ref c2, rawInt 108, rawInt 16, .ref c3], ([(c1, o1), (c2, o2), (c3, o3)]).filter (fun p => (g.get? p.1).isNone), fun p hp => ?_, fun L' h' k N => ?_, fun p hp => ?_⟩
    · rcases List.mem_cons.mp hp with rfl | hp
      · exact ⟨H, L90, n90⟩
      · obtain ⟨hm, hn⟩ := List.mem_filter.mp hp
        have hn : g.get? p.1 = none := by simpa using hn
        simp only [List.mem_cons, List.not_mem_nil, or_false] at hm
        rcases hm with rfl | rfl | rfl
        · exact ⟨g1, hL _ _ _ g1 q1, hn⟩
        · exact ⟨g2, hL _ _ _ g2 q2, hn⟩
        · exact ⟨g3, hL _ _ _ g3 q3, hn⟩
    · have key : ∀ c o, (c, o) ∈ [(c1, o1), (c2, o2), (c3, o3)] → h.get? c = some o → h'.get? c = some o := fun c o hm e => by
        cases q : g.get? c with
        | none => exact (N (c, o) (.tail _ (List.mem_filter.mpr ⟨hm, by simp [q]⟩))).1
        | some o2 =>
          have := F.keep _ _ q
          rw [e] at this; cases this
          exact k _ _ q
      exact .inr ⟨c1, c2, c3, (N _ (.head _)).1, ⟨_, _, _, _, rfl, key _ _ (by simp) g1, q1, r1⟩, ⟨_, _, _, _, rfl, key _ _ (by simp) g2, q2, r2⟩, ⟨_, _, _, _, rfl, key _ _ (by simp) g3, q3, r3⟩⟩
    · have hm := (List.mem_filter.mp hp).1
      simp only [List.mem_cons, List.not_mem_nil, or_false] at hm
      rcases hm with rfl | rfl | rfl
      · exact ⟨_, _, _, q1, r1⟩
      · exact ⟨_, _, _, q2, r2⟩
      · exact ⟨_, _, _, q3, r3⟩
theorem tabNews {g h : Heap} {L : Addr} {m : Str → Option Value} (F : Fr g L h m) (H : Tab90 h) (n90 : g.get? 90 = none) (L90 : (90 : Addr) ≠ L) : ∃ o rest, News g L h ((90, o) :: rest) ∧ TabL g o rest :=
  let ⟨o, rest, N, T, _⟩ := tabNews2 F H n90 L90; ⟨o, rest, N, T⟩
end
/- Unm -/
section
theorem beginUnm : True := by
  w_top off
  trivial
theorem unmatched {w : World} {loose : List Str} {mean : ExcName → Option Value} {mg mb : Str → Option Value} {dp un : Nat} {fr : Option (List Env)} {gd : Option (List Code)} {s : Shared} {R : Result → Shared → Prop} {x y : Str} {a b : Int} {f : Addr} {g : Heap}
    (G : Gr w loose mean mg mb g) (st : g.StaysIn s.heap) (H : HitAt w s.heap f x y a b) (hx : x.length ≤ 17) (hdp : dp + 5 < recursionLimit) (hun : un + 20 < cLine)
    (h : ∀ t h' tk, s.heap.StaysIn h' → R (.ok (.ret (.str (Txt.slice x none (some a) ++ Txt.slice x (some b) none) t))) { s with heap := h', toks := tk }) :
    codeAny (model prog w) (aro dp un fr gd) (.call (.ref 38) ⟨[.ref f], []⟩) R s := by
  refine' enter [("match", .ref f)] G.X G.T st [] (fun _ q => nomatch q) ?ho ?hcd ?hroom ?hbind ?hloc ?_ ?c1 ?c2 ?c3 ?c4
  case ho => k_is
  case hcd => k_is
  case hroom => (show dp < _); omega
  case hbind => rfl
  case hloc => exact locs rfl
  case c1 => rfl
  case c2 => rfl
  case c3 => rfl
  case c4 => decide
  intro g' L h₁ eg X' T' F N l1
  replace eg : g' = s.heap := eg
  subst eg
  obtain ⟨D, fd, sl, md, t0, fs, fg, hf, hD, hm1, hm2, hm3, ⟨⟨oS, fdS, hoS, hdS⟩, BS⟩, ⟨⟨oG, fdG, hoG, hdG⟩, BG⟩⟩ := H
  iterate 4 (first | (k_unfold; (try dsimp only)) | walk1)
  refine fn_getMethod (F.keep _ _ hf) (hD.keeps F.keep) lk_function_span hm2 rfl ?_
  (try dsimp only)
  refine callWith_def (o := oS) (fd := fdS) hdS ?_
  iterate 3 (first | (k_unfold; (try dsimp only)) | walk1)
  refine wpAny_call (BS _ _ _ _ _ _ _ (fun b o _ e => F.keep b o e) (by show dp + 1 + 2 < _; omega) (by show un + 3 + 8 < _; omega) fun T ta tb h2 tk2 st2 hT fT => ?_)
  have F2 := frKeep F st2
  have N2 := newsAdd F (newsKeep N st2) hT fT
  clear F N
  (try dsimp only)
  iterate 15 (first | (k_unfold; (try dsimp only)) | walk1)
  rename Fr _ _ _ _ => F
  refine fn_getAttr (F.keep _ _ hf) (hD.keeps F.keep) lk_function_string hm1 rfl ?_
  (try dsimp only)
  iterate 10 (first | (k_unfold; (try dsimp only)) | walk1)
  rename Fr _ _ _ _ => F
  refine fn_getAttr (F.keep _ _ hf) (hD.keeps F.keep) lk_function_string hm1 rfl ?_
  (try dsimp only)
  iterate 7 (first | (k_unfold; (try dsimp only)) | walk1)
  have e1 : (Txt.slice x none (some a)).length ≤ x.length := Txt.slice_le _ _ _
  have e2 : (Txt.slice x (some b) none).length ≤ x.length := Txt.slice_le _ _ _
  rename Fr _ _ _ _ => F
  refine SBL.add (fun t' k _ => h _ _ _ F.keep) (by rw [sizeLine_eq]; omega)
end
/- Txt1 -/
section
theorem clipEq {n a b : Nat} : Builtin.Str.strSliceIndices (some (a : Int)) (some (b : Int)) 1 n = Builtin.Str.strSliceIndices (some ((min a n : Nat) : Int)) (some ((min b n : Nat) : Int)) 1 n := by
  unfold Builtin.Str.strSliceIndices
  have h1 : ¬ ((a : Int) < 0) := by omega
  have h2 : ¬ ((b : Int) < 0) := by omega
  have h3 : ¬ (((min a n : Nat) : Int) < 0) := by omega
  have h4 : ¬ (((min b n : Nat) : Int) < 0) := by omega
  have h5 : ((1 : Int) > 0) := by decide
  simp only [h1, h2, h3, h4, h5, if_true, if_false]
  have e1 : max 0 (min (a : Int) n) = max 0 (min ((min a n : Nat) : Int) n) := by omega
  have e2 : max 0 (min (b : Int) n) = max 0 (min ((min b n : Nat) : Int) n) := by omega
  rw [e1, e2]
theorem slice_nat (x : Str) (a b : Nat) : (Txt.slice x (some (a : Int)) (some (b : Int))).cps.toList = (x.cps.toList.drop a).take (b - a) := by
  have hn : x.length = x.cps.toList.length := by simp [Str.length]
  have e0 : Txt.slice x (some (a : Int)) (some (b : Int)) = Txt.slice x (some ((min a x.length : Nat) : Int)) (some ((min b x.length : Nat) : Int)) := by
    unfold Txt.slice; rw [clipEq]
  rw [e0]
  by_cases hab : min a x.length ≤ min b x.length
  · have := slice_closes (x := x) (i := ((min a x.length : Nat) : Int)) (j := ((min b x.length : Nat) : Int)) ⟨by omega, by omega, by omega⟩
    rw [eq_of_beq this]
    simp only [List.toList_toArray]
    have e1 : ((min a x.length : Nat) : Int).toNat = min a x.length := by omega
    have e2 : (((min b x.length : Nat) : Int) - ((min a x.length : Nat) : Int)).toNat = min b x.length - min a x.length := by omega
    rw [e1, e2, hn]
    apply List.ext_getElem?
    intro i
    simp only [List.getElem?_take, List.getElem?_drop]
    by_cases h1 : a ≤ x.cps.toList.length
    · rw [Nat.min_eq_left h1]
      by_cases h2 : b ≤ x.cps.toList.length
      · rw [Nat.min_eq_left h2]
      · rw [Nat.min_eq_right (by omega)]
        by_cases h3 : i < x.cps.toList.length - a
        · rw [if_pos h3, if_pos (by omega)]
        · rw [if_neg h3]; split
          · rw [List.getElem?_eq_none (by omega)]
          · rfl
    · rw [Nat.min_eq_right (by omega : x.cps.toList.length ≤ a)]
      rw [List.getElem?_eq_none (l := x.cps.toList) (i := x.cps.toList.length + i) (by omega), List.getElem?_eq_none (l := x.cps.toList) (i := a + i) (by omega)]
      simp
  · have hb : b ≤ a := by omega
    have e3 : b - a = 0 := by omega
    rw [e3, List.take_zero]
    have e4 : Builtin.Str.strSliceIndices (some ((min a x.length : Nat) : Int)) (some ((min b x.length : Nat) : Int)) 1 x.length = [] := by
      unfold Builtin.Str.strSliceIndices sliceRange
      have h3 : ¬ (((min a x.length : Nat) : Int) < 0) := by omega
      have h4 : ¬ (((min b x.length : Nat) : Int) < 0) := by omega
      have h5 : ((1 : Int) > 0) := by decide
      simp only [h3, h4, h5, if_true, if_false]
      rw [if_neg (by omega)]
      rfl
    unfold Txt.slice
    rw [e4]
    split
    · rename_i h
      have : x.length = 0 := ((by simpa using h.symm : 0 = x.length)).symm
      have : x.cps.toList.length = 0 := by omega
      exact List.eq_nil_of_length_eq_zero this
    · rfl
theorem slice_two (x : Str) (i : Nat) : (Txt.slice x (some ((i : Int) + 1)) (some ((i : Int) + 3))).length ≤ 2 := by
  have := slice_nat x (i + 1) (i + 3)
  have e : (Txt.slice x (some ((i : Int) + 1)) (some ((i : Int) + 3))).cps.toList.length ≤ 2 := by
    show (Txt.slice x (some ((i + 1 : Nat) : Int)) (some ((i + 3 : Nat) : Int))).cps.toList.length ≤ 2
    rw [this, List.length_take]; omega
  simpa [Str.length] using e
theorem slice_to (x : Str) (b : Nat) : (Txt.slice x none (some (b : Int))).cps.toList = x.cps.toList.take b := by
  have e : Txt.slice x none (some (b : Int)) = Txt.slice x (some ((0 : Nat) : Int)) (some (b : Int)) := by
    unfold Txt.slice
    rw [show Builtin.Str.strSliceIndices none (some (b : Int)) 1 x.length = Builtin.Str.strSliceIndices (some ((0 : Nat) : Int)) (some (b : Int)) 1 x.length by
      unfold Builtin.Str.strSliceIndices
      have h1 : ¬ (((0 : Nat) : Int) < 0) := by omega
      have h5 : ((1 : Int) > 0) := by decide
      simp only [h1, h5, if_true, if_false]
      congr 1
      try omega]
  rw [e, slice_nat]; simp
theorem slice_from (x : Str) (a : Nat) : (Txt.slice x (some (a : Int)) none).cps.toList = x.cps.toList.drop a := by
  have e : Txt.slice x (some (a : Int)) none = Txt.slice x (some (a : Int)) (some ((x.length : Nat) : Int)) := by
    unfold Txt.slice
    rw [show Builtin.Str.strSliceIndices (some (a : Int)) none 1 x.length = Builtin.Str.strSliceIndices (some (a : Int)) (some ((x.length : Nat) : Int)) 1 x.length by
      unfold Builtin.Str.strSliceIndices
      have h1 : ¬ (((x.length : Nat) : Int) < 0) := by omega
      have h5 : ((1 : Int) > 0) := by decide
      simp only [h1, h5, if_true, if_false]
      congr 1
      try omega]
  rw [e, slice_nat]
  apply List.take_of_length_le
  rw [List.length_drop]
  simp [Str.length]
theorem cut_list (x : Str) (i : Nat) : (Txt.slice x none (some (i : Int)) ++ Txt.slice x (some ((i : Int) + 3)) none).cps.toList = x.cps.toList.take i ++ x.cps.toList.drop (i + 3) := by
  have h2 := slice_from x (i + 3)
  rw [show (((i + 3 : Nat)) : Int) = (i : Int) + 3 by omega] at h2
  rw [Str.cps_append, Array.toList_append, slice_to, h2]
theorem cut_le (x : Str) (i : Nat) : (Txt.slice x none (some (i : Int)) ++ Txt.slice x (some ((i : Int) + 3)) none).length ≤ x.length := by
  have h := congrArg List.length (cut_list x i)
  rw [List.length_append, List.length_take, List.length_drop] at h
  have e1 : x.cps.toList.length = x.length := by simp [Str.length]
  have e2 : (Txt.slice x none (some (i : Int)) ++ Txt.slice x (some ((i : Int) + 3)) none).cps.toList.length = (Txt.slice x none (some (i : Int)) ++ Txt.slice x (some ((i : Int) + 3)) none).length := by simp [Str.length]
  omega
theorem glue_fold (l : List Nat) : ∀ acc : Array Nat, (((l.map fun c => (⟨#[c]⟩ : Str)).foldl (fun acc p => acc ++ (Str.ofString "").cps ++ p.cps) acc).toList) = acc.toList ++ l := by
  induction l with
  | nil => intro acc; simp
  | cons c l ih =>
    intro acc
    simp only [List.map_cons, List.foldl_cons]
    rw [ih]
    have e : (Str.ofString "").cps = #[] := rfl
    rw [e]; simp
theorem join_singles (l : List Nat) : (Txt.join (Str.ofString "") (l.map fun c => (⟨#[c]⟩ : Str))).cps.toList = l := by
  cases l with
  | nil => rfl
  | cons c l =>
    show (((l.map fun c => (⟨#[c]⟩ : Str)).foldl (fun acc p => acc ++ (Str.ofString "").cps ++ p.cps) #[c]).toList) = c :: l
    rw [glue_fold]; rfl
theorem join_singles_len (l : List Nat) : (Txt.join (Str.ofString "") (l.map fun c => (⟨#[c]⟩ : Str))).length = l.length := by
  have := congrArg List.length (join_singles l)
  simpa [Str.length] using this
end
/- Upper -/
section
theorem beginUpper : True := by
  w_top off
  trivial
theorem pct_run (t u : Tok) (z : Str) (hz : z.length ≤ 1000000) : Meets (Builtin.«str.__mod__» ⟨[.str ⟨#[37, 37, 37, 115]⟩ t, .str z u], []⟩) (fun _ R s => ∀ t' k, R (.ok (.ret (.str (Str.ofString "%" ++ z) t'))) { s with toks := k }) := by
  apply KPc.meets_of
  intro _ _ _ _ _ _ _
  rw [KPc.entry_is_s]
  unfold Builtin.Str.percentFormat
  refine wpAny_bind (wpAny_isInstance (typeIs_str _ _ _) F.sub_str_tuple ?_)
  refine wpAny_bind (wpAny_of_eq (a := some _) rfl ?_)
  refine wpAny_bind (KPc.wp_fills_str ?_)
  intro _
  kpc_loop

theorem upper {w : World} {loose : List Str} {mean : ExcName → Option Value} {mg mb : Str → Option Value} {dp un : Nat} {fr : Option (List Env)} {gd : Option (List Code)} {s : Shared} {R : Result → Shared → Prop} {x y : Str} {a b : Int} {f : Addr} {g : Heap}
    (G : Gr w loose mean mg mb g) (st : g.StaysIn s.heap) (H : HitAt w s.heap f x y a b) (hy : y.length ≤ 17) (hdp : dp + 5 < recursionLimit) (hun : un + 20 < cLine)
    (h : ∀ t h' tk, s.heap.StaysIn h' → R (.ok (.ret (.str (Str.ofString "%" ++ Txt.upper y) t))) { s with heap := h', toks := tk }) :
    codeAny (model prog w) (aro dp un fr gd) (.call (.ref 45) ⟨[.ref f], []⟩) R s := by
  refine' enter [("match", .ref f)] G.X G.T st [] (fun _ q => nomatch q) ?ho ?hcd ?hroom ?hbind ?hloc ?_ ?c1 ?c2 ?c3 ?c4
  case ho => k_is
  case hcd => k_is
  case hroom => (show dp < _); omega
  case hbind => rfl
  case hloc => exact locs rfl
  case c1 => rfl
  case c2 => rfl
  case c3 => rfl
  case c4 => decide
  intro g' L h₁ eg X' T' F N l1
  replace eg : g' = s.heap := eg
  subst eg
  obtain ⟨D, fd, sl, md, t0, fs, fg, hf, hD, hm1, hm2, hm3, ⟨⟨oS, fdS, hoS, hdS⟩, BS⟩, ⟨⟨oG, fdG, hoG, hdG⟩, BG⟩⟩ := H
  iterate 7 (first | (k_unfold; (try dsimp only)) | walk1)
  refine fn_getMethod (F.keep _ _ hf) (hD.keeps F.keep) lk_function_group hm3 rfl ?_
  (try dsimp only)
  refine callWith_def (o := oG) (fd := fdG) hdG ?_
  iterate 3 (first | (k_unfold; (try dsimp only)) | walk1)
  refine wpAny_call (BG _ _ _ _ _ _ _ (fun b o _ e => F.keep b o e) (by show dp + 1 + 2 < _; omega) (by show un + 3 + 8 < _; omega) fun tx h2 tk2 st2 => ?_)
  have F2 : Fr s.heap L h2 _ := ⟨F.ns.keeps st2, fun b o e => st2 b o (F.keep b o e), F.above⟩
  have N2 : News s.heap L h2 [] := fun _ q => nomatch q
  clear F N
  (try dsimp only)
  iterate 3 (first | (k_unfold; (try dsimp only)) | walk1)
  have hu : (Txt.upper y).length ≤ 51 := by have := len_upper y; omega
  refine KPc.mod_str (X' := ⟨#[37, 37, 37, 115]⟩) (T := fun z => Str.ofString "%" ++ z) (by decide +kernel) (by omega) (fun z hz => pct_run _ _ z hz) fun t' k => ?_
  exact h _ _ _ F2.keep
end
/- Cap -/
section
theorem beginCap : True := by
  w_top off
  trivial
def capGo (r1 r2 r3 : List (Str × Str)) (x : Str) : Nat → Nat → Str → Str
  | 0, _, wr => wr
  | n + 1, i, wr =>
    if i < x.length then
      if standsB r1 r2 r3 (Txt.slice x (some i) (some (i + 3))) then
        capGo r1 r2 r3 x n (i + 3) (wr ++ (Str.ofString "%" ++ Txt.upper (Txt.slice x (some (i + 1)) (some (i + 3)))))
      else capGo r1 r2 r3 x n (i + 1) (wr ++ Txt.item x i)
    else wr

theorem frTwo {g h : Heap} {L : Addr} {a b : Str} {v1 v2 u1 u2 : Option Value} {M : Str → Option Value} (F : Fr g L h (fun q => if q = a then v1 else if q = b then v2 else if q = a then u1 else if q = b then u2 else M q)) :
    Fr g L h (fun q => if q = a then v1 else if q = b then v2 else M q) := by
  have e : (fun q => if q = a then v1 else if q = b then v2 else M q) = fun q => if q = a then v1 else if q = b then v2 else if q = a then u1 else if q = b then u2 else M q := funext fun q => by
    by_cases q1 : q = a <;> by_cases q2 : q = b <;> simp [q1, q2]
  rw [e]; exact F
inductive CapW (g' : Heap) (L : Addr) (r1 r2 r3 : List (Str × Str)) (l : Addr) (x : Str) (t : Tok) (s : Shared) (n : Nat) (s' : Shared) : Prop
  | mk (i : Nat) (wr : Str) (tf tw : Tok) (hp : Heap) (tk : Nat) (o : Obj) (rest : List (Addr × Obj)) (h1 : s' = { s with heap := hp, toks := tk }) (h2 : capGo r1 r2 r3 x n i wr = capGo r1 r2 r3 x (x.length + 1) 0 ⟨#[]⟩) (h3 : x.length < i + n) (h4 : wr.length ≤ 4 * i) (h5 : i ≤ x.length + 2)
    (F : Fr g' L hp (fun q => if q = "first" then some (.int (i : Nat) tf) else if q = "written" then some (.str wr tw) else ([("items", Value.ref l), ("text", Value.str x t)] : List (Str × Value)).reverse.lookup q)) (N : News g' L hp ((90, o) :: rest)) (hT : TabL g' o rest) : CapW g' L r1 r2 r3 l x t s n s'
theorem capital {w : World} {loose : List Str} {mean : ExcName → Option Value} {mg mb : Str → Option Value} {dp un : Nat} {fr : Option (List Env)} {gd : Option (List Code)} {s : Shared} {R : Result → Shared → Prop} {g : Heap} {l : Addr} {r1 r2 r3 : List (Str × Str)} {x : Str} {t : Tok}
    (G : Gr w loose mean mg mb g) (st : g.StaysIn s.heap) (h90 : Tab90 s.heap) (n90 : g.get? 90 = none) (hdp : dp + 10 < recursionLimit) (hun : un + 40 < cLine) (hi : ItemsAt g l r1 r2 r3) (hx : x.length ≤ 17)
    (h : ∀ h' tk tr, Heap.ExtBut 90 s.heap h' → Tab90 h' → R (.ok (.ret (.str (capGo r1 r2 r3 x (x.length + 1) 0 ⟨#[]⟩) tr))) { s with heap := h', toks := tk }) :
    codeAny (model prog w) (aro dp un fr gd) (.call (.ref 102) ⟨[.ref l, .str x t], []⟩) R s := by
  obtain ⟨o90, ho90⟩ : ∃ o, s.heap.get? 90 = some o := by rcases h90 with q | ⟨_, _, _, q, _⟩ <;> exact ⟨_, q⟩
  refine' enter [("items", .ref l), ("text", .str x t)] G.X G.T st [(90, o90)] ?hn ?ho ?hcd ?hroom ?hbind ?hloc ?_ ?c1 ?c2 ?c3 ?c4
  case hn => exact List.forall_mem_cons.mpr ⟨⟨ho90, n90⟩, fun _ q => nomatch q⟩
  case ho => k_is
  case hcd => k_is
  case hroom => (show dp < _); omega
  case hbind => rfl
  case hloc => exact locs rfl
  case c1 => rfl
  case c2 => rfl
  case c3 => rfl
  case c4 => decide
  intro g' L h₁ eg X' T' F N l1
  (try dsimp only)
  iterate 10 (first | (k_unfold; (try dsimp only)) | walk1)
  rename Fr _ _ _ _ => F
  rename News _ _ _ _ => N
  refine wpAny_While (codeAny_whileLoop (CapW g' L r1 r2 r3 l x t s) ?turn (x.length + 1) ?init)
  case init =>
    obtain ⟨o, rest, N', hT⟩ := tabNews F (h90.keeps (stays_back (news := [(90, o90)]) (fun p hp => by rw [List.mem_singleton.mp hp]; exact ho90) eg F N (fun p hp => hp))) (N _ (.head _)).2.2 (N _ (.head _)).2.1
    exact ⟨0, ⟨#[]⟩, _, _, _, _, o, rest, rfl, rfl, by omega, by decide, by omega, F, N', hT⟩
  have gg : g.StaysIn g' := fun b o e => eg ▸ hideAll_get _ (st b o e) (by
    intro q; rw [List.mem_singleton.mp q] at e; rw [n90] at e; cases e)
  have hi' := hi.keeps gg
  obtain ⟨a3, b3, c3, hl3, _⟩ := id hi'
  have g90 : g'.get? 90 = none := (N _ (.head _)).2.2
  have L90 : (90 : Addr) ≠ L := (N _ (.head _)).2.1
  clear F N
  rintro n s' ⟨i, wr, tf, tw, hp, tk, o, rest, rfl, hcap, hin, hwr, hix, F, N, hT⟩
  refine wpAny_mono (E := fun _ _ => False) ?_ (fun _ _ q => q) (fun _ _ q => q.elim)
  iterate 10 (first | (k_unfold; (try dsimp only)) | walk1)
  refine wpAny_truthy_bool ?_
  by_cases hlt : i < x.length
  · rw [if_pos (decide_eq_true (Int.ofNat_lt.mpr hlt))]
    obtain ⟨n, rfl⟩ : ∃ k, n = k + 1 := ⟨n - 1, by omega⟩
    iterate 14 (first | (k_unfold; (try dsimp only)) | walk1)
    refine ⟨X'.keeps F.keep, ?_⟩
    refine wpAny_call (stands ⟨X', T'⟩ F.keep (by show dp + 1 + 2 < _; omega) (by show un + 3 + 8 < _; omega) (hi'.keeps F.keep) hx (Int.natCast_nonneg i) fun h2 tk2 st2 => ?_)
    have F2 := frKeep F st2
    have N2 := newsKeep N st2
    clear F N
    refine wpAny_truthy_bool ?_
    cases hst : standsB r1 r2 r3 (Txt.slice x (some (i : Int)) (some ((i : Int) + 3))) with
    | true =>
      rw [if_pos rfl]
      iterate 27 (first | (k_unfold; (try dsimp only)) | walk1)
      rename Fr _ _ _ _ => F2
      refine ⟨X'.keeps F2.keep, ?_⟩
      rename News _ _ _ _ => N2
      refine wpAny_call (hit ⟨X', T'⟩ F2.keep (hT _ _ F2.keep N2) g90 (by show dp + 1 + 2 < _; omega) (by show un + 3 + 8 < _; omega) hx fun f h5 tk5 e5 t5 H5 => ?_)
      have F5 := frKeepBut (wr := [90]) F2 (fun q => L90 (List.mem_singleton.mp q).symm) (fun b hb => by rw [List.mem_singleton.mp hb]; exact g90) (fun b o hb e => e5 b o (by simpa using hb) e)
      obtain ⟨o5, rest5, N5, hT5⟩ := tabNews F5 t5 g90 L90
      clear F2 N2 hT
      iterate 1 (first | (k_unfold; (try dsimp only)) | walk1)
      refine ⟨X'.keeps F5.keep, ?_⟩
      refine wpAny_call (upper ⟨X', T'⟩ F5.keep H5 (Nat.le_trans (Txt.slice_le _ _ _) hx) (by show dp + 1 + 5 < _; omega) (by show un + 3 + 20 < _; omega) fun tu h6 tk6 st6 => ?_)
      have F6 := frKeep F5 st6
      have N6 := newsKeep N5 st6
      clear F5 N5 t5 H5
      obtain ⟨up, hup⟩ : ∃ up, up = Str.ofString "%" ++ Txt.upper (Txt.slice x (some ((i : Int) + 1)) (some ((i : Int) + 3))) := ⟨_, rfl⟩
      have hul : up.length ≤ 7 := by
        have h1 := len_upper (Txt.slice x (some ((i : Int) + 1)) (some ((i : Int) + 3)))
        have h2 := slice_two x i
        rw [hup, Str.length_append]
        have h3 : (Str.ofString "%").length = 1 := rfl
        omega
      show wpAny _ _ (binaryOp Operator.Add (Value.str wr tw) (Value.str (Str.ofString "%" ++ Txt.upper (Txt.slice x (some ((i : Int) + 1)) (some ((i : Int) + 3)))) tu)) _ _ _
      rw [← hup]
      iterate 17 (first | (k_unfold; (try dsimp only)) | walk1)
      (try dsimp only)
      refine wpAny_execs_nil ?_
      (try dsimp only)
      refine wpAny_execs_nil ?_
      rename Fr _ _ _ _ => F
      rename News _ _ _ _ => N
      refine ⟨n, by omega, i + 3, wr ++ up, _, _, _, _, o5, rest5, rfl, ?_, by omega, ?_, ?_, frTwo F, N, hT5⟩
      · rw [← hcap, hup]; exact (((if_pos hlt).trans (if_pos hst)) : capGo r1 r2 r3 x (n + 1) i wr = _).symm
      · rw [Str.length_append]
        omega
      · omega
    | false =>
      rw [if_neg (by simp)]
      iterate 10 (first | (k_unfold; (try dsimp only)) | walk1)
      (try dsimp only)
      iterate 9 (first | (k_unfold; (try dsimp only)) | walk1)
      (try dsimp only)
      refine wpAny_execs_nil ?_
      rename Fr _ _ _ _ => F
      rename News _ _ _ _ => N
      refine ⟨n, by omega, i + 1, wr ++ Txt.item x i, _, _, _, _, o, rest, rfl, ?_, by omega, ?_, by omega, frTwo F, N, hT⟩
      · rw [← hcap]; exact (((if_pos hlt).trans (if_neg (by rw [hst]; simp))) : capGo r1 r2 r3 x (n + 1) i wr = _).symm
      · rw [Str.length_append]
        have : (Txt.item x i).length = 1 := rfl
        omega
  · rw [if_neg (by simpa using hlt)]
    iterate 1 (first | (k_unfold; (try dsimp only)) | walk1)
    (try dsimp only)
    iterate 4 (first | (k_unfold; (try dsimp only)) | walk1)
    have e1 : capGo r1 r2 r3 x n i wr = wr := by
      cases n with
      | zero => rfl
      | succ n => exact if_neg hlt
    rw [← hcap, e1] at h
    exact h _ _ _ (fun b o hb e => F.keep b o (eg ▸ hideAll_get _ e (by simpa using hb))) (hT _ _ F.keep N)
end
/- Keys -/
section
def keyOf : Value → Nat
  | .int k _ => k.toNat
  | _ => 0
theorem paired_eq {a b : List Value} (h : Paired (fun v y => y = v) a b) : b = a := by
  induction h with
  | nil => rfl
  | cons e _ ih => rw [e, ih]
theorem takKeys {p : Nat → Bool} {pv : Value → Bool} {n : Nat} {vs : List Value} {ys : Array Value} (hl : vs.length = n) (hv : ∀ (j : Nat) (v : Value), vs[j]? = some v → ∃ t, v = .int (0 + (j : Int) * 1) t)
    (hp : Paired (fun v y => y = v) (vs.filter pv) ys.toList) (hpv : ∀ (k : Nat) t, pv (.int (0 + (k : Int) * 1) t) = p k) :
    ys.size = ((List.range n).filter p).length ∧ ∀ (k i : Nat), ((List.range n).filter p)[k]? = some i → ∃ t, ys[k]? = some (.int (i : Int) t) := by
  have e1 := paired_eq hp
  have hm : vs.map keyOf = List.range n := by
    refine List.ext_getElem? fun j => ?_
    rw [List.getElem?_map]
    cases hj : vs[j]? with
    | none =>
      have : n ≤ j := hl ▸ List.getElem?_eq_none_iff.mp hj
      rw [List.getElem?_eq_none (by simpa using this)]; rfl
    | some v =>
      obtain ⟨t, rfl⟩ := hv j v hj
      have : j < n := hl ▸ (List.getElem?_eq_some_iff.mp hj).1
      rw [List.getElem?_range this]
      simp [keyOf]
  have hint : ∀ v ∈ vs, (∃ t, v = .int (keyOf v : Int) t) ∧ pv v = p (keyOf v) := fun v hm => by
    obtain ⟨j, hj⟩ := List.getElem?_of_mem hm
    obtain ⟨t, rfl⟩ := hv j v hj
    have : keyOf (.int (0 + (j : Int) * 1) t) = j := by simp [keyOf]
    rw [this]
    exact ⟨⟨t, by congr 1; omega⟩, hpv j t⟩
  have e2 : (vs.filter pv).map keyOf = (List.range n).filter p := by
    rw [← hm, List.filter_map]
    congr 1
    exact List.filter_congr fun v hv => (hint v hv).2
  have e3 : ys.toList.map keyOf = (List.range n).filter p := by rw [e1, e2]
  refine ⟨by rw [← e3, List.length_map]; simp, fun k i hk => ?_⟩
  rw [← e3, List.getElem?_map] at hk
  cases hy : ys.toList[k]? with
  | none => rw [hy] at hk; cases hk
  | some v =>
    rw [hy] at hk
    have hmem : v ∈ vs := by
      have : v ∈ ys.toList := List.mem_of_getElem? hy
      rw [e1] at this
      exact (List.mem_filter.mp this).1
    obtain ⟨⟨t, hvt⟩, _⟩ := hint v hmem
    have hki : keyOf v = i := Option.some.inj hk
    refine ⟨t, ?_⟩
    have hy' : ys[k]? = some v := by simpa using hy
    rw [hy', hvt, hki]
end
/- Tak -/
section
theorem beginTak : True := by
  w_top off
  trivial
def placesOf (r1 r2 r3 : List (Str × Str)) (y : Str) : List Nat :=
  (List.range y.length).filter fun i => standsB r1 r2 r3 (Txt.slice y (some (i : Int)) (some ((i : Int) + 3)))
def takGo (r1 r2 r3 : List (Str × Str)) : Nat → Str → Int → Str
  | 0, y, _ => y
  | n + 1, y, c =>
    if (placesOf r1 r2 r3 y).length = 0 then y
    else
      let i := ((placesOf r1 r2 r3 y)[(Int.fmod c (placesOf r1 r2 r3 y).length).toNat]?).getD 0
      takGo r1 r2 r3 n (Txt.slice y none (some (i : Int)) ++ Txt.slice y (some ((i : Int) + 3)) none) (Int.fdiv c 2)

/-- the ledger of _law_taken, the iterator of its loop left out -/
inductive TakJ (r1 r2 r3 : List (Str × Str)) (g' : Heap) (L : Addr) (oc2 : Obj) (x : Str) (cho : Int) (n i : Nat) (m : Str → Option Value) (news : List (Addr × Obj)) : Prop
  | mk (o1 : Obj) (y : Str) (ty : Tok) (ch : Int) (tch : Tok) (o : Obj) (rest : List (Addr × Obj)) (vt vp vf : Option Value) (h1 : news = (L + 2, o1) :: (L + 1, oc2) :: (90, o) :: rest) (h2 : o1.data = .cell (some (.str y ty))) (h3 : y.length ≤ 17) (h4 : TabL g' o rest) (h5 : RestC rest)
    (h6 : m = (fun q => if q = Str.ofString "turn" then vt else if q = Str.ofString "places" then vp else if q = Str.ofString "first" then vf else if q = Str.ofString "choice" then some (.int ch tch) else none))
    (h7 : takGo r1 r2 r3 (n - i) y ch = takGo r1 r2 r3 n x cho) : TakJ r1 r2 r3 g' L oc2 x cho n i m news

theorem taken {w : World} {loose : List Str} {mean : ExcName → Option Value} {mg mb : Str → Option Value} {dp un : Nat} {fr : Option (List Env)} {gd : Option (List Code)} {s : Shared} {R : Result → Shared → Prop} {g : Heap} {l : Addr} {r1 r2 r3 : List (Str × Str)} {x : Str} {t tc : Tok} {cho : Int}
    (G : Gr w loose mean mg mb g) (st : g.StaysIn s.heap) (h90 : Tab90 s.heap) (n90 : g.get? 90 = none) (hdp : dp + 10 < recursionLimit) (hun : un + 40 < cLine) (hi : ItemsAt g l r1 r2 r3) (hx : x.length ≤ 17)
    (h : ∀ h' tk tr, Heap.ExtBut 90 s.heap h' → Tab90 h' → R (.ok (.ret (.str (takGo r1 r2 r3 x.length x cho) tr))) { s with heap := h', toks := tk }) :
    codeAny (model prog w) (aro dp un fr gd) (.call (.ref 107) ⟨[.ref l, .str x t, .int cho tc], []⟩) R s := by
  obtain ⟨o90, ho90⟩ : ∃ o, s.heap.get? 90 = some o := by rcases h90 with q | ⟨_, _, _, q, _⟩ <;> exact ⟨_, q⟩
  refine' enterC [("items", .ref l), ("text", .str x t), ("choice", .int cho tc)] G.X G.T st [(90, o90)] ?hn ?ho ?hcd ?hroom ?hbind ?hloc ?hnd ?_ ?c1 ?c2 ?c3
  case hn => exact List.forall_mem_cons.mpr ⟨⟨ho90, n90⟩, fun _ q => nomatch q⟩
  case ho => k_is
  case hcd => k_is
  case hroom => (show dp < _); omega
  case hbind => rfl
  case hloc => rfl
  case hnd => decide +kernel
  case c1 => rfl
  case c2 => rfl
  case c3 => rfl
  intro g' L h₁ tk cells eg X' T' F N Y l1
  have Y2 : ∃ o1 o2, cells = [(L + 2, o1), (L + 1, o2)] ∧ o1.data = .cell (some (.str x t)) ∧ o2.data = .cell (some (.ref l)) := CellsAre.two Y
  obtain ⟨oc1, oc2, rfl, hoc1, hoc2⟩ := Y2
  clear Y
  (try dsimp only)
  iterate 1 (first | (k_unfold; (try dsimp only)) | walk1)
  refine wpAny_For ?_ (fun _ => rfl)
  iterate 12 (first | (k_unfold; (try dsimp only)) | walk1)
  rename Fr _ _ _ _ => F
  rename News _ _ _ _ => N
  have N0 : News g' L h₁ [(L + 2, oc1), (L + 1, oc2), (90, o90)] := N
  have h90' : Tab90 h₁ := h90.keeps (stays_back (news := [(90, o90)]) (fun p hp => by rw [List.mem_singleton.mp hp]; exact ho90) eg F N0 (fun p hp => by rw [List.mem_singleton.mp hp]; simp))
  have g90 : g'.get? 90 = none := (N0 (90, o90) (by simp)).2.2
  have L90 : (90 : Addr) ≠ L := (N0 (90, o90) (by simp)).2.1
  have hL90 : (90 : Nat) < L := l1 (90, o90) (by simp)
  have gg : g.StaysIn g' := fun b o e => eg ▸ hideAll_get _ (st b o e) (by
    intro q; rw [List.mem_singleton.mp q] at e; rw [n90] at e; cases e)
  have hi' := hi.keeps gg
  obtain ⟨a3, b3, c3, hl3, _⟩ := id hi'
  obtain ⟨o, rest, N9, hT, hR⟩ := tabNews2 F h90' g90 L90
  have N1 : News g' L h₁ ((L + 2, oc1) :: (L + 1, oc2) :: (90, o) :: rest) := fun p hp => by
    rcases List.mem_cons.mp hp with rfl | hp
    · exact N0 _ (.head _)
    · rcases List.mem_cons.mp hp with rfl | hp
      · exact N0 _ (.tail _ (.head _))
      · exact N9 p hp
  clear N N0 N9
  refine rangeN F N1 (by omega) fun I h2 tk2 F2 N2 hI st2 hlI _ => ?_
  clear F N1
  have i90 : (90 : Addr) ≠ I := hI (90, o) (by simp)
  have iL1 : (L + 1 : Addr) ≠ I := hI (L + 1, oc2) (by simp)
  have iL2 : (L + 2 : Addr) ≠ I := hI (L + 2, oc1) (by simp)
  refine forLoop_range rfl rfl rfl F2 N2 hI (TakJ r1 r2 r3 g' L oc2 x cho x.length) ⟨oc1, x, t, cho, tc, o, rest, none, none, none, rfl, hoc1, hx, hT, hR, ?_, rfl⟩ ?_ ?_
  · funext q
    by_cases q1 : q = Str.ofString "turn"
    · rw [q1]; rfl
    · by_cases q2 : q = Str.ofString "places"
      · rw [q2]; rfl
      · by_cases q3 : q = Str.ofString "first"
        · rw [q3]; rfl
        · rw [if_neg q1, if_neg q2, if_neg q3]; rfl
  · rintro i t1 m₁ news₁ h3 tk3 hix ⟨o1, y, ty, ch, tch, o, rest, vt, vp, vf, rfl, ho1, hyl, hT, hR, rfl, hgo⟩ hI F N
    replace F : Fr g' L h3 _ := F
    replace N : News g' L h3 ((I, rit x.length (i + 1)) :: (L + 2, o1) :: (L + 1, oc2) :: (90, o) :: rest) := N
    iterate 1 (first | (k_unfold; (try dsimp only)) | walk1)
    refine wpAny_Assign_ListComp_free (fun v => match v with | .int k _ => standsB r1 r2 r3 (Txt.slice y (some k) (some (k + 3))) | _ => false) (fun v y => y = v) (cl := [("text", L + 2), ("items", L + 1)]) rfl rfl (by decide) rfl (by decide) rfl rfl rfl ?_ (fun _ => rfl)
    iterate 12 (first | (k_unfold; (try dsimp only)) | walk1)
    rename Fr _ _ _ _ => F
    rename News _ _ _ _ => N
    refine rangeN F N (by omega) fun I2 h4 tk4 F4 N4 hI2 st4 hlI2 htk4 => ?_
    clear F N
    have hL2 : L ≠ I2 := (N4 _ (.head _)).2.1.symm
    have hLI2 : I2 < h4.objs.size := Heap.lt_size (N4 _ (.head _)).1
    have Nc : News g' L h4 [(L + 2, o1), (L + 1, oc2)] := newsSub N4 fun p hp => by
      simp only [List.mem_cons, List.not_mem_nil, or_false] at hp; rcases hp with rfl | rfl <;> simp
    have c1 : L + 1 ≠ I2 := hI2 (L + 1, oc2) (by simp)
    have c2 : L + 2 ≠ I2 := hI2 (L + 2, o1) (by simp)
    refine ⟨I2, _, _, y.length, _, _, _, rfl, Walks.range rfl I2 0 1 y.length, ?_, (N4 _ (.head _)).1, ?_, ?_, F4.ns, ⟨?_, ?_⟩, ?_⟩
    · rw [sizeLine_eq]; omega
    · intro b hb; rw [List.mem_singleton.mp hb]; exact hLI2
    · show L ∉ [I2]; simpa using hL2
    · intro C j v s₃ m₃ E' hC hP hns hm hk htk
      obtain ⟨tv, rfl⟩ := hP
      have F3 : Fr g' L s₃.heap _ := frKeepBut F4 (by simpa using hL2) (fun b hb => by rw [List.mem_singleton.mp hb]; exact (N4 _ (.head _)).2.2) hk
      have N3 : News g' L s₃.heap [(L + 2, o1), (L + 1, oc2)] := newsKeepBut Nc (fun p hp => by
        simp only [List.mem_cons, List.not_mem_nil, or_false] at hp; rcases hp with rfl | rfl <;> simpa) hk
      have hLC : L < C := Nat.lt_of_lt_of_le F4.ns.lt hC
      obtain ⟨oC, es, ep, hoC, hoD⟩ := hns
      have hoN : LCg.NsObj oC m₃ := ⟨es, ep, hoD⟩
      have N5 : News g' L s₃.heap [(C, oC), (L + 2, o1), (L + 1, oc2)] := fun p hp => by
        rcases List.mem_cons.mp hp with rfl | hp
        · exact ⟨hoC, Nat.ne_of_gt hLC, Heap.get?_none_of_le (Nat.le_trans F4.above (Nat.le_of_lt hLC))⟩
        · exact N3 p hp
      clear N3 N4 F4 Nc
      simp only [List.forIn_cons, List.forIn_nil, if_true]
      refine wpAny_bind (wpAny_bind ?_)
      iterate 12 (first | (k_unfold; (try dsimp only)) | walk1)
      refine ⟨X'.keeps F3.keep, ?_⟩
      refine wpAny_call (stands ⟨X', T'⟩ F3.keep (by show dp + 1 + 2 < _; omega) (by show un + 3 + 8 < _; omega) (hi'.keeps F3.keep) hyl (by omega) fun h6 tk6 st6 => ?_)
      (try dsimp only)
      refine wpAny_truthy_bool ?_
      exact wpAny_pure (wpAny_pure ⟨rfl, _, _, rfl, st6⟩)
    · intro C j v s₃ m₃ E' hC hP hpv hns hm hk htk
      exact wpAny_Name (wpAny_loadName_local rfl rfl hns hm ⟨rfl, _, _, rfl, fun _ _ e => e⟩)
    · intro D h5 tk5 ys vs hD hys hpl hvl hvp hpr hns5 hk5
      have hgL : ∀ b o, g'.get? b = some o → b ≠ L := fun b o e => Nat.ne_of_lt (Nat.lt_of_lt_of_le (Heap.lt_size e) F4.above)
      have hgI : ∀ b o, g'.get? b = some o → b ∉ [I2] := fun b o e q => by rw [List.mem_singleton.mp q, (N4 _ (.head _)).2.2] at e; cases e
      have F5 : Fr g' L h5 _ := ⟨hns5, fun b o e => hk5 b o (hgL b o e) (hgI b o e) (F4.keep b o e), F4.above⟩
      obtain ⟨nD, hDo⟩ := hpl
      have hDL : D ≠ L := fun q => by obtain ⟨oL, es, ep, eL, _⟩ := F4.ns; rw [q] at hD; rw [show h4.get? L = none from hD] at eL; cases eL
      have hDg : g'.get? D = none := by
        cases q : g'.get? D with
        | none => rfl
        | some o' => have := F4.keep _ _ q; rw [show h4.get? D = none from hD] at this; cases this
      have N5 : News g' L h5 ((D, W.listOf ys nD) :: (I, rit x.length (i + 1)) :: (L + 2, o1) :: (L + 1, oc2) :: (90, o) :: rest) := fun p hp => by
        rcases List.mem_cons.mp hp with rfl | hp
        · exact ⟨hDo, hDL, hDg⟩
        · have z := N4 p (.tail _ hp)
          exact ⟨hk5 _ _ z.2.1 (by simpa using hI2 p hp) z.1, z.2⟩
      obtain ⟨hsz, hget⟩ := takKeys (p := fun k => standsB r1 r2 r3 (Txt.slice y (some (k : Int)) (some ((k : Int) + 3)))) hvl hvp hpr (fun k t => by
        show standsB r1 r2 r3 (Txt.slice y (some (0 + (k : Int) * 1)) (some (0 + (k : Int) * 1 + 3))) = _
        rw [show (0 + (k : Int) * 1) = k by omega])
      replace hsz : ys.size = (placesOf r1 r2 r3 y).length := hsz
      replace hget : ∀ (k j : Nat), (placesOf r1 r2 r3 y)[k]? = some j → ∃ t, ys[k]? = some (.int (j : Int) t) := hget
      have hps : (placesOf r1 r2 r3 y).length ≤ 17 := Nat.le_trans (List.length_filter_le _ _) (by simpa using hyl)
      clear N4 F4 Nc hk5 hns5 hpr hvp hvl
      (try dsimp only)
      iterate 7 (first | (k_unfold; (try dsimp only)) | walk1)
      rename Fr _ _ _ _ => F
      rename News _ _ _ _ => N
      refine eq_nil (items := ys) ⟨W.listOf ys nD, N.get (.tail _ (.head _)), rfl, _, rfl⟩ ⟨_, N.get (.head _), rfl, _, rfl⟩ (by show un + 3 < _; omega) ?_
      refine wpAny_truthy_bool ?_
      obtain ⟨nk, hnk⟩ : ∃ nk, x.length - i = nk + 1 := ⟨x.length - (i + 1), by omega⟩
      rw [hnk] at hgo
      by_cases hz : ys.size = 0
      · rw [if_pos (by simp [hz])]
        iterate 4 (first | (k_unfold; (try dsimp only)) | walk1)
        rename Fr _ _ _ _ => F
        rename News _ _ _ _ => N
        have e1 : takGo r1 r2 r3 (nk + 1) y ch = y := if_pos (hsz ▸ hz)
        rw [← hgo, e1] at h
        exact h _ _ _ (fun b o hb e => F.keep b o (eg ▸ hideAll_get _ e (by simpa using hb))) (hT _ _ F.keep (newsSub N fun p hp => by
          rcases List.mem_cons.mp hp with rfl | hp <;> simp [*]))
      · rw [if_neg (by simpa using hz)]
        replace N := newsSub N fun p hp => .tail _ hp
        iterate 13 (first | (k_unfold; (try dsimp only)) | walk1)
        rename Fr _ _ _ _ => F
        refine len_list (items := ys) ⟨W.listOf ys nD, N.get (.head _), rfl, _, rfl⟩ (by omega) ?_
        iterate 1 (first | (k_unfold; (try dsimp only)) | walk1)
        have hk0 : 0 ≤ ch.fmod ys.size := Int.fmod_nonneg_of_pos _ (by omega)
        have hk1 : ch.fmod ys.size < ys.size := Int.fmod_lt_of_pos _ (by omega)
        obtain ⟨j, hj⟩ : ∃ j, (placesOf r1 r2 r3 y)[(ch.fmod ys.size).toNat]? = some j := ⟨_, List.getElem?_eq_getElem (by omega)⟩
        obtain ⟨tj, hyj⟩ := hget _ _ hj
        have hjy : j < y.length := by simpa using (List.mem_filter.mp (List.mem_of_getElem? hj)).1
        refine item_list (items := ys) ⟨W.listOf ys nD, N.get (.head _), rfl, _, rfl⟩ hk0 (by omega) hyj ?_
        replace N := newsSub N fun p hp => .tail _ hp
        iterate 27 (first | (k_unfold; (try dsimp only)) | walk1)
        rename Fr _ _ _ _ => F
        rename News _ _ _ _ => N
        refine ⟨X'.keeps F.keep, ?_⟩
        refine wpAny_call (hit ⟨X', T'⟩ F.keep (hT _ _ F.keep (newsSub N fun p hp => by rcases List.mem_cons.mp hp with rfl | hp <;> simp [*])) g90 (by show dp + 1 + 2 < _; omega) (by show un + 3 + 8 < _; omega) hyl fun f h6 tk6 e6 t6 H6 => ?_)
        have k6 : ∀ b o, b ∉ [(90 : Addr)] → _ := fun b o hb e => e6 b o (by simpa using hb) e
        have F6 := frKeepBut (wr := [90]) F (fun q => L90 (List.mem_singleton.mp q).symm) (fun b hb => by rw [List.mem_singleton.mp hb]; exact g90) k6
        have h92 : (L + 2 : Addr) ∉ [(90 : Addr)] := by rw [List.mem_singleton]; exact Nat.ne_of_gt (by omega)
        have h91 : (L + 1 : Addr) ∉ [(90 : Addr)] := by rw [List.mem_singleton]; exact Nat.ne_of_gt (by omega)
        have h9I : I ∉ [(90 : Addr)] := by rw [List.mem_singleton]; exact i90.symm
        have N6 : News g' L h6 [(I, rit x.length (i + 1)), (L + 2, o1), (L + 1, oc2)] := newsKeepBut (newsSub N fun p hp => by
          simp only [List.mem_cons, List.not_mem_nil, or_false] at hp; rcases hp with rfl | rfl | rfl <;> simp) (fun p hp => by
          simp only [List.mem_cons, List.not_mem_nil, or_false] at hp; rcases hp with rfl | rfl | rfl <;> assumption) k6
        obtain ⟨o6, rest6, N6b, hT6, hR6⟩ := tabNews2 F6 t6 g90 L90
        have N7 : News g' L h6 ((I, rit x.length (i + 1)) :: (L + 2, o1) :: (L + 1, oc2) :: (90, o6) :: rest6) := fun p hp => by
          rcases List.mem_cons.mp hp with rfl | hp
          · exact N6 _ (by simp)
          · rcases List.mem_cons.mp hp with rfl | hp
            · exact N6 _ (by simp)
            · rcases List.mem_cons.mp hp with rfl | hp
              · exact N6 _ (by simp)
              · exact N6b p hp
        clear F N N6 N6b hT hR t6
        iterate 1 (first | (k_unfold; (try dsimp only)) | walk1)
        refine ⟨X'.keeps F6.keep, ?_⟩
        refine wpAny_call (unmatched ⟨X', T'⟩ F6.keep H6 hyl (by show dp + 1 + 5 < _; omega) (by show un + 3 + 20 < _; omega) fun tu h8 tk8 st8 => ?_)
        have F8 := frKeep F6 st8
        have N8 := newsKeep N7 st8
        clear F6 N7 H6
        (try dsimp only)
        have n12 : L + 1 ≠ L + 2 := Nat.ne_of_lt (Nat.lt_succ_self _)
        have n92 : (90 : Addr) ≠ L + 2 := Nat.ne_of_lt (by omega)
        refine storeCell (C := L + 2) (o1 := o1) (news := (I, rit x.length (i + 1)) :: (L + 1, oc2) :: (90, o6) :: rest6) F8 (newsSub N8 fun p hp => ?_) (fun p hp => ?_) ho1 rfl rfl rfl fun h9 o9 F9 N9 ho9 => ?_
        · simp only [List.mem_cons] at hp ⊢
          rcases hp with rfl | rfl | rfl | rfl | hp <;> simp [*]
        · rcases List.mem_cons.mp hp with rfl | hp
          · exact iL2.symm
          · rcases List.mem_cons.mp hp with rfl | hp
            · exact n12
            · rcases List.mem_cons.mp hp with rfl | hp
              · exact n92
              · obtain ⟨vs5, q5, t5, hq5, _⟩ := hR6 p hp
                refine neObj (a := p.1) (b := L + 2) (oa := p.2) (ob := o1) N8 (by simp [hp]) (by simp) fun q => ?_
                rw [q, ho1] at hq5; cases hq5
        clear F8 N8
        iterate 8 (first | (k_unfold; (try dsimp only)) | walk1)
        rename Fr _ _ _ _ => F
        rename News _ _ _ _ => N
        (try dsimp only)
        refine wpAny_execs_nil ?_
        (try dsimp only)
        have F' := frFive F (by decide)
        refine ⟨_, _, _, (L + 2, o9) :: (L + 1, oc2) :: (90, o6) :: rest6, rfl, F', newsSub N fun p hp => ?_, fun p hp => ?_, o9, _, _, _, _, o6, rest6, _, _, _, rfl, ho9, ?_, hT6, hR6, rfl, ?_⟩
        · simp only [List.mem_cons] at hp ⊢
          rcases hp with rfl | rfl | rfl | rfl | hp <;> simp [*]
        · rcases List.mem_cons.mp hp with rfl | hp
          · exact iL2
          · rcases List.mem_cons.mp hp with rfl | hp
            · exact iL1
            · rcases List.mem_cons.mp hp with rfl | hp
              · exact i90
              · obtain ⟨vs5, q5, t5, hq5, hq6⟩ := hR6 p hp
                refine neObj (a := p.1) (b := I) (oa := p.2) (ob := rit x.length (i + 1)) N (by simp [hp]) (by simp) fun q => ?_
                rw [q] at hq5; cases hq5; simp [rawInt] at hq6
        · exact Nat.le_trans (cut_le y j) hyl
        · rw [show x.length - (i + 1) = nk by omega, ← hgo]
          rw [hsz] at hj
          have : takGo r1 r2 r3 (nk + 1) y ch = _ := if_neg (hsz ▸ hz)
          rw [this]
          dsimp only
          rw [hj]
          rfl
  · rintro h3 tk3 m' news' F N ⟨o1, y, ty, ch, tch, o, rest, vt, vp, vf, rfl, ho1, hyl, hT, hR, rfl, hgo⟩
    replace F : Fr g' L h3 _ := F
    replace N : News g' L h3 ((L + 2, o1) :: (L + 1, oc2) :: (90, o) :: rest) := N
    (try dsimp only)
    iterate 3 (first | (k_unfold; (try dsimp only)) | walk1)
    have e1 : y = takGo r1 r2 r3 x.length x cho := by rw [← hgo, Nat.sub_self]; rfl
    rw [← e1] at h
    exact h _ _ _ (fun b o hb e => F.keep b o (eg ▸ hideAll_get _ e (by simpa using hb))) (hT _ _ F.keep (newsSub N fun p hp => .tail _ (.tail _ hp)))
end
/- PlainB -/
section
def hxB (c : Nat) : Bool := inFigs ⟨#[c]⟩
def upB (l : List Nat) : List Nat := (Txt.upper ⟨l.toArray⟩).cps.toList
theorem hxB_eq (c : Nat) : hxB c = decide (c ∈ figs.cps.toList) := StrLaws.found_one figs c
theorem hxB_37 : hxB 37 = false := by rw [hxB_eq]; decide +kernel
theorem strE {x y : Str} (h : x.cps.toList = y.cps.toList) : x = y := by
  cases x; cases y; congr; exact Array.toList_inj.mp h
theorem len_toList (x : Str) : x.cps.toList.length = x.length := by simp [Str.length]
def ItemsOk (r1 r2 r3 : List (Str × Str)) : Prop := ∀ c, fits r1 ⟨#[c]⟩ = (c == 37) ∧ fits r2 ⟨#[c]⟩ = hxB c ∧ fits r3 ⟨#[c]⟩ = hxB c
section
variable {r1 r2 r3 : List (Str × Str)}
theorem filt3 (p : Nat → Bool) : (((List.range 3).filter p).length == 3) = (p 0 && (p 1 && p 2)) := by
  rw [show List.range 3 = [0, 1, 2] from rfl]
  simp only [List.filter_cons, List.filter_nil]
  cases p 0 <;> cases p 1 <;> cases p 2 <;> rfl
theorem stands_esc (H : ItemsOk r1 r2 r3) (y : Str) (hy : y.cps.toList.length ≤ 3) : standsB r1 r2 r3 y = esc hxB y.cps.toList := by
  obtain ⟨⟨l⟩⟩ := y
  show standsB r1 r2 r3 ⟨⟨l⟩⟩ = esc hxB l
  replace hy : l.length ≤ 3 := hy
  unfold standsB cnt
  match l, hy with
  | [], _ => rfl
  | [a], _ =>
    have hl : ∀ p : Nat → Bool, ((List.range (min 1 3)).filter p).length ≠ 3 := fun p q => by
      have := List.length_filter_le p (List.range (min 1 3)); rw [q] at this; simp at this
    show (_ == 3) = false
    exact Bool.eq_false_iff.mpr fun q => hl _ (eq_of_beq q)
  | [a, b], _ =>
    have hl : ∀ p : Nat → Bool, ((List.range (min 2 3)).filter p).length ≠ 3 := fun p q => by
      have := List.length_filter_le p (List.range (min 2 3)); rw [q] at this; simp at this
    show (_ == 3) = false
    exact Bool.eq_false_iff.mpr fun q => hl _ (eq_of_beq q)
  | [a, b, c], _ =>
    exact (filt3 _).trans (congr (congrArg and (H a).1) (congr (congrArg and (H b).2.1) (H c).2.2))
  | _ :: _ :: _ :: _ :: _, h => exact absurd h (by simp)
theorem slice3 (x : Str) (i : Nat) : (Txt.slice x (some (i : Int)) (some ((i : Int) + 3))).cps.toList = (x.cps.toList.drop i).take 3 := by
  have := slice_nat x i (i + 3)
  rw [show ((i + 3 : Nat) : Int) = (i : Int) + 3 by omega] at this
  rw [this, show i + 3 - i = 3 by omega]
theorem stands_at (H : ItemsOk r1 r2 r3) (x : Str) (i : Nat) : standsB r1 r2 r3 (Txt.slice x (some (i : Int)) (some ((i : Int) + 3))) = esc hxB ((x.cps.toList.drop i).take 3) := by
  rw [stands_esc H _ (by rw [slice3, List.length_take]; omega), slice3]
theorem upper_at (x : Str) (i : Nat) : (Txt.upper (Txt.slice x (some ((i : Int) + 1)) (some ((i : Int) + 3)))).cps.toList = upB ((x.cps.toList.drop (i + 1)).take 2) := by
  have := slice_nat x (i + 1) (i + 3)
  rw [show ((i + 3 : Nat) : Int) = (i : Int) + 3 by omega, show ((i + 1 : Nat) : Int) = (i : Int) + 1 by omega, show i + 3 - (i + 1) = 2 by omega] at this
  unfold upB
  rw [← this]
theorem capGo_list (H : ItemsOk r1 r2 r3) (x : Str) : ∀ (n i : Nat) (wr : Str), x.length < i + n → (capGo r1 r2 r3 x n i wr).cps.toList = wr.cps.toList ++ capL hxB upB (x.cps.toList.drop i)
  | 0, i, wr, h => by
    rw [List.drop_of_length_le (by rw [len_toList]; omega), capL, List.append_nil]; rfl
  | n + 1, i, wr, h => by
    unfold capGo
    by_cases hi : i < x.length
    · rw [if_pos hi, stands_at H]
      have hd : x.cps.toList.drop i = x.cps.toList[i]'(by rw [len_toList]; exact hi) :: x.cps.toList.drop (i + 1) := List.drop_eq_getElem_cons _
      rw [hd, capL, show (x.cps.toList[i]'(by rw [len_toList]; exact hi) :: x.cps.toList.drop (i + 1)).take 3 = x.cps.toList[i]'(by rw [len_toList]; exact hi) :: (x.cps.toList.drop (i + 1)).take 2 from rfl]
      by_cases he : esc hxB (x.cps.toList[i]'(by rw [len_toList]; exact hi) :: (x.cps.toList.drop (i + 1)).take 2) = true
      · rw [if_pos he, if_pos he, capGo_list H x n (i + 3) _ (by omega), Str.cps_append, Str.cps_append, Array.toList_append, Array.toList_append, upper_at, List.drop_drop]
        show _ ++ ([37] ++ _) ++ _ = _
        simp only [List.append_assoc, List.cons_append, List.nil_append]
      · rw [if_neg he, if_neg he, capGo_list H x n (i + 1) _ (by omega), Str.cps_append, Array.toList_append]
        have : x.cps[i]? = some (x.cps.toList[i]'(by rw [len_toList]; exact hi)) := by
          rw [← Array.getElem?_toList]; exact List.getElem?_eq_getElem _
        rw [itemAt this]
        simp
    · rw [if_neg hi, List.drop_of_length_le (by rw [len_toList]; omega), capL, List.append_nil]
theorem piece_list (y : Str) : (duePiece y).cps.toList = dueL hxB upB y.cps.toList := by
  unfold duePiece dueL
  have ht : (Txt.slice y none (some 2)).cps.toList = y.cps.toList.take 2 := slice_to y 2
  have hf : (Txt.slice y (some 2) none).cps.toList = y.cps.toList.drop 2 := slice_from y 2
  have hh : hexB (Txt.slice y none (some 2)) = esc hxB (37 :: y.cps.toList.take 2) := by
    unfold hexB
    generalize Txt.slice y none (some 2) = z at ht
    obtain ⟨⟨l⟩⟩ := z
    rw [← ht]
    show (if l.length = 2 then _ else _) = esc hxB (37 :: l)
    match l with
    | [] => rfl
    | [_] => rfl
    | [a, b] => rfl
    | a :: b :: c :: l => rw [if_neg (by simp)]; rfl
  rw [hh]
  split
  · rw [Str.cps_append, Array.toList_append, hf]
    unfold upB
    rw [← ht]
  · rfl
theorem join_lay : ∀ (p : Str) (r : List Str), (Txt.join (Str.ofString "%") (p :: r)).cps.toList = p.cps.toList ++ lay (r.map fun q => q.cps.toList)
  | p, [] => by
    show (Builtin.Str.glued _ _).cps.toList = _
    rw [StrLaws.glued_eq_join]; simp [Str.join, lay]
  | p, q :: r => by
    have ih := join_lay q r
    have e : Txt.join (Str.ofString "%") (p :: q :: r) = p ++ Str.ofString "%" ++ Txt.join (Str.ofString "%") (q :: r) := by
      show Builtin.Str.glued _ _ = _ ++ _ ++ Builtin.Str.glued _ _
      rw [StrLaws.glued_eq_join, StrLaws.glued_eq_join]; rfl
    rw [e, Str.cps_append, Str.cps_append, Array.toList_append, Array.toList_append, ih]
    show (_ ++ [37]) ++ _ = _
    simp [lay]
theorem plain_cap (H : ItemsOk r1 r2 r3) (x : Str) : capGo r1 r2 r3 x (x.length + 1) 0 ⟨#[]⟩ = Txt.join (Str.ofString "%") ((Txt.split x (Str.ofString "%")).take 1 ++ ((Txt.split x (Str.ofString "%")).drop 1).map duePiece) := by
  refine strE ?_
  rw [capGo_list H x _ 0 _ (by omega)]
  show capL hxB upB x.cps.toList = _
  have hj : Txt.join (Str.ofString "%") (Txt.split x (Str.ofString "%")) = x := by
    show Builtin.Str.glued _ _ = x
    rw [StrLaws.glued_eq_join, StrLaws.join_split]
  have hfree : ∀ p ∈ Txt.split x (Str.ofString "%"), 37 ∉ p.cps.toList := StrLaws.split_free x 37
  generalize Txt.split x (Str.ofString "%") = ps at hj hfree
  subst hj
  match ps, hfree with
  | [], _ => show capL hxB upB [] = _; rw [capL]; rfl
  | p :: r, hfree =>
    show _ = (Txt.join (Str.ofString "%") (p :: r.map duePiece)).cps.toList
    rw [join_lay, join_lay, capL_free _ _ (hfree p (.head _)), capL_lay hxB_37 _ (fun q hq => by
      obtain ⟨z, hz, rfl⟩ := List.mem_map.mp hq
      exact hfree z (.tail _ hz))]
    congr 2
    rw [List.map_map, List.map_map]
    apply List.map_congr_left
    intro z _
    exact (piece_list z).symm
theorem left_step : leftStep = stepL hxB := by
  funext st c
  unfold leftStep stepL
  generalize (st ++ [c]).drop ((st ++ [c]).length - 3) = l
  match l with
  | [] => rfl
  | [_] => rfl
  | [_, _] => rfl
  | [p, a, b] =>
    show (if p = 37 ∧ (hxB a && hxB b) = true then _ else _) = if (p == 37 && (hxB a && hxB b)) = true then _ else _
    by_cases h : p = 37 ∧ (hxB a && hxB b) = true
    · rw [if_pos h, if_pos (by simpa using h)]
    · rw [if_neg h, if_neg (by simpa using h)]
  | _ :: _ :: _ :: _ :: _ => rfl
theorem take_list (H : ItemsOk r1 r2 r3) : ∀ (n : Nat) (y : Str) (c : Int), y.length ≤ n → (takGo r1 r2 r3 n y c).cps.toList = y.cps.toList.foldl leftStep []
  | 0, y, c, h => by
    have : y.cps.toList = [] := List.eq_nil_of_length_eq_zero (by rw [len_toList]; omega)
    show y.cps.toList = _
    rw [this]; rfl
  | n + 1, y, c, h => by
    unfold takGo
    have hmem : ∀ i, i ∈ placesOf r1 r2 r3 y ↔ i < y.length ∧ esc hxB ((y.cps.toList.drop i).take 3) = true := fun i => by
      unfold placesOf
      rw [List.mem_filter, List.mem_range, stands_at H]
    by_cases hp : (placesOf r1 r2 r3 y).length = 0
    · rw [if_pos hp, left_step, fold_none _ [] (fun i => ?_)]
      · rfl
      · rw [List.nil_append]
        rw [Bool.eq_false_iff]
        intro q
        have hi : i < y.length := by
          obtain ⟨a, b, e, _⟩ := esc_iff.mp q
          have := congrArg List.length e
          simp only [List.length_take, List.length_drop, len_toList, List.length_cons, List.length_nil] at this
          omega
        have := (hmem i).mpr ⟨hi, q⟩
        rw [List.eq_nil_of_length_eq_zero hp] at this; cases this
    · rw [if_neg hp]
      have hlt : (Int.fmod c (placesOf r1 r2 r3 y).length).toNat < (placesOf r1 r2 r3 y).length := by
        have h0 := Int.fmod_lt_of_pos c (show (0 : Int) < (placesOf r1 r2 r3 y).length by omega)
        have h1 := Int.fmod_nonneg_of_pos c (show (0 : Int) < (placesOf r1 r2 r3 y).length by omega)
        omega
      rw [List.getElem?_eq_getElem hlt]
      dsimp only [Option.getD_some]
      have hm := List.getElem_mem hlt
      generalize (placesOf r1 r2 r3 y)[(Int.fmod c (placesOf r1 r2 r3 y).length).toNat] = i at hm
      obtain ⟨hi, he⟩ := (hmem i).mp hm
      have hcl := congrArg List.length (cut_list y i)
      rw [take_list H n _ _ (by
        rw [len_toList, List.length_append, List.length_take, List.length_drop, len_toList] at hcl
        omega), cut_list, left_step, fold_cut hxB_37 he]
theorem plain_take (H : ItemsOk r1 r2 r3) (x : Str) (c : Int) : takGo r1 r2 r3 x.length x c = Txt.join (Str.ofString "") ((x.cps.toList.foldl leftStep []).map fun c => ⟨#[c]⟩) := by
  refine strE ?_
  rw [take_list H _ _ _ (Nat.le_refl _), join_singles]
end
end
/- Items -/
section
theorem beginItems : True := by
  w_top off
  trivial
local macro_rules | `(tactic| walk_at "execs cons") => `(tactic| (first | (k_here; k_gentoks) | ((refine (let Qv := _; (?_ : wpAny _ _ _ Qv _ _))); (with_reducible refine wpAny_execs_cons ?_); try dsimp only)))
def rsz (b : Str) : Int := if Txt.slice b (some 1) (some 2) == Str.ofString "-" then 3 else 1
def rangesOf : Nat → Str → Option (List (Str × Str))
  | 0, _ => none
  | n + 1, b => if b.length = 0 then some [] else
    if (b.length : Int) < rsz b then none else
      (rangesOf n (Txt.slice b (some (rsz b)) none)).map fun r => (Txt.item b 0, Txt.item b (rsz b - 1)) :: r
theorem item_any {prog : Program} {w : World} {A : Around} {E : Value → Shared → Prop} {s : Shared} {value slice : Expr} {l : Addr} {items : Array Value} {k : Int} {u : Tok} {x : Value} {Q : Value → Shared → Prop} (hl : s.heap.IsList l items) (h0 : 0 ≤ k) (hfit : k < 2 ^ 63) (hx : items[k.toNat]? = some x) (h : Q x s)
    (hs : subscripted slice false (.ref l) (.int k u) = operate [.ref l, .int k u] (getItem (.ref l) (.int k u)) := by with_unfolding_all rfl) : wpAny (model prog w) A (subscriptTail value slice (.ref l) (.int k u)) Q E s :=
  tail_any hl.typeIs slot_list_getitem.lookup (wpAny_getItem_list hl h0 hfit hx h) hs
theorem dressAt {k : Nat} (hk : k < 5) (a b c d e : Tok) : ∃ t, (#[Value.str (Str.ofString "0-9a-fA-F") a, Value.str (Str.ofString "A-Fa-f0-9") b, Value.str (Str.ofString "0123456789abcdefABCDEF") c, Value.str (Str.ofString "f-a0-9A-Fa-f") d, Value.str (Str.ofString "a-fA-F0-9z-y") e] : Array Value)[k]? = some (.str (dress k) t) := by
  match k, hk with
  | 0, _ => exact ⟨_, rfl⟩
  | 1, _ => exact ⟨_, rfl⟩
  | 2, _ => exact ⟨_, rfl⟩
  | 3, _ => exact ⟨_, rfl⟩
  | 4, _ => exact ⟨_, rfl⟩
theorem dress_len : ∀ k < 5, (dress k).length ≤ 22 := by decide +kernel
theorem dress_pct : ∀ k < 5, (pct (dress k)).cps[0]? = some 37 := by decide +kernel
theorem dress_cut : ∀ k < 5, Txt.slice (brOf (dressO k)) none (some 1) = Str.ofString "[" ∧ Txt.slice (brOf (dressO k)) (some 1) (some (-1)) = dressO k ∧ (dressO k).length ≤ 22 := by decide +kernel
theorem dress_ranges : rangesOf 30 (Str.ofString "%") = some [(Str.ofString "%", Str.ofString "%")] := by decide +kernel
abbrev itM (total : Int) (t : Tok) (Il : Addr) (d : Str) (td : Tok) (vp vb vr vs : Option Value) : Str → Option Value := fun y =>
  if y = Str.ofString "part" then vp else if y = Str.ofString "body" then vb else if y = Str.ofString "ranges" then vr else if y = Str.ofString "size" then vs else if y = Str.ofString "items" then some (.ref Il)
  else if y = Str.ofString "dress" then some (.str d td) else ([(Str.ofString "total", Value.int total t)] : List (Str × Value)).reverse.lookup y
theorem frI {g hp : Heap} {L : Addr} {m : Str → Option Value} {total : Int} {t : Tok} {Il : Addr} {d : Str} {td : Tok} (F : Fr g L hp m) (h2 : m (Str.ofString "items") = some (.ref Il)) (h3 : m (Str.ofString "dress") = some (.str d td))
    (h : ∀ q, q ≠ Str.ofString "part" → q ≠ Str.ofString "body" → q ≠ Str.ofString "ranges" → q ≠ Str.ofString "size" → q ≠ Str.ofString "items" → q ≠ Str.ofString "dress" → m q = ([(Str.ofString "total", Value.int total t)] : List (Str × Value)).reverse.lookup q) :
    Fr g L hp (itM total t Il d td (m (Str.ofString "part")) (m (Str.ofString "body")) (m (Str.ofString "ranges")) (m (Str.ofString "size"))) := by
  have e : m = itM total t Il d td (m (Str.ofString "part")) (m (Str.ofString "body")) (m (Str.ofString "ranges")) (m (Str.ofString "size")) := by
    funext q
    unfold itM
    by_cases q1 : q = Str.ofString "part"; · subst q1; rw [if_pos rfl]
    rw [if_neg q1]
    by_cases q2 : q = Str.ofString "body"; · subst q2; rw [if_pos rfl]
    rw [if_neg q2]
    by_cases q3 : q = Str.ofString "ranges"; · subst q3; rw [if_pos rfl]
    rw [if_neg q3]
    by_cases q4 : q = Str.ofString "size"; · subst q4; rw [if_pos rfl]
    rw [if_neg q4]
    by_cases q5 : q = Str.ofString "items"; · subst q5; rw [if_pos rfl]; exact h2
    rw [if_neg q5]
    by_cases q6 : q = Str.ofString "dress"; · subst q6; rw [if_pos rfl]; exact h3
    rw [if_neg q6]
    exact h q q1 q2 q3 q4 q5 q6
  exact e ▸ F
abbrev tupO (r : Str × Str) (t1 t2 : Tok) : Obj := { cls := .type "tuple", data := .seq #[.str r.1 t1, .str r.2 t2] }
/-- a list of pairs among the entries of a ledger -/
def LedR (rest : List (Addr × Obj)) (vs : Array Value) (rs : List (Str × Str)) : Prop :=
  vs.size = rs.length ∧ ∀ (i : Nat) (v : Value), vs[i]? = some v → ∃ b r t1 t2, v = .ref b ∧ rs[i]? = some r ∧ (b, tupO r t1 t2) ∈ rest
theorem LedR.sub {rest rest' : List (Addr × Obj)} {vs : Array Value} {rs : List (Str × Str)} (H : LedR rest vs rs) (k : ∀ p ∈ rest, p ∈ rest') : LedR rest' vs rs :=
  ⟨H.1, fun i v q => let ⟨b, r, t1, t2, e1, e2, e3⟩ := H.2 i v q; ⟨b, r, t1, t2, e1, e2, k _ e3⟩⟩
theorem LedR.push {rest : List (Addr × Obj)} {vs : Array Value} {rs : List (Str × Str)} {b : Addr} {r : Str × Str} {t1 t2 : Tok} (H : LedR rest vs rs) (hm : (b, tupO r t1 t2) ∈ rest) : LedR rest (vs.push (.ref b)) (rs ++ [r]) := by
  refine ⟨by rw [Array.size_push, List.length_append, H.1]; rfl, fun i v q => ?_⟩
  rw [Array.getElem?_push] at q
  split at q
  · rename_i hi
    cases q
    refine ⟨b, r, t1, t2, rfl, ?_, hm⟩
    rw [hi, H.1, List.getElem?_append_right (Nat.le_refl _), Nat.sub_self]; rfl
  · obtain ⟨b', r', u1, u2, e1, e2, e3⟩ := H.2 i v q
    exact ⟨b', r', u1, u2, e1, by rw [List.getElem?_append_left (List.getElem?_eq_some_iff.mp e2).1]; exact e2, e3⟩
theorem LedR.at {rest : List (Addr × Obj)} {vs : Array Value} {k : Nat} {rs : List (Str × Str)} {g h : Heap} {L a : Addr} (H : LedR rest vs rs) (N : News g L h rest) (ha : (a, W.listOf vs k) ∈ rest) (hr : rs.length ≤ 30) : RangesAt h a rs := by
  refine ⟨hr, vs.toList, ⟨_, (N _ ha).1, rfl, _, rfl⟩, by rw [Array.length_toList]; exact H.1, fun i v q => ?_⟩
  obtain ⟨b, r, t1, t2, e1, e2, e3⟩ := H.2 i v (by simpa using q)
  exact ⟨b, r, t1, t2, e1, e2, ⟨_, (N _ e3).1, rfl, _, rfl⟩⟩
theorem ranges_len : ∀ (n : Nat) (b : Str) (r : List (Str × Str)), rangesOf n b = some r → r.length ≤ n
  | 0, _, _, h => by cases h
  | n + 1, b, r, h => by
    unfold rangesOf at h
    split at h
    · cases h; exact Nat.zero_le _
    · split at h
      · cases h
      · obtain ⟨r', h1, rfl⟩ := Option.map_eq_some_iff.mp h
        have := ranges_len n _ _ h1
        simp only [List.length_cons]; omega
abbrev partsO (o : Str) (t1 t2 t3 : Tok) : Obj := W.listOf #[.str (Str.ofString "%") t1, .str (brOf o) t2, .str (brOf o) t3] 3
inductive ItR (o : Str) (rest : List (Addr × Obj)) (j : Nat) (a : Value) : Prop
  | mk (aj : Addr) (vsj : Array Value) (kj : Nat) (rj : List (Str × Str)) (h1 : a = .ref aj) (h2 : (aj, W.listOf vsj kj) ∈ rest) (h3 : LedR rest vsj rj) (h4 : rangesOf 30 (if j = 0 then Str.ofString "%" else o) = some rj) : ItR o rest j a
inductive ItJ (total : Int) (t : Tok) (Il : Addr) (d : Str) (td : Tok) (T : Addr) (o : Str) (t1 t2 t3 : Tok) (ps5 : Array Value) (i : Nat) (m : Str → Option Value) (news : List (Addr × Obj)) : Prop
  | mk (vsI : Array Value) (kI : Nat) (rest : List (Addr × Obj)) (vp vb vr vs' : Option Value) (h1 : news = (T, partsO o t1 t2 t3) :: (Il, W.listOf vsI kI) :: rest) (h2 : m = itM total t Il d td vp vb vr vs') (h3 : vsI.size = i)
    (h4 : (∀ p ∈ rest, p.1 ≠ Il) ∧ (64, tabObj ps5) ∈ rest) (h5 : ∀ j a, vsI[j]? = some a → ItR o rest j a) : ItJ total t Il d td T o t1 t2 t3 ps5 i m news
inductive ItB (g' : Heap) (L : Addr) (total : Int) (t : Tok) (Il : Addr) (d : Str) (td : Tok) (os : OsState) (g5 : Array GenState) (d5 : Drawn) (news : List (Addr × Obj)) (b0 : Str) (v : Value) (s₁ : Shared) : Prop
  | mk (tb : Tok) (hp : Heap) (tk : Nat) (vp vb vr vs' : Option Value) (h1 : v = .str b0 tb) (h2 : s₁ = ⟨hp, g5, d5, tk, os⟩) (F : Fr g' L hp (itM total t Il d td vp vb vr vs')) (N : News g' L hp news) : ItB g' L total t Il d td os g5 d5 news b0 v s₁
inductive ItW (g' : Heap) (L : Addr) (total : Int) (t : Tok) (Il : Addr) (d : Str) (td : Tok) (os : OsState) (g5 : Array GenState) (d5 : Drawn) (base : List (Addr × Obj)) (Rg : Addr) (rj : List (Str × Str)) (n : Nat) (s' : Shared) : Prop
  | mk (hp : Heap) (tk : Nat) (b : Str) (tb : Tok) (vsR : Array Value) (kR : Nat) (new : List (Addr × Obj)) (rd : List (Str × Str)) (vp vs' : Option Value) (h1 : s' = ⟨hp, g5, d5, tk, os⟩) (F : Fr g' L hp (itM total t Il d td vp (some (.str b tb)) (some (.ref Rg)) vs'))
    (N : News g' L hp ((Rg, W.listOf vsR kR) :: (new ++ base))) (h2 : ∀ p ∈ new, Rg < p.1) (h3 : LedR new vsR rd) (h4 : (rangesOf n b).map (rd ++ ·) = some rj) (h5 : b.length ≤ 22) (h6 : rd.length + n ≤ 30) : ItW g' L total t Il d td os g5 d5 base Rg rj n s'
inductive ItZ (g' : Heap) (L : Addr) (os : OsState) (g5 : Array GenState) (d5 : Drawn) (m : Str → Option Value) (news : List (Addr × Obj)) (z : Int) (v : Value) (s₁ : Shared) : Prop
  | mk (tz : Tok) (hp : Heap) (tk : Nat) (h1 : v = .int z tz) (h2 : s₁ = ⟨hp, g5, d5, tk, os⟩) (F : Fr g' L hp m) (N : News g' L hp news) : ItZ g' L os g5 d5 m news z v s₁
theorem items {w : World} {loose : List Str} {mean : ExcName → Option Value} {mg mb : Str → Option Value} {dp un : Nat} {fr : Option (List Env)} {gd : Option (List Code)} {s : Shared} {R : Result → Shared → Prop} {g : Heap} {total : Int} {t : Tok} {ps : Array Value} {d o : Str} {rs : List (Str × Str)}
    (hd5 : dress (Int.fmod total 5).toNat = d) (ho5 : dressO (Int.fmod total 5).toNat = o) (hrs : rangesOf 30 o = some rs)
    (G : Gr w loose mean mg mb g) (st : g.StaysIn s.heap) (h64 : s.heap.get? 64 = some (tabObj ps)) (n64 : g.get? 64 = none) (hps : TriplesOk ps.toList) (hb : AllBare s.gens) (hdp : dp + 30 < recursionLimit) (hun : un + 80 < cLine)
    (h : ∀ l h' g' d' tk ps', Heap.ExtBut 64 s.heap h' → h'.get? 64 = some (tabObj ps') → ItemsAt h' l [(Str.ofString "%", Str.ofString "%")] rs rs → AllBare g' → R (.ok (.ret (.ref l))) ⟨h', g', d', tk, s.os⟩) :
    codeAny (model prog w) (aro dp un fr gd) (.call (.ref 83) ⟨[.int total t], []⟩) R s := by
  refine' enter [("total", .int total t)] G.X G.T st [(64, tabObj ps)] ?hn ?ho ?hcd ?hroom ?hbind ?hloc ?_ ?c1 ?c2 ?c3 ?c4
  case hn => exact List.forall_mem_cons.mpr ⟨⟨h64, n64⟩, fun _ q => nomatch q⟩
  case ho => k_is
  case hcd => k_is
  case hroom => (show dp < _); omega
  case hbind => rfl
  case hloc => exact locs rfl
  case c1 => rfl
  case c2 => rfl
  case c3 => rfl
  case c4 => decide
  intro g' L h₁ eg X' T' F N l1
  (try dsimp only)
  refine (let ev := envX _ _ _ _ _ _; (?_ : wpAny _ (Around.deeper _ ev) (execs _ ev) _ _ _))
  refine (let Av := Around.deeper _ _; (?_ : wpAny _ Av _ _ _ _))
  (try dsimp only)
  iterate 21 (first | (k_unfold; (try dsimp only)) | walk1)
  (try dsimp only)
  rename Fr _ _ _ _ => F
  rename News _ _ _ _ => N
  have hf0 := Int.fmod_nonneg_of_pos total (show (0 : Int) < 5 by decide)
  have hf5 := Int.fmod_lt_of_pos total (show (0 : Int) < 5 by decide)
  have hk5 : (Int.fmod total 5).toNat < 5 := by omega
  obtain ⟨td, htd⟩ := dressAt hk5 _ _ _ _ _
  refine item_any ⟨_, (N _ (.head _)).1, rfl, _, rfl⟩ hf0 (by omega) htd ?_
  have hdl := dress_len _ hk5
  have hS1 := setAt_of (set1 _ hk5)
  have hS2 := setAt_of (set2 _ hk5)
  have hx37 := dress_pct _ hk5
  obtain ⟨hcu1, hcu2, hol⟩ := dress_cut _ hk5
  rw [hd5] at hdl hS1 hS2 hx37 ⊢
  rw [ho5] at hS1 hS2 hcu1 hcu2 hol
  clear htd hd5 ho5
  iterate 10 (first | (k_unfold; (try dsimp only)) | walk1)
  refine wpAny_For ?_ (fun _ => rfl)
  iterate 23 (first | (k_unfold; (try dsimp only)) | walk1)
  rename Fr _ _ _ _ => F
  rename News _ _ _ _ => N
  rename_i Il _ _ _ _ _ _ _ _ _ _ _ _ _ _ _ _
  have n64' := N _ (.tail _ (.tail _ (.head _)))
  have nI := N _ (.head _)
  have hpl : (pct d).length = 2 * d.length + 5 := by
    simp only [Str.length_append]; show 2 + d.length + 2 + d.length + 1 = _; omega
  refine wpAny_call (translate (x := pct d) (o1 := o) (o2 := o) (i2 := d.length + 3) (e2 := 2 * d.length + 4) hx37 (by simpa using hS1) hS2 (by omega) (by omega) ⟨X', T'⟩ F.keep n64'.1 n64'.2.2 hps hb (by show dp + 1 + 20 < _; omega) (by show un + 3 + 60 < _; omega) (by omega) fun T h5 g5 d5 tk5 t1 t2 t3 ps5 e5 h645 hT fT hg5 => ?_)
  have hI64 : (Il : Addr) ≠ 64 := neObj N (.head _) (.tail _ (.tail _ (.head _))) (by intro q; cases q)
  have F5 := frKeepBut (wr := [64]) F (fun q => n64'.2.1 (List.mem_singleton.mp q).symm) (fun b hb => by rw [List.mem_singleton.mp hb]; exact n64'.2.2) (fun b o hb e => e5 b o (by simpa using hb) e)
  have N50 := newsAdd F (newsKeepBut (wr := [64]) (newsSub (a := [(Il, W.listOf #[] 0)]) N (fun p hp => by rw [List.mem_singleton.mp hp]; exact .head _)) (fun p hp q => by rw [List.mem_singleton.mp hp] at q; exact hI64 (List.mem_singleton.mp q)) (fun b o hb e => e5 b o (by simpa using hb) e)) hT fT
  have hTI : T ≠ Il := fun q => by rw [q] at fT; rw [show _ = _ from nI.1] at fT; cases fT
  have e64 : ∀ b o, b ≠ 64 → s.heap.get? b = some o → h5.get? b = some o := fun b o hb e => by
    refine F5.keep b o ?_
    rw [eg]
    exact hideAll_get _ e (by simpa using hb)
  have N5 : News g' L h5 [(T, W.listOf #[.str (Str.ofString "%") t1, .str (brOf o) t2, .str (brOf o) t3] 3), (Il, W.listOf #[] 0), (64, tabObj ps5)] := fun p hp => by
    simp only [List.mem_cons, List.not_mem_nil, or_false] at hp
    rcases hp with rfl | rfl | rfl
    · exact N50 _ (.head _)
    · exact N50 _ (.tail _ (.head _))
    · exact ⟨h645, n64'.2⟩
  clear F N N50
  (try dsimp only)
  refine listN F5 N5 ⟨_, (N5 _ (.head _)).1, rfl, _, rfl⟩ fun I oI h6 F6 N6 ho6 hI6 st6 hlI => ?_
  clear F5 N5
  refine forLoop_listN (ax := T) (oA := W.listOf #[.str (Str.ofString "%") t1, .str (brOf o) t2, .str (brOf o) t3] 3) rfl rfl rfl rfl rfl F6 N6 ho6 hI6
    (ItJ total t Il d td T o t1 t2 t3 ps5)
    ⟨#[], 0, [(64, tabObj ps5)], none, none, none, none, rfl, ?_, rfl, ⟨fun p hp => by rw [List.mem_singleton.mp hp]; exact hI64.symm, .head _⟩, fun j a q => by simp at q⟩ ?_ ?_ ?_
  · funext q
    by_cases q1 : q = Str.ofString "part"; · subst q1; rfl
    by_cases q2 : q = Str.ofString "body"; · subst q2; rfl
    by_cases q3 : q = Str.ofString "ranges"; · subst q3; rfl
    by_cases q4 : q = Str.ofString "size"; · subst q4; rfl
    simp only [itM, if_neg q1, if_neg q2, if_neg q3, if_neg q4]
  · rintro i m news ⟨vsI, kI, rest, vp, vb, vr, vs', rfl, _⟩
    exact .head _
  · clear F6 N6
    rintro i v oI2 m₁ news₁ h7 tk7 hi hv ⟨vsI, kI, rest, vp, vb, vr, vs', rfl, rfl, hsi, ⟨hap, h64r⟩, hled⟩ hI7 hoI F N
    have hi3 : i < 3 := hi
    obtain ⟨p, tp, b0, rfl, hb0, hpc, hpl17, hbl⟩ : ∃ p tp b0, v = .str p tp ∧ b0 = (if i = 0 then Str.ofString "%" else o) ∧ ((Txt.slice p none (some 1) == Str.ofString "[") = true ∧ Txt.slice p (some 1) (some (-1)) = b0 ∨ (Txt.slice p none (some 1) == Str.ofString "[") = false ∧ p = b0) ∧ p.length ≤ 60 ∧ b0.length ≤ 22 := by
      have hbr : (brOf o).length ≤ 60 := by
        simp only [Str.length_append]; show 1 + o.length + 1 ≤ 60; omega
      match i, hi3 with
      | 0, _ => cases hv; exact ⟨Str.ofString "%", _, Str.ofString "%", rfl, rfl, .inr ⟨by decide +kernel, rfl⟩, by decide, by decide⟩
      | 1, _ => cases hv; exact ⟨_, _, _, rfl, rfl, .inl ⟨by rw [hcu1]; rfl, hcu2⟩, hbr, hol⟩
      | 2, _ => cases hv; exact ⟨_, _, _, rfl, rfl, .inl ⟨by rw [hcu1]; rfl, hcu2⟩, hbr, hol⟩
    replace F : Fr g' L h7 _ := F
    replace N : News g' L h7 ((I, oI2) :: (T, W.listOf #[.str (Str.ofString "%") t1, .str (brOf o) t2, .str (brOf o) t3] 3) :: (Il, W.listOf vsI kI) :: rest) := N
    iterate 2 (first | (k_unfold; (try dsimp only)) | walk1)
    refine wpAny_mono (E := fun _ _ => False) (Q := ItB g' L total t Il d td s.os g5 d5 ((I, oI2) :: (T, partsO o t1 t2 t3) :: (Il, W.listOf vsI kI) :: rest) b0) ?_ (fun v s₁ hv1 => ?_) (fun _ _ q => q.elim)
    · replace F := frI (total := total) (t := t) F rfl rfl (fun q q1 q2 q3 q4 q5 q6 => by ((repeat (refine Eq.trans (if_neg (by assumption)) ?_)); rfl))
      iterate 12 (first | (k_unfold; (try dsimp only)) | walk1)
      refine wpAny_truthy_bool ?_
      rcases hpc with ⟨hp1, hp2⟩ | ⟨hp1, hp2⟩
      · refine iteP hp1 ?_
        iterate 11 (first | (k_unfold; (try dsimp only)) | walk1)
        rename Fr _ _ _ _ => F2
        rename News _ _ _ _ => N2
        rw [hp2]
        exact ⟨_, _, _, _, _, _, _, rfl, rfl, F2, N2⟩
      · refine iteN hp1 ?_
        iterate 1 (first | (k_unfold; (try dsimp only)) | walk1)
        rename Fr _ _ _ _ => F2
        rename News _ _ _ _ => N2
        rw [hp2]
        exact ⟨_, _, _, _, _, _, _, rfl, rfl, F2, N2⟩
    · clear F N
      obtain ⟨tb, hp8, tk8, vp8, vb8, vr8, vs8, rfl, rfl, F, N⟩ := hv1
      clear hpc hpl17 hv
      obtain ⟨rj, hrj⟩ : ∃ rj, rangesOf 30 b0 = some rj := by
        rw [hb0]; split
        · exact ⟨_, dress_ranges⟩
        · exact ⟨_, hrs⟩
      iterate 9 (first | (k_unfold; (try dsimp only)) | walk1)
      rename Fr _ _ _ _ => F2
      rename News _ _ _ _ => N2
      rename_i Rg _ lRg _ _
      have hbase : ∀ p ∈ (I, oI2) :: (T, W.listOf #[.str (Str.ofString "%") t1, .str (brOf o) t2, .str (brOf o) t3] 3) :: (Il, W.listOf vsI kI) :: rest, p.1 < Rg := by
        intro p hp
        rcases List.mem_cons.mp hp with rfl | hp
        · exact lRg.1
        rcases List.mem_cons.mp hp with rfl | hp
        · exact lRg.2.1
        rcases List.mem_cons.mp hp with rfl | hp
        · exact lRg.2.2.1
        exact ktn_ltOf lRg.2.2.2 p hp
      generalize hbs : (I, oI2) :: (T, W.listOf #[.str (Str.ofString "%") t1, .str (brOf o) t2, .str (brOf o) t3] 3) :: (Il, W.listOf vsI kI) :: rest = base at hbase N2
      refine wpAny_While (codeAny_whileLoop (ItW g' L total t Il d td s.os g5 d5 base Rg rj) ?turn 30 ?init)
      case init =>
        replace F2 := frI (total := total) (t := t) F2 rfl rfl (fun q q1 q2 q3 q4 q5 q6 => by ((repeat (refine Eq.trans (if_neg (by assumption)) ?_)); rfl))
        exact ⟨_, _, b0, tb, #[], 0, [], [], _, _, rfl, F2, N2, (fun p hp => nomatch hp), ⟨rfl, fun i v q => by simp at q⟩, by rw [hrj]; rfl, hbl, by decide⟩
      clear F2 N2
      rintro n s2 ⟨hp9, tk9, b, tb9, vsR, kR, new, rd, vp9, vs9, rfl, F, N, hnew, hLed, hgo, hb22, hrd⟩
      refine wpAny_mono (E := fun _ _ => False) ?_ (fun _ _ q => q) (fun _ _ q => q.elim)
      iterate 4 (first | (k_unfold; (try dsimp only)) | walk1)
      refine wpAny_truthy_bool ?_
      cases n with
      | zero => cases hgo
      | succ n =>
      unfold rangesOf at hgo
      by_cases hb0l : b.length = 0
      · rw [if_pos hb0l] at hgo
        have hrd2 : rd = rj := by simpa using hgo
        have hbe : b = Str.ofString "" := strE (List.eq_nil_of_length_eq_zero (by rw [len_toList]; exact hb0l))
        refine iteN (show (b != Str.ofString "") = false by rw [hbe]; rfl) ?_
        have N3 : News g' L hp9 ((Il, W.listOf vsI kI) :: (Rg, W.listOf vsR kR) :: (I, oI2) :: (T, W.listOf #[.str (Str.ofString "%") t1, .str (brOf o) t2, .str (brOf o) t3] 3) :: (new ++ rest)) := newsSub N fun p hp => by
          rw [← hbs]
          simp only [List.mem_cons, List.mem_append] at hp ⊢
          rcases hp with rfl | rfl | rfl | rfl | hp | hp
          · exact .inr (.inr (.inr (.inr (.inl rfl))))
          · exact .inl rfl
          · exact .inr (.inr (.inl rfl))
          · exact .inr (.inr (.inr (.inl rfl)))
          · exact .inr (.inl hp)
          · exact .inr (.inr (.inr (.inr (.inr hp))))
        clear N
        iterate 10 (first | (k_unfold; (try dsimp only)) | walk1)
        have hIlI : Il ≠ I := hI7 _ (.tail _ (.head _))
        refine append_K F N3 (.head fun p hp => by
          rcases List.mem_cons.mp hp with rfl | hp
          · exact Nat.ne_of_gt lRg.2.2.1
          rcases List.mem_cons.mp hp with rfl | hp
          · exact hIlI.symm
          rcases List.mem_cons.mp hp with rfl | hp
          · exact hTI
          rcases List.mem_append.mp hp with hp | hp
          · exact Nat.ne_of_gt (Nat.lt_trans lRg.2.2.1 (hnew p hp))
          · exact hap p hp) (fun h10 F10 N10 => ?_) (by rw [sizeLine_eq]; omega)
        clear F N3
        repeat ((try dsimp only); refine wpAny_execs_nil ?_)
        refine ⟨_, _, _, _, rfl, F10, newsSub (a := (I, oI2) :: (T, W.listOf #[.str (Str.ofString "%") t1, .str (brOf o) t2, .str (brOf o) t3] 3) :: (Il, W.listOf (vsI.push (.ref Rg)) (kI + 1)) :: (Rg, W.listOf vsR kR) :: (new ++ rest)) N10 (fun p hp => by
          simp only [List.mem_cons, List.mem_append] at hp ⊢
          rcases hp with rfl | rfl | rfl | rfl | hp
          · exact .inr (.inr (.inl rfl))
          · exact .inr (.inr (.inr (.inl rfl)))
          · exact .inl rfl
          · exact .inr (.inl rfl)
          · exact .inr (.inr (.inr (.inr hp)))), (fun p hp => by
          rcases List.mem_cons.mp hp with rfl | hp
          · exact hI7 _ (.head _)
          rcases List.mem_cons.mp hp with rfl | hp
          · exact hIlI
          rcases List.mem_cons.mp hp with rfl | hp
          · exact Nat.ne_of_gt lRg.1
          rcases List.mem_append.mp hp with hp | hp
          · exact Nat.ne_of_gt (Nat.lt_trans lRg.1 (hnew p hp))
          · exact hI7 _ (.tail _ (.tail _ hp))), _, _, _, _, _, _, _, rfl, rfl, by rw [Array.size_push, hsi], ⟨fun p hp => by
          rcases List.mem_cons.mp hp with rfl | hp
          · exact Nat.ne_of_gt lRg.2.2.1
          rcases List.mem_append.mp hp with hp | hp
          · exact Nat.ne_of_gt (Nat.lt_trans lRg.2.2.1 (hnew p hp))
          · exact hap p hp, .tail _ (List.mem_append_right _ h64r)⟩, fun j a q => ?_⟩
        rw [Array.getElem?_push] at q
        split at q
        · rename_i hji
          cases q
          exact ⟨Rg, vsR, kR, rj, rfl, .head _, hrd2 ▸ hLed.sub (fun p hp => .tail _ (List.mem_append_left _ hp)), by rw [hji, hsi, ← hb0]; exact hrj⟩
        · obtain ⟨aj, vsj, kj, rj', e1, e2, e3, e4⟩ := hled j a q
          exact ⟨aj, vsj, kj, rj', e1, .tail _ (List.mem_append_right _ e2), e3.sub (fun p hp => .tail _ (List.mem_append_right _ hp)), e4⟩
      · rw [if_neg hb0l] at hgo
        by_cases hzl : (b.length : Int) < rsz b
        · rw [if_pos hzl] at hgo; cases hgo
        rw [if_neg hzl] at hgo
        refine iteP (show (b != Str.ofString "") = true by
          refine bne_iff_ne.mpr fun q => hb0l ?_
          rw [q]; rfl) ?_
        iterate 3 (first | (k_unfold; (try dsimp only)) | walk1)
        refine wpAny_mono (E := fun _ _ => False) (Q := ItZ g' L s.os g5 d5 (itM total t Il d td vp9 (some (.str b tb9)) (some (.ref Rg)) vs9) ((Rg, W.listOf vsR kR) :: (new ++ base)) (rsz b)) ?_ (fun v s₁ hv1 => ?_) (fun _ _ q => q.elim)
        · iterate 13 (first | (k_unfold; (try dsimp only)) | walk1)
          refine wpAny_truthy_bool ?_
          rename Fr _ _ _ _ => F2
          rename News _ _ _ _ => N2
          have hrz : rsz b = if Txt.slice b (some 1) (some 2) == Str.ofString "-" then 3 else 1 := rfl
          by_cases hz : (Txt.slice b (some 1) (some 2) == Str.ofString "-") = true
          · refine iteP hz ?_
            rw [if_pos hz] at hrz
            rw [hrz]
            iterate 1 (first | (k_unfold; (try dsimp only)) | walk1)
            exact ⟨_, _, _, rfl, rfl, F2, N2⟩
          · refine iteN (Bool.eq_false_iff.mpr hz) ?_
            rw [if_neg hz] at hrz
            rw [hrz]
            iterate 1 (first | (k_unfold; (try dsimp only)) | walk1)
            exact ⟨_, _, _, rfl, rfl, F2, N2⟩
        · clear F N
          obtain ⟨tz, hp8, tk8, rfl, rfl, F, N⟩ := hv1
          have hz1 : 1 ≤ rsz b := by unfold rsz; split <;> omega
          have hz2 : rsz b ≤ 3 := by unfold rsz; split <;> omega
          have hbl1 : 1 ≤ b.length := by omega
          iterate 25 (first | (k_unfold; (try dsimp only)) | walk1)
          rename Fr _ _ _ _ => F2
          rename News _ _ _ _ => N2
          rename_i Tp _ lTp
          have hsR : vsR.size ≤ 30 := by rw [hLed.1]; omega
          generalize ht1 : Value.str (Txt.item b 0) _ = v1 at N2
          generalize ht2 : Value.str (Txt.item b (rsz b - 1)) _ = v2 at N2
          refine append_K F2 (newsSub (a := (Rg, W.listOf vsR kR) :: ((Tp, { cls := .type "tuple", data := .seq #[v1, v2] }) :: (new ++ base))) N2 (fun p hp => by
            simp only [List.mem_cons] at hp ⊢
            rcases hp with rfl | rfl | hp
            · exact .inr (.inl rfl)
            · exact .inl rfl
            · exact .inr (.inr hp))) (.head fun p hp => by
            rcases List.mem_cons.mp hp with rfl | hp
            · exact Nat.ne_of_gt lTp.1
            rcases List.mem_append.mp hp with hp | hp
            · exact Nat.ne_of_gt (hnew p hp)
            · exact Nat.ne_of_lt (hbase p hp)) (fun h10 F10 N10 => ?_) (by rw [sizeLine_eq]; omega)
          clear F2 N2
          iterate 12 (first | (k_unfold; (try dsimp only)) | walk1)
          repeat ((try dsimp only); refine wpAny_execs_nil ?_)
          rename Fr _ _ _ _ => F2
          rename News _ _ _ _ => N2
          replace F2 := frI (total := total) (t := t) F2 rfl rfl (fun q q1 q2 q3 q4 q5 q6 => by ((repeat (refine Eq.trans (if_neg (by assumption)) ?_)); rfl))
          have hsl := Txt.slice_le b (some (rsz b)) none
          refine ⟨n, by omega, _, _, _, _, _, _, (Tp, { cls := .type "tuple", data := .seq #[v1, v2] }) :: new, rd ++ [(Txt.item b 0, Txt.item b (rsz b - 1))], _, _, rfl, F2, N2, (fun p hp => ?_), ?_, ?_, by omega, by simp only [List.length_append, List.length_cons, List.length_nil]; omega⟩
          · rcases List.mem_cons.mp hp with rfl | hp
            · exact lTp.1
            · exact hnew p hp
          · subst ht1 ht2
            exact (hLed.sub fun p hp => .tail _ hp).push (.head _)
          · rw [← hgo, Option.map_map]
            congr 1
            funext z
            simp
  · intro h7 tk7 m7 news7 F7 N7 ⟨vsI, kI, rest, vp, vb, vr, vs', e1, e2, hsi, ⟨hap, h64r⟩, hled⟩
    subst e1 e2
    have hs3 : vsI.size = 3 := hsi
    iterate 3 (first | (k_unfold; (try dsimp only)) | walk1)
    replace F7 : Fr g' L h7 _ := F7
    replace N7 : News g' L h7 ((T, W.listOf #[.str (Str.ofString "%") t1, .str (brOf o) t2, .str (brOf o) t3] 3) :: (Il, W.listOf vsI kI) :: rest) := N7
    obtain ⟨a0, w0, k0, r0, e0, m0, L0, q0⟩ := hled 0 (vsI[0]'(by omega)) (Array.getElem?_eq_getElem _)
    obtain ⟨a1, w1, k1, r1, e1, m1, L1, q1⟩ := hled 1 (vsI[1]'(by omega)) (Array.getElem?_eq_getElem _)
    obtain ⟨a2, w2, k2, r2, e2, m2, L2, q2⟩ := hled 2 (vsI[2]'(by omega)) (Array.getElem?_eq_getElem _)
    rw [if_pos rfl, dress_ranges] at q0
    rw [if_neg (by decide), hrs] at q1 q2
    cases q0; cases q1; cases q2
    have hv3 : vsI = #[.ref a0, .ref a1, .ref a2] := by
      apply Array.ext (by simpa using hs3)
      intro j h1 h2
      have h3 : j < 3 := by simpa using h2
      match j, h3 with
      | 0, _ => exact e0
      | 1, _ => exact e1
      | 2, _ => exact e2
    have N8 := newsSub (a := rest) N7 (fun p hp => .tail _ (.tail _ hp))
    have hl30 := ranges_len _ _ _ hrs
    refine h Il h7 g5 d5 _ ps5 (fun b o hb e => F7.keep b o (eg ▸ hideAll_get _ e (by simpa using hb))) (N8 _ h64r).1 ⟨a0, a1, a2, ⟨_, (N7 _ (.tail _ (.head _))).1, rfl, _, by rw [hv3]⟩, L0.at N8 m0 (by decide), L1.at N8 m1 hl30, L2.at N8 m2 hl30⟩ hg5
end
/- Okay -/
section
/-- ranges of single signs below 128, as numbers -/
def nums : List (Str × Str) → Option (List (Nat × Nat))
  | [] => some []
  | r :: rs => match r.1.cps.toList, r.2.cps.toList, nums rs with
    | [a], [b], some ns => some ((a, b) :: ns)
    | _, _, _ => none
def fitN (ns : List (Nat × Nat)) (c : Nat) : Bool := ns.any fun r => decide (r.1 ≤ c) && decide (c ≤ r.2)
theorem fits_nums (c : Nat) : ∀ (rs : List (Str × Str)) (ns : List (Nat × Nat)), nums rs = some ns → fits rs ⟨#[c]⟩ = fitN ns c
  | [], ns, h => by cases h; rfl
  | r :: rs, ns, h => by
    unfold nums at h
    split at h
    · rename_i a b ns' ha hb h1
      cases h
      have ih := fits_nums c rs ns' h1
      show (_ || fits rs ⟨#[c]⟩) = (_ || fitN ns' c)
      rw [ih]
      congr 1
      show (!decide ([c] < r.1.cps.toList) && !decide (r.2.cps.toList < [c])) = (decide (a ≤ c) && decide (c ≤ b))
      rw [ha, hb]
      congr 1
      · by_cases q : a ≤ c
        · simp [q, List.cons_lt_cons_iff] <;> omega
        · simp [q, List.cons_lt_cons_iff] <;> omega
      · by_cases q : c ≤ b
        · simp [q, List.cons_lt_cons_iff] <;> omega
        · simp [q, List.cons_lt_cons_iff] <;> omega
    · cases h
def okN (ns : List (Nat × Nat)) (p : Nat → Bool) : Bool := (ns.all fun r => decide (r.2 < 128)) && ((List.range 128).all fun c => fitN ns c == p c)
theorem okN_is {ns : List (Nat × Nat)} {p : Nat → Bool} (h : okN ns p = true) (hp : ∀ c, 128 ≤ c → p c = false) (c : Nat) : fitN ns c = p c := by
  unfold okN at h
  rw [Bool.and_eq_true] at h
  by_cases hc : c < 128
  · exact eq_of_beq (List.all_eq_true.mp h.2 c (List.mem_range.mpr hc))
  · rw [hp c (by omega)]
    unfold fitN
    rw [List.any_eq_false]
    intro r hr
    have := of_decide_eq_true (List.all_eq_true.mp h.1 r hr)
    simp; omega
def hxN (c : Nat) : Bool := decide (c ∈ figs.cps.toList)
theorem hx_hi (c : Nat) (h : 128 ≤ c) : hxN c = false := by
  unfold hxN
  have : figs.cps.toList.all (fun d => decide (d < 128)) = true := by decide +kernel
  refine decide_eq_false fun q => ?_
  have := of_decide_eq_true (List.all_eq_true.mp this c q)
  omega
def dressR (k : Nat) : Bool := match (rangesOf 30 (dressO k)).bind nums with
  | some ns => okN ns hxN
  | none => false
theorem dressR_ok : ∀ k < 5, dressR k = true := by decide +kernel
theorem itemsOk {k : Nat} (hk : k < 5) : ∃ rs, rangesOf 30 (dressO k) = some rs ∧ ItemsOk [(Str.ofString "%", Str.ofString "%")] rs rs := by
  have h := dressR_ok k hk
  unfold dressR at h
  split at h
  · rename_i ns hns
    obtain ⟨rs, h1, h2⟩ := Option.bind_eq_some_iff.mp hns
    refine ⟨rs, h1, fun c => ?_⟩
    have e2 : fits rs ⟨#[c]⟩ = hxB c := by
      rw [fits_nums c rs ns h2, okN_is h hx_hi, hxB_eq]; rfl
    refine ⟨?_, e2, e2⟩
    rw [fits_nums c _ [(37, 37)] rfl]
    show (decide (37 ≤ c) && decide (c ≤ 37) || false) = (c == 37)
    rw [Bool.or_false]
    by_cases q : c = 37
    · subst q; rfl
    · have : (c == 37) = false := by simpa using q
      rw [this]
      simp; omega
  · cases h
end
/- Text -/
section
theorem beginText : True := by
  w_top off
  trivial
def signOf (k : Int) : Nat := if Int.fmod k 8 = 7 then (Int.fmod (Int.fdiv k 8) 55296).toNat else ([37, 52, 49, 98, 69, 103, 47].getD (Int.fmod k 8).toNat 0)
inductive TextJ (a : Addr) (ns : List Int) (i : Nat) (m : Str → Option Value) (news : List (Addr × Obj)) : Prop
  | mk (T : Addr) (vs : Array Value) (k : Nat) (vx : Option Value) (h1 : news = [(T, W.listOf vs k)]) (h2 : m = (fun q => if q = Str.ofString "x" then vx else if q = Str.ofString "signs" then some (.ref T) else ([(Str.ofString "script", Value.ref a)] : List (Str × Value)).reverse.lookup q))
    (h3 : CharsAre vs ((ns.take i).map signOf)) (h4 : vs.size ≤ i) : TextJ a ns i m news
theorem intsAt : ∀ {vs : List Value} {ns : List Int}, IntsAre vs ns → ∀ (i : Nat) (v : Value), vs[i]? = some v → ∃ z t, v = .int z t ∧ ns[i]? = some z
  | _, _, .nil, i, v, h => by simp at h
  | _, _, .cons n t r, 0, v, h => ⟨n, t, by simpa using h.symm, rfl⟩
  | _, _, .cons n t r, i + 1, v, h => by
    obtain ⟨z, t2, e1, e2⟩ := intsAt r i v (by simpa using h)
    exact ⟨z, t2, e1, by simpa using e2⟩
theorem text {w : World} {loose : List Str} {mean : ExcName → Option Value} {mg mb : Str → Option Value} {dp un : Nat} {fr : Option (List Env)} {gd : Option (List Code)} {s : Shared} {R : Result → Shared → Prop} {g : Heap} {a : Addr} {vs : List Value} {ns : List Int}
    (G : Gr w loose mean mg mb g) (st : g.StaysIn s.heap) (hdp : dp + 10 < recursionLimit) (hun : un + 40 < cLine) (hl : s.heap.IsList a vs.toArray) (hi : IntsAre vs ns) (hn : ns.length ≤ 10)
    (h : ∀ h' tk tr, s.heap.StaysIn h' → R (.ok (.ret (.str (Str.ofString "%4" ++ Txt.join (Str.ofString "") ((ns.map signOf).map fun c => ⟨#[c]⟩) ++ Str.ofString "%4b1e") tr))) { s with heap := h', toks := tk }) :
    codeAny (model prog w) (aro dp un fr gd) (.call (.ref 76) ⟨[.ref a], []⟩) R s := by
  refine' enter [("script", .ref a)] G.X G.T st [] (fun _ q => nomatch q) ?ho ?hcd ?hroom ?hbind ?hloc ?_ ?c1 ?c2 ?c3 ?c4
  case ho => k_is
  case hcd => k_is
  case hroom => (show dp < _); omega
  case hbind => rfl
  case hloc => exact locs rfl
  case c1 => rfl
  case c2 => rfl
  case c3 => rfl
  case c4 => decide
  intro g' L h₁ eg X' T' F N l1
  replace eg : g' = s.heap := eg
  subst eg
  (try dsimp only)
  iterate 8 (first | (k_unfold; (try dsimp only)) | walk1)
  refine wpAny_For ?_ (fun _ => rfl)
  iterate 1 (first | (k_unfold; (try dsimp only)) | walk1)
  rename Fr _ _ _ _ => F
  rename News _ _ _ _ => N
  have hsz : vs.toArray.size = ns.length := by have := hi.length; simpa using this
  refine listN F N (hl.at fun o e => F.keep _ _ e) fun I oI h2 F2 N2 ho hI st2 hlI => ?_
  clear F N
  refine forLoop_list rfl hl rfl rfl F2 N2 ho hI (TextJ a ns) ⟨_, _, _, none, rfl, ?_, ⟨rfl, fun i c q => by simp at q⟩, Nat.le_refl _⟩ ?_ ?_
  · funext q
    by_cases q1 : q = Str.ofString "x"
    · rw [q1]; rfl
    · rw [if_neg q1]
  · clear F2 N2
    rintro i v oI2 m₁ news₁ h3 tk3 hi3 hv ⟨T, vs2, k, vx, rfl, rfl, hch, hvi⟩ hI2 hoI F N
    replace F : Fr s.heap L h3 _ := F
    replace N : News s.heap L h3 [(I, oI2), (T, W.listOf vs2 k)] := N
    have hTI : T ≠ I := hI2 (T, W.listOf vs2 k) (.head _)
    obtain ⟨z, tz, hvz, hnz⟩ : ∃ z t, v = .int z t ∧ ns[i]? = some z := intsAt hi i v (by simpa using hv)
    subst hvz
    iterate 15 (first | (k_unfold; (try dsimp only)) | walk1)
    refine wpAny_truthy_bool ?_
    by_cases h7 : Int.fmod z 8 = 7
    · rw [if_pos (by rw [h7]; rfl)]
      iterate 14 (first | (k_unfold; (try dsimp only)) | walk1)
      have hE : ((z.fdiv 8).fmod 55296).toNat = signOf z := (if_pos h7).symm
      rw [hE]
      refine append_K F (newsSub N (a := [(T, W.listOf vs2 k), (I, oI2)]) fun p hp => by
        simp only [List.mem_cons, List.not_mem_nil, or_false] at hp ⊢; rcases hp with rfl | rfl <;> simp) (.head fun p hp => by
        rw [List.mem_singleton.mp hp]; exact hTI.symm) (fun h4 F4 N4 => ?_) (by rw [sizeLine_eq]; omega)
      generalize hpv : vs2.push _ = v9 at N4
      have hv9 : v9.size ≤ i + 1 := by rw [← hpv, Array.size_push]; omega
      refine wpAny_execs_nil ?_
      (try dsimp only)
      refine ⟨_, _, _, [(T, W.listOf v9 (k + 1))], rfl, frOne F4, newsSub N4 fun p hp => ?_, fun p hp => by rw [List.mem_singleton.mp hp]; exact hTI, T, v9, k + 1, _, rfl, rfl, ?_, hv9⟩
      · simp only [List.mem_cons, List.not_mem_nil, or_false] at hp ⊢; rcases hp with rfl | rfl <;> simp
      · rw [List.take_add_one, hnz, List.map_append, ← hpv]
        exact charsPush hch
    · rw [if_neg (by simpa using h7)]
      have hk0 : 0 ≤ z.fmod 8 := Int.fmod_nonneg_of_pos _ (by omega)
      have hk1 : z.fmod 8 < 8 := Int.fmod_lt_of_pos _ (by omega)
      have hk2 : z.fmod 8 < 7 := by omega
      have hE2 : Txt.item (Str.ofString "%41bEg/") (z.fmod 8) = ⟨#[signOf z]⟩ := by
        unfold signOf
        rw [if_neg h7]
        generalize z.fmod 8 = r at hk0 hk2
        have : r = 0 ∨ r = 1 ∨ r = 2 ∨ r = 3 ∨ r = 4 ∨ r = 5 ∨ r = 6 := by omega
        rcases this with rfl | rfl | rfl | rfl | rfl | rfl | rfl <;> rfl
      have hlen : (Str.ofString "%41bEg/").length = 7 := rfl
      iterate 8 (first | (k_unfold; (try dsimp only)) | walk1)
      (try rw [hE2])
      refine append_K F (newsSub N (a := [(T, W.listOf vs2 k), (I, oI2)]) fun p hp => by
        simp only [List.mem_cons, List.not_mem_nil, or_false] at hp ⊢; rcases hp with rfl | rfl <;> simp) (.head fun p hp => by
        rw [List.mem_singleton.mp hp]; exact hTI.symm) (fun h4 F4 N4 => ?_) (by rw [sizeLine_eq]; omega)
      generalize hpv : vs2.push _ = v9 at N4
      have hv9 : v9.size ≤ i + 1 := by rw [← hpv, Array.size_push]; omega
      refine wpAny_execs_nil ?_
      (try dsimp only)
      refine ⟨_, _, _, [(T, W.listOf v9 (k + 1))], rfl, frOne F4, newsSub N4 fun p hp => ?_, fun p hp => by rw [List.mem_singleton.mp hp]; exact hTI, T, v9, k + 1, _, rfl, rfl, ?_, hv9⟩
      · simp only [List.mem_cons, List.not_mem_nil, or_false] at hp ⊢; rcases hp with rfl | rfl <;> simp
      · rw [List.take_add_one, hnz, List.map_append, ← hpv]
        exact charsPush hch
  · rintro h3 tk3 m' news' F N ⟨T, vs2, k, vx, rfl, rfl, hch, hvi⟩
    replace F : Fr s.heap L h3 _ := F
    replace N : News s.heap L h3 [(T, W.listOf vs2 k)] := N
    (try dsimp only)
    iterate 12 (first | (k_unfold; (try dsimp only)) | walk1)
    have hxl : ns.take vs.toArray.size = ns := List.take_of_length_le (by omega)
    rw [hxl] at hch
    have hsum : ∀ l : List Nat, ((l.map fun c => (⟨#[c]⟩ : Str)).map (·.length)).sum = l.length := fun l => by
      induction l with
      | nil => rfl
      | cons c l ih => simp only [List.map_cons, List.sum_cons, List.length_cons, ih]; show 1 + _ = _; omega
    refine join_list (ys := (ns.map signOf).map fun c => ⟨#[c]⟩) ⟨_, (N _ (.head _)).1, rfl, _, rfl⟩ (charsStrs hch) ?_ fun t' k' => ?_
    · rw [hsum, List.length_map, List.length_map]
      show ns.length + ns.length * 0 ≤ _
      omega
    · have jl : (Txt.join (Str.ofString "") ((ns.map signOf).map fun c => ⟨#[c]⟩)).length ≤ 10 := by
        rw [join_singles_len, List.length_map]; exact hn
      generalize Txt.join (Str.ofString "") ((ns.map signOf).map fun c => ⟨#[c]⟩) = jj at h jl ⊢
      have l4 : (Str.ofString "%4").length = 2 := rfl
      have l5 : (Str.ofString "%4b1e").length = 5 := rfl
      refine SBL.add (fun t4 k4 _ => ?_) (by rw [sizeLine_eq, l4]; omega)
      iterate 1 (first | (k_unfold; (try dsimp only)) | walk1)
      refine SBL.add (fun t5 k5 _ => ?_) (by rw [sizeLine_eq, Str.length_append, l4, l5]; omega)
      exact h _ _ _ F.keep
end
/- EndG -/
section
/-- the end of a call that answers with a bool, whatever bare generators it has left -/
theorem endsBare {M : Model} {A : Around} {cd : Code} {s s₁ : Shared} {cw : ClaimW} {cl : Str → Option Addr} {mean : ExcName → Option Value} {args : List WData} {tabs : List (Addr × Addr)} (hT : TabsAt tabs s₁.heap) (hr : ∀ a x, cw.raises a x = false)
    (h : codeAny M A cd (fun r s' => (∃ b, r = .ok (.ret (.bool b)) ∧ cw.post args (.bool b) args = true) ∧ (ghostOf s₁.heap tabs).StaysIn s'.heap ∧ s'.os = s₁.os ∧ AllBare s'.gens ∧ GrownAll tabs s'.heap) s) :
    codeAny M A cd (GoodWG cw cl mean args s₁) s := by
  refine codeAny_mono h ?_
  rintro r s' ⟨⟨b, rfl, hp⟩, hst, hos, hge, hgr⟩
  have two : ∀ a o, s₁.heap.get? a = some o → s'.heap.get? a = some o ∨ (isCodeTable s₁.heap a ∧ o = tabObj #[] ∧ ∃ ps, s'.heap.get? a = some (tabObj ps)) := by
    intro a o ho
    by_cases ha : a ∈ tabs.map (·.2)
    · obtain ⟨q, hq, rfl⟩ := List.mem_map.mp ha
      obtain ⟨hC, hE⟩ := hT q hq
      rw [ho] at hE
      exact .inr ⟨(hC.tab (hT q hq).2).isCodeTable, Option.some.inj hE, hgr.get q hq⟩
    · exact .inl (hst a o (ghost_ne ho ha))
  refine ⟨.inl ⟨_, .bool b, [], rfl, fun x => hr _ x, .bool b, hp, fun _ => ⟨List.nodup_nil, fun a ha => nomatch ha⟩⟩, ⟨fun a o ho => ?_, fun a o ho => ?_⟩, hos, hge⟩
  · rcases two a o ho with h1 | ⟨h1, rfl, ps, h2⟩
    · exact .inl h1
    · exact .inr (.inl ⟨h1, rfl, #[], ps, rfl, by simpa using h2⟩)
  · rcases two a o ho with h1 | ⟨_, _, ps, h2⟩
    · exact ⟨_, h1⟩
    · exact ⟨_, h2⟩
end
/- Law -/
section
theorem beginLaw : True := by
  w_top off
  trivial
theorem text2 {w : World} {loose : List Str} {mean : ExcName → Option Value} {mg mb : Str → Option Value} {dp un : Nat} {fr : Option (List Env)} {gd : Option (List Code)} {s : Shared} {R : Result → Shared → Prop} {g : Heap} {a : Addr} {vs : List Value} {ns : List Int}
    (G : Gr w loose mean mg mb g) (st : g.StaysIn s.heap) (hdp : dp + 10 < recursionLimit) (hun : un + 40 < cLine) (hl : s.heap.IsList a vs.toArray) (hi : IntsAre vs ns) (hn : ns.length ≤ 10)
    (h : ∀ h' tk tr x, x.length ≤ 17 → s.heap.StaysIn h' → R (.ok (.ret (.str x tr))) { s with heap := h', toks := tk }) :
    codeAny (model prog w) (aro dp un fr gd) (.call (.ref 76) ⟨[.ref a], []⟩) R s :=
  text G st hdp hun hl hi hn fun h' tk tr st' => h h' tk tr _ (by
    rw [Str.length_append, Str.length_append, join_singles_len, List.length_map]
    show 2 + _ + 5 ≤ 17
    omega) st'
theorem items2 {w : World} {loose : List Str} {mean : ExcName → Option Value} {mg mb : Str → Option Value} {dp un : Nat} {fr : Option (List Env)} {gd : Option (List Code)} {s : Shared} {R : Result → Shared → Prop} {g : Heap} {total : Int} {t : Tok}
    (G : Gr w loose mean mg mb g) (st : g.StaysIn s.heap) (h64 : s.heap.get? 64 = some (tabObj #[])) (n64 : g.get? 64 = none) (hb : s.gens = #[]) (hdp : dp + 30 < recursionLimit) (hun : un + 80 < cLine)
    (h : ∀ l h' g' d' tk ps' rs, Heap.ExtBut 64 s.heap h' → h'.get? 64 = some (tabObj ps') → ItemsAt h' l [(Str.ofString "%", Str.ofString "%")] rs rs → ItemsOk [(Str.ofString "%", Str.ofString "%")] rs rs → AllBare g' → R (.ok (.ret (.ref l))) ⟨h', g', d', tk, s.os⟩) :
    codeAny (model prog w) (aro dp un fr gd) (.call (.ref 83) ⟨[.int total t], []⟩) R s := by
  obtain ⟨rs, hrs, hok⟩ := itemsOk (k := (Int.fmod total 5).toNat) (by
    have h0 := Int.fmod_nonneg_of_pos total (show (0 : Int) < 5 by decide)
    have h5 := Int.fmod_lt_of_pos total (show (0 : Int) < 5 by decide)
    omega)
  exact items rfl rfl hrs G st h64 n64 trivial (.of_eq hb) hdp hun fun l h' g' d' tk ps' e1 e2 e3 e4 => h l h' g' d' tk ps' rs e1 e2 e3 hok e4
theorem itemsMove {h h' : Heap} {l : Addr} {r1 r2 r3 : List (Str × Str)} (H : ItemsAt h l r1 r2 r3) (k : ∀ a o its n, h.get? a = some o → o.data = .seq its n → h'.get? a = some o) : ItemsAt h' l r1 r2 r3 := by
  have kl : ∀ {a : Addr} {its : Array Value}, h.IsList a its → h'.IsList a its := fun ⟨o, e, c, n, r⟩ => ⟨o, k _ o _ _ e r, c, n, r⟩
  have kt : ∀ {a : Addr} {its : Array Value}, Heap.IsTuple h a its → Heap.IsTuple h' a its := fun ⟨o, e, c, n, r⟩ => ⟨o, k _ o _ _ e r, c, n, r⟩
  have kr : ∀ {a : Addr} {rs : List (Str × Str)}, RangesAt h a rs → RangesAt h' a rs := fun ⟨n, vs, hl, hn, he⟩ => ⟨n, vs, kl hl, hn, fun i v q =>
    let ⟨a, r, t1, t2, e1, e2, e3⟩ := he i v q
    ⟨a, r, t1, t2, e1, e2, kt e3⟩⟩
  obtain ⟨a, b, c, hl, h1, h2, h3⟩ := H
  exact ⟨a, b, c, kl hl, kr h1, kr h2, kr h3⟩
theorem tab90_get {h : Heap} (H : Tab90 h) : ∃ ps, h.get? 90 = some (tabObj ps) := by
  rcases H with q | ⟨_, _, _, q, _⟩ <;> exact ⟨_, q⟩
/-- a heap with its code table of _law_hit laid aside, as a ground -/
theorem aside {w : World} {loose : List Str} {mean : ExcName → Option Value} {mg mb : Str → Option Value} {g h : Heap} {l : Addr} {r1 r2 r3 : List (Str × Str)} (G : Gr w loose mean mg mb g) (st : g.StaysIn h) (n90 : g.get? 90 = none) (H : Tab90 h) (I : ItemsAt h l r1 r2 r3) :
    Gr w loose mean mg mb (hideAll h [90]) ∧ (hideAll h [90]).StaysIn h ∧ (hideAll h [90]).get? 90 = none ∧ ItemsAt (hideAll h [90]) l r1 r2 r3 := by
  obtain ⟨ps, e90⟩ := tab90_get H
  refine ⟨G.keeps fun a o e => hideAll_get _ (st a o e) (by simpa using fun q : a = 90 => by rw [q, n90] at e; cases e), fun a o e => of_hideAll _ e, hideAll_none _ (by simp), itemsMove I fun a o its n e hd => hideAll_get _ e ?_⟩
  simp only [List.mem_singleton]
  rintro rfl
  rw [e90] at e; cases e; cases hd
theorem itemsExt {h h' : Heap} {l : Addr} {r1 r2 r3 : List (Str × Str)} (I : ItemsAt h l r1 r2 r3) (H : Tab90 h) (e : Heap.ExtBut 90 h h') : ItemsAt h' l r1 r2 r3 := by
  obtain ⟨ps, e90⟩ := tab90_get H
  refine itemsMove I fun a o its n ho hd => e a o ?_ ho
  rintro rfl
  rw [e90] at ho; cases ho; cases hd
theorem itemsBut {g h h' : Heap} {l L : Addr} {m : Str → Option Value} {r1 r2 r3 : List (Str × Str)} (I : ItemsAt h l r1 r2 r3) (F : Fr g L h m) (e : Heap.SameBut L h h') : ItemsAt h' l r1 r2 r3 := by
  obtain ⟨oL, es, ep, eL, dL, _⟩ := F.ns
  refine itemsMove I fun a o its n ho hd => e.extBut a o ?_ ho
  rintro rfl
  rw [eL] at ho; cases ho
  rw [dL] at hd; cases hd
local macro_rules | `(tactic| kn_posts) => `(tactic| refine endsBare $(Lean.mkIdent `hT9) (fun _ _ => rfl) ?_)
/- These names are taken so that the head lays no twin for its largest parts (the compiled file would be too large with them). -/
def lawX.tw3756002971706162674 : Unit := ()
def lawX.tw16561704328346167397 : Unit := ()
def lawX.tw3652913455869791636 : Unit := ()
def lawX.tw3539492376079120536 : Unit := ()
def lawX.tw6099863385739907284 : Unit := ()
def lawX.tw6060894995689196957 : Unit := ()
def lawX.tw15645587484911067892 : Unit := ()
def lawX.tw5197287401256651547 : Unit := ()
def lawX.tw12468064619866491948 : Unit := ()
def lawX.tw4973334333487256571 : Unit := ()
def lawX.tw641116914310410988 : Unit := ()
def lawX.tw1678559692214599962 : Unit := ()
def lawX.tw3720033459724320684 : Unit := ()
def lawX.tw12893938693058572964 : Unit := ()
def lawX.tw1607723929804197876 : Unit := ()
def lawX.tw4673598558768535506 : Unit := ()
def lawX.tw8351772544469903674 : Unit := ()
def lawX.tw10129149665499533579 : Unit := ()
def lawX.tw11874361846027915147 : Unit := ()
def lawX.tw11498759753733621213 : Unit := ()
def lawX.tw16755823462468624388 : Unit := ()
def lawX.tw13844618472384092547 : Unit := ()
def lawX.tw3083243206880841944 : Unit := ()
def lawX.tw326988295635775559 : Unit := ()
def lawX.tw10498849342057722974 : Unit := ()
def lawX.tw14343003333115936922 : Unit := ()
def lawX.tw4977995235798481104 : Unit := ()
def lawX.tw14828120337011365009 : Unit := ()
def lawX.tw17681206103463754246 : Unit := ()
def lawX.tw6306687670295630361 : Unit := ()
def lawX.tw3130624051704071503 : Unit := ()
def lawX.tw8898072111901396191 : Unit := ()
def lawX.tw15733295085749858579 : Unit := ()
def lawX.tw898967063408152907 : Unit := ()
def lawX.tw5750534386595597632 : Unit := ()
def lawX.tw9348948387913488981 : Unit := ()
def lawX.tw15538655592960760251 : Unit := ()
def lawX.tw14406171582227752701 : Unit := ()
def lawX.tw9563835202166788662 : Unit := ()
def lawX.tw11122801463010984749 : Unit := ()
def lawX.tw11646979544764570365 : Unit := ()
def lawX.tw14105230676509688793 : Unit := ()
def lawX.tw12945017729970728887 : Unit := ()
def lawX.tw1596279165231208425 : Unit := ()
def lawX.tw16464861192970095129 : Unit := ()
def lawX.tw361474937214404307 : Unit := ()
def lawX.tw16876601247894580371 : Unit := ()
def lawX.tw1422458170727929590 : Unit := ()
def lawX.tw16532618254351046900 : Unit := ()
def lawX.tw3104876751654534399 : Unit := ()
def lawX.tw8359340716449288742 : Unit := ()
def lawX.tw9693324132988963037 : Unit := ()
def lawX.tw3224567977750166393 : Unit := ()
def lawX.tw16987035201408154394 : Unit := ()
def lawX.tw9181979311690042551 : Unit := ()
set_option Elab.async true in
theorem lawX : PySem.Challenge.rw_ij0013_01.Holds := by
  w_on
  o_law
  k_head
  (case hw => w_witness2)
  w_top off
  k_go0
  iterate 15 (first | (k_unfold; (try dsimp only)) | walk1)
  rename Fr _ _ _ _ => F
  rename News _ _ _ _ => N
  rename IntsAre _ (List.take 10 _) => hI
  rename (List.take 10 _).length = _ => hC
  rename Top topProg _ _ _ _ _ => T'
  rename (kfrag.heap_1 _).In (ghostOf _ _) => X'
  have hn10 : (List.take 10 _).length ≤ 10 := hC ▸ Nat.min_le_left _ _
  refine ⟨X'.keeps F.keep, ?_⟩
  refine wpAny_call (text2 ⟨X', T'⟩ F.keep (by decide) (by decide) ⟨_, (N _ (.head _)).1, rfl, _, rfl⟩ hI hn10 fun h1 tk1 tr1 x hx st1 => ?_)
  have F1 := frKeep F st1
  have N1 := newsKeep N st1
  clear F N
  (try dsimp only)
  iterate 28 (first | (k_unfold; (try dsimp only)) | walk1)
  rename Fr _ _ _ _ => F2
  rename News _ _ _ _ => N2
  rename Shared.gens _ = #[] => hgens
  have n90 := N2 _ (.tail _ (.tail _ (.head _)))
  have n64 := N2 _ (.tail _ (.tail _ (.tail _ (.head _))))
  have hne : (64 : Addr) ≠ 90 := by decide
  refine ⟨X'.keeps F2.keep, ?_⟩
  refine wpAny_call (items2 ⟨X', T'⟩ F2.keep n64.1 n64.2.2 hgens (by decide) (by decide) fun l h2 g2 d2 tk2 ps2 rs e2 h642 hit hok hg2 => ?_)
  have F3 := frKeepBut (wr := [64]) F2 (fun q => n64.2.1 (List.mem_singleton.mp q).symm) (fun b hb => by rw [List.mem_singleton.mp hb]; exact n64.2.2) (fun b o hb e => e2 b o (by simpa using hb) e)
  clear F2 N2
  (try dsimp only)
  refine wpAny_storeName_local rfl F3.ns (fun h3 hn3 hs3 => ?_) rfl
  have F4 := F3.set hn3 hs3
  have hit3 := itemsBut hit F3 hs3
  have n390 : Tab90 h3 := .inl (hs3.extBut _ _ n90.2.1 (e2 _ _ (by decide) n90.1))
  have n364 : h3.get? 64 = some (tabObj ps2) := hs3.extBut _ _ n64.2.1 h642
  clear F3 hit
  iterate 12 (first | (k_unfold; (try dsimp only)) | walk1)
  obtain ⟨Ga, sta, na, Ia⟩ := aside ⟨X', T'⟩ F4.keep n90.2.2 n390 hit3
  refine wpAny_call (capital Ga sta n390 na (by decide) (by decide) Ia hx fun h4 tk4 tr4 e4 t4 => ?_)
  have F5 := frKeepBut (wr := [90]) F4 (fun q => n90.2.1 (List.mem_singleton.mp q).symm) (fun b hb => by rw [List.mem_singleton.mp hb]; exact n90.2.2) (fun b o hb e => e4 b o (by simpa using hb) e)
  have hit4 := itemsExt hit3 n390 e4
  have n464 : h4.get? 64 = some (tabObj ps2) := e4 _ _ (by decide) n364
  rw [plain_cap hok x]
  clear F4 hit3 n390 n364 Ga sta na Ia
  (try dsimp only)
  iterate 7 (first | (k_unfold; (try dsimp only)) | walk1)
  refine wpAny_call (due ⟨X', T'⟩ F5.keep (by decide) (by decide) hx fun h5 tk5 tr5 st5 => ?_)
  have F6 := frKeep F5 st5
  have hit5 := hit4.keeps st5
  have n590 := t4.keeps st5
  have n564 : h5.get? 64 = some (tabObj ps2) := st5 _ _ n464
  clear F5 hit4 t4 n464
  generalize Txt.join (Str.ofString "%") (List.take 1 (Txt.split x (Str.ofString "%")) ++ List.map duePiece (List.drop 1 (Txt.split x (Str.ofString "%")))) = y
  (try dsimp only)
  iterate 1 (first | (k_unfold; (try dsimp only)) | walk1)
  refine wpAny_truthy_bool ?_
  refine iteN (show (y != y) = false from bne_self_eq_false y) ?_
  iterate 15 (first | (k_unfold; (try dsimp only)) | walk1)
  obtain ⟨Ga, sta, na, Ia⟩ := aside ⟨X', T'⟩ F6.keep n90.2.2 n590 hit5
  refine wpAny_call (taken Ga sta n590 na (by decide) (by decide) Ia hx fun h6 tk6 tr6 e6 t6 => ?_)
  have F7 := frKeepBut (wr := [90]) F6 (fun q => n90.2.1 (List.mem_singleton.mp q).symm) (fun b hb => by rw [List.mem_singleton.mp hb]; exact n90.2.2) (fun b o hb e => e6 b o (by simpa using hb) e)
  have n664 : h6.get? 64 = some (tabObj ps2) := e6 _ _ (by decide) n564
  rw [plain_take hok x]
  clear F6 hit5 n590 n564 Ga sta na Ia
  (try dsimp only)
  iterate 7 (first | (k_unfold; (try dsimp only)) | walk1)
  refine wpAny_call (left ⟨X', T'⟩ F7.keep (by decide) (by decide) hx fun h7 tk7 tr7 st7 => ?_)
  have F8 := frKeep F7 st7
  have n790 := t6.keeps st7
  have n764 : h7.get? 64 = some (tabObj ps2) := st7 _ _ n664
  clear F7 t6 n664
  generalize Txt.join (Str.ofString "") ((x.cps.toList.foldl leftStep []).map fun c => ⟨#[c]⟩) = z
  (try dsimp only)
  iterate 1 (first | (k_unfold; (try dsimp only)) | walk1)
  refine ⟨⟨z == z, rfl, ?_⟩, F8.keep, rfl, hg2, tab90_get n790, ⟨ps2, n764⟩, trivial⟩
  rw [beq_self_eq_true]
  first | rfl | wrow_post
end
end Mine
theorem PySem.Challenge.cw_ij0013_01_holds : PySem.Challenge.rw_ij0013_01.Holds := by
  exact Mine.lawX
