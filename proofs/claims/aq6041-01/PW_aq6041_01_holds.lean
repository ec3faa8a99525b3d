import PyProof.Rows.All
import Wide.All
import OpenK.AllK
import Wide.FinOn
import PySem.Challenge.RW_aq6041_01
set_option Elab.async false
set_option linter.unusedVariables false
set_option maxRecDepth 100000
set_option maxHeartbeats 8000000

namespace Mine
open PySem PySem.W PyProof.Rows
open_top hd for PySem.Challenge.rw_aq6041_01
end Mine

namespace Mine
open PySem PySem.W PyProof.Rows PySem.Calls PyProof.V PySem.Spec
abbrev prg : Program := PySem.Challenge.rw_aq6041_01.row.toRowW.prog
abbrev fsc (nms : List (Str × NameKind)) (b1 b2 : Bool) (mo : List (Str × Const)) : Scope := { kind := .function, names := nms, isGenerator := b1, isCoroutine := b2, more := mo }
abbrev tupO (vs : List Value) : Obj := { cls := .type "tuple", data := .seq vs.toArray }
abbrev TopX (mean : ExcName → Option Value) (mg mb : Str → Option Value) (h : Heap) : Prop := Top hd.view_39 (looseW hd.view_39 [(Str.ofString "add_to_line"), (Str.ofString "_wrap_modes")]) mean mg mb h
abbrev Led := List (Addr × Obj)
theorem news_sub {h₀ h : Heap} {L : Addr} {a b : Led} (N : News h₀ L h a) (hs : ∀ p ∈ b, p ∈ a) : News h₀ L h b := fun p hp => N p (hs p hp)

section
variable {prog : Program} {w : World} {A A₀ : Around} {s : Shared} {K : Frag} {L : Addr} {h₀ base : Heap} {m mg mb : Str → Option Value} {expl rest : Led} {p : Program} {loose : List Str} {mean : ExcName → Option Value}
 {env : Env} {outer : List Env} {R : Result → Shared → Prop} {name qual : Str} {params : Arguments} {body : List Stmt} {scope : Scope} {dV kV doc pm cdv ct oc : Value} {an od : Option Addr} {osl : Array (Option Value)} {f : Addr} {args : Args}

/-- the objects that the called def does not get to see stand as they stood -/
theorem m_frame {E : Value → Shared → Prop} {binds : List (Str × Value)} (B : Below A₀ base outer h₀) (F : Fr h₀ L s.heap m) (N : News h₀ L s.heap expl) (Nr : News h₀ L s.heap rest) (ap : ∀ p ∈ rest, p.1 ∉ expl.map (·.1)) (hlim : h₀.NoLimit)
    (hA : A.frames = some (env :: outer)) (hf : env.frame = some L) (hke : env.scope.kind = .function) (hloc : ∀ y ∈ binds, scope.names.lookup y.1 = some .local)
    (h : ∀ g L' h₁, (∀ p ∈ rest, g.get? p.1 = some p.2) → Fr h₀ L g m → Fr g L' h₁ (fun y => binds.reverse.lookup y) → News g L' h₁ expl → Below A base (env :: outer) g → h₀.StaysIn g →
      wpAny (model prog w) (A.deeper (envOf qual scope L' f cdv)) (execs body (envOf qual scope L' f cdv))
        (fun fl s' => LeaveK h₀ L m g (fun r s' => News h₀ L s'.heap rest → R r s') (match fl with | .ret v => v | _ => .none) s') (fun _ _ => False) { s with heap := h₁, toks := s.toks + binds.length })
    (hcell : ∀ x ∈ scope.names, x.2 ≠ .cell) (hk : scope.kind = .function) :
    wpAny (model prog w) A.in1 (newFunctionEnv scope mainGlobals [] binds (qual ++ ".<locals>.") (some f) cdv none builtinsNs) (fun env' s₂ => s₂.heap.NoLimit ∧ codeAny (model prog w) A (.func body env') R s₂) E s := by
  have gr : ∀ q ∈ rest, (hideAll s.heap (expl.map (·.1))).get? q.1 = some q.2 := fun q hq => hideAll_get _ (Nr q hq).1 (ap q hq)
  obtain ⟨FG, BG, st, lv⟩ := groundX (R := fun r s' => News h₀ L s'.heap rest → R r s') B F N hA hf hke
  refine wpAny_newFunctionEnv hcell hloc (fun h₁ hns hsb => ⟨(hlim.keeps F.keep).fresh _ hsb, codeAny_func ?_⟩) hk
  have up : ∀ b o, s.heap.get? b = some o → h₁.get? b = some o := fun b o e => hsb.extBut b o (Nat.ne_of_lt (Heap.lt_size e)) (Heap.get?_push_of_some _ e)
  have N' : News (hideAll s.heap (expl.map (·.1))) s.heap.objs.size h₁ expl := fun q hq => ⟨up _ _ (N q hq).1, Nat.ne_of_lt (Heap.lt_size (N q hq).1), hideAll_none _ (List.mem_map_of_mem hq)⟩
  have F' : Fr (hideAll s.heap (expl.map (·.1))) s.heap.objs.size h₁ (fun y => binds.reverse.lookup y) := ⟨hns, fun b o e => up b o (of_hideAll _ e), Nat.le_of_eq (hideAll_size _ _)⟩
  refine wpAny_mono (h _ _ h₁ gr FG F' N' BG st) (fun fl s' hl => ?_) fun _ _ y => y.elim
  have hr : News h₀ L s'.heap rest := by
    obtain ⟨L₂, m₂, n₂, F₂, _, _⟩ := hl
    exact fun q hq => ⟨F₂.keep _ _ (gr q hq), (Nr q hq).2⟩
  exact lv _ _ hl hr

theorem m_call {binds : List (Str × Value)} (B : Below A₀ base outer h₀) (F : Fr h₀ L s.heap m) (X₀ : K.In h₀) (N : News h₀ L s.heap expl) (Nr : News h₀ L s.heap rest) (ap : ∀ p ∈ rest, p.1 ∉ expl.map (·.1)) (T : Top p loose mean mg mb h₀)
    (hA : A.frames = some (env :: outer)) (hf : env.frame = some L) (hke : env.scope.kind = .function)
    (ho : K.lookup f = some ⟨oc, od, .func (fnOf name qual params body scope dV kV doc pm an cdv ct), osl⟩) (hcd : codeIn K cdv qual = true) (hroom : A.depth < recursionLimit)
    (hbind : BindsTo s (fnOf name qual params body scope dV kV doc pm an cdv ct) args binds) (hloc : ∀ y ∈ binds, scope.names.lookup y.1 = some .local)
    (h : ∀ g L' h₁, (∀ p ∈ rest, g.get? p.1 = some p.2) → Fr h₀ L g m → Fr g L' h₁ (fun y => binds.reverse.lookup y) → News g L' h₁ expl → Below A base (env :: outer) g → K.In g → Top p loose mean mg mb g →
      wpAny (model prog w) (A.deeper (envOf qual scope L' f cdv)) (execs body (envOf qual scope L' f cdv))
        (fun fl s' => LeaveK h₀ L m g (fun r s' => News h₀ L s'.heap rest → R r s') (match fl with | .ret v => v | _ => .none) s') (fun _ _ => False) { s with heap := h₁, toks := s.toks + binds.length })
    (hco : scope.isCoroutine = false) (hgen : scope.isGenerator = false) (hk : scope.kind = .function) (hcell : ∀ x ∈ scope.names, x.2 ≠ .cell) : codeAny (model prog w) A (.call (.ref f) args) R s := by
  refine codeAny_call_function (fd := fnOf name qual params body scope dV kV doc pm an cdv ct) (body := body) hroom ((X₀.keeps F.keep) _ _ ho) rfl hco hgen rfl (codeRec_of (X₀.keeps F.keep) hcd) (hbind _ _ _ _ ?_)
  exact m_frame B F N Nr ap T.nolimit hA hf hke hloc (fun g L' h₁ gr FG F' N' B' st => h g L' h₁ gr FG F' N' B' (X₀.keeps st) (T.keeps st)) hcell hk

/-- a def with **kw: the dict of the keywords is the first of its ledger -/
theorem m_more {nm : Str} {ex front : List (Str × Value)} {g₁ : Addr → Sem (List (Str × Value))}
    (B : Below A₀ base outer h₀) (F : Fr h₀ L s.heap m) (X₀ : K.In h₀) (N : News h₀ L s.heap expl) (Nr : News h₀ L s.heap rest) (ap : ∀ p ∈ rest, p.1 ∉ expl.map (·.1)) (T : Top p loose mean mg mb h₀)
    (hA : A.frames = some (env :: outer)) (hf : env.frame = some L) (hke : env.scope.kind = .function)
    (ho : K.lookup f = some ⟨oc, od, .func (fnOf name qual params body scope dV kV doc pm an cdv ct), osl⟩) (hcd : codeIn K cdv qual = true) (hroom : A.depth < recursionLimit)
    (hn : kwDistinct ex = true)
    (hp : peekA K ⟨prog, w.params⟩ (bindArgs (fnOf name qual params body scope dV kV doc pm an cdv ct) args) = some (dictOf [] 0, g₁))
    (hk₁ : ∀ D, g₁ D = (forIn ex PUnit.unit (fun x _ => (nsSet D x.1 x.2 >>= fun _ => pure (ForInStep.yield PUnit.unit))) >>= fun _ => pure (front ++ [(nm, Value.ref D)])))
    (hloc : ∀ D, ∀ y ∈ front ++ [(nm, Value.ref D)], scope.names.lookup y.1 = some .local)
    (h : ∀ D o g L' h₁ tk, (∀ p ∈ expl, p.1 < D) → (D == sysModules) = false → o.IsDictOf (strKind prog w) ex → (∀ p ∈ rest, g.get? p.1 = some p.2) → Fr h₀ L g m → Fr g L' h₁ (fun y => (front ++ [(nm, Value.ref D)]).reverse.lookup y) → News g L' h₁ ((D, o) :: expl) → Below A base (env :: outer) g → K.In g → Top p loose mean mg mb g →
      wpAny (model prog w) (A.deeper (envOf qual scope L' f cdv)) (execs body (envOf qual scope L' f cdv))
        (fun fl s' => LeaveK h₀ L m g (fun r s' => News h₀ L s'.heap rest → R r s') (match fl with | .ret v => v | _ => .none) s') (fun _ _ => False) { s with heap := h₁, toks := tk })
    (hco : scope.isCoroutine = false) (hgen : scope.isGenerator = false) (hk : scope.kind = .function) (hcell : ∀ x ∈ scope.names, x.2 ≠ .cell) : codeAny (model prog w) A (.call (.ref f) args) R s := by
  have nd := kwDistinct_nodup hn
  refine codeAny_call_function (fd := fnOf name qual params body scope dV kV doc pm an cdv ct) (body := body) hroom ((X₀.keeps F.keep) _ _ ho) rfl hco hgen rfl (codeRec_of (X₀.keeps F.keep) hcd) ?_
  have Na : News h₀ L s.heap (expl ++ rest) := fun q hq => (List.mem_append.mp hq).elim (N q) (Nr q)
  refine wp_of_peekA (o := dictOf [] 0) F Na (X₀.keeps F.keep) rfl _ g₁ hp fun h' F' N' l => ?_
  rw [hk₁]
  refine wpAny_bind (kp_fill ex { s with heap := h' } [] 0 F' N' (fun q hq => Nat.ne_of_lt (l q hq)) (fun _ he => nomatch he) (fun _ he => nomatch he) nd fun h'' F'' N'' => wpAny_pure ?_)
  refine m_frame (s := { s with heap := h'', toks := s.toks + ex.length }) (rest := rest) B F'' (news_sub N'' (b := (s.heap.objs.size, _) :: expl) ?_) (news_sub N'' fun q hq => .tail _ (List.mem_append_right _ hq)) ?_ T.nolimit hA hf hke (hloc _)
    (fun g L' h₁ gr FG F₁ N₁ B' st => h _ _ g L' h₁ _ (fun q hq => l q (List.mem_append_left _ hq)) (F.notModules (modules_low T.nolimit)) (kp_isDict s.toks (0 + ex.length) nd) gr FG F₁ N₁ B' (X₀.keeps st) (T.keeps st)) hcell hk
  · intro q hq
    rcases List.mem_cons.mp hq with rfl | hq
    · exact .head _
    · exact .tail _ (List.mem_append_left _ hq)
  · intro q hq hc
    rcases List.mem_cons.mp hc with e | hc
    · exact Nat.ne_of_lt (l q (List.mem_append_right _ hq)) e
    · exact ap q hq hc
end

section
variable {h₀ h h' : Heap} {L : Addr} {news : Led}
/-- what is left of the ledger beside some addresses -/
def off (as : List Addr) (news : Led) : Led := news.filter fun p => !(as.contains p.1)
theorem off_sub {as : List Addr} : ∀ p ∈ off as news, p ∈ news := fun p hp => (List.mem_filter.mp hp).1
theorem off_news {as : List Addr} (N : News h₀ L h news) : News h₀ L h (off as news) := news_sub N off_sub
theorem off_apart {as : List Addr} : ∀ p ∈ off as news, p.1 ∉ as := fun p hp hm => by
  have := (List.mem_filter.mp hp).2
  rw [List.contains_iff_mem.mpr hm] at this
  exact absurd this (by decide)
theorem off_back {as : List Addr} (N : News h₀ L h news) (Nr : News h₀ L h' (off as news)) (he : ∀ p ∈ news, p.1 ∈ as → h'.get? p.1 = some p.2) : News h₀ L h' news := fun p hp => by
  by_cases q : p.1 ∈ as
  · exact ⟨he p hp q, (N p hp).2⟩
  · exact Nr p (List.mem_filter.mpr ⟨hp, by rw [Bool.not_eq_true', ← Bool.not_eq_true]; intro z; exact q (List.contains_iff_mem.mp z)⟩)
theorem news_cons {h₀ h : Heap} {L : Addr} {nl rest : Led} {t : Addr} {o : Obj} (N : News h₀ L h nl) (hm : (t, o) ∈ nl) (Nr : News h₀ L h rest) : News h₀ L h ((t, o) :: rest) := fun p hp => by
  rcases List.mem_cons.mp hp with rfl | hp
  · exact N _ hm
  · exact Nr p hp
theorem new_off {g h : Heap} {L : Addr} {nl rest : Led} {t : Addr} {o : Obj} (N : News g L h nl) (hm : (t, o) ∈ nl) (gr : ∀ p ∈ rest, g.get? p.1 = some p.2) : ∀ p ∈ rest, p.1 ≠ t := fun p hp e => by
  have h1 := gr p hp
  rw [e, (N _ hm).2.2] at h1
  cases h1
end
section
variable {prog : Program} {w : World} {A : Around} {E : Value → Shared → Prop} {s : Shared} {h₀ : Heap} {L D : Addr} {m : Str → Option Value} {news news' : Led}
theorem m_pop0 {v : Value} {vs : List Value} {n : Nat} {u : Tok} {Q : Value → Shared → Prop} (F : Fr h₀ L s.heap m) (N : News h₀ L s.heap news) (U : Upd D (W.listOf (v :: vs).toArray n) (W.listOf vs.toArray (n + 1)) news news') (hz : vs.length ≤ 1000)
    (h : ∀ h', Fr h₀ L h' m → News h₀ L h' news' → Q v { s with heap := h' }) : wpAny (model prog w) A (call (.builtin "list.pop") [.ref D, .int 0 u]) Q E s :=
  kl_popAt (k := 0) (p := []) (q := vs) F N rfl (by simp [seqIndex?]) rfl U (by rw [sizeLine_eq]; simp; omega) h
end
end Mine

namespace Mine
open PySem PySem.W PyProof.Rows PySem.Calls PyProof.V PySem.Spec
theorem strs_snoc_inv : ∀ {vs : List Value} {xs : List Str} {z : Str}, StrsAre vs (xs ++ [z]) → ∃ us t, vs = us ++ [.str z t] ∧ StrsAre us xs
  | _, [], _, h => by
    obtain ⟨t, r, rfl, h'⟩ := h.cons_inv
    exact ⟨[], t, by rw [h'.nil_inv]; rfl, .nil⟩
  | _, x :: xs, z, h => by
    obtain ⟨t, r, rfl, h'⟩ := StrsAre.cons_inv (xs := xs ++ [z]) h
    obtain ⟨us, u, rfl, h''⟩ := strs_snoc_inv h'
    exact ⟨.str x t :: us, u, rfl, .cons x t h''⟩
theorem strs_snoc {vs : List Value} {xs : List Str} {z : Str} {t : Tok} (h : StrsAre vs xs) : StrsAre (vs ++ [.str z t]) (xs ++ [z]) := h.append' (.cons z t .nil)
section
variable {prog : Program} {w : World} {A : Around} {E : Value → Shared → Prop} {s : Shared} {h₀ : Heap} {L D : Addr} {m : Str → Option Value} {news news' : Led} {n : Nat}

theorem m_splitH {x y u : Str} {us : List Str} {t t' : Tok} {Q : Value → Shared → Prop} (F : Fr h₀ L s.heap m) (N : News h₀ L s.heap news) (hy : (y.length == 0) = false) (hs : Txt.split x y = u :: us) (hsz : x.length ≤ 1000000)
    (h : ∀ D vs tu h' k, StrsAre vs us → vs.length = us.length → Fr h₀ L h' m → News h₀ L h' ((D, W.listOf (Value.str u tu :: vs).toArray 0) :: news) → (∀ p ∈ news, p.1 < D) → Q (.ref D) { s with heap := h', toks := k }) :
    wpAny (model prog w) A (call (.builtin "str.split") [.str x t, .str y t']) Q E s := by
  refine KSpl.split1 F N hy (fun D l h' k e a F' N' l1 => ?_) (by rw [sizeLine_eq]; omega)
  rw [e, hs] at a
  obtain ⟨tu, vs, ev, a'⟩ := a.cons_inv
  rw [ev] at N'
  exact h D vs tu h' k a' a'.len_eq F' N' l1
theorem m_splitT {x y z : Str} {us : List Str} {t t' : Tok} {Q : Value → Shared → Prop} (F : Fr h₀ L s.heap m) (N : News h₀ L s.heap news) (hy : (y.length == 0) = false) (hs : Txt.split x y = us ++ [z]) (hsz : x.length ≤ 1000000)
    (h : ∀ D vs tz h' k, StrsAre vs us → vs.length = us.length → Fr h₀ L h' m → News h₀ L h' ((D, W.listOf (vs ++ [Value.str z tz]).toArray 0) :: news) → (∀ p ∈ news, p.1 < D) → Q (.ref D) { s with heap := h', toks := k }) :
    wpAny (model prog w) A (call (.builtin "str.split") [.str x t, .str y t']) Q E s := by
  refine KSpl.split1 F N hy (fun D l h' k e a F' N' l1 => ?_) (by rw [sizeLine_eq]; omega)
  rw [e, hs] at a
  obtain ⟨vs, tz, ev, a'⟩ := strs_snoc_inv a
  rw [ev] at N'
  exact h D vs tz h' k a' a'.len_eq F' N' l1

theorem m_item {value slice : PySem.Expr} {vs : List Value} {v : Value} {k : Nat} {u : Tok} {Q : Value → Shared → Prop} (N : News h₀ L s.heap news) (hm : (D, W.listOf vs.toArray n) ∈ news) (hv : vs[k]? = some v) (hk : k < 1000) (h : Q v s)
    (hs : subscripted slice false (.ref D) (.int (k : Int) u) = operate [.ref D, .int (k : Int) u] (getItem (.ref D) (.int (k : Int) u)) := by with_unfolding_all rfl) :
    wpAny (model prog w) A (subscriptTail value slice (.ref D) (.int (k : Int) u)) Q E s := by
  have hl : s.heap.IsList D vs.toArray := News.isList N hm
  exact tail_any hl.typeIs slot_list_getitem.lookup (wpAny_getItem_list hl (by omega) (by omega) (by simpa using hv) h) hs
theorem m_last {value slice : PySem.Expr} {vs : List Value} {v : Value} {u : Tok} {Q : Value → Shared → Prop} (N : News h₀ L s.heap news) (hm : (D, W.listOf (vs ++ [v]).toArray n) ∈ news) (h : Q v s)
    (hs : subscripted slice false (.ref D) (.int (-1) u) = operate [.ref D, .int (-1) u] (getItem (.ref D) (.int (-1) u)) := by with_unfolding_all rfl) :
    wpAny (model prog w) A (subscriptTail value slice (.ref D) (.int (-1) u)) Q E s := by
  have hl : s.heap.IsList D (vs ++ [v]).toArray := News.isList N hm
  refine tail_any hl.typeIs slot_list_getitem.lookup (wpAny_getItem_list_neg hl (by omega) (by simp; omega) (by omega) ?_ h) hs
  have e : (-1 + ((vs ++ [v]).toArray.size : Int)).toNat = vs.length := by simp; omega
  rw [e]
  simp
theorem m_setLast {vs : List Value} {v y : Value} {u : Tok} {Q : Unit → Shared → Prop} (F : Fr h₀ L s.heap m) (N : News h₀ L s.heap news) (U : Upd D (W.listOf (vs ++ [y]).toArray n) (W.listOf (vs ++ [v]).toArray n) news news')
    (h : ∀ h', Fr h₀ L h' m → News h₀ L h' news' → Q () { s with heap := h' }) : wpAny (model prog w) A (setItem (.ref D) (.int (-1) u) v) Q E s := by
  refine ki_setNeg (j := vs.length) F N (by omega) (by omega) ?_ ?_ U h
  · rw [PySem.seqIndex_neg (by omega) (by simp; omega)]
    simp
    omega
  · clear h U N F
    show ki_setL (vs ++ [y]) vs.length v = some (vs ++ [v])
    induction vs with
    | nil => rfl
    | cons a r ih => show (match ki_setL (r ++ [y]) r.length v with | some q => some (a :: q) | none => none) = _; rw [ih]; rfl
theorem m_append {vs : List Value} {v : Value} {Q : Value → Shared → Prop} (F : Fr h₀ L s.heap m) (N : News h₀ L s.heap news) (U : Upd D (W.listOf vs.toArray n) (W.listOf (vs ++ [v]).toArray (n + 1)) news news') (hz : vs.length ≤ 1000)
    (h : ∀ h', Fr h₀ L h' m → News h₀ L h' news' → Q .none { s with heap := h' }) : wpAny (model prog w) A (call (.builtin "list.append") [.ref D, v]) Q E s := by
  have e : vs.toArray.push v = (vs ++ [v]).toArray := by simp
  rw [← e] at U
  exact append_K F N U h (by rw [sizeLine_eq, List.size_toArray]; omega)
theorem m_addL {l b : Addr} {vs ws : List Value} {k : Nat} {Q : Value → Shared → Prop} (F : Fr h₀ L s.heap m) (N : News h₀ L s.heap news) (hl : (l, W.listOf vs.toArray n) ∈ news) (hb : (b, W.listOf ws.toArray k) ∈ news) (hz : vs.length + ws.length ≤ 2000)
    (h : ∀ D h', Fr h₀ L h' m → News h₀ L h' ((D, W.listOf (vs ++ ws).toArray 0) :: news) → (∀ p ∈ news, p.1 < D) → Q (.ref D) { s with heap := h' }) : wpAny (model prog w) A (binaryOp .Add (.ref l) (.ref b)) Q E s :=
  add_lists F N (News.isList N hl) (News.isList N hb) (fun h' F' N' => h _ h' F' N' fun p hp => Heap.lt_size (N p hp).1) (by rw [sizeLine_eq]; omega)
theorem m_copy {l : Addr} {vs : List Value} {Q : Value → Shared → Prop} (F : Fr h₀ L s.heap m) (N : News h₀ L s.heap news) (hl : (l, W.listOf vs.toArray n) ∈ news) (hz : vs.length ≤ 2000)
    (h : ∀ D c h', Fr h₀ L h' m → News h₀ L h' ((D, W.listOf vs.toArray c) :: news) → (∀ p ∈ news, p.1 < D) → Q (.ref D) { s with heap := h' }) : wpAny (model prog w) A (call (.type "list") [.ref l]) Q E s :=
  list_copyK F N (News.isList N hl) h (by rw [sizeLine_eq, List.size_toArray]; omega)
theorem m_join {x : Str} {t : Tok} {vs : List Value} {xs : List Str} {Q : Value → Shared → Prop} (N : News h₀ L s.heap news) (hm : (D, W.listOf vs.toArray n) ∈ news) (hi : StrsAre vs xs) (hsep : x.length ≤ 16) (hw : (xs.map (·.length)).sum + xs.length ≤ 1048576)
    (h : ∀ t' k, Q (.str (Txt.join x xs) t') { s with toks := k }) : wpAny (model prog w) A (call (.builtin "str.join") [.str x t, .ref D]) Q E s :=
  join_listW (News.isList N hm) (by simpa using hi) hsep hw h

theorem pick_tail (v : Value) (vs : List Value) : (slicePick (v :: vs).toArray (some 1) none none).toList = vs := by
  rw [kmk_pick_nat (a := 1) (b := vs.length + 1)]
  · simp
  · simp [sliceBounds]
    omega
theorem pick_init (vs : List Value) (v : Value) : (slicePick (vs ++ [v]).toArray none (some (-1)) none).toList = vs := by
  rw [kmk_pick_nat (a := 0) (b := vs.length)]
  · simp
  · simp [sliceBounds]
    omega
theorem pick_60 (vs : List Value) : (slicePick vs.toArray none (some 60) none).toList = vs.take 60 := by
  rw [kmk_pick_nat (a := 0) (b := min 60 vs.length)]
  · simp [kmk_take_min]
  · simp [sliceBounds]
    omega
end

/-- the end of a turn of a for -/
def MPost (h₀ : Heap) (L : Addr) (s₁ : Shared) (I : Addr) (it : Obj) (J : (Str → Option Value) → Led → Prop) (Q : Flow → Shared → Prop) (f : Flow) (s₂ : Shared) : Prop :=
  match f with
  | .ret v => Q (.ret v) s₂
  | .brk => Q .next s₂
  | _ => ∃ h' tk m' news', s₂ = { s₁ with heap := h', toks := tk } ∧ Fr h₀ L h' m' ∧ News h₀ L h' ((I, it) :: news') ∧ (∀ p ∈ news', p.1 ≠ I) ∧ J m' news'
section
variable {prog : Program} {w : World} {A : Around} {E : Value → Shared → Prop} {s : Shared} {env : Env} {h₀ : Heap} {x : Str} {body : List Stmt} {Q : Flow → Shared → Prop} {m₀ : Str → Option Value} {news : Led}
/-- a for over a list of the ledger, by an invariant over the turn's number, the frame's map and the ledger -/
theorem m_iterL {ax : Addr} {lo : Obj} {vs : List Value} {n : Nat} (J : Nat → (Str → Option Value) → Led → Prop)
    (hh : A.handled = none) (F : Fr h₀ env.locals s.heap m₀) (N : News h₀ env.locals s.heap news) (hm : (ax, lo) ∈ news) (hc : lo.cls = .type "list") (hd : lo.data = .seq vs.toArray n) (hj : J 0 m₀ news) (hJm : ∀ i m nw, J i m nw → (ax, lo) ∈ nw)
    (turn : ∀ i v I it m₁ news₁ h tk, vs[i]? = some v → J i m₁ news₁ → it.cls = .type "list_iterator" → (∀ p ∈ news₁, p.1 ≠ I) → Fr h₀ env.locals h (fun y => if y = x then some v else m₁ y) → News h₀ env.locals h ((I, it) :: news₁) →
      wpAny (model prog w) A (execs body env) (MPost h₀ env.locals { s with heap := h, toks := tk } I it (J (i + 1)) Q) E { s with heap := h, toks := tk })
    (done : ∀ m₁ news₁ h tk, J vs.length m₁ news₁ → Fr h₀ env.locals h m₁ → News h₀ env.locals h news₁ → Q .next { s with heap := h, toks := tk }) :
    wpAny (model prog w) A (pyIter (.ref ax)) (fun it s₂ => LoopAtV prog w A h₀ env x body Q E it s₂) E s := by
  have hax := N _ hm
  have hl : s.heap.IsList ax vs.toArray := ⟨lo, hax.1, hc, n, hd⟩
  have hlt : ax < s.heap.objs.size := Heap.lt_size hax.1
  refine wpAny_pyIter_list hl ?_
  have W := Walks.list (prog := prog) (w := w) hh s.heap.objs.size ax (Nat.ne_of_lt hlt) vs.toArray
  rw [show vs.toArray.size = vs.length by simp] at W
  have hnew := next_is_new F
  have bel : ∀ p ∈ news, p.1 ≠ s.heap.objs.size := fun p hp => Nat.ne_of_lt (Heap.lt_size (N p hp).1)
  refine ⟨s.heap.objs.size, _, _, vs.length, _, _, m₀, news, J, rfl, W, ?_, ?_, ?_, ⟨⟨_, Heap.get?_push_size _ rfl, rfl, rfl⟩, hl.at fun o e => Heap.get?_push_of_some _ e⟩, F.push _, (fun p hp => ⟨Heap.get?_push_of_some _ (N p hp).1, (N p hp).2⟩), hj, ?_, ?_⟩
  · intro hmm
    rcases List.mem_cons.mp hmm with e | hmm
    · exact absurd F.ns.lt (e ▸ Nat.lt_irrefl _)
    · exact hax.2.1 (List.mem_singleton.mp hmm).symm
  · intro b hb
    rw [List.mem_singleton.mp hb]
    exact hnew
  · intro p hp hI
    exact bel p hp (List.mem_singleton.mp hI)
  · rintro i v m₁ news₁ s₁ own ⟨h₁, tk₁, rfl⟩ hin hP hJ hoff hown hget hall hst F₁ N₁
    obtain ⟨it, hit, hic, hid⟩ := hst.1
    have hmI := hall s.heap.objs.size (List.mem_cons_self ..) hnew _ hit
    have hmL := hJm _ _ _ hJ
    have off₁ : ∀ p ∈ news₁, p.1 ≠ s.heap.objs.size := fun p hp e => hoff p hp (by rw [e]; exact List.mem_singleton.mpr rfl)
    have N₂ : News h₀ env.locals h₁ ((s.heap.objs.size, it) :: news₁) := fun p hp => by
      rcases List.mem_cons.mp hp with rfl | hp
      · exact N₁ _ (List.mem_append_left _ hmI)
      · exact N₁ _ (List.mem_append_right _ hp)
    refine wpAny_mono (turn i v s.heap.objs.size it m₁ news₁ h₁ tk₁ (by simpa using hP) hJ hic off₁ F₁ N₂) (fun f s₂ p => ?_) fun _ _ e => e
    have fin : (∃ h' tk m' news', s₂ = { s with heap := h', toks := tk } ∧ Fr h₀ env.locals h' m' ∧ News h₀ env.locals h' ((s.heap.objs.size, it) :: news') ∧ (∀ p ∈ news', p.1 ≠ s.heap.objs.size) ∧ J (i + 1) m' news') →
        LoopStepU h₀ env.locals [s.heap.objs.size] own (J (i + 1)) { s with heap := h₁, toks := tk₁ } .next s₂ := by
      rintro ⟨h', tk, m', news', e, F', N', ho, r⟩
      refine ⟨rfl, h', tk, m', news', e, F', fun p hp => ?_, fun p hp hI => ho p hp (List.mem_singleton.mp hI), r⟩
      rcases List.mem_append.mp hp with hp | hp
      · have h2 : h₁.get? p.1 = some p.2 := hget p hp
        rcases List.mem_cons.mp (hown p hp) with h3 | h3
        · rw [h3, hit] at h2
          have h6 : p = (s.heap.objs.size, it) := Prod.ext h3 (Option.some.inj h2).symm
          rw [h6]
          exact N' _ (List.mem_cons_self ..)
        · have h4 : p.1 = ax := List.mem_singleton.mp h3
          rw [h4, (N₂ _ (List.mem_cons_of_mem _ hmL)).1] at h2
          have h6 : p = (ax, lo) := Prod.ext h4 (Option.some.inj h2).symm
          rw [h6]
          exact N' _ (List.mem_cons_of_mem _ (hJm _ _ _ r))
      · exact N' _ (List.mem_cons_of_mem _ hp)
    cases f with
    | ret v => exact .ret p
    | brk => exact .brk p
    | next => exact .next (fin p)
    | cont => exact .cont (fin p)
  · rintro h' tk m' news' F' N' _ hJ
    exact done m' news' h' tk hJ F' N'
/-- the same over a list that stood before the call -/
theorem m_iterB {ax : Addr} {vs : List Value} (J : Nat → (Str → Option Value) → Led → Prop)
    (hh : A.handled = none) (F : Fr h₀ env.locals s.heap m₀) (N : News h₀ env.locals s.heap news) (hl₀ : h₀.IsList ax vs.toArray) (hj : J 0 m₀ news)
    (turn : ∀ i v I it m₁ news₁ h tk, vs[i]? = some v → J i m₁ news₁ → it.cls = .type "list_iterator" → (∀ p ∈ news₁, p.1 ≠ I) → Fr h₀ env.locals h (fun y => if y = x then some v else m₁ y) → News h₀ env.locals h ((I, it) :: news₁) →
      wpAny (model prog w) A (execs body env) (MPost h₀ env.locals { s with heap := h, toks := tk } I it (J (i + 1)) Q) E { s with heap := h, toks := tk })
    (done : ∀ m₁ news₁ h tk, J vs.length m₁ news₁ → Fr h₀ env.locals h m₁ → News h₀ env.locals h news₁ → Q .next { s with heap := h, toks := tk }) :
    wpAny (model prog w) A (pyIter (.ref ax)) (fun it s₂ => LoopAtV prog w A h₀ env x body Q E it s₂) E s := by
  have hl : s.heap.IsList ax vs.toArray := hl₀.at fun o e => F.keep _ _ e
  obtain ⟨lo, hlo, hlc, hln, hld⟩ := id hl₀
  have hlt : ax < h₀.objs.size := Heap.lt_size hlo
  have hlt' : ax < s.heap.objs.size := Heap.lt_size (F.keep _ _ hlo)
  refine wpAny_pyIter_list hl ?_
  have W := Walks.list (prog := prog) (w := w) hh s.heap.objs.size ax (Nat.ne_of_lt hlt') vs.toArray
  rw [show vs.toArray.size = vs.length by simp] at W
  have hnew := next_is_new F
  have bel : ∀ p ∈ news, p.1 ≠ s.heap.objs.size := fun p hp => Nat.ne_of_lt (Heap.lt_size (N p hp).1)
  refine ⟨s.heap.objs.size, _, _, vs.length, _, _, m₀, news, J, rfl, W, ?_, ?_, ?_, ⟨⟨_, Heap.get?_push_size _ rfl, rfl, rfl⟩, hl.at fun o e => Heap.get?_push_of_some _ e⟩, F.push _, (fun p hp => ⟨Heap.get?_push_of_some _ (N p hp).1, (N p hp).2⟩), hj, ?_, ?_⟩
  · intro hmm
    rcases List.mem_cons.mp hmm with e | hmm
    · exact absurd F.ns.lt (e ▸ Nat.lt_irrefl _)
    · exact absurd (Nat.lt_of_lt_of_le hlt F.above) (by rw [List.mem_singleton.mp hmm]; exact Nat.lt_irrefl _)
  · intro b hb
    rw [List.mem_singleton.mp hb]
    exact hnew
  · intro p hp hI
    exact bel p hp (List.mem_singleton.mp hI)
  · rintro i v m₁ news₁ s₁ own ⟨h₁, tk₁, rfl⟩ hin hP hJ hoff hown hget hall hst F₁ N₁
    obtain ⟨it, hit, hic, hid⟩ := hst.1
    have hmI := hall s.heap.objs.size (List.mem_cons_self ..) hnew _ hit
    have off₁ : ∀ p ∈ news₁, p.1 ≠ s.heap.objs.size := fun p hp e => hoff p hp (by rw [e]; exact List.mem_singleton.mpr rfl)
    have N₂ : News h₀ env.locals h₁ ((s.heap.objs.size, it) :: news₁) := fun p hp => by
      rcases List.mem_cons.mp hp with rfl | hp
      · exact N₁ _ (List.mem_append_left _ hmI)
      · exact N₁ _ (List.mem_append_right _ hp)
    refine wpAny_mono (turn i v s.heap.objs.size it m₁ news₁ h₁ tk₁ (by simpa using hP) hJ hic off₁ F₁ N₂) (fun f s₂ p => ?_) fun _ _ e => e
    have fin : (∃ h' tk m' news', s₂ = { s with heap := h', toks := tk } ∧ Fr h₀ env.locals h' m' ∧ News h₀ env.locals h' ((s.heap.objs.size, it) :: news') ∧ (∀ p ∈ news', p.1 ≠ s.heap.objs.size) ∧ J (i + 1) m' news') →
        LoopStepU h₀ env.locals [s.heap.objs.size] own (J (i + 1)) { s with heap := h₁, toks := tk₁ } .next s₂ := by
      rintro ⟨h', tk, m', news', e, F', N', ho, r⟩
      refine ⟨rfl, h', tk, m', news', e, F', fun p hp => ?_, fun p hp hI => ho p hp (List.mem_singleton.mp hI), r⟩
      rcases List.mem_append.mp hp with hp | hp
      · have h2 : h₁.get? p.1 = some p.2 := hget p hp
        have h5 := (N₁ p (List.mem_append_left _ hp)).2.2
        rcases List.mem_cons.mp (hown p hp) with h3 | h3
        · rw [h3, hit] at h2
          have h6 : p = (s.heap.objs.size, it) := Prod.ext h3 (Option.some.inj h2).symm
          rw [h6]
          exact N' _ (List.mem_cons_self ..)
        · have h4 : p.1 = ax := List.mem_singleton.mp h3
          rw [h4, hlo] at h5
          cases h5
      · exact N' _ (List.mem_cons_of_mem _ hp)
    cases f with
    | ret v => exact .ret p
    | brk => exact .brk p
    | next => exact .next (fin p)
    | cont => exact .cont (fin p)
  · rintro h' tk m' news' F' N' _ hJ
    exact done m' news' h' tk hJ F' N'
end
/-- a frame's map whose names ys hold anything -/
def stored : List Str → (Str → Option Value) → (Str → Option Value) → Str → Option Value
  | [], _, m => m
  | y :: ys, u, m => fun z => if z = y then u z else stored ys u m z
theorem stored_of {m' m₀ : Str → Option Value} : ∀ {ys : List Str}, (∀ z, z ∉ ys → m' z = m₀ z) → stored ys m' m₀ = m'
  | [], h => by funext z; exact (h z (by simp)).symm
  | y :: ys, h => by
    funext z
    show (if z = y then m' z else stored ys m' m₀ z) = m' z
    by_cases e : z = y
    · rw [if_pos e]
    · rw [if_neg e]
      have : ∀ z, z ∉ ys → stored [] m' (stored ys m' m₀) z = stored ys m' m₀ z := fun _ _ => rfl
      by_cases hz : z ∈ ys
      · clear this h e
        induction ys with
        | nil => cases hz
        | cons a r ih =>
          show (if z = a then m' z else stored r m' m₀ z) = m' z
          by_cases e : z = a
          · rw [if_pos e]
          · rw [if_neg e]
            rcases List.mem_cons.mp hz with q | q
            · exact absurd q e
            · exact ih q
      · have h1 := h z (by simp [e, hz])
        rw [h1]
        clear this h1 h e
        induction ys with
        | nil => rfl
        | cons a r ih =>
          show (if z = a then m' z else stored r m' m₀ z) = m₀ z
          simp only [List.mem_cons, not_or] at hz
          rw [if_neg hz.1]
          exact ih hz.2
def setL : List (Str × Value) → (Str → Option Value) → Str → Option Value
  | [], m => m
  | q :: r, m => fun z => if z = q.1 then some q.2 else setL r m z
theorem setL_of {m : Str → Option Value} : ∀ {kv : List (Str × Value)}, (∀ q ∈ kv, m q.1 = some q.2) → setL kv m = m
  | [], _ => rfl
  | q :: r, h => by
    funext z
    show (if z = q.1 then some q.2 else setL r m z) = m z
    by_cases e : z = q.1
    · rw [if_pos e, e, h q (.head _)]
    · rw [if_neg e, setL_of fun p hp => h p (.tail _ hp)]
def MPostS {σ : Type} (h₀ : Heap) (L : Addr) (s₁ : Shared) (I : Addr) (it : Obj) (ys : List Str) (m₀ : Str → Option Value) (K : σ → List (Str × Value)) (G : σ → Led) (P : σ → Prop) (Q : Flow → Shared → Prop) (f : Flow) (s₂ : Shared) : Prop :=
  match f with
  | .ret v => Q (.ret v) s₂
  | .brk => Q .next s₂
  | _ => ∃ h' tk m' c', s₂ = { s₁ with heap := h', toks := tk } ∧ Fr h₀ L h' m' ∧ News h₀ L h' ((I, it) :: G c') ∧ (∀ p ∈ G c', p.1 ≠ I) ∧ (∀ z, z ∉ ys → m' z = m₀ z) ∧ (∀ q ∈ K c', m' q.1 = some q.2) ∧ P c'
theorem MPostS.next {σ : Type} {h₀ : Heap} {L : Addr} {s₁ : Shared} {I : Addr} {it : Obj} {ys : List Str} {m₀ : Str → Option Value} {K : σ → List (Str × Value)} {G : σ → Led} {P : σ → Prop} {Q : Flow → Shared → Prop} {h' : Heap} {tk : Nat} {m' : Str → Option Value} {all : Led} (c' : σ)
    (F : Fr h₀ L h' m') (N : News h₀ L h' all) (sub : ∀ p ∈ (I, it) :: G c', p ∈ all) (off : ∀ p ∈ G c', p.1 ≠ I) (st : ∀ z, z ∉ ys → m' z = m₀ z) (kv : ∀ q ∈ K c', m' q.1 = some q.2) (hp : P c') : MPostS h₀ L s₁ I it ys m₀ K G P Q .next { s₁ with heap := h', toks := tk } :=
  ⟨h', tk, m', c', rfl, F, news_sub N sub, off, st, kv, hp⟩
section
variable {prog : Program} {w : World} {A : Around} {E : Value → Shared → Prop} {s : Shared} {env : Env} {h₀ : Heap} {x : Str} {body : List Stmt} {Q : Flow → Shared → Prop} {m₀ : Str → Option Value}
theorem m_iterS {σ : Type} {ax : Addr} {lo : Obj} {vs : List Value} {n : Nat} (ys : List Str) (K : σ → List (Str × Value)) (G : σ → Led) (P : Nat → σ → Prop) (c₀ : σ)
    (hh : A.handled = none) (F : Fr h₀ env.locals s.heap m₀) (N : News h₀ env.locals s.heap (G c₀)) (hm : ∀ c, (ax, lo) ∈ G c) (hc : lo.cls = .type "list") (hd : lo.data = .seq vs.toArray n) (h0 : P 0 c₀) (hK : ∀ q ∈ K c₀, m₀ q.1 = some q.2)
    (turn : ∀ i v I it c u h tk, vs[i]? = some v → P i c → it.cls = .type "list_iterator" → (∀ p ∈ G c, p.1 ≠ I) → Fr h₀ env.locals h (fun y => if y = x then some v else setL (K c) (stored ys u m₀) y) → News h₀ env.locals h ((I, it) :: G c) →
      wpAny (model prog w) A (execs body env) (MPostS h₀ env.locals { s with heap := h, toks := tk } I it ys m₀ K G (P (i + 1)) Q) E { s with heap := h, toks := tk })
    (done : ∀ c u h tk, P vs.length c → Fr h₀ env.locals h (setL (K c) (stored ys u m₀)) → News h₀ env.locals h (G c) → Q .next { s with heap := h, toks := tk }) :
    wpAny (model prog w) A (pyIter (.ref ax)) (fun it s₂ => LoopAtV prog w A h₀ env x body Q E it s₂) E s := by
  refine m_iterL (fun i m nw => ∃ c, m = setL (K c) (stored ys m m₀) ∧ nw = G c ∧ P i c) hh F N (hm c₀) hc hd ⟨c₀, by rw [stored_of fun _ _ => rfl, setL_of hK], rfl, h0⟩ ?_ ?_ ?_
  · rintro i m nw ⟨c, _, rfl, _⟩
    exact hm c
  · rintro i v I it m₁ news₁ h tk hv ⟨c, e, rfl, hp⟩ hic off F₁ N₁
    rw [e] at F₁
    refine wpAny_mono (turn i v I it c m₁ h tk hv hp hic off F₁ N₁) (fun f s₂ q => ?_) fun _ _ e => e
    cases f with
    | ret v => exact q
    | brk => exact q
    | next => obtain ⟨h', tk', m', c', e', F', N', off', st, kv, hp'⟩ := q; exact ⟨h', tk', m', G c', e', F', N', off', c', by rw [stored_of st, setL_of kv], rfl, hp'⟩
    | cont => obtain ⟨h', tk', m', c', e', F', N', off', st, kv, hp'⟩ := q; exact ⟨h', tk', m', G c', e', F', N', off', c', by rw [stored_of st, setL_of kv], rfl, hp'⟩
  · rintro m₁ news₁ h tk ⟨c, e, rfl, hp⟩ F₁ N₁
    rw [e] at F₁
    exact done c m₁ h tk hp F₁ N₁
theorem m_iterSB {σ : Type} {ax : Addr} {vs : List Value} (ys : List Str) (K : σ → List (Str × Value)) (G : σ → Led) (P : Nat → σ → Prop) (c₀ : σ)
    (hh : A.handled = none) (F : Fr h₀ env.locals s.heap m₀) (N : News h₀ env.locals s.heap (G c₀)) (hl₀ : h₀.IsList ax vs.toArray) (h0 : P 0 c₀) (hK : ∀ q ∈ K c₀, m₀ q.1 = some q.2)
    (turn : ∀ i v I it c u h tk, vs[i]? = some v → P i c → it.cls = .type "list_iterator" → (∀ p ∈ G c, p.1 ≠ I) → Fr h₀ env.locals h (fun y => if y = x then some v else setL (K c) (stored ys u m₀) y) → News h₀ env.locals h ((I, it) :: G c) →
      wpAny (model prog w) A (execs body env) (MPostS h₀ env.locals { s with heap := h, toks := tk } I it ys m₀ K G (P (i + 1)) Q) E { s with heap := h, toks := tk })
    (done : ∀ c u h tk, P vs.length c → Fr h₀ env.locals h (setL (K c) (stored ys u m₀)) → News h₀ env.locals h (G c) → Q .next { s with heap := h, toks := tk }) :
    wpAny (model prog w) A (pyIter (.ref ax)) (fun it s₂ => LoopAtV prog w A h₀ env x body Q E it s₂) E s := by
  refine m_iterB (fun i m nw => ∃ c, m = setL (K c) (stored ys m m₀) ∧ nw = G c ∧ P i c) hh F N hl₀ ⟨c₀, by rw [stored_of fun _ _ => rfl, setL_of hK], rfl, h0⟩ ?_ ?_
  · rintro i v I it m₁ news₁ h tk hv ⟨c, e, rfl, hp⟩ hic off F₁ N₁
    rw [e] at F₁
    refine wpAny_mono (turn i v I it c m₁ h tk hv hp hic off F₁ N₁) (fun f s₂ q => ?_) fun _ _ e => e
    cases f with
    | ret v => exact q
    | brk => exact q
    | next => obtain ⟨h', tk', m', c', e', F', N', off', st, kv, hp'⟩ := q; exact ⟨h', tk', m', G c', e', F', N', off', c', by rw [stored_of st, setL_of kv], rfl, hp'⟩
    | cont => obtain ⟨h', tk', m', c', e', F', N', off', st, kv, hp'⟩ := q; exact ⟨h', tk', m', G c', e', F', N', off', c', by rw [stored_of st, setL_of kv], rfl, hp'⟩
  · rintro m₁ news₁ h tk ⟨c, e, rfl, hp⟩ F₁ N₁
    rw [e] at F₁
    exact done c m₁ h tk hp F₁ N₁
end
theorem stored_off {u m : Str → Option Value} {z : Str} : ∀ {ys : List Str}, z ∉ ys → stored ys u m z = m z
  | [], _ => rfl
  | y :: ys, h => by
    simp only [List.mem_cons, not_or] at h
    show (if z = y then u z else stored ys u m z) = m z
    rw [if_neg h.1]
    exact stored_off h.2
theorem fm0 {α : Type} {P : α → Prop} : ∀ p ∈ ([] : List α), P p := fun _ h => nomatch h
theorem fm1 {α : Type} {P : α → Prop} {a : α} {l : List α} (h : P a) (r : ∀ p ∈ l, P p) : ∀ p ∈ a :: l, P p := List.forall_mem_cons.mpr ⟨h, r⟩
theorem fold_step {α β : Type} {f : β → α → β} {b : β} {l : List α} {i : Nat} {x : α} (h : l[i]? = some x) : (l.take (i + 1)).foldl f b = f ((l.take i).foldl f b) x := by
  rw [List.take_add_one, h]
  simp [List.foldl_append]
theorem updF_mem {d : Addr} {o : Obj} {l : Led} {g : Obj → Led} (U : UpdF d o l g) : (d, o) ∈ l ∧ ∀ o' p, p ∈ g o' → p = (d, o') ∨ (p ∈ l ∧ p.1 ≠ d) := by
  obtain ⟨pre, post, rfl, hg, a, b⟩ := U.split
  refine ⟨by simp, fun o' p hp => ?_⟩
  rw [hg] at hp
  rcases List.mem_append.mp hp with hp | hp
  · exact .inr ⟨by simp [hp], a p hp⟩
  · rcases List.mem_cons.mp hp with rfl | hp
    · exact .inl rfl
    · exact .inr ⟨by simp [hp], b p hp⟩
theorem updF2_mem {d l : Addr} {od ol : Obj} {nw : Led} {g1 : Obj → Led} {g2 : Obj → Obj → Led} (U1 : UpdF d od nw g1) (U2 : ∀ o, UpdF l ol (g1 o) (g2 o)) (hne : @Ne Nat d l) :
    (d, od) ∈ nw ∧ (l, ol) ∈ nw ∧ ∀ o o' p, p ∈ g2 o o' → p = (d, o) ∨ p = (l, o') ∨ p ∈ off [d, l] nw := by
  obtain ⟨hd, h1⟩ := updF_mem U1
  refine ⟨hd, ?_, fun o o' p hp => ?_⟩
  · rcases h1 _ _ (updF_mem (U2 od)).1 with e | h
    · exact absurd (congrArg Prod.fst e) (Ne.symm hne)
    · exact h.1
  · rcases (updF_mem (U2 o)).2 o' p hp with e | ⟨h, hl⟩
    · exact .inr (.inl e)
    · rcases h1 _ _ h with e | ⟨h, hd⟩
      · exact .inl e
      · refine .inr (.inr (List.mem_filter.mpr ⟨h, ?_⟩))
        simp [hd, hl]
def DrawO (l : Addr) (o : Obj) : Prop := ∃ n seed ts, o = W.listOf #[.ref l, .int seed ts] n ∧ 0 ≤ seed ∧ seed < 2147483647
def DrawL (o : Obj) : Prop := ∃ n vs ns, o = W.listOf (List.toArray vs) n ∧ IntsAre vs ns ∧ (∀ x ∈ ns, 0 ≤ x) ∧ vs.length ≤ 63
theorem news_two {h₀ h : Heap} {L d l : Addr} {od ol : Obj} {all rest nw : Led} (N : News h₀ L h all) (hd : (d, od) ∈ all) (hl : (l, ol) ∈ all) (Nr : News h₀ L h rest) (hs : ∀ p ∈ nw, p = (d, od) ∨ p = (l, ol) ∨ p ∈ rest) : News h₀ L h nw := fun p hp => by
  rcases hs p hp with rfl | rfl | h
  · exact N _ hd
  · exact N _ hl
  · exact Nr p h
theorem fmod_rng {a n : Int} (hn : 0 < n) : 0 ≤ Int.fmod a n ∧ Int.fmod a n < n := ⟨Int.fmod_nonneg_of_pos a hn, Int.fmod_lt_of_pos a hn⟩
section
variable {prog : Program} {w : World} {A : Around} {h₀ : Heap} {L : Addr} {m : Str → Option Value} {env : Env} {elt : PySem.Expr} {x : Str} {scope : Scope} {cl : List (Str × Addr)} {s : Shared} {S : Led → Prop} {Fin : List Value → Led → Prop} {news : Led}
theorem m_comp {vs : List Value} (R : Value → Value → Prop)
    (turn : ∀ (i : Nat) v I oI C oC D m₂ ys h tk (E' : Value → Shared → Prop), vs[i]? = some v → LCg.NsObj oC m₂ → m₂ x = some v → Fr h₀ L h m → News h₀ L h ((I, oI) :: (C, oC) :: (D, LCg.lst ys) :: news) → LCg.Off3 I C D news → ((@Ne Nat I C) ∧ (@Ne Nat I D) ∧ (@Ne Nat C D)) →
      wpAny (model prog w) A (eval elt (compEnvC scope cl C env)) (LCg.CompEnd h₀ L m { s with heap := h, toks := tk } I oI C oC D (LCg.lst ys) S (fun y news' => news' = news ∧ R v y)) E' { s with heap := h, toks := tk })
    (fin : ∀ (ys : List Value), ys.length = vs.length → (∀ (i : Nat) v y, vs[i]? = some v → ys[i]? = some y → R v y) → Fin ys news) :
    LCg.CompRest prog w A h₀ L m env elt x scope cl s S (fun i v => vs.toArray[i]? = some v) Fin vs.toArray.size 0 [] news := by
  have key : ∀ (j i : Nat) (ys : List Value), i + j = vs.length → ys.length = i → (∀ (i : Nat) v y, vs[i]? = some v → ys[i]? = some y → R v y) → LCg.CompRest prog w A h₀ L m env elt x scope cl s S (fun i v => vs.toArray[i]? = some v) Fin j i ys news := by
    intro j
    induction j with
    | zero => exact fun i ys hi hl hR => LCg.CompRest.zero (fin ys (by omega) hR)
    | succ j ih =>
      intro i ys hi hl hR
      refine LCg.CompRest.succ ?_
      intro v I oI C oC D m₂ h tk E' hv hC hx F N off ne
      have hv' : vs[i]? = some v := by simpa using hv
      refine wpAny_mono (turn i v I oI C oC D m₂ ys h tk E' hv' hC hx F N off ne) (fun y s₂ hq => ?_) fun _ _ e => e
      obtain ⟨h', tk', nw, e, F', N', off', hS, hn, hy⟩ := hq
      subst hn
      refine ⟨h', tk', nw, e, F', N', off', hS, ih (i + 1) _ (by omega) (by simp [hl]) fun k v' y' hk hy' => ?_⟩
      by_cases hki : k < ys.length
      · exact hR k v' y' hk (by rwa [List.getElem?_append_left hki] at hy')
      · rw [List.getElem?_append_right (by omega)] at hy'
        have hk0 : k - ys.length = 0 := by
          have := (List.getElem?_eq_some_iff.mp hy').1
          simp at this
          omega
        rw [hk0] at hy'
        have ek : k = i := by omega
        subst ek
        rw [hv'] at hk
        cases hk
        cases hy'
        exact hy
  exact key _ 0 [] (by simp) rfl (fun _ _ _ _ h => by simp at h)
end
/-- the walk stops here -/
def Halt (P : Prop) : Prop := P
theorem haltI {P : Prop} (h : Halt P) : P := h
theorem haltO {P : Prop} (h : P) : Halt P := h
theorem off_back1 {h₀ h h' : Heap} {L c : Addr} {o : Obj} {news all : Led} (N : News h₀ L h news) (hc : (c, o) ∈ news) (kN : News h₀ L h' all) (hm : (c, o) ∈ all) (Nr : News h₀ L h' (off [c] news)) : News h₀ L h' news := off_back N Nr fun p hp hm' => by
  have e1 : p.1 = c := List.mem_singleton.mp hm'
  have e2 := (N p hp).1
  have e3 := (N _ hc).1
  have e4 := (kN _ hm).1
  rw [e1] at e2 ⊢
  exact e4.trans (e3.symm.trans e2)
section
variable {prog : Program} {w : World} {A : Around} {E : Value → Shared → Prop} {s : Shared} {env : Env} {h₀ : Heap} {x : Str} {body : List Stmt} {Q : Flow → Shared → Prop} {m₀ : Str → Option Value}
/-- a for over a range that begins at nought -/
theorem m_iterR {σ : Type} {r : Addr} {b₀ : Int} {t₀ u₀ v₀ : Tok} {n : Nat} (ys : List Str) (K : σ → List (Str × Value)) (G : σ → Led) (P : Nat → σ → Prop) (c₀ : σ)
    (hh : A.handled = none) (hr : IsRange s.heap r 0 b₀ 1 t₀ u₀ v₀) (hsmall : Builtin.Range.small 0 b₀ 1 = true) (hn : Builtin.Range.rangeSize 0 b₀ 1 = (n : Int)) (F : Fr h₀ env.locals s.heap m₀) (N : News h₀ env.locals s.heap (G c₀)) (h0 : P 0 c₀) (hK : ∀ q ∈ K c₀, m₀ q.1 = some q.2)
    (turn : ∀ i t I it c u h tk, i < n → P i c → it.cls = .type "range_iterator" → (∀ p ∈ G c, p.1 ≠ I) → Fr h₀ env.locals h (fun y => if y = x then some (.int (i : Int) t) else setL (K c) (stored ys u m₀) y) → News h₀ env.locals h ((I, it) :: G c) →
      wpAny (model prog w) A (execs body env) (MPostS h₀ env.locals { s with heap := h, toks := tk } I it ys m₀ K G (P (i + 1)) Q) E { s with heap := h, toks := tk })
    (done : ∀ c u h tk, P n c → Fr h₀ env.locals h (setL (K c) (stored ys u m₀)) → News h₀ env.locals h (G c) → Q .next { s with heap := h, toks := tk }) :
    wpAny (model prog w) A (pyIter (.ref r)) (fun it s₂ => LoopAtV prog w A h₀ env x body Q E it s₂) E s := by
  refine wpAny_pyIter_range hr hsmall ?_
  have W : Walks prog w A s.heap.objs.size [s.heap.objs.size] [s.heap.objs.size] n (fun i v => i < n ∧ ∃ t, v = .int ((0 : Int) + i * 1) t)
      (fun i h => IsRangeIter h s.heap.objs.size ((0 : Int) + (i : Nat) * 1) ((n : Int) - (i : Nat)) 1) := (Walks.range hh _ 0 1 n).bound
  have hnew := next_is_new F
  have bel : ∀ p ∈ G c₀, p.1 ≠ s.heap.objs.size := fun p hp => Nat.ne_of_lt (Heap.lt_size (N p hp).1)
  refine ⟨_, _, _, n, _, _, m₀, G c₀, fun i m nw => ∃ c, m = setL (K c) (stored ys m m₀) ∧ nw = G c ∧ P i c, rfl, W, ?_, ?_, ?_, (by show IsRangeIter _ _ _ _ _; rw [hn]; simpa using Heap.get?_push_size _ rfl), F.push _, (fun p hp => ⟨Heap.get?_push_of_some _ (N p hp).1, (N p hp).2⟩), ⟨c₀, by rw [stored_of fun _ _ => rfl, setL_of hK], rfl, h0⟩, ?_, ?_⟩
  · intro hm
    exact absurd F.ns.lt ((List.mem_singleton.mp hm) ▸ Nat.lt_irrefl _)
  · intro b hb
    rw [List.mem_singleton.mp hb]
    exact hnew
  · intro p hp hI
    exact bel p hp (List.mem_singleton.mp hI)
  · rintro i v m₁ news₁ s₁ own ⟨h₁, tk₁, rfl⟩ hin ⟨_, t, rfl⟩ ⟨c, e, rfl, hp⟩ hoff hown hget hall hst F₁ N₁
    obtain ⟨it, hI9, hit⟩ : ∃ it, it.cls = Value.type "range_iterator" ∧ h₁.get? s.heap.objs.size = some it := by
      have q : IsRangeIter h₁ s.heap.objs.size ((0 : Int) + ((i + 1 : Nat) : Int) * 1) ((n : Int) - ((i + 1 : Nat) : Int)) 1 := hst
      exact ⟨_, rfl, q⟩
    have hmI := hall s.heap.objs.size (List.mem_singleton.mpr rfl) hnew _ hit
    have off₁ : ∀ p ∈ G c, p.1 ≠ s.heap.objs.size := fun p hp e => hoff p hp (by rw [e]; exact List.mem_singleton.mpr rfl)
    rw [show (0 : Int) + (i : Int) * 1 = (i : Int) by omega, e] at F₁
    have N₂ : News h₀ env.locals h₁ ((s.heap.objs.size, it) :: G c) := fun p hp => by
      rcases List.mem_cons.mp hp with rfl | hp
      · exact N₁ _ (List.mem_append_left _ hmI)
      · exact N₁ _ (List.mem_append_right _ hp)
    refine wpAny_mono (turn i t s.heap.objs.size it c m₁ h₁ tk₁ hin hp hI9 off₁ F₁ N₂) (fun f s₂ q => ?_) fun _ _ e => e
    have fin : (∃ h' tk m' c', s₂ = { s with heap := h', toks := tk } ∧ Fr h₀ env.locals h' m' ∧ News h₀ env.locals h' ((s.heap.objs.size, it) :: G c') ∧ (∀ p ∈ G c', p.1 ≠ s.heap.objs.size) ∧ (∀ z, z ∉ ys → m' z = m₀ z) ∧ (∀ q ∈ K c', m' q.1 = some q.2) ∧ P (i + 1) c') →
        LoopStepU h₀ env.locals [s.heap.objs.size] own (fun m nw => ∃ c, m = setL (K c) (stored ys m m₀) ∧ nw = G c ∧ P (i + 1) c) { s with heap := h₁, toks := tk₁ } .next s₂ := by
      rintro ⟨h', tk, m', c', e', F', N', ho, st, kv, hp'⟩
      refine ⟨rfl, h', tk, m', G c', e', F', fun p hp => ?_, fun p hp hI => ho p hp (List.mem_singleton.mp hI), c', by rw [stored_of st, setL_of kv], rfl, hp'⟩
      rcases List.mem_append.mp hp with hp | hp
      · have h3 : p.1 = s.heap.objs.size := List.mem_singleton.mp (hown p hp)
        have h2 : h₁.get? p.1 = some p.2 := hget p hp
        rw [h3, hit] at h2
        have h6 : p = (s.heap.objs.size, it) := Prod.ext h3 (Option.some.inj h2).symm
        rw [h6]
        exact N' _ (List.mem_cons_self ..)
      · exact N' _ (List.mem_cons_of_mem _ hp)
    cases f with
    | ret v => exact .ret q
    | brk => exact .brk q
    | next => exact .next (fin q)
    | cont => exact .cont (fin q)
  · rintro h' tk m' news' F' N' _ ⟨c, e, rfl, hp⟩
    rw [e] at F'
    exact done c m' h' tk hp F' N'
end
end Mine

namespace Mine
open PySem PySem.W PyProof.Rows
theorem fresh_C1 : (hd.heap_39 = hd.heap_39) ∧ PySem.Challenge.rw_aq6041_01 = PySem.Challenge.rw_aq6041_01 := by
  w_top off
  k_with_none
  k_fill
  exact ⟨rfl, rfl⟩
local macro_rules | `(tactic| k_room) => `(tactic| ktr_room)
local macro_rules | `(tactic| units_room) => `(tactic| ((try simp only [units_in1, units_deeper, Around.mark_units, units_caller]); (try dsimp only [ktrTop]); omega))

def cmtVals (t1 t2 : Tok) : Nat → List Value
  | 0 => []
  | 1 => [.str (PySem.Str.ofString "why") t1]
  | 2 => [.str (PySem.Str.ofString "one") t1, .str (PySem.Str.ofString "two") t2]
  | _ => [.str (PySem.Str.ofString "why") t1, .str (PySem.Str.ofString "why") t2]
def CmtObj (k : Nat) (o : Obj) : Prop := ∃ t1 t2 n, o = W.listOf (cmtVals t1 t2 k).toArray n
def cmtText : Nat → Str
  | 0 => PySem.Str.ofString ""
  | 2 => PySem.Str.ofString "one; two"
  | _ => PySem.Str.ofString "why"
def addTo (k : Nat) (rm : Bool) (pfx line : Str) : Str := if (rm || k == 0) = true then line else line ++ pfx ++ PySem.Str.ofString " " ++ cmtText k
section
variable {w : World} {mean : ExcName → Option Value} {mg mb : Str → Option Value} {dp un : Nat} {gd : Option (List Code)} {cn : Str} {nms : List (Str × NameKind)} {b1 b2 : Bool} {mo : List (Str × Const)} {L a : Addr} {ccd : Value} {cl : List (Str × Addr)} {outer : List Env}
   {A₀ : Around} {base h₀ : Heap} {m : Str → Option Value} {news : Led} {s : Shared} {Q E : Value → Shared → Prop}
theorem parse_spec {line : Str} {tk : Tok}
   (B : Below A₀ base outer h₀) (F : Fr h₀ L s.heap m) (X : (hd.heap_39 w.params).In h₀) (N : News h₀ L s.heap news) (T : TopX mean mg mb h₀)
   (hf : Txt.find line (PySem.Str.ofString "#") = -1) (hlen : line.length ≤ 1000000) (hd : dp + 1 < recursionLimit) (hu : un + 8 < cLine)
   (ret : ∀ t h' tk', Fr h₀ L h' m → News h₀ L h' ((t, tupO [.str line tk, .none]) :: news) → (∀ p ∈ news, p.1 ≠ t) → Q (.ref t) {s with heap := h', toks := tk'}) :
   wpAny (model prg w) (ktrTop dp un gd cn (fsc nms b1 b2 mo) L a ccd cl outer) (call (.ref 21) [.str line tk]) Q E s := by
  refine wpAny_call ?_
  k_dflt (refine' m_call (expl := []) (rest := news) B F X (News.nil) (N) (fun _ _ h => nomatch h) T ?kA ?kF ?kK ?k6 ?k7 ?k8 ?k9 ?kB ?_ ?c2 ?c3 ?c4 ?c5; (case kA => exact rfl); (case kF => exact rfl); (case kK => exact rfl); (case k6 => k_is); (case k7 => k_is); (case k8 => ktr_room); (case k9 => first | exact BindsTo.of_eq rfl | exact binds_K (by k_in) rfl (by k_is) rfl rfl rfl); (case c5 => decide); (case kB => exact locs rfl); (case c2 => exact rfl); (case c3 => exact rfl); (case c4 => exact rfl); k_whole)
  intro g L' h₁ gr FG F' N' B' X' T'
  k_fold

  k_steps
  · exact absurd hf (by assumption)
  · rename Fr h₀ L _ _ => kF
    rename News h₀ L _ (_ :: _) => kN
    rename_i kR
    rename News g L' _ _ => N9
    exact ret _ _ _ kF (news_cons kN (by k_mem) kR) (new_off N9 (by k_mem) gr)
end
local macro_rules | `(tactic| walk_at "call ref") => `(tactic| (k_here; (with_reducible show wpAny _ _ (call (Value.ref 21) [Value.str _ _]) _ _ _); (k_dflt (refine' parse_spec ?k1 ?k2 ?k3 ?k4 ?k5 ?kf ?kl ?kd ?ku ?_; (case k1 => k_asm); (case k2 => k_asm); (case k3 => k_asm); (case k4 => k_asm); (case k5 => k_asm); (case kf => with_reducible assumption); (case kl => omega); (case kd => ktr_room); (case ku => ktr_units); k_whole)); intro t9 h9 tk9 F9 N9 l9; (try k_lt l9); (try dsimp only); (try k_fold)))
section
variable {w : World} {mean : ExcName → Option Value} {mg mb : Str → Option Value} {dp un : Nat} {gd : Option (List Code)} {cn : Str} {nms : List (Str × NameKind)} {b1 b2 : Bool} {mo : List (Str × Const)} {L a : Addr} {ccd : Value} {cl : List (Str × Addr)} {outer : List Env}
   {A₀ : Around} {base h₀ : Heap} {m : Str → Option Value} {news : Led} {s : Shared} {Q E : Value → Shared → Prop}
theorem addto_spec {line pfx : Str} {tk tp : Tok} {c : Addr} {o : Obj} {k : Nat} {rm : Bool}
   (B : Below A₀ base outer h₀) (F : Fr h₀ L s.heap m) (X : (hd.heap_39 w.params).In h₀) (N : News h₀ L s.heap news) (T : TopX mean mg mb h₀)
   (hc : (c, o) ∈ news) (ho : CmtObj k o) (hk : k < 4) (hf : rm = true ∨ k ≠ 0 → Txt.find line (PySem.Str.ofString "#") = -1) (hlen : line.length ≤ 900000) (hp : pfx.length ≤ 10) (hd : dp + 2 < recursionLimit) (hu : un + 116 < cLine)
   (ret : ∀ t h' tk', Fr h₀ L h' m → News h₀ L h' news → Q (.str (addTo k rm pfx line) t) {s with heap := h', toks := tk'}) :
   wpAny (model prg w) (ktrTop dp un gd cn (fsc nms b1 b2 mo) L a ccd cl outer) (call (.ref 29) [.ref c, .str line tk] [(PySem.Str.ofString "removed", .bool rm), (PySem.Str.ofString "comment_prefix", .str pfx tp)]) Q E s := by
  have ret' : ∀ x t h' tk', x = addTo k rm pfx line → Fr h₀ L h' m → News h₀ L h' news → Q (.str x t) {s with heap := h', toks := tk'} := fun x t h' tk' e => by
    subst e
    exact ret t h' tk'
  clear ret
  cases rm with
  | true =>
    have hf9 := hf (.inl rfl)
    refine wpAny_call ?_
    k_dflt (refine' m_call (expl := []) (rest := news) B F X (News.nil) (N) (fun _ _ h => nomatch h) T ?kA ?kF ?kK ?k6 ?k7 ?k8 ?k9 ?kB ?_ ?c2 ?c3 ?c4 ?c5; (case kA => exact rfl); (case kF => exact rfl); (case kK => exact rfl); (case k6 => k_is); (case k7 => k_is); (case k8 => ktr_room); (case k9 => first | exact BindsTo.of_eq rfl | exact binds_K (by k_in) rfl (by k_is) rfl rfl rfl); (case c5 => decide); (case kB => exact locs rfl); (case c2 => exact rfl); (case c3 => exact rfl); (case c4 => exact rfl); k_whole)
    intro g L' h₁ gr FG F' N' B' X' T'
    k_fold
    k_steps
    rename Fr h₀ L _ _ => kF
    rename_i kR
    exact ret' _ _ _ _ rfl kF kR
  | false =>
    obtain ⟨t1, t2, n, rfl⟩ := ho
    rcases k with _ | _ | _ | _ | k
    rotate_left 4
    · omega
    all_goals (try (have hf9 := hf (.inr (by decide))))
    all_goals clear hf
    · refine wpAny_call ?_
      k_dflt (refine' m_call (expl := [(c, W.listOf #[] n)]) (rest := off [c] news) B F X (news_sub N (fm1 hc fm0)) (off_news N) (off_apart) T ?kA ?kF ?kK ?k6 ?k7 ?k8 ?k9 ?kB ?_ ?c2 ?c3 ?c4 ?c5; (case kA => exact rfl); (case kF => exact rfl); (case kK => exact rfl); (case k6 => k_is); (case k7 => k_is); (case k8 => ktr_room); (case k9 => first | exact BindsTo.of_eq rfl | exact binds_K (by k_in) rfl (by k_is) rfl rfl rfl); (case c5 => decide); (case kB => exact locs rfl); (case c2 => exact rfl); (case c3 => exact rfl); (case c4 => exact rfl); k_whole)
      intro g L' h₁ gr FG F' N' B' X' T'
      k_fold
      k_steps
      rename Fr h₀ L _ _ => kF
      rename News h₀ L _ (_ :: _) => kN
      rename_i kR
      exact ret' _ _ _ _ (by simp only [addTo, cmtText, Str.empty_append]; rfl) kF (off_back1 N hc kN (by k_mem) kR)
    · refine wpAny_call ?_
      k_dflt (refine' m_call (expl := [(c, W.listOf #[.str (PySem.Str.ofString "why") t1] n)]) (rest := off [c] news) B F X (news_sub N (fm1 hc fm0)) (off_news N) (off_apart) T ?kA ?kF ?kK ?k6 ?k7 ?k8 ?k9 ?kB ?_ ?c2 ?c3 ?c4 ?c5; (case kA => exact rfl); (case kF => exact rfl); (case kK => exact rfl); (case k6 => k_is); (case k7 => k_is); (case k8 => ktr_room); (case k9 => first | exact BindsTo.of_eq rfl | exact binds_K (by k_in) rfl (by k_is) rfl rfl rfl); (case c5 => decide); (case kB => exact locs rfl); (case c2 => exact rfl); (case c3 => exact rfl); (case c4 => exact rfl); k_whole)
      intro g L' h₁ gr FG F' N' B' X' T'
      k_fold
      k_steps
      rename Fr h₀ L _ _ => kF
      rename News h₀ L _ (_ :: _) => kN
      rename_i kR
      exact ret' _ _ _ _ (by simp only [addTo, cmtText, Str.empty_append]; rfl) kF (off_back1 N hc kN (by k_mem) kR)
    · refine wpAny_call ?_
      k_dflt (refine' m_call (expl := [(c, W.listOf #[.str (PySem.Str.ofString "one") t1, .str (PySem.Str.ofString "two") t2] n)]) (rest := off [c] news) B F X (news_sub N (fm1 hc fm0)) (off_news N) (off_apart) T ?kA ?kF ?kK ?k6 ?k7 ?k8 ?k9 ?kB ?_ ?c2 ?c3 ?c4 ?c5; (case kA => exact rfl); (case kF => exact rfl); (case kK => exact rfl); (case k6 => k_is); (case k7 => k_is); (case k8 => ktr_room); (case k9 => first | exact BindsTo.of_eq rfl | exact binds_K (by k_in) rfl (by k_is) rfl rfl rfl); (case c5 => decide); (case kB => exact locs rfl); (case c2 => exact rfl); (case c3 => exact rfl); (case c4 => exact rfl); k_whole)
      intro g L' h₁ gr FG F' N' B' X' T'
      k_fold
      k_steps
      rename Fr h₀ L _ _ => kF
      rename News h₀ L _ (_ :: _) => kN
      rename_i kR
      exact ret' _ _ _ _ (by simp only [addTo, cmtText, Str.empty_append]; rfl) kF (off_back1 N hc kN (by k_mem) kR)
    · refine wpAny_call ?_
      k_dflt (refine' m_call (expl := [(c, W.listOf #[.str (PySem.Str.ofString "why") t1, .str (PySem.Str.ofString "why") t2] n)]) (rest := off [c] news) B F X (news_sub N (fm1 hc fm0)) (off_news N) (off_apart) T ?kA ?kF ?kK ?k6 ?k7 ?k8 ?k9 ?kB ?_ ?c2 ?c3 ?c4 ?c5; (case kA => exact rfl); (case kF => exact rfl); (case kK => exact rfl); (case k6 => k_is); (case k7 => k_is); (case k8 => ktr_room); (case k9 => first | exact BindsTo.of_eq rfl | exact binds_K (by k_in) rfl (by k_is) rfl rfl rfl); (case c5 => decide); (case kB => exact locs rfl); (case c2 => exact rfl); (case c3 => exact rfl); (case c4 => exact rfl); k_whole)
      intro g L' h₁ gr FG F' N' B' X' T'
      k_fold
      k_steps
      rename Fr h₀ L _ _ => kF
      rename News h₀ L _ (_ :: _) => kN
      rename_i kR
      exact ret' _ _ _ _ (by simp only [addTo, cmtText, Str.empty_append]; rfl) kF (off_back1 N hc kN (by k_mem) kR)
end
end Mine

namespace Mine
open PySem PySem.W PyProof.Rows
theorem fresh_C2 : (hd.heap_39 = hd.heap_39) ∧ PySem.Challenge.rw_aq6041_01 = PySem.Challenge.rw_aq6041_01 := by
  w_top off
  k_with_none
  k_fill
  exact ⟨rfl, rfl⟩
local macro_rules | `(tactic| k_room) => `(tactic| ktr_room)
local macro_rules | `(tactic| units_room) => `(tactic| ((try simp only [units_in1, units_deeper, Around.mark_units, units_caller]); (try dsimp only [ktrTop]); omega))
local macro_rules | `(tactic| walk_at "exec For") => `(tactic| (k_here; (rename Fr _ _ _ _ => lF'); (with_unfolding_all refine' For_invVF lF' ?mzk1 ?mzk2 ?_; (case mzk1 => exact rfl); (case mzk2 => exact rfl); k_whole)))
local macro_rules | `(tactic| walk_at "exec For Name Name cons nil") => `(tactic| (k_here; (rename Fr _ _ _ _ => lF'); (with_unfolding_all refine' For_invVF lF' ?mzk1 ?mzk2 ?_; (case mzk1 => exact rfl); (case mzk2 => exact rfl); k_whole)))
local macro_rules | `(tactic| walk_at "exec For Name Subscript cons nil") => `(tactic| (k_here; (rename Fr _ _ _ _ => lF'); (with_unfolding_all refine' For_invVF lF' ?mzk1 ?mzk2 ?_; (case mzk1 => exact rfl); (case mzk2 => exact rfl); k_whole)))
local macro_rules | `(tactic| walk_at "exec For Name Call cons nil") => `(tactic| (k_here; (rename Fr _ _ _ _ => lF'); (with_unfolding_all refine' For_invVF lF' ?mzk1 ?mzk2 ?_; (case mzk1 => exact rfl); (case mzk2 => exact rfl); k_whole)))
local macro_rules | `(tactic| walk_at "execs nil") => `(tactic| refine wpAny_execs_nil ?_)
local macro_rules | `(tactic| walk_at "pyIter ref") => `(tactic| k_extra "my loop")
local macro_rules | `(tactic| walk_at "exec While") => `(tactic| k_extra "my while")
local macro_rules | `(tactic| walk_at "call builtin:str.split") => `(tactic| (k_here; (with_reducible show wpAny _ _ (call (Value.builtin "str.split") [Value.str _ _, Value.str _ _]) _ _ _); k_dflt (refine' m_splitH ?mzF ?mzN ?mzy ?mzs ?mzz ?_; (case mzF => k_asm); (case mzN => k_asm); (case mzs => with_reducible assumption); (case mzy => decide); (case mzz => omega)); intro D' vs' tu' h' k' hI' hI2' F' N' l1; (try k_lt l1); (try k_sweep)))
local macro_rules | `(tactic| walk_at "call builtin:str.split") => `(tactic| (k_here; (with_reducible show wpAny _ _ (call (Value.builtin "str.split") [Value.str _ _, Value.str _ _]) _ _ _); k_dflt (refine' m_splitT ?mzF ?mzN ?mzy ?mzs ?mzz ?_; (case mzF => k_asm); (case mzN => k_asm); (case mzs => with_reducible assumption); (case mzy => decide); (case mzz => omega)); intro D' vs' tz' h' k' hI' hI2' F' N' l1; (try k_lt l1); (try k_sweep)))
local macro_rules | `(tactic| walk_at "subscriptTail") => `(tactic| (k_here; (with_reducible show wpAny _ _ (subscriptTail _ _ (Value.ref _) (Value.int 0 _)) _ _ _); k_dflt (refine' m_item (k := 0) ?mzN ?mzm ?mzv ?mzk ?_ ?mzs; (case mzN => k_asm); (case mzm => k_mem); (case mzv => rfl); (case mzk => decide); (case mzs => with_unfolding_all rfl))))
local macro_rules | `(tactic| walk_at "subscriptTail Name Constant ref int") => `(tactic| (k_here; (with_reducible show wpAny _ _ (subscriptTail _ _ (Value.ref _) (Value.int 0 _)) _ _ _); k_dflt (refine' m_item (k := 0) ?mzN ?mzm ?mzv ?mzk ?_ ?mzs; (case mzN => k_asm); (case mzm => k_mem); (case mzv => rfl); (case mzk => decide); (case mzs => with_unfolding_all rfl))))
local macro_rules | `(tactic| walk_at "subscriptTail Call Constant ref int") => `(tactic| (k_here; (with_reducible show wpAny _ _ (subscriptTail _ _ (Value.ref _) (Value.int 0 _)) _ _ _); k_dflt (refine' m_item (k := 0) ?mzN ?mzm ?mzv ?mzk ?_ ?mzs; (case mzN => k_asm); (case mzm => k_mem); (case mzv => rfl); (case mzk => decide); (case mzs => with_unfolding_all rfl))))
local macro_rules | `(tactic| walk_at "subscriptTail") => `(tactic| (k_here; (with_reducible show wpAny _ _ (subscriptTail _ _ (Value.ref _) (Value.int (-1) _)) _ _ _); k_dflt (refine' m_last ?mzN ?mzm ?_ ?mzs; (case mzN => k_asm); (case mzm => k_mem); (case mzs => with_unfolding_all rfl))))
local macro_rules | `(tactic| walk_at "subscriptTail Name UnaryOp ref int") => `(tactic| (k_here; (with_reducible show wpAny _ _ (subscriptTail _ _ (Value.ref _) (Value.int (-1) _)) _ _ _); k_dflt (refine' m_last ?mzN ?mzm ?_ ?mzs; (case mzN => k_asm); (case mzm => k_mem); (case mzs => with_unfolding_all rfl))))
local macro_rules | `(tactic| walk_at "subscriptTail Call UnaryOp ref int") => `(tactic| (k_here; (with_reducible show wpAny _ _ (subscriptTail _ _ (Value.ref _) (Value.int (-1) _)) _ _ _); k_dflt (refine' m_last ?mzN ?mzm ?_ ?mzs; (case mzN => k_asm); (case mzm => k_mem); (case mzs => with_unfolding_all rfl))))
local macro_rules | `(tactic| walk_at "subscriptTail") => `(tactic| (k_here; (with_reducible show wpAny _ _ (subscriptTail _ (PySem.Expr.Slice _ _ none _) (Value.ref _) (Value.ref _)) _ _ _); k_dflt (first
  | (refine' kmk_slice_lit ?mzF ?mzN ?mzl ?mzp ?mzq (pick_tail _ _) ?_ ?mzs ?mzt ?mzz; (case mzF => k_asm); (case mzN => k_asm); (case mzl => exact News.isList (by k_asm) (by k_mem)); (case mzp => kmk_part); (case mzq => kmk_part); (case mzs => with_unfolding_all rfl); (case mzt => kmk_pure); (case mzz => (rw [PySem.sizeLine_eq]; (simp only [List.size_toArray, List.length_cons, List.length_append, List.length_nil]); omega)))
  | (refine' kmk_slice_lit ?mzF ?mzN ?mzl ?mzp ?mzq (pick_init _ _) ?_ ?mzs ?mzt ?mzz; (case mzF => k_asm); (case mzN => k_asm); (case mzl => exact News.isList (by k_asm) (by k_mem)); (case mzp => kmk_part); (case mzq => kmk_part); (case mzs => with_unfolding_all rfl); (case mzt => kmk_pure); (case mzz => (rw [PySem.sizeLine_eq]; (simp only [List.size_toArray, List.length_cons, List.length_append, List.length_nil]); omega)))
  | (refine' kmk_slice_lit ?mzF ?mzN ?mzl ?mzp ?mzq (pick_60 _) ?_ ?mzs ?mzt ?mzz; (case mzF => k_asm); (case mzN => k_asm); (case mzl => exact News.isList (by k_asm) (by k_mem)); (case mzp => kmk_part); (case mzq => kmk_part); (case mzs => with_unfolding_all rfl); (case mzt => kmk_pure); (case mzz => (rw [PySem.sizeLine_eq]; (simp only [List.size_toArray, List.length_cons, List.length_append, List.length_nil]); omega)))); intro D' h' F' N' l1; (try k_lt l1); (try k_sweep)))
local macro_rules | `(tactic| walk_at "subscriptTail Name Slice ref ref") => `(tactic| (k_here; (with_reducible show wpAny _ _ (subscriptTail _ (PySem.Expr.Slice _ _ none _) (Value.ref _) (Value.ref _)) _ _ _); k_dflt (first
  | (refine' kmk_slice_lit ?mzF ?mzN ?mzl ?mzp ?mzq (pick_tail _ _) ?_ ?mzs ?mzt ?mzz; (case mzF => k_asm); (case mzN => k_asm); (case mzl => exact News.isList (by k_asm) (by k_mem)); (case mzp => kmk_part); (case mzq => kmk_part); (case mzs => with_unfolding_all rfl); (case mzt => kmk_pure); (case mzz => (rw [PySem.sizeLine_eq]; (simp only [List.size_toArray, List.length_cons, List.length_append, List.length_nil]); omega)))
  | (refine' kmk_slice_lit ?mzF ?mzN ?mzl ?mzp ?mzq (pick_init _ _) ?_ ?mzs ?mzt ?mzz; (case mzF => k_asm); (case mzN => k_asm); (case mzl => exact News.isList (by k_asm) (by k_mem)); (case mzp => kmk_part); (case mzq => kmk_part); (case mzs => with_unfolding_all rfl); (case mzt => kmk_pure); (case mzz => (rw [PySem.sizeLine_eq]; (simp only [List.size_toArray, List.length_cons, List.length_append, List.length_nil]); omega)))
  | (refine' kmk_slice_lit ?mzF ?mzN ?mzl ?mzp ?mzq (pick_60 _) ?_ ?mzs ?mzt ?mzz; (case mzF => k_asm); (case mzN => k_asm); (case mzl => exact News.isList (by k_asm) (by k_mem)); (case mzp => kmk_part); (case mzq => kmk_part); (case mzs => with_unfolding_all rfl); (case mzt => kmk_pure); (case mzz => (rw [PySem.sizeLine_eq]; (simp only [List.size_toArray, List.length_cons, List.length_append, List.length_nil]); omega)))); intro D' h' F' N' l1; (try k_lt l1); (try k_sweep)))
local macro_rules | `(tactic| walk_at "call builtin:list.append") => `(tactic| (k_here; (with_reducible show wpAny _ _ (call (Value.builtin _) [Value.ref _, _]) _ _ _); k_dflt (refine' m_append ?mzF ?mzN ?mzU ?mzz ?_; (case mzF => k_asm); (case mzN => k_asm); (case mzU => k_upd); (case mzz => ((try simp only [List.length_cons, List.length_append, List.length_nil]); omega))); intro h' F' N'; (try k_sweep)))
local macro_rules | `(tactic| walk_at "setItem ref int") => `(tactic| (k_here; (with_reducible show wpAny _ _ (setItem (Value.ref _) (Value.int (-1) _) _) _ _ _); k_dflt (refine' m_setLast ?mzF ?mzN ?mzU ?_; (case mzF => k_asm); (case mzN => k_asm); (case mzU => k_upd)); intro h' F' N'; (try k_sweep)))
local macro_rules | `(tactic| walk_at "call builtin:list.pop") => `(tactic| (k_here; (with_reducible show wpAny _ _ (call (Value.builtin _) [Value.ref _, Value.int 0 _]) _ _ _); k_dflt (refine' m_pop0 ?mzF ?mzN ?mzU ?mzz ?_; (case mzF => k_asm); (case mzN => k_asm); (case mzU => k_upd); (case mzz => omega)); intro h' F' N'; (try dsimp only [List.nil_append, List.cons_append] at N')))
local macro_rules | `(tactic| walk_at "call builtin:str.join") => `(tactic| (k_here; (with_reducible show wpAny _ _ (call (Value.builtin _) [Value.str _ _, Value.ref _]) _ _ _); k_dflt (refine' m_join ?mzN ?mzm ?mzi ?mzz ?mzw ?_; (case mzN => k_asm); (case mzm => k_mem); (case mzi => with_reducible assumption); (case mzz => decide); (case mzw => first | assumption | omega)); intro t' k'))
section
variable {w : World} {mean : ExcName → Option Value} {mg mb : Str → Option Value} {dp un : Nat} {gd : Option (List Code)} {cn : Str} {nms : List (Str × NameKind)} {b1 b2 : Bool} {mo : List (Str × Const)} {L a : Addr} {ccd : Value} {cl : List (Str × Addr)} {outer : List Env}
   {A₀ : Around} {base h₀ : Heap} {m : Str → Option Value} {news : Led} {s : Shared} {Q E : Value → Shared → Prop}
theorem take_spec {d l : Addr} {od ol : Obj} {many : Int} {tm : Tok} {g1 : Obj → Led} {g2 : Obj → Obj → Led}
   (B : Below A₀ base outer h₀) (F : Fr h₀ L s.heap m) (X : (hd.heap_39 w.params).In h₀) (N : News h₀ L s.heap news) (T : TopX mean mg mb h₀)
   (U1 : UpdF d od news g1) (U2 : ∀ o, UpdF l ol (g1 o) (g2 o)) (hne : @Ne Nat d l) (hod : DrawO l od) (hol : DrawL ol) (hm : 0 < many) (hm2 : many < 1000)
   (hd : dp + 1 < recursionLimit) (hu : un + 100 < cLine)
   (ret : ∀ r t od' ol' h' tk', 0 ≤ r → r < many → DrawO l od' → DrawL ol' → Fr h₀ L h' m → News h₀ L h' (g2 od' ol') → Q (.int r t) {s with heap := h', toks := tk'}) :
   wpAny (model prg w) (ktrTop dp un gd cn (fsc nms b1 b2 mo) L a ccd cl outer) (call (.ref 84) [.ref d, .int many tm]) Q E s := by
  obtain ⟨hdm, hlm, hg⟩ := updF2_mem U1 U2 hne
  obtain ⟨n, seed, ts, rfl, hs, hs2⟩ := hod
  obtain ⟨n', vs, ns, rfl, hi, hpos, hlen⟩ := hol
  cases hi with
  | nil =>
    refine wpAny_call ?_
    k_dflt (refine' m_call (expl := [(d, W.listOf #[.ref l, .int seed ts] n), (l, W.listOf [].toArray n')]) (rest := off [d, l] news) B F X (news_sub N (fm1 hdm (fm1 hlm fm0))) (off_news N) (off_apart) T ?kA ?kF ?kK ?k6 ?k7 ?k8 ?k9 ?kB ?_ ?c2 ?c3 ?c4 ?c5; (case kA => exact rfl); (case kF => exact rfl); (case kK => exact rfl); (case k6 => k_is); (case k7 => k_is); (case k8 => ktr_room); (case k9 => first | exact BindsTo.of_eq rfl | exact binds_K (by k_in) rfl (by k_is) rfl rfl rfl); (case c5 => decide); (case kB => exact locs rfl); (case c2 => exact rfl); (case c3 => exact rfl); (case c4 => exact rfl); k_whole)
    intro g L' h₁ gr FG F' N' B' X' T'
    k_fold
    k_steps
    rename Fr h₀ L _ _ => kF
    rename News h₀ L _ (_ :: _) => kN
    rename_i kR
    have r1 := fmod_rng (a := (((seed * 48271).fmod 2147483647).fdiv 7)) hm
    have r2 := fmod_rng (a := seed * 48271) (n := 2147483647) (by decide)
    exact ret _ _ (W.listOf #[.ref l, .int ((seed * 48271).fmod 2147483647) _] n) (W.listOf [].toArray n') _ _ r1.1 r1.2 ⟨_, _, _, rfl, r2.1, r2.2⟩ ⟨_, _, _, rfl, .nil, fm0, hlen⟩ kF (news_two kN (by k_mem) (by k_mem) kR (hg _ _))
  | @cons x tx vs' ns' hi' =>
    refine wpAny_call ?_
    k_dflt (refine' m_call (expl := [(d, W.listOf #[.ref l, .int seed ts] n), (l, W.listOf (.int x tx :: vs').toArray n')]) (rest := off [d, l] news) B F X (news_sub N (fm1 hdm (fm1 hlm fm0))) (off_news N) (off_apart) T ?kA ?kF ?kK ?k6 ?k7 ?k8 ?k9 ?kB ?_ ?c2 ?c3 ?c4 ?c5; (case kA => exact rfl); (case kF => exact rfl); (case kK => exact rfl); (case k6 => k_is); (case k7 => k_is); (case k8 => ktr_room); (case k9 => first | exact BindsTo.of_eq rfl | exact binds_K (by k_in) rfl (by k_is) rfl rfl rfl); (case c5 => decide); (case kB => exact locs rfl); (case c2 => exact rfl); (case c3 => exact rfl); (case c4 => exact rfl); k_whole)
    intro g L' h₁ gr FG F' N' B' X' T'
    k_fold
    rw [List.length_cons] at hlen
    have hI := IntsAre.cons x tx hi'
    k_steps
    · rename (decide (_ :: _ = []) = true) => hq
      exact absurd (of_decide_eq_true hq) (by simp)
    rename Fr h₀ L _ _ => kF
    rename News h₀ L _ (_ :: _) => kN
    rename_i kR
    have r1 := fmod_rng (a := x) hm
    exact ret _ _ (W.listOf #[.ref l, .int seed ts] n) (W.listOf vs'.toArray (n' + 1)) _ _ r1.1 r1.2 ⟨_, _, _, rfl, hs, hs2⟩ ⟨_, _, _, rfl, hi', fun y hy => hpos y (.tail _ hy), by omega⟩ kF (news_two kN (by k_mem) (by k_mem) kR (hg _ _))
end
end Mine

namespace Mine
open PySem PySem.W PyProof.Rows
theorem fresh_C3 : (hd.heap_39 = hd.heap_39) ∧ PySem.Challenge.rw_aq6041_01 = PySem.Challenge.rw_aq6041_01 := by
  w_top off
  k_with_none
  k_fill
  exact ⟨rfl, rfl⟩
local macro_rules | `(tactic| k_room) => `(tactic| ktr_room)
local macro_rules | `(tactic| units_room) => `(tactic| ((try simp only [units_in1, units_deeper, Around.mark_units, units_caller]); (try dsimp only [ktrTop]); omega))
local macro_rules | `(tactic| walk_at "exec For") => `(tactic| (k_here; (rename Fr _ _ _ _ => lF'); (with_unfolding_all refine' For_invVF lF' ?mzk1 ?mzk2 ?_; (case mzk1 => exact rfl); (case mzk2 => exact rfl); k_whole)))
local macro_rules | `(tactic| walk_at "exec For Name Name cons nil") => `(tactic| (k_here; (rename Fr _ _ _ _ => lF'); (with_unfolding_all refine' For_invVF lF' ?mzk1 ?mzk2 ?_; (case mzk1 => exact rfl); (case mzk2 => exact rfl); k_whole)))
local macro_rules | `(tactic| walk_at "exec For Name Subscript cons nil") => `(tactic| (k_here; (rename Fr _ _ _ _ => lF'); (with_unfolding_all refine' For_invVF lF' ?mzk1 ?mzk2 ?_; (case mzk1 => exact rfl); (case mzk2 => exact rfl); k_whole)))
local macro_rules | `(tactic| walk_at "exec For Name Call cons nil") => `(tactic| (k_here; (rename Fr _ _ _ _ => lF'); (with_unfolding_all refine' For_invVF lF' ?mzk1 ?mzk2 ?_; (case mzk1 => exact rfl); (case mzk2 => exact rfl); k_whole)))
local macro_rules | `(tactic| walk_at "execs nil") => `(tactic| refine wpAny_execs_nil ?_)
local macro_rules | `(tactic| walk_at "pyIter ref") => `(tactic| k_extra "my loop")
local macro_rules | `(tactic| walk_at "exec While") => `(tactic| k_extra "my while")
local macro_rules | `(tactic| walk_at "call builtin:str.split") => `(tactic| (k_here; (with_reducible show wpAny _ _ (call (Value.builtin "str.split") [Value.str _ _, Value.str _ _]) _ _ _); k_dflt (refine' m_splitH ?mzF ?mzN ?mzy ?mzs ?mzz ?_; (case mzF => k_asm); (case mzN => k_asm); (case mzs => with_reducible assumption); (case mzy => decide); (case mzz => omega)); intro D' vs' tu' h' k' hI' hI2' F' N' l1; (try k_lt l1); (try k_sweep)))
local macro_rules | `(tactic| walk_at "call builtin:str.split") => `(tactic| (k_here; (with_reducible show wpAny _ _ (call (Value.builtin "str.split") [Value.str _ _, Value.str _ _]) _ _ _); k_dflt (refine' m_splitT ?mzF ?mzN ?mzy ?mzs ?mzz ?_; (case mzF => k_asm); (case mzN => k_asm); (case mzs => with_reducible assumption); (case mzy => decide); (case mzz => omega)); intro D' vs' tz' h' k' hI' hI2' F' N' l1; (try k_lt l1); (try k_sweep)))
local macro_rules | `(tactic| walk_at "subscriptTail") => `(tactic| (k_here; (with_reducible show wpAny _ _ (subscriptTail _ _ (Value.ref _) (Value.int 0 _)) _ _ _); k_dflt (refine' m_item (k := 0) ?mzN ?mzm ?mzv ?mzk ?_ ?mzs; (case mzN => k_asm); (case mzm => k_mem); (case mzv => rfl); (case mzk => decide); (case mzs => with_unfolding_all rfl))))
local macro_rules | `(tactic| walk_at "subscriptTail Name Constant ref int") => `(tactic| (k_here; (with_reducible show wpAny _ _ (subscriptTail _ _ (Value.ref _) (Value.int 0 _)) _ _ _); k_dflt (refine' m_item (k := 0) ?mzN ?mzm ?mzv ?mzk ?_ ?mzs; (case mzN => k_asm); (case mzm => k_mem); (case mzv => rfl); (case mzk => decide); (case mzs => with_unfolding_all rfl))))
local macro_rules | `(tactic| walk_at "subscriptTail Call Constant ref int") => `(tactic| (k_here; (with_reducible show wpAny _ _ (subscriptTail _ _ (Value.ref _) (Value.int 0 _)) _ _ _); k_dflt (refine' m_item (k := 0) ?mzN ?mzm ?mzv ?mzk ?_ ?mzs; (case mzN => k_asm); (case mzm => k_mem); (case mzv => rfl); (case mzk => decide); (case mzs => with_unfolding_all rfl))))
local macro_rules | `(tactic| walk_at "subscriptTail") => `(tactic| (k_here; (with_reducible show wpAny _ _ (subscriptTail _ _ (Value.ref _) (Value.int (-1) _)) _ _ _); k_dflt (refine' m_last ?mzN ?mzm ?_ ?mzs; (case mzN => k_asm); (case mzm => k_mem); (case mzs => with_unfolding_all rfl))))
local macro_rules | `(tactic| walk_at "subscriptTail Name UnaryOp ref int") => `(tactic| (k_here; (with_reducible show wpAny _ _ (subscriptTail _ _ (Value.ref _) (Value.int (-1) _)) _ _ _); k_dflt (refine' m_last ?mzN ?mzm ?_ ?mzs; (case mzN => k_asm); (case mzm => k_mem); (case mzs => with_unfolding_all rfl))))
local macro_rules | `(tactic| walk_at "subscriptTail Call UnaryOp ref int") => `(tactic| (k_here; (with_reducible show wpAny _ _ (subscriptTail _ _ (Value.ref _) (Value.int (-1) _)) _ _ _); k_dflt (refine' m_last ?mzN ?mzm ?_ ?mzs; (case mzN => k_asm); (case mzm => k_mem); (case mzs => with_unfolding_all rfl))))
local macro_rules | `(tactic| walk_at "subscriptTail") => `(tactic| (k_here; (with_reducible show wpAny _ _ (subscriptTail _ (PySem.Expr.Slice _ _ none _) (Value.ref _) (Value.ref _)) _ _ _); k_dflt (first
  | (refine' kmk_slice_lit ?mzF ?mzN ?mzl ?mzp ?mzq (pick_tail _ _) ?_ ?mzs ?mzt ?mzz; (case mzF => k_asm); (case mzN => k_asm); (case mzl => exact News.isList (by k_asm) (by k_mem)); (case mzp => kmk_part); (case mzq => kmk_part); (case mzs => with_unfolding_all rfl); (case mzt => kmk_pure); (case mzz => (rw [PySem.sizeLine_eq]; (simp only [List.size_toArray, List.length_cons, List.length_append, List.length_nil]); omega)))
  | (refine' kmk_slice_lit ?mzF ?mzN ?mzl ?mzp ?mzq (pick_init _ _) ?_ ?mzs ?mzt ?mzz; (case mzF => k_asm); (case mzN => k_asm); (case mzl => exact News.isList (by k_asm) (by k_mem)); (case mzp => kmk_part); (case mzq => kmk_part); (case mzs => with_unfolding_all rfl); (case mzt => kmk_pure); (case mzz => (rw [PySem.sizeLine_eq]; (simp only [List.size_toArray, List.length_cons, List.length_append, List.length_nil]); omega)))
  | (refine' kmk_slice_lit ?mzF ?mzN ?mzl ?mzp ?mzq (pick_60 _) ?_ ?mzs ?mzt ?mzz; (case mzF => k_asm); (case mzN => k_asm); (case mzl => exact News.isList (by k_asm) (by k_mem)); (case mzp => kmk_part); (case mzq => kmk_part); (case mzs => with_unfolding_all rfl); (case mzt => kmk_pure); (case mzz => (rw [PySem.sizeLine_eq]; (simp only [List.size_toArray, List.length_cons, List.length_append, List.length_nil]); omega)))); intro D' h' F' N' l1; (try k_lt l1); (try k_sweep)))
local macro_rules | `(tactic| walk_at "subscriptTail Name Slice ref ref") => `(tactic| (k_here; (with_reducible show wpAny _ _ (subscriptTail _ (PySem.Expr.Slice _ _ none _) (Value.ref _) (Value.ref _)) _ _ _); k_dflt (first
  | (refine' kmk_slice_lit ?mzF ?mzN ?mzl ?mzp ?mzq (pick_tail _ _) ?_ ?mzs ?mzt ?mzz; (case mzF => k_asm); (case mzN => k_asm); (case mzl => exact News.isList (by k_asm) (by k_mem)); (case mzp => kmk_part); (case mzq => kmk_part); (case mzs => with_unfolding_all rfl); (case mzt => kmk_pure); (case mzz => (rw [PySem.sizeLine_eq]; (simp only [List.size_toArray, List.length_cons, List.length_append, List.length_nil]); omega)))
  | (refine' kmk_slice_lit ?mzF ?mzN ?mzl ?mzp ?mzq (pick_init _ _) ?_ ?mzs ?mzt ?mzz; (case mzF => k_asm); (case mzN => k_asm); (case mzl => exact News.isList (by k_asm) (by k_mem)); (case mzp => kmk_part); (case mzq => kmk_part); (case mzs => with_unfolding_all rfl); (case mzt => kmk_pure); (case mzz => (rw [PySem.sizeLine_eq]; (simp only [List.size_toArray, List.length_cons, List.length_append, List.length_nil]); omega)))
  | (refine' kmk_slice_lit ?mzF ?mzN ?mzl ?mzp ?mzq (pick_60 _) ?_ ?mzs ?mzt ?mzz; (case mzF => k_asm); (case mzN => k_asm); (case mzl => exact News.isList (by k_asm) (by k_mem)); (case mzp => kmk_part); (case mzq => kmk_part); (case mzs => with_unfolding_all rfl); (case mzt => kmk_pure); (case mzz => (rw [PySem.sizeLine_eq]; (simp only [List.size_toArray, List.length_cons, List.length_append, List.length_nil]); omega)))); intro D' h' F' N' l1; (try k_lt l1); (try k_sweep)))
local macro_rules | `(tactic| walk_at "call builtin:list.append") => `(tactic| (k_here; (with_reducible show wpAny _ _ (call (Value.builtin _) [Value.ref _, _]) _ _ _); k_dflt (refine' m_append ?mzF ?mzN ?mzU ?mzz ?_; (case mzF => k_asm); (case mzN => k_asm); (case mzU => k_upd); (case mzz => ((try simp only [List.length_cons, List.length_append, List.length_nil]); omega))); intro h' F' N'; (try k_sweep)))
local macro_rules | `(tactic| walk_at "setItem ref int") => `(tactic| (k_here; (with_reducible show wpAny _ _ (setItem (Value.ref _) (Value.int (-1) _) _) _ _ _); k_dflt (refine' m_setLast ?mzF ?mzN ?mzU ?_; (case mzF => k_asm); (case mzN => k_asm); (case mzU => k_upd)); intro h' F' N'; (try k_sweep)))
local macro_rules | `(tactic| walk_at "call builtin:list.pop") => `(tactic| (k_here; (with_reducible show wpAny _ _ (call (Value.builtin _) [Value.ref _, Value.int 0 _]) _ _ _); k_dflt (refine' m_pop0 ?mzF ?mzN ?mzU ?mzz ?_; (case mzF => k_asm); (case mzN => k_asm); (case mzU => k_upd); (case mzz => omega)); intro h' F' N'; (try dsimp only [List.nil_append, List.cons_append] at N')))
local macro_rules | `(tactic| walk_at "call builtin:str.join") => `(tactic| (k_here; (with_reducible show wpAny _ _ (call (Value.builtin _) [Value.str _ _, Value.ref _]) _ _ _); k_dflt (refine' m_join ?mzN ?mzm ?mzi ?mzz ?mzw ?_; (case mzN => k_asm); (case mzm => k_mem); (case mzi => with_reducible assumption); (case mzz => decide); (case mzw => first | assumption | omega)); intro t' k'))
local macro_rules | `(tactic| walk_at "eval ListComp") => `(tactic| (k_here; k_dflt (refine LCg.ListComp_U (F₀ := by k_asm) (by with_unfolding_all rfl) (by decide) (by rfl) (by decide) (by rfl) ?_)))
local macro_rules | `(tactic| walk_at "CompSrc") => `(tactic| k_extra "my comp")
section
variable {w : World} {mean : ExcName → Option Value} {mg mb : Str → Option Value} {dp un : Nat} {gd : Option (List Code)} {cn : Str} {nms : List (Str × NameKind)} {b1 b2 : Bool} {mo : List (Str × Const)} {L a : Addr} {ccd : Value} {cl : List (Str × Addr)} {outer : List Env}
   {A₀ : Around} {base h₀ : Heap} {m : Str → Option Value} {news : Led} {s : Shared} {Q E : Value → Shared → Prop}
theorem draw_spec {c : Addr} {vs : List Value} {ns : List Int}
   (B : Below A₀ base outer h₀) (F : Fr h₀ L s.heap m) (X : (hd.heap_39 w.params).In h₀) (N : News h₀ L s.heap news) (T : TopX mean mg mb h₀)
   (hS : h₀.IsList c vs.toArray) (hi : IntsAre vs ns) (hlen : ns.length ≤ 63)
   (hd : dp + 1 < recursionLimit) (hu : un + 100 < cLine)
   (ret : ∀ d l od ol h' tk', @Ne Nat d l → DrawO l od → DrawL ol → Fr h₀ L h' m → News h₀ L h' ((d, od) :: (l, ol) :: news) → (∀ p ∈ news, p.1 ≠ d) → (∀ p ∈ news, p.1 ≠ l) → Q (.ref d) {s with heap := h', toks := tk'}) :
   wpAny (model prg w) (ktrTop dp un gd cn (fsc nms b1 b2 mo) L a ccd cl outer) (call (.ref 77) [.ref c]) Q E s := by
  refine wpAny_call ?_
  k_dflt (refine' m_call (expl := []) (rest := news) B F X (News.nil) (N) (fun _ _ h => nomatch h) T ?kA ?kF ?kK ?k6 ?k7 ?k8 ?k9 ?kB ?_ ?c2 ?c3 ?c4 ?c5; (case kA => exact rfl); (case kF => exact rfl); (case kK => exact rfl); (case k6 => k_is); (case k7 => k_is); (case k8 => ktr_room); (case k9 => first | exact BindsTo.of_eq rfl | exact binds_K (by k_in) rfl (by k_is) rfl rfl rfl); (case c5 => decide); (case kB => exact locs rfl); (case c2 => exact rfl); (case c3 => exact rfl); (case c4 => exact rfl); k_whole)
  intro g L' h₁ gr FG F' N' B' X' T'
  k_fold

  have hS9 : g.IsList c vs.toArray := hS.at fun o e => FG.keep _ _ e
  have hl9 : vs.length ≤ 63 := by rw [hi.length]; exact hlen
  k_with_none
  k_with "my loop" => refine haltI ?_
  k_with "my comp" => refine haltI ?_
  k_with "my while" => refine haltI ?_
  k_steps
  refine haltO ?_
  rename Fr _ _ _ _ => F9
  rename News _ _ _ _ => N9
  refine m_iterSB (vs := vs) [PySem.Str.ofString "seed", PySem.Str.ofString "cell"] (fun c : Int × Tok => [(PySem.Str.ofString "seed", Value.int c.1 c.2)]) (fun _ => []) (fun i c => 0 ≤ c.1 ∧ c.1 < 2147483647) (7, _) rfl F9 N9 hS9 ⟨show (0 : Int) ≤ 7 by decide, show (7 : Int) < 2147483647 by decide⟩ (fm1 rfl fm0) ?_ ?_
  · rintro i v I it ⟨sd, ts⟩ u9 h tk hv ⟨h0, h1⟩ hic off F1 N1
    obtain ⟨x9, tx, rfl, _⟩ := IntsAre.at hi i v hv
    dsimp only at h0 h1 F1 N1
    clear off N9 F9
    (try k_fold)
    k_steps
    rename Fr g _ _ _ => F7
    rename News g _ _ _ => N7
    refine MPostS.next (_, _) F7 N7 (fun _ h => h) fm0 (fun z hz => ?_) (fm1 rfl fm0) ⟨(fmod_rng (by decide)).1, (fmod_rng (by decide)).2⟩
    simp only [List.mem_cons, List.not_mem_nil, or_false, not_or] at hz
    simp [hz, setL, stored]
  · rintro ⟨sd, ts⟩ u9 h tk ⟨h0, h1⟩ F1 N1
    dsimp only at h0 h1 F1 N1
    clear N9 F9
    k_steps
    refine haltO ?_
    refine LCg.CompSrc.base rfl F1 N1 hS9 (by rw [sizeLine_eq, List.size_toArray]; omega) ?_
    intro g9
    refine m_comp (fun v y => ∃ x t, 0 ≤ x ∧ y = .int x t) ?_ ?_
    · intro i v I oI C oC D m₂ ys h tk E' hv hC hx F2 N2 off ne
      obtain ⟨x9, tx, rfl, _⟩ := IntsAre.at hi i v hv
      simp only [LCg.Off3, and_true] at off
      clear F1 N1
      (try k_fold)
      k_steps
      split <;> omega
    · intro ys hl hR D9 h9 tk9 F9 N9 o9
      replace N9 : News g _ h9 [(D9, W.listOf ys.toArray ys.length)] := N9
      clear F1 N1
      (try k_fold)
      k_steps
      rename Fr h₀ L _ _ => kF
      rename News h₀ L _ (_ :: _) => kN
      rename_i D60 hq1 lq1 R hq2 Fq Nq lq2 Tq kXq kR
      obtain ⟨zs, hz, hz0⟩ : ∃ zs, IntsAre (ys.take 60) zs ∧ ∀ x ∈ zs, 0 ≤ x := by
        have key : ∀ l : List Value, (∀ y ∈ l, ∃ x t, 0 ≤ x ∧ y = Value.int x t) → ∃ zs, IntsAre l zs ∧ ∀ x ∈ zs, 0 ≤ x := by
          intro l
          induction l with
          | nil => exact fun _ => ⟨[], .nil, fm0⟩
          | cons y l ih =>
            intro h
            obtain ⟨x, t, hx, rfl⟩ := h y (.head _)
            obtain ⟨zs, a, b⟩ := ih fun z hz => h z (.tail _ hz)
            exact ⟨x :: zs, .cons x t a, fm1 hx b⟩
        refine key _ fun y hy => ?_
        obtain ⟨i, hi', e⟩ := List.getElem_of_mem (List.mem_of_mem_take hy)
        exact hR i (vs[i]'(by omega)) y (List.getElem?_eq_getElem _) (by rw [← e]; exact List.getElem?_eq_getElem _)
      exact ret R D60 _ _ _ _ (by omega) ⟨_, _, _, rfl, h0, h1⟩ ⟨_, _, _, rfl, hz, hz0, by rw [List.length_take]; omega⟩ kF (news_cons kN (by k_mem) (news_cons kN (by k_mem) kR)) (new_off Nq (by k_mem) gr) (new_off Nq (by k_mem) gr)
end
end Mine

namespace Mine
open PySem PySem.W PyProof.Rows
theorem fresh_C4 : (hd.heap_39 = hd.heap_39) ∧ PySem.Challenge.rw_aq6041_01 = PySem.Challenge.rw_aq6041_01 := by
  w_top off
  k_with_none
  k_fill
  exact ⟨rfl, rfl⟩
local macro_rules | `(tactic| k_room) => `(tactic| ktr_room)
local macro_rules | `(tactic| units_room) => `(tactic| ((try simp only [units_in1, units_deeper, Around.mark_units, units_caller]); (try dsimp only [ktrTop]); omega))
local macro_rules | `(tactic| walk_at "exec For") => `(tactic| (k_here; (rename Fr _ _ _ _ => lF'); (with_unfolding_all refine' For_invVF lF' ?mzk1 ?mzk2 ?_; (case mzk1 => exact rfl); (case mzk2 => exact rfl); k_whole)))
local macro_rules | `(tactic| walk_at "exec For Name Name cons nil") => `(tactic| (k_here; (rename Fr _ _ _ _ => lF'); (with_unfolding_all refine' For_invVF lF' ?mzk1 ?mzk2 ?_; (case mzk1 => exact rfl); (case mzk2 => exact rfl); k_whole)))
local macro_rules | `(tactic| walk_at "exec For Name Subscript cons nil") => `(tactic| (k_here; (rename Fr _ _ _ _ => lF'); (with_unfolding_all refine' For_invVF lF' ?mzk1 ?mzk2 ?_; (case mzk1 => exact rfl); (case mzk2 => exact rfl); k_whole)))
local macro_rules | `(tactic| walk_at "exec For Name Call cons nil") => `(tactic| (k_here; (rename Fr _ _ _ _ => lF'); (with_unfolding_all refine' For_invVF lF' ?mzk1 ?mzk2 ?_; (case mzk1 => exact rfl); (case mzk2 => exact rfl); k_whole)))
local macro_rules | `(tactic| walk_at "execs nil") => `(tactic| refine wpAny_execs_nil ?_)
local macro_rules | `(tactic| walk_at "pyIter ref") => `(tactic| k_extra "my loop")
local macro_rules | `(tactic| walk_at "exec While") => `(tactic| k_extra "my while")
local macro_rules | `(tactic| walk_at "call builtin:str.split") => `(tactic| (k_here; (with_reducible show wpAny _ _ (call (Value.builtin "str.split") [Value.str _ _, Value.str _ _]) _ _ _); k_dflt (refine' m_splitH ?mzF ?mzN ?mzy ?mzs ?mzz ?_; (case mzF => k_asm); (case mzN => k_asm); (case mzs => with_reducible assumption); (case mzy => decide); (case mzz => omega)); intro D' vs' tu' h' k' hI' hI2' F' N' l1; (try k_lt l1); (try k_sweep)))
local macro_rules | `(tactic| walk_at "call builtin:str.split") => `(tactic| (k_here; (with_reducible show wpAny _ _ (call (Value.builtin "str.split") [Value.str _ _, Value.str _ _]) _ _ _); k_dflt (refine' m_splitT ?mzF ?mzN ?mzy ?mzs ?mzz ?_; (case mzF => k_asm); (case mzN => k_asm); (case mzs => with_reducible assumption); (case mzy => decide); (case mzz => omega)); intro D' vs' tz' h' k' hI' hI2' F' N' l1; (try k_lt l1); (try k_sweep)))
local macro_rules | `(tactic| walk_at "subscriptTail") => `(tactic| (k_here; (with_reducible show wpAny _ _ (subscriptTail _ _ (Value.ref _) (Value.int 0 _)) _ _ _); k_dflt (refine' m_item (k := 0) ?mzN ?mzm ?mzv ?mzk ?_ ?mzs; (case mzN => k_asm); (case mzm => k_mem); (case mzv => rfl); (case mzk => decide); (case mzs => with_unfolding_all rfl))))
local macro_rules | `(tactic| walk_at "subscriptTail Name Constant ref int") => `(tactic| (k_here; (with_reducible show wpAny _ _ (subscriptTail _ _ (Value.ref _) (Value.int 0 _)) _ _ _); k_dflt (refine' m_item (k := 0) ?mzN ?mzm ?mzv ?mzk ?_ ?mzs; (case mzN => k_asm); (case mzm => k_mem); (case mzv => rfl); (case mzk => decide); (case mzs => with_unfolding_all rfl))))
local macro_rules | `(tactic| walk_at "subscriptTail Call Constant ref int") => `(tactic| (k_here; (with_reducible show wpAny _ _ (subscriptTail _ _ (Value.ref _) (Value.int 0 _)) _ _ _); k_dflt (refine' m_item (k := 0) ?mzN ?mzm ?mzv ?mzk ?_ ?mzs; (case mzN => k_asm); (case mzm => k_mem); (case mzv => rfl); (case mzk => decide); (case mzs => with_unfolding_all rfl))))
local macro_rules | `(tactic| walk_at "subscriptTail") => `(tactic| (k_here; (with_reducible show wpAny _ _ (subscriptTail _ _ (Value.ref _) (Value.int (-1) _)) _ _ _); k_dflt (refine' m_last ?mzN ?mzm ?_ ?mzs; (case mzN => k_asm); (case mzm => k_mem); (case mzs => with_unfolding_all rfl))))
local macro_rules | `(tactic| walk_at "subscriptTail Name UnaryOp ref int") => `(tactic| (k_here; (with_reducible show wpAny _ _ (subscriptTail _ _ (Value.ref _) (Value.int (-1) _)) _ _ _); k_dflt (refine' m_last ?mzN ?mzm ?_ ?mzs; (case mzN => k_asm); (case mzm => k_mem); (case mzs => with_unfolding_all rfl))))
local macro_rules | `(tactic| walk_at "subscriptTail Call UnaryOp ref int") => `(tactic| (k_here; (with_reducible show wpAny _ _ (subscriptTail _ _ (Value.ref _) (Value.int (-1) _)) _ _ _); k_dflt (refine' m_last ?mzN ?mzm ?_ ?mzs; (case mzN => k_asm); (case mzm => k_mem); (case mzs => with_unfolding_all rfl))))
local macro_rules | `(tactic| walk_at "subscriptTail") => `(tactic| (k_here; (with_reducible show wpAny _ _ (subscriptTail _ (PySem.Expr.Slice _ _ none _) (Value.ref _) (Value.ref _)) _ _ _); k_dflt (first
  | (refine' kmk_slice_lit ?mzF ?mzN ?mzl ?mzp ?mzq (pick_tail _ _) ?_ ?mzs ?mzt ?mzz; (case mzF => k_asm); (case mzN => k_asm); (case mzl => exact News.isList (by k_asm) (by k_mem)); (case mzp => kmk_part); (case mzq => kmk_part); (case mzs => with_unfolding_all rfl); (case mzt => kmk_pure); (case mzz => (rw [PySem.sizeLine_eq]; (simp only [List.size_toArray, List.length_cons, List.length_append, List.length_nil]); omega)))
  | (refine' kmk_slice_lit ?mzF ?mzN ?mzl ?mzp ?mzq (pick_init _ _) ?_ ?mzs ?mzt ?mzz; (case mzF => k_asm); (case mzN => k_asm); (case mzl => exact News.isList (by k_asm) (by k_mem)); (case mzp => kmk_part); (case mzq => kmk_part); (case mzs => with_unfolding_all rfl); (case mzt => kmk_pure); (case mzz => (rw [PySem.sizeLine_eq]; (simp only [List.size_toArray, List.length_cons, List.length_append, List.length_nil]); omega)))
  | (refine' kmk_slice_lit ?mzF ?mzN ?mzl ?mzp ?mzq (pick_60 _) ?_ ?mzs ?mzt ?mzz; (case mzF => k_asm); (case mzN => k_asm); (case mzl => exact News.isList (by k_asm) (by k_mem)); (case mzp => kmk_part); (case mzq => kmk_part); (case mzs => with_unfolding_all rfl); (case mzt => kmk_pure); (case mzz => (rw [PySem.sizeLine_eq]; (simp only [List.size_toArray, List.length_cons, List.length_append, List.length_nil]); omega)))); intro D' h' F' N' l1; (try k_lt l1); (try k_sweep)))
local macro_rules | `(tactic| walk_at "subscriptTail Name Slice ref ref") => `(tactic| (k_here; (with_reducible show wpAny _ _ (subscriptTail _ (PySem.Expr.Slice _ _ none _) (Value.ref _) (Value.ref _)) _ _ _); k_dflt (first
  | (refine' kmk_slice_lit ?mzF ?mzN ?mzl ?mzp ?mzq (pick_tail _ _) ?_ ?mzs ?mzt ?mzz; (case mzF => k_asm); (case mzN => k_asm); (case mzl => exact News.isList (by k_asm) (by k_mem)); (case mzp => kmk_part); (case mzq => kmk_part); (case mzs => with_unfolding_all rfl); (case mzt => kmk_pure); (case mzz => (rw [PySem.sizeLine_eq]; (simp only [List.size_toArray, List.length_cons, List.length_append, List.length_nil]); omega)))
  | (refine' kmk_slice_lit ?mzF ?mzN ?mzl ?mzp ?mzq (pick_init _ _) ?_ ?mzs ?mzt ?mzz; (case mzF => k_asm); (case mzN => k_asm); (case mzl => exact News.isList (by k_asm) (by k_mem)); (case mzp => kmk_part); (case mzq => kmk_part); (case mzs => with_unfolding_all rfl); (case mzt => kmk_pure); (case mzz => (rw [PySem.sizeLine_eq]; (simp only [List.size_toArray, List.length_cons, List.length_append, List.length_nil]); omega)))
  | (refine' kmk_slice_lit ?mzF ?mzN ?mzl ?mzp ?mzq (pick_60 _) ?_ ?mzs ?mzt ?mzz; (case mzF => k_asm); (case mzN => k_asm); (case mzl => exact News.isList (by k_asm) (by k_mem)); (case mzp => kmk_part); (case mzq => kmk_part); (case mzs => with_unfolding_all rfl); (case mzt => kmk_pure); (case mzz => (rw [PySem.sizeLine_eq]; (simp only [List.size_toArray, List.length_cons, List.length_append, List.length_nil]); omega)))); intro D' h' F' N' l1; (try k_lt l1); (try k_sweep)))
local macro_rules | `(tactic| walk_at "call builtin:list.append") => `(tactic| (k_here; (with_reducible show wpAny _ _ (call (Value.builtin _) [Value.ref _, _]) _ _ _); k_dflt (refine' m_append ?mzF ?mzN ?mzU ?mzz ?_; (case mzF => k_asm); (case mzN => k_asm); (case mzU => k_upd); (case mzz => ((try simp only [List.length_cons, List.length_append, List.length_nil]); omega))); intro h' F' N'; (try k_sweep)))
local macro_rules | `(tactic| walk_at "setItem ref int") => `(tactic| (k_here; (with_reducible show wpAny _ _ (setItem (Value.ref _) (Value.int (-1) _) _) _ _ _); k_dflt (refine' m_setLast ?mzF ?mzN ?mzU ?_; (case mzF => k_asm); (case mzN => k_asm); (case mzU => k_upd)); intro h' F' N'; (try k_sweep)))
local macro_rules | `(tactic| walk_at "call builtin:list.pop") => `(tactic| (k_here; (with_reducible show wpAny _ _ (call (Value.builtin _) [Value.ref _, Value.int 0 _]) _ _ _); k_dflt (refine' m_pop0 ?mzF ?mzN ?mzU ?mzz ?_; (case mzF => k_asm); (case mzN => k_asm); (case mzU => k_upd); (case mzz => omega)); intro h' F' N'; (try dsimp only [List.nil_append, List.cons_append] at N')))
local macro_rules | `(tactic| walk_at "call builtin:str.join") => `(tactic| (k_here; (with_reducible show wpAny _ _ (call (Value.builtin _) [Value.str _ _, Value.ref _]) _ _ _); k_dflt (refine' m_join ?mzN ?mzm ?mzi ?mzz ?mzw ?_; (case mzN => k_asm); (case mzm => k_mem); (case mzi => with_reducible assumption); (case mzz => decide); (case mzw => first | assumption | omega)); intro t' k'))

def sp : Str := PySem.Str.ofString " "
def pstep (ind : Str) (wide : Int) (r : List Str × Str) (w : Str) : List Str × Str :=
  if wide < ((r.2 ++ PySem.Str.ofString " " ++ w).length : Int) + 1 then (r.1 ++ [r.2], ind ++ w) else (r.1, r.2 ++ PySem.Str.ofString " " ++ w)
def parts (ind : Str) (wide : Int) (u : Str) (us : List Str) : List Str × Str := us.foldl (pstep ind wide) ([], ind ++ u)
section
variable {w : World} {mean : ExcName → Option Value} {mg mb : Str → Option Value} {dp un : Nat} {gd : Option (List Code)} {cn : Str} {nms : List (Str × NameKind)} {b1 b2 : Bool} {mo : List (Str × Const)} {L a : Addr} {ccd : Value} {cl : List (Str × Addr)} {outer : List Env}
   {A₀ : Around} {base h₀ : Heap} {m : Str → Option Value} {news : Led} {s : Shared} {Q E : Value → Shared → Prop}
theorem parts_spec {nm ind u : Str} {us : List Str} {wide : Int} {t1 t2 t3 : Tok}
   (B : Below A₀ base outer h₀) (F : Fr h₀ L s.heap m) (X : (hd.heap_39 w.params).In h₀) (N : News h₀ L s.heap news) (T : TopX mean mg mb h₀)
   (hs : Txt.split nm (PySem.Str.ofString " ") = u :: us) (hul : u.length ≤ 30) (hus : us.length ≤ 30) (husl : ∀ w ∈ us, w.length ≤ 30)
   (hn : nm.length ≤ 100) (hin : ind.length ≤ 10) (hw : 0 ≤ wide) (hw2 : wide ≤ 100)
   (hd : dp + 1 < recursionLimit) (hu : un + 100 < cLine)
   (ret : ∀ R vs t n h' tk', StrsAre vs (parts ind wide u us).1 → vs.length ≤ 30 → (parts ind wide u us).2.length ≤ 1000 → Fr h₀ L h' m → News h₀ L h' ((R, W.listOf (vs ++ [Value.str (parts ind wide u us).2 t]).toArray n) :: news) → (∀ p ∈ news, p.1 ≠ R) → Q (.ref R) {s with heap := h', toks := tk'}) :
   wpAny (model prg w) (ktrTop dp un gd cn (fsc nms b1 b2 mo) L a ccd cl outer) (call (.ref 98) [.str nm t1, .str ind t2, .int wide t3]) Q E s := by
  refine wpAny_call ?_
  k_dflt (refine' m_call (expl := []) (rest := news) B F X (News.nil) (N) (fun _ _ h => nomatch h) T ?kA ?kF ?kK ?k6 ?k7 ?k8 ?k9 ?kB ?_ ?c2 ?c3 ?c4 ?c5; (case kA => exact rfl); (case kF => exact rfl); (case kK => exact rfl); (case k6 => k_is); (case k7 => k_is); (case k8 => ktr_room); (case k9 => first | exact BindsTo.of_eq rfl | exact binds_K (by k_in) rfl (by k_is) rfl rfl rfl); (case c5 => decide); (case kB => exact locs rfl); (case c2 => exact rfl); (case c3 => exact rfl); (case c4 => exact rfl); k_whole)
  intro g L' h₁ gr FG F' N' B' X' T'
  k_fold

  k_steps
  rename_i D vs tu hq1 kq1 hI hI2 lq1 hq2 tkq t0 kq2 aq R hq3 lR hq4 S hq5 F9 N9 lS
  refine m_iterS (vs := vs) (n := 0) [PySem.Str.ofString "word"] (fun _ => []) (fun c : List Value × Str × Tok × Nat => [(S, W.listOf vs.toArray 0), (R, W.listOf (c.1 ++ [Value.str c.2.1 c.2.2.1]).toArray c.2.2.2)])
    (fun i c => ∃ pre, (pre, c.2.1) = (us.take i).foldl (pstep ind wide) ([], ind ++ u) ∧ StrsAre c.1 pre ∧ c.1.length ≤ i ∧ c.2.1.length ≤ 41 + 31 * i) ([], ind ++ u, t0, 0)
    rfl F9 (news_sub N9 (fm1 (.head _) (fm1 (.tail _ (.head _)) fm0))) (fun _ => .head _) rfl rfl ?_ fm0 ?_ ?_
  · exact ⟨[], rfl, .nil, Nat.le_refl _, by dsimp only; omega⟩
  · rintro i v I it ⟨rs, last, tl, k⟩ u9 h tk hv ⟨pre, e, hs9, hl9, hle9⟩ hic off F1 N1
    obtain ⟨w9, tw, rfl, hw9⟩ := hI.item i v hv
    have hi9 : i < us.length := (List.getElem?_eq_some_iff.mp hw9).1
    have hwl := husl w9 (List.mem_of_getElem? hw9)
    have o1 : @Ne Nat S I := off _ (.head _)
    have o2 : @Ne Nat R I := off _ (.tail _ (.head _))
    dsimp only at hs9 hl9 hle9 e N1
    clear off N9 F9
    (try k_fold)
    k_steps
    · rename Fr g _ _ _ => F7
      rename News g _ _ _ => N7
      refine MPostS.next (_, _, _, _) F7 N7 (fun _ h => h) (fm1 o1 (fm1 o2 fm0)) (fun z hz => (if_neg (by simpa using hz)).trans (stored_off hz)) fm0 ⟨pre ++ [last], ?_, strs_snoc hs9, by (simp only [List.length_append, List.length_cons, List.length_nil]; omega), by (dsimp only; omega)⟩
      rw [fold_step hw9, ← e, pstep, if_pos (by simp only [Str.length_append]; omega)]
    · rename Fr g _ _ _ => F7
      rename News g _ _ _ => N7
      refine MPostS.next (_, _, _, _) F7 N7 (fun _ h => h) (fm1 o1 (fm1 o2 fm0)) (fun z hz => (if_neg (by simpa using hz)).trans (stored_off hz)) fm0 ⟨pre, ?_, hs9, by (dsimp only; omega), ?_⟩
      · rw [fold_step hw9, ← e, pstep, if_neg (by simp only [Str.length_append]; omega)]
      · dsimp only
        simp only [Str.length_append, show (PySem.Str.ofString " ").length = 1 from by decide]
        omega
  · rintro ⟨rs, last, tl, k⟩ u9 h tk ⟨pre, e, hs9, hl9, hle9⟩ F1 N1
    dsimp only at hs9 hl9 hle9 e N1
    clear N9 F9
    k_steps
    rename Fr h₀ L _ _ => kF
    rename News h₀ L _ (_ :: _) => kN
    rename_i kR
    rename News g L' _ _ => N9
    rw [hI2, List.take_length] at e
    have e1 : (parts ind wide u us).1 = pre := by rw [parts, ← e]
    have e2 : (parts ind wide u us).2 = last := by rw [parts, ← e]
    refine ret R rs tl k _ _ (by rw [e1]; exact hs9) (by omega) (by rw [e2]; omega) kF ?_ (new_off N9 (by k_mem) gr)
    rw [e2]
    exact news_cons kN (by k_mem) kR
end
end Mine

namespace Mine
open PySem PySem.W PyProof.Rows
theorem fresh_C5 : (hd.heap_39 = hd.heap_39) ∧ PySem.Challenge.rw_aq6041_01 = PySem.Challenge.rw_aq6041_01 := by
  w_top off
  k_with_none
  k_fill
  exact ⟨rfl, rfl⟩
local macro_rules | `(tactic| k_room) => `(tactic| ktr_room)
local macro_rules | `(tactic| units_room) => `(tactic| ((try simp only [units_in1, units_deeper, Around.mark_units, units_caller]); (try dsimp only [ktrTop]); omega))
local macro_rules | `(tactic| walk_at "exec For") => `(tactic| (k_here; (rename Fr _ _ _ _ => lF'); (with_unfolding_all refine' For_invVF lF' ?mzk1 ?mzk2 ?_; (case mzk1 => exact rfl); (case mzk2 => exact rfl); k_whole)))
local macro_rules | `(tactic| walk_at "exec For Name Name cons nil") => `(tactic| (k_here; (rename Fr _ _ _ _ => lF'); (with_unfolding_all refine' For_invVF lF' ?mzk1 ?mzk2 ?_; (case mzk1 => exact rfl); (case mzk2 => exact rfl); k_whole)))
local macro_rules | `(tactic| walk_at "exec For Name Subscript cons nil") => `(tactic| (k_here; (rename Fr _ _ _ _ => lF'); (with_unfolding_all refine' For_invVF lF' ?mzk1 ?mzk2 ?_; (case mzk1 => exact rfl); (case mzk2 => exact rfl); k_whole)))
local macro_rules | `(tactic| walk_at "exec For Name Call cons nil") => `(tactic| (k_here; (rename Fr _ _ _ _ => lF'); (with_unfolding_all refine' For_invVF lF' ?mzk1 ?mzk2 ?_; (case mzk1 => exact rfl); (case mzk2 => exact rfl); k_whole)))
local macro_rules | `(tactic| walk_at "execs nil") => `(tactic| refine wpAny_execs_nil ?_)
local macro_rules | `(tactic| walk_at "pyIter ref") => `(tactic| k_extra "my loop")
local macro_rules | `(tactic| walk_at "exec While") => `(tactic| k_extra "my while")
local macro_rules | `(tactic| walk_at "call builtin:str.split") => `(tactic| (k_here; (with_reducible show wpAny _ _ (call (Value.builtin "str.split") [Value.str _ _, Value.str _ _]) _ _ _); k_dflt (refine' m_splitH ?mzF ?mzN ?mzy ?mzs ?mzz ?_; (case mzF => k_asm); (case mzN => k_asm); (case mzs => with_reducible assumption); (case mzy => decide); (case mzz => omega)); intro D' vs' tu' h' k' hI' hI2' F' N' l1; (try k_lt l1); (try k_sweep)))
local macro_rules | `(tactic| walk_at "call builtin:str.split") => `(tactic| (k_here; (with_reducible show wpAny _ _ (call (Value.builtin "str.split") [Value.str _ _, Value.str _ _]) _ _ _); k_dflt (refine' m_splitT ?mzF ?mzN ?mzy ?mzs ?mzz ?_; (case mzF => k_asm); (case mzN => k_asm); (case mzs => with_reducible assumption); (case mzy => decide); (case mzz => omega)); intro D' vs' tz' h' k' hI' hI2' F' N' l1; (try k_lt l1); (try k_sweep)))
local macro_rules | `(tactic| walk_at "subscriptTail") => `(tactic| (k_here; (with_reducible show wpAny _ _ (subscriptTail _ _ (Value.ref _) (Value.int 0 _)) _ _ _); k_dflt (refine' m_item (k := 0) ?mzN ?mzm ?mzv ?mzk ?_ ?mzs; (case mzN => k_asm); (case mzm => k_mem); (case mzv => rfl); (case mzk => decide); (case mzs => with_unfolding_all rfl))))
local macro_rules | `(tactic| walk_at "subscriptTail Name Constant ref int") => `(tactic| (k_here; (with_reducible show wpAny _ _ (subscriptTail _ _ (Value.ref _) (Value.int 0 _)) _ _ _); k_dflt (refine' m_item (k := 0) ?mzN ?mzm ?mzv ?mzk ?_ ?mzs; (case mzN => k_asm); (case mzm => k_mem); (case mzv => rfl); (case mzk => decide); (case mzs => with_unfolding_all rfl))))
local macro_rules | `(tactic| walk_at "subscriptTail Call Constant ref int") => `(tactic| (k_here; (with_reducible show wpAny _ _ (subscriptTail _ _ (Value.ref _) (Value.int 0 _)) _ _ _); k_dflt (refine' m_item (k := 0) ?mzN ?mzm ?mzv ?mzk ?_ ?mzs; (case mzN => k_asm); (case mzm => k_mem); (case mzv => rfl); (case mzk => decide); (case mzs => with_unfolding_all rfl))))
local macro_rules | `(tactic| walk_at "subscriptTail") => `(tactic| (k_here; (with_reducible show wpAny _ _ (subscriptTail _ _ (Value.ref _) (Value.int (-1) _)) _ _ _); k_dflt (refine' m_last ?mzN ?mzm ?_ ?mzs; (case mzN => k_asm); (case mzm => k_mem); (case mzs => with_unfolding_all rfl))))
local macro_rules | `(tactic| walk_at "subscriptTail Name UnaryOp ref int") => `(tactic| (k_here; (with_reducible show wpAny _ _ (subscriptTail _ _ (Value.ref _) (Value.int (-1) _)) _ _ _); k_dflt (refine' m_last ?mzN ?mzm ?_ ?mzs; (case mzN => k_asm); (case mzm => k_mem); (case mzs => with_unfolding_all rfl))))
local macro_rules | `(tactic| walk_at "subscriptTail Call UnaryOp ref int") => `(tactic| (k_here; (with_reducible show wpAny _ _ (subscriptTail _ _ (Value.ref _) (Value.int (-1) _)) _ _ _); k_dflt (refine' m_last ?mzN ?mzm ?_ ?mzs; (case mzN => k_asm); (case mzm => k_mem); (case mzs => with_unfolding_all rfl))))
local macro_rules | `(tactic| walk_at "subscriptTail") => `(tactic| (k_here; (with_reducible show wpAny _ _ (subscriptTail _ (PySem.Expr.Slice _ _ none _) (Value.ref _) (Value.ref _)) _ _ _); k_dflt (first
  | (refine' kmk_slice_lit ?mzF ?mzN ?mzl ?mzp ?mzq (pick_tail _ _) ?_ ?mzs ?mzt ?mzz; (case mzF => k_asm); (case mzN => k_asm); (case mzl => exact News.isList (by k_asm) (by k_mem)); (case mzp => kmk_part); (case mzq => kmk_part); (case mzs => with_unfolding_all rfl); (case mzt => kmk_pure); (case mzz => (rw [PySem.sizeLine_eq]; (simp only [List.size_toArray, List.length_cons, List.length_append, List.length_nil]); omega)))
  | (refine' kmk_slice_lit ?mzF ?mzN ?mzl ?mzp ?mzq (pick_init _ _) ?_ ?mzs ?mzt ?mzz; (case mzF => k_asm); (case mzN => k_asm); (case mzl => exact News.isList (by k_asm) (by k_mem)); (case mzp => kmk_part); (case mzq => kmk_part); (case mzs => with_unfolding_all rfl); (case mzt => kmk_pure); (case mzz => (rw [PySem.sizeLine_eq]; (simp only [List.size_toArray, List.length_cons, List.length_append, List.length_nil]); omega)))
  | (refine' kmk_slice_lit ?mzF ?mzN ?mzl ?mzp ?mzq (pick_60 _) ?_ ?mzs ?mzt ?mzz; (case mzF => k_asm); (case mzN => k_asm); (case mzl => exact News.isList (by k_asm) (by k_mem)); (case mzp => kmk_part); (case mzq => kmk_part); (case mzs => with_unfolding_all rfl); (case mzt => kmk_pure); (case mzz => (rw [PySem.sizeLine_eq]; (simp only [List.size_toArray, List.length_cons, List.length_append, List.length_nil]); omega)))); intro D' h' F' N' l1; (try k_lt l1); (try k_sweep)))
local macro_rules | `(tactic| walk_at "subscriptTail Name Slice ref ref") => `(tactic| (k_here; (with_reducible show wpAny _ _ (subscriptTail _ (PySem.Expr.Slice _ _ none _) (Value.ref _) (Value.ref _)) _ _ _); k_dflt (first
  | (refine' kmk_slice_lit ?mzF ?mzN ?mzl ?mzp ?mzq (pick_tail _ _) ?_ ?mzs ?mzt ?mzz; (case mzF => k_asm); (case mzN => k_asm); (case mzl => exact News.isList (by k_asm) (by k_mem)); (case mzp => kmk_part); (case mzq => kmk_part); (case mzs => with_unfolding_all rfl); (case mzt => kmk_pure); (case mzz => (rw [PySem.sizeLine_eq]; (simp only [List.size_toArray, List.length_cons, List.length_append, List.length_nil]); omega)))
  | (refine' kmk_slice_lit ?mzF ?mzN ?mzl ?mzp ?mzq (pick_init _ _) ?_ ?mzs ?mzt ?mzz; (case mzF => k_asm); (case mzN => k_asm); (case mzl => exact News.isList (by k_asm) (by k_mem)); (case mzp => kmk_part); (case mzq => kmk_part); (case mzs => with_unfolding_all rfl); (case mzt => kmk_pure); (case mzz => (rw [PySem.sizeLine_eq]; (simp only [List.size_toArray, List.length_cons, List.length_append, List.length_nil]); omega)))
  | (refine' kmk_slice_lit ?mzF ?mzN ?mzl ?mzp ?mzq (pick_60 _) ?_ ?mzs ?mzt ?mzz; (case mzF => k_asm); (case mzN => k_asm); (case mzl => exact News.isList (by k_asm) (by k_mem)); (case mzp => kmk_part); (case mzq => kmk_part); (case mzs => with_unfolding_all rfl); (case mzt => kmk_pure); (case mzz => (rw [PySem.sizeLine_eq]; (simp only [List.size_toArray, List.length_cons, List.length_append, List.length_nil]); omega)))); intro D' h' F' N' l1; (try k_lt l1); (try k_sweep)))
local macro_rules | `(tactic| walk_at "call builtin:list.append") => `(tactic| (k_here; (with_reducible show wpAny _ _ (call (Value.builtin _) [Value.ref _, _]) _ _ _); k_dflt (refine' m_append ?mzF ?mzN ?mzU ?mzz ?_; (case mzF => k_asm); (case mzN => k_asm); (case mzU => k_upd); (case mzz => ((try simp only [List.length_cons, List.length_append, List.length_nil]); omega))); intro h' F' N'; (try k_sweep)))
local macro_rules | `(tactic| walk_at "setItem ref int") => `(tactic| (k_here; (with_reducible show wpAny _ _ (setItem (Value.ref _) (Value.int (-1) _) _) _ _ _); k_dflt (refine' m_setLast ?mzF ?mzN ?mzU ?_; (case mzF => k_asm); (case mzN => k_asm); (case mzU => k_upd)); intro h' F' N'; (try k_sweep)))
local macro_rules | `(tactic| walk_at "call builtin:list.pop") => `(tactic| (k_here; (with_reducible show wpAny _ _ (call (Value.builtin _) [Value.ref _, Value.int 0 _]) _ _ _); k_dflt (refine' m_pop0 ?mzF ?mzN ?mzU ?mzz ?_; (case mzF => k_asm); (case mzN => k_asm); (case mzU => k_upd); (case mzz => omega)); intro h' F' N'; (try dsimp only [List.nil_append, List.cons_append] at N')))
local macro_rules | `(tactic| walk_at "call builtin:str.join") => `(tactic| (k_here; (with_reducible show wpAny _ _ (call (Value.builtin _) [Value.str _ _, Value.ref _]) _ _ _); k_dflt (refine' m_join ?mzN ?mzm ?mzi ?mzz ?mzw ?_; (case mzN => k_asm); (case mzm => k_mem); (case mzi => with_reducible assumption); (case mzz => decide); (case mzw => first | assumption | omega)); intro t' k'))
local macro_rules | `(tactic| walk_at "call ref") => `(tactic| (k_here; (with_reducible show wpAny _ _ (call (Value.ref 84) [Value.ref _, Value.int _ _]) _ _ _); (k_dflt (refine' take_spec ?k1 ?k2 ?k3 ?k4 ?k5 ?mzU1 ?mzU2 ?mzne ?mzod ?mzol ?mzm ?mzm2 ?mzd ?mzu ?_; (case k1 => k_asm); (case k2 => k_asm); (case k3 => k_asm); (case k4 => k_asm); (case k5 => k_asm); (case mzU1 => k_updF); (case mzod => with_reducible assumption); (case mzU2 => (intro _; k_updF)); (case mzne => (refine neN ?_; omega)); (case mzol => with_reducible assumption); (case mzm => decide); (case mzm2 => decide); (case mzd => ktr_room); (case mzu => ktr_units); k_whole)); intro r9 t9 od9 ol9 h9 tk9 hr0 hr1 hod9 hol9 F9 N9; (try dsimp only at N9); (try k_sweep); (try dsimp only); (try k_fold)))

def OkCps (x : Str) : Prop := ∀ c ∈ x.cps.toList, c = 32 ∨ (97 ≤ c ∧ c ≤ 122)
def GoodNm (x : Str) : Prop := OkCps x ∧ x.length ≤ 30
theorem okc_append {x y : Str} (h : OkCps x) (k : OkCps y) : OkCps (x ++ y) := by
  intro c hc
  rw [Str.cps_append, Array.toList_append] at hc
  rcases List.mem_append.mp hc with hc | hc
  · exact h c hc
  · exact k c hc
theorem okc_mul {c : Nat} (n : Int) (h : c = 32 ∨ (97 ≤ c ∧ c ≤ 122)) : OkCps (Txt.mul ⟨#[c]⟩ n) := by
  intro d hd
  rw [mul_one_list] at hd
  rw [(List.mem_replicate.mp hd).2]
  exact h
theorem okc_item (i : Nat) (hi : i < 11) (n : Int) : OkCps (Txt.mul (Txt.item (PySem.Str.ofString "abcdefghijklmnopqrstuvwxyz") (i : Int)) n) := by
  refine okc_mul n ?_
  have key : ∀ i : Fin 11, 97 ≤ (Txt.charAt (PySem.Str.ofString "abcdefghijklmnopqrstuvwxyz") ((i.val : Nat) : Int)).getD 0 ∧ (Txt.charAt (PySem.Str.ofString "abcdefghijklmnopqrstuvwxyz") ((i.val : Nat) : Int)).getD 0 ≤ 122 := by decide +kernel
  exact .inr (key ⟨i, hi⟩)
theorem good_name {i : Nat} (hi : i < 11) {n : Int} (hn : n ≤ 9) {y : Str} (hy : OkCps y) (hl : y.length ≤ 10) : GoodNm (Txt.mul (Txt.item (PySem.Str.ofString "abcdefghijklmnopqrstuvwxyz") (i : Int)) n ++ y) := by
  refine ⟨okc_append (okc_item i hi n) hy, ?_⟩
  have := len_mul_one (y := Txt.item (PySem.Str.ofString "abcdefghijklmnopqrstuvwxyz") (i : Int)) (n := n) (N := 9) rfl hn
  rw [Str.length_append]
  omega
theorem good_alias {n : Int} (hn : n ≤ 6) : OkCps (PySem.Str.ofString " as " ++ Txt.mul (PySem.Str.ofString "q") n) ∧ (PySem.Str.ofString " as " ++ Txt.mul (PySem.Str.ofString "q") n).length ≤ 10 := by
  have e : PySem.Str.ofString "q" = ⟨#[113]⟩ := by decide +kernel
  constructor
  · refine okc_append (by unfold OkCps; decide +kernel) ?_
    rw [e]
    exact okc_mul n (by decide)
  · have := len_mul_one (y := PySem.Str.ofString "q") (n := n) (N := 6) e hn
    rw [Str.length_append, show (PySem.Str.ofString " as ").length = 4 from by decide +kernel]
    omega
theorem good_none : OkCps (PySem.Str.ofString "") ∧ (PySem.Str.ofString "").length ≤ 10 := by
  constructor
  · unfold OkCps; decide +kernel
  · decide +kernel
section
variable {w : World} {mean : ExcName → Option Value} {mg mb : Str → Option Value} {dp un : Nat} {gd : Option (List Code)} {cn : Str} {nms : List (Str × NameKind)} {b1 b2 : Bool} {mo : List (Str × Const)} {L a : Addr} {ccd : Value} {cl : List (Str × Addr)} {outer : List Env}
   {A₀ : Around} {base h₀ : Heap} {m : Str → Option Value} {news : Led} {s : Shared} {Q E : Value → Shared → Prop}
theorem names_spec {d l : Addr} {od ol : Obj} {g1 : Obj → Led} {g2 : Obj → Obj → Led}
   (B : Below A₀ base outer h₀) (F : Fr h₀ L s.heap m) (X : (hd.heap_39 w.params).In h₀) (N : News h₀ L s.heap news) (T : TopX mean mg mb h₀)
   (U1 : UpdF d od news g1) (U2 : ∀ o, UpdF l ol (g1 o) (g2 o)) (hne : @Ne Nat d l) (hod : DrawO l od) (hol : DrawL ol)
   (hd : dp + 2 < recursionLimit) (hu : un + 200 < cLine)
   (ret : ∀ R vs n xs od' ol' h' tk', StrsAre vs xs → xs ≠ [] → xs.length ≤ 11 → (∀ x ∈ xs, GoodNm x) → DrawO l od' → DrawL ol' → Fr h₀ L h' m → News h₀ L h' ((R, W.listOf vs.toArray n) :: g2 od' ol') → (∀ p ∈ news, p.1 ≠ R) → Q (.ref R) {s with heap := h', toks := tk'}) :
   wpAny (model prg w) (ktrTop dp un gd cn (fsc nms b1 b2 mo) L a ccd cl outer) (call (.ref 91) [.ref d]) Q E s := by
  obtain ⟨hdm, hlm, hg⟩ := updF2_mem U1 U2 hne
  refine wpAny_call ?_
  k_dflt (refine' m_call (expl := [(d, od), (l, ol)]) (rest := off [d, l] news) B F X (news_sub N (fm1 hdm (fm1 hlm fm0))) (off_news N) (off_apart) T ?kA ?kF ?kK ?k6 ?k7 ?k8 ?k9 ?kB ?_ ?c2 ?c3 ?c4 ?c5; (case kA => exact rfl); (case kF => exact rfl); (case kK => exact rfl); (case k6 => k_is); (case k7 => k_is); (case k8 => ktr_room); (case k9 => first | exact BindsTo.of_eq rfl | exact binds_K (by k_in) rfl (by k_is) rfl rfl rfl); (case c5 => decide); (case kB => exact locs rfl); (case c2 => exact rfl); (case c3 => exact rfl); (case c4 => exact rfl); k_whole)
  intro g L' h₁ gr FG F' N' B' X' T'
  k_fold
  k_with_none
  k_with "my loop" => refine haltI ?_
  k_with "my comp" => refine haltI ?_
  k_with "my while" => refine haltI ?_

  k_steps
  refine haltO ?_
  rename_i R hq1 lR hq2 r9 t9 od9 ol9 hq3 tkq3 hr0 hr1 hod9 hol9 Fq Nq hq4 tkq4 tq uq vq hR F9 N9 hk9
  refine m_iterR (n := (1 + r9 - 0).toNat) [PySem.Str.ofString "k", PySem.Str.ofString "size"] (fun _ => []) (fun c : List Value × Nat × Obj × Obj => [(R, W.listOf c.1.toArray c.2.1), (d, c.2.2.1), (l, c.2.2.2)])
    (fun i c => ∃ xs, StrsAre c.1 xs ∧ xs.length = i ∧ (∀ x ∈ xs, GoodNm x) ∧ DrawO l c.2.2.1 ∧ DrawL c.2.2.2) ([], 0, od9, ol9) rfl hR (small_one (by omega) (by omega) (by omega) (by omega)) (rangeSize_nat _ _) F9 N9 ⟨[], .nil, rfl, fm0, hod9, hol9⟩ fm0 ?_ ?_
  · rintro i t I it ⟨ws, n9, od1, ol1⟩ u9 h tk hin ⟨xs, hs9, hl9, hg9, ho1, ho2⟩ hic off F1 N1
    have o1 : @Ne Nat R I := off _ (.head _)
    have o2 : @Ne Nat d I := off _ (.tail _ (.head _))
    have o3 : @Ne Nat l I := off _ (.tail _ (.tail _ (.head _)))
    have hi11 : i < 11 := by omega
    have hwl : ws.length = i := by rw [hs9.len_eq]; exact hl9
    dsimp only [setL, stored] at ho1 ho2 F1 N1
    clear off N9 F9 hk9 hR Fq Nq hod9 hol9
    (try k_fold)
    k_steps
    · rename_i rA tA odA olA hA tkA hA0 hA1 hoA hoA2 qA eA hB kE tB kB rB tB2 odB olB hB2 tkB hB0 hB1 hoB hoB2 qB eB aB rC tC odC olC hC tkC hC0 hC1 hoC hoC2 FC NC tD kD kZ kN tE kE2 aE
      have hml := len_mul_one (y := Txt.item (PySem.Str.ofString "abcdefghijklmnopqrstuvwxyz") (i : Int)) (n := 1 + rA) (N := 9) rfl (by omega)
      k_steps
      rename Fr g _ _ _ => F7
      rename News g _ _ _ => N7
      refine MPostS.next (_, _, _, _) F7 N7 (fun _ h => h) (fm1 o1 (fm1 o2 (fm1 o3 fm0))) (fun z hz => ?_) fm0 ⟨xs ++ [_], strs_snoc hs9, by (rw [List.length_append, hl9]; rfl), fun x hx => ?_, hoC, hoC2⟩
      · simp only [List.mem_cons, List.not_mem_nil, or_false, not_or] at hz
        simp [hz]
      · rcases List.mem_append.mp hx with hx | hx
        · exact hg9 x hx
        · rw [List.mem_singleton.mp hx]
          exact good_name hi11 (by omega) (good_alias (by omega)).1 (good_alias (by omega)).2
    · rename_i rA tA odA olA hA tkA hA0 hA1 hoA hoA2 qA eA hB kE tB kB rB tB2 odB olB hB2 tkB hB0 hB1 hoB hoB2 FB NB aB
      have hml := len_mul_one (y := Txt.item (PySem.Str.ofString "abcdefghijklmnopqrstuvwxyz") (i : Int)) (n := 1 + rA) (N := 9) rfl (by omega)
      k_steps
      rename Fr g _ _ _ => F7
      rename News g _ _ _ => N7
      refine MPostS.next (_, _, _, _) F7 N7 (fun _ h => h) (fm1 o1 (fm1 o2 (fm1 o3 fm0))) (fun z hz => ?_) fm0 ⟨xs ++ [_], strs_snoc hs9, by (rw [List.length_append, hl9]; rfl), fun x hx => ?_, hoB, hoB2⟩
      · simp only [List.mem_cons, List.not_mem_nil, or_false, not_or] at hz
        simp [hz]
      · rcases List.mem_append.mp hx with hx | hx
        · exact hg9 x hx
        · rw [List.mem_singleton.mp hx]
          exact good_name hi11 (by omega) good_none.1 good_none.2
  · rintro ⟨ws, n9, od1, ol1⟩ u9 h tk ⟨xs, hs9, hl9, hg9, ho1, ho2⟩ F1 N1
    dsimp only at ho1 ho2 F1 N1
    clear N9 F9 hk9 hR Fq Nq
    k_steps
    rename Fr h₀ L _ _ => kF
    rename News h₀ L _ (_ :: _) => kN
    rename_i kR
    rename News g L' _ _ => N9
    exact ret R _ _ xs _ _ _ _ hs9 (by intro e; rw [e] at hl9; simp at hl9; omega) (by omega) hg9 ho1 ho2 kF (news_cons kN (by k_mem) (news_two kN (by k_mem) (by k_mem) kR (hg _ _))) (fun p hp e => by
      have h1 := (N9 (R, _) (by k_mem)).2.2
      rcases Decidable.em (p.1 ∈ [d, l]) with hm | hm
      · rcases List.mem_cons.mp hm with e2 | hm
        · exact absurd (e.symm.trans e2) (by intro e3; have e4 : @Eq Nat R d := e3; omega)
        · have e2 := List.mem_singleton.mp hm
          exact absurd (e.symm.trans e2) (by intro e3; have e4 : @Eq Nat R l := e3; omega)
      · have h2 := gr p (List.mem_filter.mpr ⟨hp, by simpa using hm⟩)
        rw [e, h1] at h2
        cases h2)
end
end Mine

namespace Mine
open PySem PySem.W PyProof.Rows

theorem split_ne (x y : Str) : Txt.split x y ≠ [] := by
  unfold Txt.split
  split
  · simp
  · split
    · simp
    · rw [StrLaws.partsBetween_eq]
      obtain ⟨p, r, e⟩ := StrLaws.partsFrom_ne x y.length 0 (Builtin.Str.occurrences x y 0 x.length (x.length + 1))
      rw [e]
      simp
def jl (c : Nat) : List (List Nat) → List Nat
  | [] => []
  | [x] => x
  | x :: r => x ++ c :: jl c r
theorem join_toList (c : Nat) : ∀ rows : List Str, (Str.join ⟨#[c]⟩ rows).cps.toList = jl c (rows.map (·.cps.toList))
  | [] => rfl
  | [x] => rfl
  | x :: y :: r => by
    show (x ++ ⟨#[c]⟩ ++ Str.join ⟨#[c]⟩ (y :: r)).cps.toList = _
    rw [Str.cps_append, Str.cps_append, Array.toList_append, Array.toList_append, join_toList c (y :: r)]
    simp [jl]
def spl (c : Nat) : List Nat → List (List Nat)
  | [] => [[]]
  | d :: l => if d = c then [] :: spl c l else (d :: (spl c l).headD []) :: (spl c l).tail
theorem spl_ne (c : Nat) : ∀ l, spl c l ≠ []
  | [] => by simp [spl]
  | d :: l => by
    unfold spl
    split <;> simp
theorem spl_free {c : Nat} : ∀ {x : List Nat}, c ∉ x → spl c x = [x]
  | [], _ => rfl
  | d :: l, h => by
    simp only [List.mem_cons, not_or] at h
    rw [spl, if_neg (fun e => h.1 e.symm), spl_free h.2]
    rfl
theorem spl_app {c : Nat} (r : List Nat) : ∀ {x : List Nat}, c ∉ x → spl c (x ++ c :: r) = x :: spl c r
  | [], _ => by simp [spl]
  | d :: l, h => by
    simp only [List.mem_cons, not_or] at h
    rw [List.cons_append, spl, if_neg (fun e => h.1 e.symm), spl_app r h.2]
    rfl
theorem spl_jl {c : Nat} : ∀ {A : List (List Nat)}, A ≠ [] → (∀ p ∈ A, c ∉ p) → spl c (jl c A) = A
  | [], h, _ => absurd rfl h
  | [x], _, h => spl_free (h x (.head _))
  | x :: y :: r, _, h => by
    show spl c (x ++ c :: jl c (y :: r)) = _
    rw [spl_app _ (h x (.head _)), spl_jl (by simp) fun p hp => h p (.tail _ hp)]
theorem jl_mem {c : Nat} : ∀ {A : List (List Nat)} {p : List Nat}, p ∈ A → p.length ≤ (jl c A).length ∧ ∀ d ∈ p, d ∈ jl c A
  | [x], p, h => by
    rw [List.mem_singleton.mp h]
    exact ⟨Nat.le_refl _, fun _ h => h⟩
  | x :: y :: r, p, h => by
    show p.length ≤ (x ++ c :: jl c (y :: r)).length ∧ ∀ d ∈ p, d ∈ x ++ c :: jl c (y :: r)
    rcases List.mem_cons.mp h with rfl | h
    · exact ⟨by simp, fun d hd => by simp [hd]⟩
    · have := jl_mem (c := c) h
      exact ⟨by simp only [List.length_append, List.length_cons]; omega, fun d hd => by simp [this.2 d hd]⟩
theorem jl_count {c : Nat} : ∀ {A : List (List Nat)}, A.length ≤ (jl c A).length + 1
  | [] => by simp
  | [x] => by simp
  | x :: y :: r => by
    have := jl_count (c := c) (A := y :: r)
    show (x :: y :: r).length ≤ (x ++ c :: jl c (y :: r)).length + 1
    simp only [List.length_append, List.length_cons] at this ⊢
    omega
theorem toList_inj {a b : Str} (h : a.cps.toList = b.cps.toList) : a = b := Str.ext' (Array.toList_inj.mp h)
theorem map_inj : ∀ {A B : List Str}, A.map (·.cps.toList) = B.map (·.cps.toList) → A = B
  | [], [], _ => rfl
  | [], _ :: _, h => by simp at h
  | _ :: _, [], h => by simp at h
  | a :: A, b :: B, h => by
    simp only [List.map_cons, List.cons.injEq] at h
    rw [toList_inj h.1, map_inj h.2]
def Free (c : Nat) (x : Str) : Prop := c ∉ x.cps.toList
theorem free_app {c : Nat} {x y : Str} (hx : Free c x) (hy : Free c y) : Free c (x ++ y) := by
  unfold Free
  rw [Str.cps_append, Array.toList_append, List.mem_append]
  exact fun h => h.elim hx hy
theorem split_join {c : Nat} {rows : List Str} (hne : rows ≠ []) (hf : ∀ r ∈ rows, Free c r) : Txt.split (Str.join ⟨#[c]⟩ rows) ⟨#[c]⟩ = rows := by
  have e := StrLaws.join_split (Str.join ⟨#[c]⟩ rows) ⟨#[c]⟩
  have h1 := congrArg (fun x => x.cps.toList) e
  rw [join_toList, join_toList] at h1
  have h2 := congrArg (spl c) h1
  rw [spl_jl, spl_jl] at h2
  · exact map_inj h2
  · simpa using hne
  · intro p hp
    obtain ⟨r, hr, rfl⟩ := List.mem_map.mp hp
    exact hf r hr
  · simpa using split_ne _ _
  · intro p hp
    obtain ⟨r, hr, rfl⟩ := List.mem_map.mp hp
    exact StrLaws.split_free _ c r hr
theorem split_size {c : Nat} {x : Str} : (Txt.split x ⟨#[c]⟩).length ≤ x.length + 1 ∧ ∀ p ∈ Txt.split x ⟨#[c]⟩, p.length ≤ x.length ∧ ∀ d, Free d x → Free d p := by
  have e := congrArg (fun x => x.cps.toList) (StrLaws.join_split x ⟨#[c]⟩)
  rw [join_toList] at e
  have hl : x.length = (jl c ((Txt.split x ⟨#[c]⟩).map (·.cps.toList))).length := by rw [e]; simp [Str.length]
  constructor
  · have := jl_count (c := c) (A := (Txt.split x ⟨#[c]⟩).map (·.cps.toList))
    rw [List.length_map] at this
    omega
  · intro p hp
    have := jl_mem (c := c) (List.mem_map_of_mem (f := fun x : Str => x.cps.toList) hp)
    refine ⟨?_, fun d hd hm => hd ?_⟩
    · have h2 := this.1
      simp only [Array.length_toList] at h2
      show p.cps.size ≤ _
      omega
    · rw [← e]
      exact this.2 d hm
theorem sp_eq : PySem.Str.ofString " " = ⟨#[32]⟩ := by decide +kernel
theorem nl_eq : PySem.Str.ofString "\n" = ⟨#[10]⟩ := by decide +kernel
theorem hs_eq : PySem.Str.ofString "#" = ⟨#[35]⟩ := by decide +kernel
theorem find_free {x : Str} (h : Free 35 x) : Txt.find x (PySem.Str.ofString "#") = -1 := by
  have h1 := StrLaws.found_one x 35
  rw [decide_eq_false h, Bool.not_eq_false'] at h1
  rw [hs_eq, Txt.find, List.isEmpty_iff.mp h1]
/-- a text free of the line feed and of the sign, and not long -/
def Row (n : Nat) (x : Str) : Prop := Free 10 x ∧ Free 35 x ∧ x.length ≤ n
theorem row_app {a b : Nat} {x y : Str} (hx : Row a x) (hy : Row b y) : Row (a + b) (x ++ y) := ⟨free_app hx.1 hy.1, free_app hx.2.1 hy.2.1, by rw [Str.length_append]; exact Nat.add_le_add hx.2.2 hy.2.2⟩
theorem row_mono {a b : Nat} {x : Str} (h : a ≤ b) (hx : Row a x) : Row b x := ⟨hx.1, hx.2.1, Nat.le_trans hx.2.2 h⟩
theorem good_row {x : Str} (h : GoodNm x) : Row 30 x := ⟨fun hm => by have := h.1 _ hm; omega, fun hm => by have := h.1 _ hm; omega, h.2⟩
theorem row_sp : Row 1 (PySem.Str.ofString " ") := by unfold Row Free; decide +kernel
theorem row_cs : Row 2 (PySem.Str.ofString ", ") := by unfold Row Free; decide +kernel
theorem row_c : Row 1 (PySem.Str.ofString ",") := by unfold Row Free; decide +kernel
theorem row_e : Row 0 (PySem.Str.ofString "") := by unfold Row Free; decide +kernel
theorem row_o : Row 1 (PySem.Str.ofString "(") := by unfold Row Free; decide +kernel
def partsN (ind : Str) (wide : Int) (nm : Str) : List Str × Str := parts ind wide ((Txt.split nm (PySem.Str.ofString " ")).headD (PySem.Str.ofString "")) (Txt.split nm (PySem.Str.ofString " ")).tail
theorem partsN_of {ind nm u : Str} {wide : Int} {us : List Str} (h : Txt.split nm (PySem.Str.ofString " ") = u :: us) : partsN ind wide nm = parts ind wide u us := by
  rw [partsN, h]
  rfl
theorem name_split {nm : Str} (h : GoodNm nm) : ∃ u us, Txt.split nm (PySem.Str.ofString " ") = u :: us ∧ u.length ≤ 30 ∧ us.length ≤ 30 ∧ (∀ w ∈ us, w.length ≤ 30) ∧ ∀ w ∈ u :: us, Row 30 w := by
  have h1 := split_size (c := 32) (x := nm)
  have h2 := good_row h
  rw [← sp_eq] at h1
  cases e : Txt.split nm (PySem.Str.ofString " ") with
  | nil => exact absurd e (split_ne _ _)
  | cons u us =>
    rw [e] at h1
    have h3 : ∀ w ∈ u :: us, Row 30 w := fun w hw => ⟨(h1.2 w hw).2 _ h2.1, (h1.2 w hw).2 _ h2.2.1, Nat.le_trans (h1.2 w hw).1 h2.2.2⟩
    refine ⟨u, us, rfl, (h3 u (.head _)).2.2, ?_, fun w hw => (h3 w (.tail _ hw)).2.2, h3⟩
    have := h1.1
    have := h2.2.2
    simp only [List.length_cons] at *
    omega
def PInv (n : Nat) (r : List Str × Str) : Prop := r.1.length ≤ n ∧ (∀ x ∈ r.1, Row (41 + 31 * n) x) ∧ Row (41 + 31 * n) r.2
theorem pstep_inv {ind w : Str} {wide : Int} {n : Nat} {r : List Str × Str} (hi : Row 10 ind) (hw : Row 30 w) (h : PInv n r) : PInv (n + 1) (pstep ind wide r w) := by
  unfold pstep
  split
  · refine ⟨by rw [List.length_append]; exact Nat.add_le_add h.1 (Nat.le_refl _), fun x hx => ?_, row_mono (by omega) (row_app hi hw)⟩
    rcases List.mem_append.mp hx with hx | hx
    · exact row_mono (by omega) (h.2.1 x hx)
    · rw [List.mem_singleton.mp hx]
      exact row_mono (by omega) h.2.2
  · exact ⟨Nat.le_succ_of_le h.1, fun x hx => row_mono (by omega) (h.2.1 x hx), row_mono (by omega) (row_app (row_app h.2.2 row_sp) hw)⟩
theorem pfold_inv {ind : Str} {wide : Int} (hi : Row 10 ind) : ∀ {us : List Str} {n : Nat} {r : List Str × Str}, (∀ w ∈ us, Row 30 w) → PInv n r → PInv (n + us.length) (us.foldl (pstep ind wide) r)
  | [], n, r, _, h => h
  | w :: us, n, r, hw, h => by
    have := pfold_inv (wide := wide) hi (us := us) (n := n + 1) (r := pstep ind wide r w) (fun w h => hw w (.tail _ h)) (pstep_inv hi (hw w (.head _)) h)
    rw [List.length_cons, List.foldl_cons]
    rwa [show n + (us.length + 1) = n + 1 + us.length by omega]
theorem partsN_ok {ind nm : Str} {wide : Int} (hi : Row 10 ind) (h : GoodNm nm) : (partsN ind wide nm).1.length ≤ 30 ∧ (∀ x ∈ (partsN ind wide nm).1, Row 1000 x) ∧ Row 1000 (partsN ind wide nm).2 := by
  obtain ⟨u, us, e, h1, h2, h3, h4⟩ := name_split h
  rw [partsN_of e, parts]
  have := pfold_inv (wide := wide) hi (n := 0) (r := ([], ind ++ u)) (fun w hw => h4 w (.tail _ hw)) ⟨Nat.le_refl _, fm0, row_mono (by omega) (row_app hi (h4 u (.head _)))⟩
  rw [Nat.zero_add] at this
  exact ⟨Nat.le_trans this.1 h2, fun x hx => row_mono (by omega) (this.2.1 x hx), row_mono (by omega) this.2.2⟩
def sdOf (said : Str) (pre : List Str) : Str := if pre = [] then said else PySem.Str.ofString ""
def gstep (ind said : Str) (wide : Int) (r : List Str × Str) (nm : Str) : List Str × Str :=
  if wide < ((r.2 ++ PySem.Str.ofString ", " ++ nm ++ sdOf said r.1).length : Int) + 1 then (r.1 ++ [r.2 ++ PySem.Str.ofString "," ++ sdOf said r.1] ++ (partsN ind wide nm).1, (partsN ind wide nm).2) else (r.1, r.2 ++ PySem.Str.ofString ", " ++ nm)
def gridR (ind said : Str) (wide : Int) (hd nm : Str) (xs : List Str) : List Str × Str := xs.foldl (gstep ind said wide) ([], hd ++ PySem.Str.ofString "(" ++ nm)
structure GInv (rm : Bool) (i : Nat) (r : List Str × Str) : Prop where
  len : r.1.length ≤ 31 * i
  rows : ∀ x ∈ r.1, Free 10 x ∧ x.length ≤ 1100
  last : Free 10 r.2 ∧ r.2.length ≤ 1000
  hash : (rm = true ∨ r.1 = []) → (∀ x ∈ r.1, Free 35 x) ∧ Free 35 r.2
structure SaidOk (rm : Bool) (said : Str) : Prop where
  f : Free 10 said
  l : said.length ≤ 30
  r : rm = true → said = PySem.Str.ofString ""
theorem sd_free {rm : Bool} {said : Str} {pre : List Str} (h : SaidOk rm said) : Free 10 (sdOf said pre) ∧ (sdOf said pre).length ≤ 30 := by
  unfold sdOf
  split
  · exact ⟨h.f, h.l⟩
  · exact ⟨row_e.1, Nat.le_trans row_e.2.2 (by omega)⟩
theorem gstep_inv {ind said nm : Str} {rm : Bool} {wide : Int} {i : Nat} {r : List Str × Str} (hi : Row 10 ind) (hs : SaidOk rm said) (hn : GoodNm nm) (hw : wide ≤ 100) (h : GInv rm i r) : GInv rm (i + 1) (gstep ind said wide r nm) := by
  have hp := partsN_ok (wide := wide) hi hn
  have hsd := sd_free (pre := r.1) hs
  unfold gstep
  split
  · refine ⟨?_, fun x hx => ?_, ⟨hp.2.2.1, hp.2.2.2.2⟩, fun hr => ?_⟩
    · have := h.len
      have := hp.1
      simp only [List.length_append, List.length_cons, List.length_nil]
      omega
    · rcases List.mem_append.mp hx with hx | hx
      · rcases List.mem_append.mp hx with hx | hx
        · exact h.rows x hx
        · rw [List.mem_singleton.mp hx]
          refine ⟨free_app (free_app h.last.1 row_c.1) hsd.1, ?_⟩
          have := h.last.2
          have := row_c.2.2
          have := hsd.2
          simp only [Str.length_append]
          omega
      · have := hp.2.1 x hx
        exact ⟨this.1, Nat.le_trans this.2.2 (by omega)⟩
    · have hr' : rm = true := hr.elim id (fun e => by simp at e)
      have h9 := h.hash (.inl hr')
      refine ⟨fun x hx => ?_, hp.2.2.2.1⟩
      rcases List.mem_append.mp hx with hx | hx
      · rcases List.mem_append.mp hx with hx | hx
        · exact h9.1 x hx
        · rw [List.mem_singleton.mp hx]
          refine free_app (free_app h9.2 row_c.2.1) ?_
          unfold sdOf
          rw [hs.r hr', ite_self]
          exact row_e.2.1
      · exact (hp.2.1 x hx).2.1
  · rename_i hc
    refine ⟨Nat.le_trans h.len (by omega), h.rows, ⟨free_app (free_app h.last.1 row_cs.1) (good_row hn).1, ?_⟩, fun hr => ⟨(h.hash hr).1, free_app (free_app (h.hash hr).2 row_cs.2.1) (good_row hn).2.1⟩⟩
    rw [Str.length_append] at hc
    show (r.2 ++ PySem.Str.ofString ", " ++ nm).length ≤ 1000
    omega
theorem ginv0 {rm : Bool} {hd nm : Str} (hh : Row 20 hd) (hn : GoodNm nm) : GInv rm 0 ([], hd ++ PySem.Str.ofString "(" ++ nm) := by
  have := row_app (row_app hh row_o) (good_row hn)
  exact ⟨Nat.le_refl _, fm0, ⟨this.1, Nat.le_trans this.2.2 (by omega)⟩, fun _ => ⟨fm0, this.2.1⟩⟩
theorem gfold_inv {ind said : Str} {rm : Bool} {wide : Int} (hi : Row 10 ind) (hs : SaidOk rm said) (hw : wide ≤ 100) : ∀ {xs : List Str} {i : Nat} {r : List Str × Str}, (∀ x ∈ xs, GoodNm x) → GInv rm i r → GInv rm (i + xs.length) (xs.foldl (gstep ind said wide) r)
  | [], i, r, _, h => h
  | w :: us, i, r, hx, h => by
    have := gfold_inv hi hs hw (xs := us) (fun w h => hx w (.tail _ h)) (gstep_inv hi hs (hx w (.head _)) hw h)
    rw [List.length_cons, List.foldl_cons]
    rwa [show i + (us.length + 1) = i + 1 + us.length by omega]
theorem join_cons {sep x : Str} : ∀ {r : List Str}, r ≠ [] → Str.join sep (x :: r) = x ++ sep ++ Str.join sep r
  | [], h => absurd rfl h
  | _ :: _, _ => rfl
theorem join_app {sep : Str} : ∀ {a b : List Str}, a ≠ [] → b ≠ [] → Str.join sep (a ++ b) = Str.join sep a ++ sep ++ Str.join sep b
  | [], _, h, _ => absurd rfl h
  | [x], b, _, h => join_cons h
  | x :: y :: a, b, _, h => by
    rw [List.cons_append, join_cons (by simp), join_app (a := y :: a) (by simp) h, join_cons (r := y :: a) (by simp)]
    simp only [Str.append_assoc]
/-- what is put behind the last row -/
theorem join_snoc {sep y z : Str} (pre : List Str) : Str.join sep (pre ++ [y]) ++ z = Str.join sep (pre ++ [y ++ z]) := by
  cases pre with
  | nil => rfl
  | cons p pre =>
    rw [join_app (by simp) (by simp), join_app (by simp) (by simp)]
    show _ ++ sep ++ y ++ z = _ ++ sep ++ (y ++ z)
    simp only [Str.append_assoc]
theorem join_len {sep : Str} {rows : List Str} {B : Nat} (h : ∀ r ∈ rows, r.length ≤ B) : (Str.join sep rows).length ≤ rows.length * (B + sep.length) := by
  have h1 := StrLaws.join_length_le sep rows
  have h2 := StrLaws.sumLen_le rows h
  rw [Nat.mul_add]
  omega
theorem ginv_len {rm : Bool} {i : Nat} {r : List Str × Str} (h : GInv rm i r) (hi : i ≤ 11) : (Str.join (PySem.Str.ofString "\n") (r.1 ++ [r.2])).length ≤ 400000 := by
  have := join_len (sep := PySem.Str.ofString "\n") (rows := r.1 ++ [r.2]) (B := 1100) fun x hx => by
    rcases List.mem_append.mp hx with hx | hx
    · exact (h.rows x hx).2
    · rw [List.mem_singleton.mp hx]
      exact Nat.le_trans h.last.2 (by omega)
  have h2 := h.len
  rw [List.length_append, show (PySem.Str.ofString "\n").length = 1 from by decide +kernel] at this
  simp only [List.length_cons, List.length_nil] at this
  omega
end Mine

namespace Mine
open PySem PySem.W PyProof.Rows
theorem fresh_C6 : (hd.heap_39 = hd.heap_39) ∧ PySem.Challenge.rw_aq6041_01 = PySem.Challenge.rw_aq6041_01 := by
  w_top off
  k_with_none
  k_fill
  exact ⟨rfl, rfl⟩
local macro_rules | `(tactic| k_room) => `(tactic| ktr_room)
local macro_rules | `(tactic| units_room) => `(tactic| ((try simp only [units_in1, units_deeper, Around.mark_units, units_caller]); (try dsimp only [ktrTop]); omega))
local macro_rules | `(tactic| walk_at "exec For") => `(tactic| (k_here; (rename Fr _ _ _ _ => lF'); (with_unfolding_all refine' For_invVF lF' ?mzk1 ?mzk2 ?_; (case mzk1 => exact rfl); (case mzk2 => exact rfl); k_whole)))
local macro_rules | `(tactic| walk_at "exec For Name Name cons nil") => `(tactic| (k_here; (rename Fr _ _ _ _ => lF'); (with_unfolding_all refine' For_invVF lF' ?mzk1 ?mzk2 ?_; (case mzk1 => exact rfl); (case mzk2 => exact rfl); k_whole)))
local macro_rules | `(tactic| walk_at "exec For Name Subscript cons nil") => `(tactic| (k_here; (rename Fr _ _ _ _ => lF'); (with_unfolding_all refine' For_invVF lF' ?mzk1 ?mzk2 ?_; (case mzk1 => exact rfl); (case mzk2 => exact rfl); k_whole)))
local macro_rules | `(tactic| walk_at "exec For Name Call cons nil") => `(tactic| (k_here; (rename Fr _ _ _ _ => lF'); (with_unfolding_all refine' For_invVF lF' ?mzk1 ?mzk2 ?_; (case mzk1 => exact rfl); (case mzk2 => exact rfl); k_whole)))
local macro_rules | `(tactic| walk_at "execs nil") => `(tactic| refine wpAny_execs_nil ?_)
local macro_rules | `(tactic| walk_at "pyIter ref") => `(tactic| k_extra "my loop")
local macro_rules | `(tactic| walk_at "exec While") => `(tactic| k_extra "my while")
local macro_rules | `(tactic| walk_at "call builtin:str.split") => `(tactic| (k_here; (with_reducible show wpAny _ _ (call (Value.builtin "str.split") [Value.str _ _, Value.str _ _]) _ _ _); k_dflt (refine' m_splitH ?mzF ?mzN ?mzy ?mzs ?mzz ?_; (case mzF => k_asm); (case mzN => k_asm); (case mzs => with_reducible assumption); (case mzy => decide); (case mzz => omega)); intro D' vs' tu' h' k' hI' hI2' F' N' l1; (try k_lt l1); (try k_sweep)))
local macro_rules | `(tactic| walk_at "call builtin:str.split") => `(tactic| (k_here; (with_reducible show wpAny _ _ (call (Value.builtin "str.split") [Value.str _ _, Value.str _ _]) _ _ _); k_dflt (refine' m_splitT ?mzF ?mzN ?mzy ?mzs ?mzz ?_; (case mzF => k_asm); (case mzN => k_asm); (case mzs => with_reducible assumption); (case mzy => decide); (case mzz => omega)); intro D' vs' tz' h' k' hI' hI2' F' N' l1; (try k_lt l1); (try k_sweep)))
local macro_rules | `(tactic| walk_at "subscriptTail") => `(tactic| (k_here; (with_reducible show wpAny _ _ (subscriptTail _ _ (Value.ref _) (Value.int 0 _)) _ _ _); k_dflt (refine' m_item (k := 0) ?mzN ?mzm ?mzv ?mzk ?_ ?mzs; (case mzN => k_asm); (case mzm => k_mem); (case mzv => rfl); (case mzk => decide); (case mzs => with_unfolding_all rfl))))
local macro_rules | `(tactic| walk_at "subscriptTail Name Constant ref int") => `(tactic| (k_here; (with_reducible show wpAny _ _ (subscriptTail _ _ (Value.ref _) (Value.int 0 _)) _ _ _); k_dflt (refine' m_item (k := 0) ?mzN ?mzm ?mzv ?mzk ?_ ?mzs; (case mzN => k_asm); (case mzm => k_mem); (case mzv => rfl); (case mzk => decide); (case mzs => with_unfolding_all rfl))))
local macro_rules | `(tactic| walk_at "subscriptTail Call Constant ref int") => `(tactic| (k_here; (with_reducible show wpAny _ _ (subscriptTail _ _ (Value.ref _) (Value.int 0 _)) _ _ _); k_dflt (refine' m_item (k := 0) ?mzN ?mzm ?mzv ?mzk ?_ ?mzs; (case mzN => k_asm); (case mzm => k_mem); (case mzv => rfl); (case mzk => decide); (case mzs => with_unfolding_all rfl))))
local macro_rules | `(tactic| walk_at "subscriptTail") => `(tactic| (k_here; (with_reducible show wpAny _ _ (subscriptTail _ _ (Value.ref _) (Value.int (-1) _)) _ _ _); k_dflt (refine' m_last ?mzN ?mzm ?_ ?mzs; (case mzN => k_asm); (case mzm => k_mem); (case mzs => with_unfolding_all rfl))))
local macro_rules | `(tactic| walk_at "subscriptTail Name UnaryOp ref int") => `(tactic| (k_here; (with_reducible show wpAny _ _ (subscriptTail _ _ (Value.ref _) (Value.int (-1) _)) _ _ _); k_dflt (refine' m_last ?mzN ?mzm ?_ ?mzs; (case mzN => k_asm); (case mzm => k_mem); (case mzs => with_unfolding_all rfl))))
local macro_rules | `(tactic| walk_at "subscriptTail Call UnaryOp ref int") => `(tactic| (k_here; (with_reducible show wpAny _ _ (subscriptTail _ _ (Value.ref _) (Value.int (-1) _)) _ _ _); k_dflt (refine' m_last ?mzN ?mzm ?_ ?mzs; (case mzN => k_asm); (case mzm => k_mem); (case mzs => with_unfolding_all rfl))))
local macro_rules | `(tactic| walk_at "subscriptTail") => `(tactic| (k_here; (with_reducible show wpAny _ _ (subscriptTail _ (PySem.Expr.Slice _ _ none _) (Value.ref _) (Value.ref _)) _ _ _); k_dflt (first
  | (refine' kmk_slice_lit ?mzF ?mzN ?mzl ?mzp ?mzq (pick_tail _ _) ?_ ?mzs ?mzt ?mzz; (case mzF => k_asm); (case mzN => k_asm); (case mzl => exact News.isList (by k_asm) (by k_mem)); (case mzp => kmk_part); (case mzq => kmk_part); (case mzs => with_unfolding_all rfl); (case mzt => kmk_pure); (case mzz => (rw [PySem.sizeLine_eq]; (simp only [List.size_toArray, List.length_cons, List.length_append, List.length_nil]); omega)))
  | (refine' kmk_slice_lit ?mzF ?mzN ?mzl ?mzp ?mzq (pick_init _ _) ?_ ?mzs ?mzt ?mzz; (case mzF => k_asm); (case mzN => k_asm); (case mzl => exact News.isList (by k_asm) (by k_mem)); (case mzp => kmk_part); (case mzq => kmk_part); (case mzs => with_unfolding_all rfl); (case mzt => kmk_pure); (case mzz => (rw [PySem.sizeLine_eq]; (simp only [List.size_toArray, List.length_cons, List.length_append, List.length_nil]); omega)))
  | (refine' kmk_slice_lit ?mzF ?mzN ?mzl ?mzp ?mzq (pick_60 _) ?_ ?mzs ?mzt ?mzz; (case mzF => k_asm); (case mzN => k_asm); (case mzl => exact News.isList (by k_asm) (by k_mem)); (case mzp => kmk_part); (case mzq => kmk_part); (case mzs => with_unfolding_all rfl); (case mzt => kmk_pure); (case mzz => (rw [PySem.sizeLine_eq]; (simp only [List.size_toArray, List.length_cons, List.length_append, List.length_nil]); omega)))); intro D' h' F' N' l1; (try k_lt l1); (try k_sweep)))
local macro_rules | `(tactic| walk_at "subscriptTail Name Slice ref ref") => `(tactic| (k_here; (with_reducible show wpAny _ _ (subscriptTail _ (PySem.Expr.Slice _ _ none _) (Value.ref _) (Value.ref _)) _ _ _); k_dflt (first
  | (refine' kmk_slice_lit ?mzF ?mzN ?mzl ?mzp ?mzq (pick_tail _ _) ?_ ?mzs ?mzt ?mzz; (case mzF => k_asm); (case mzN => k_asm); (case mzl => exact News.isList (by k_asm) (by k_mem)); (case mzp => kmk_part); (case mzq => kmk_part); (case mzs => with_unfolding_all rfl); (case mzt => kmk_pure); (case mzz => (rw [PySem.sizeLine_eq]; (simp only [List.size_toArray, List.length_cons, List.length_append, List.length_nil]); omega)))
  | (refine' kmk_slice_lit ?mzF ?mzN ?mzl ?mzp ?mzq (pick_init _ _) ?_ ?mzs ?mzt ?mzz; (case mzF => k_asm); (case mzN => k_asm); (case mzl => exact News.isList (by k_asm) (by k_mem)); (case mzp => kmk_part); (case mzq => kmk_part); (case mzs => with_unfolding_all rfl); (case mzt => kmk_pure); (case mzz => (rw [PySem.sizeLine_eq]; (simp only [List.size_toArray, List.length_cons, List.length_append, List.length_nil]); omega)))
  | (refine' kmk_slice_lit ?mzF ?mzN ?mzl ?mzp ?mzq (pick_60 _) ?_ ?mzs ?mzt ?mzz; (case mzF => k_asm); (case mzN => k_asm); (case mzl => exact News.isList (by k_asm) (by k_mem)); (case mzp => kmk_part); (case mzq => kmk_part); (case mzs => with_unfolding_all rfl); (case mzt => kmk_pure); (case mzz => (rw [PySem.sizeLine_eq]; (simp only [List.size_toArray, List.length_cons, List.length_append, List.length_nil]); omega)))); intro D' h' F' N' l1; (try k_lt l1); (try k_sweep)))
local macro_rules | `(tactic| walk_at "call builtin:list.append") => `(tactic| (k_here; (with_reducible show wpAny _ _ (call (Value.builtin _) [Value.ref _, _]) _ _ _); k_dflt (refine' m_append ?mzF ?mzN ?mzU ?mzz ?_; (case mzF => k_asm); (case mzN => k_asm); (case mzU => k_upd); (case mzz => ((try simp only [List.length_cons, List.length_append, List.length_nil]); omega))); intro h' F' N'; (try k_sweep)))
local macro_rules | `(tactic| walk_at "setItem ref int") => `(tactic| (k_here; (with_reducible show wpAny _ _ (setItem (Value.ref _) (Value.int (-1) _) _) _ _ _); k_dflt (refine' m_setLast ?mzF ?mzN ?mzU ?_; (case mzF => k_asm); (case mzN => k_asm); (case mzU => k_upd)); intro h' F' N'; (try k_sweep)))
local macro_rules | `(tactic| walk_at "call builtin:list.pop") => `(tactic| (k_here; (with_reducible show wpAny _ _ (call (Value.builtin _) [Value.ref _, Value.int 0 _]) _ _ _); k_dflt (refine' m_pop0 ?mzF ?mzN ?mzU ?mzz ?_; (case mzF => k_asm); (case mzN => k_asm); (case mzU => k_upd); (case mzz => omega)); intro h' F' N'; (try dsimp only [List.nil_append, List.cons_append] at N')))
local macro_rules | `(tactic| walk_at "call builtin:str.join") => `(tactic| (k_here; (with_reducible show wpAny _ _ (call (Value.builtin _) [Value.str _ _, Value.ref _]) _ _ _); k_dflt (refine' m_join ?mzN ?mzm ?mzi ?mzz ?mzw ?_; (case mzN => k_asm); (case mzm => k_mem); (case mzi => with_reducible assumption); (case mzz => decide); (case mzw => first | assumption | omega)); intro t' k'))
local macro_rules | `(tactic| walk_at "call ref") => `(tactic| (k_here; (with_reducible show wpAny _ _ (call (Value.ref 98) [Value.str _ _, Value.str _ _, Value.int _ _]) _ _ _); (k_dflt (refine' parts_spec ?k1 ?k2 ?k3 ?k4 ?k5 ?mzps ?mzp1 ?mzp2 ?mzp3 ?mzp4 ?mzp5 ?mzp6 ?mzp7 ?mzpd ?mzpu ?_; (case k1 => k_asm); (case k2 => k_asm); (case k3 => k_asm); (case k4 => k_asm); (case k5 => k_asm); (case mzps => with_reducible assumption); (case mzp1 => with_reducible assumption); (case mzp2 => with_reducible assumption); (case mzp3 => with_reducible assumption); (case mzp4 => omega); (case mzp5 => with_reducible assumption); (case mzp6 => omega); (case mzp7 => omega); (case mzpd => ktr_room); (case mzpu => ktr_units); k_whole)); intro R9 vs9 t9 n9 h9 tk9 hs9 hl9 hb9 F9 N9 l9; (try k_lt l9); (try k_sweep); (try dsimp only); (try k_fold)))

section
variable {prog : Program} {w : World} {A : Around} {E : Value → Shared → Prop} {s : Shared} {h₀ : Heap} {L D : Addr} {m : Str → Option Value} {news news' : Led} {n : Nat}
theorem m_addS {l b : Addr} {vs ws : List Value} {x : Value} {k : Nat} {Q : Value → Shared → Prop} (F : Fr h₀ L s.heap m) (N : News h₀ L s.heap news) (hl : (l, W.listOf vs.toArray n) ∈ news) (hb : (b, W.listOf (ws ++ [x]).toArray k) ∈ news) (hz : vs.length + (ws.length + 1) ≤ 2000)
    (h : ∀ D h', Fr h₀ L h' m → News h₀ L h' ((D, W.listOf ((vs ++ ws) ++ [x]).toArray 0) :: news) → (∀ p ∈ news, p.1 < D) → Q (.ref D) { s with heap := h' }) : wpAny (model prog w) A (binaryOp .Add (.ref l) (.ref b)) Q E s :=
  m_addL F N hl hb (by rw [List.length_append]; exact hz) fun D h' F' N' l' => h D h' F' (by rw [List.append_assoc]; exact N') l'
theorem m_lenS {l : Addr} {vs : List Value} {x : Value} {Q : Value → Shared → Prop} (N : News h₀ L s.heap news) (hl : (l, W.listOf (vs ++ [x]).toArray n) ∈ news) (hz : vs.length ≤ 10000) (h : ∀ t k, Q (.int ((vs.length : Int) + 1) t) { s with toks := k }) :
    wpAny (model prog w) A (call (.builtin "len") [.ref l]) Q E s :=
  kun_lenL (News.isList N hl) (by simp) (by omega) (h _ _)
end
local macro_rules | `(tactic| walk_at "call builtin:len") => `(tactic| (k_here; (with_reducible show wpAny _ _ (call (Value.builtin "len") [Value.ref _]) _ _ _); k_dflt (refine' m_lenS ?mzN ?mzl ?mzz ?_; (case mzN => k_asm); (case mzl => k_mem); (case mzz => omega)); intro tl' kl'))
local macro_rules | `(tactic| walk_at "binaryOp Add ref ref") => `(tactic| (k_here; (with_reducible show wpAny _ _ (binaryOp Operator.Add (Value.ref _) (Value.ref _)) _ _ _); k_dflt (refine' m_addS ?mzF ?mzN ?mzl ?mzb ?mzz ?_; (case mzF => k_asm); (case mzN => k_asm); (case mzl => k_mem); (case mzb => k_mem); (case mzz => ((try simp only [List.length_cons, List.length_append, List.length_nil]); omega))); intro D' h' F' N' l1; (try k_lt l1); (try k_sweep)))
theorem gstep_new {ind said nm u last sd : Str} {pre us : List Str} {wide : Int} (hsp : Txt.split nm (PySem.Str.ofString " ") = u :: us) (hsd : sdOf said pre = sd) (hc : wide < ((last.length + (PySem.Str.ofString ", ").length + nm.length + sd.length : Nat) : Int) + 1) :
    gstep ind said wide (pre, last) nm = (pre ++ [last ++ PySem.Str.ofString "," ++ sd] ++ (parts ind wide u us).1, (parts ind wide u us).2) := by
  subst hsd
  show (if wide < ((last ++ PySem.Str.ofString ", " ++ nm ++ sdOf said pre).length : Int) + 1 then _ else _) = _
  rw [if_pos (by simp only [Str.length_append]; exact hc), partsN_of hsp]
theorem gstep_old {ind said nm last sd : Str} {pre : List Str} {wide : Int} (hsd : sdOf said pre = sd) (hc : ¬ wide < ((last.length + (PySem.Str.ofString ", ").length + nm.length + sd.length : Nat) : Int) + 1) :
    gstep ind said wide (pre, last) nm = (pre, last ++ PySem.Str.ofString ", " ++ nm) := by
  subst hsd
  show (if wide < ((last ++ PySem.Str.ofString ", " ++ nm ++ sdOf said pre).length : Int) + 1 then _ else _) = _
  rw [if_neg (by simp only [Str.length_append]; exact hc)]
section
variable {w : World} {mean : ExcName → Option Value} {mg mb : Str → Option Value} {dp un : Nat} {gd : Option (List Code)} {cn : Str} {nms : List (Str × NameKind)} {b1 b2 : Bool} {mo : List (Str × Const)} {L a : Addr} {ccd : Value} {cl : List (Str × Addr)} {outer : List Env}
   {A₀ : Around} {base h₀ : Heap} {m : Str → Option Value} {news : Led} {s : Shared} {Q E : Value → Shared → Prop}
theorem lgrid_spec {nl : Addr} {n0 : Nat} {vs : List Value} {nm hdd ind said : Str} {xs : List Str} {wide : Int} {rm : Bool} {t1 t2 t3 t4 : Tok}
   (B : Below A₀ base outer h₀) (F : Fr h₀ L s.heap m) (X : (hd.heap_39 w.params).In h₀) (N : News h₀ L s.heap news) (T : TopX mean mg mb h₀)
   (hm : (nl, W.listOf vs.toArray n0) ∈ news) (hv : StrsAre vs (nm :: xs)) (hg : ∀ x ∈ nm :: xs, GoodNm x) (hx : xs.length ≤ 10) (hh : Row 20 hdd) (hi : Row 10 ind) (hs : SaidOk rm said) (hw : 0 ≤ wide) (hw2 : wide ≤ 100)
   (hd : dp + 2 < recursionLimit) (hu : un + 250 < cLine)
   (ret : ∀ R ws t n h' tk', StrsAre ws (gridR ind said wide hdd nm xs).1 → Fr h₀ L h' m → News h₀ L h' ((R, W.listOf (ws ++ [Value.str (gridR ind said wide hdd nm xs).2 t]).toArray n) :: news) → (∀ p ∈ news, p.1 ≠ R) → Q (.ref R) {s with heap := h', toks := tk'}) :
   wpAny (model prg w) (ktrTop dp un gd cn (fsc nms b1 b2 mo) L a ccd cl outer) (call (.ref 105) [.ref nl, .str hdd t1, .int wide t2, .str ind t3, .str said t4]) Q E s := by
  obtain ⟨tn, vs', rfl, hv'⟩ := hv.cons_inv
  have hvl := hv'.len_eq
  have hnm := (hg nm (.head _)).2
  have hhl := hh.2.2
  have hil := hi.2.2
  have hsl := hs.l
  refine wpAny_call ?_
  k_dflt (refine' m_call (expl := [(nl, W.listOf (Value.str nm tn :: vs').toArray n0)]) (rest := off [nl] news) B F X (news_sub N (fm1 hm fm0)) (off_news N) (off_apart) T ?kA ?kF ?kK ?k6 ?k7 ?k8 ?k9 ?kB ?_ ?c2 ?c3 ?c4 ?c5; (case kA => exact rfl); (case kF => exact rfl); (case kK => exact rfl); (case k6 => k_is); (case k7 => k_is); (case k8 => ktr_room); (case k9 => first | exact BindsTo.of_eq rfl | exact binds_K (by k_in) rfl (by k_is) rfl rfl rfl); (case c5 => decide); (case kB => exact locs rfl); (case c2 => exact rfl); (case c3 => exact rfl); (case c4 => exact rfl); k_whole)
  intro g L' h₁ gr FG F' N' B' X' T'
  k_fold
  k_with_none
  k_with "my loop" => refine haltI ?_
  k_with "my comp" => refine haltI ?_
  k_with "my while" => refine haltI ?_

  k_steps
  refine haltO ?_
  rename_i tk9 t19 k19 a19 t29 k29 a29 R h19 lR h29 S h39 F9 N9 lS
  refine m_iterS (vs := vs') (n := 0) [PySem.Str.ofString "rows", PySem.Str.ofString "name", PySem.Str.ofString "more"] (fun c : Addr × List Value × Str × Tok × Nat => [(PySem.Str.ofString "rows", Value.ref c.1)]) (fun c : Addr × List Value × Str × Tok × Nat => [(S, W.listOf vs'.toArray 0), (c.1, W.listOf (c.2.1 ++ [Value.str c.2.2.1 c.2.2.2.1]).toArray c.2.2.2.2), (nl, W.listOf (Value.str nm tn :: vs').toArray n0)])
    (fun i c => @Ne Nat nl c.1 ∧ @Ne Nat S c.1 ∧ ∃ pre, (pre, c.2.2.1) = (xs.take i).foldl (gstep ind said wide) ([], hdd ++ PySem.Str.ofString "(" ++ nm) ∧ StrsAre c.2.1 pre ∧ GInv rm i (pre, c.2.2.1)) (R, [], hdd ++ PySem.Str.ofString "(" ++ nm, t29, 0)
    rfl F9 (news_sub N9 (fm1 (.head _) (fm1 (.tail _ (.head _)) (fm1 (.tail _ (.tail _ (.head _))) fm0)))) (fun _ => .head _) rfl rfl ⟨neN (by omega), neN (by omega), [], rfl, .nil, ginv0 hh (hg nm (.head _))⟩ (fm1 rfl fm0) ?_ ?_
  · rintro i v I it ⟨R1, rs, last, tl, k⟩ u9 h tk hv9 ⟨n1, n2, pre, e, hs9, hG⟩ hic off F1 N1
    obtain ⟨w9, tw, rfl, hw9⟩ := hv'.item i v hv9
    have hi9 : i < xs.length := (List.getElem?_eq_some_iff.mp hw9).1
    have hgw : GoodNm w9 := hg w9 (.tail _ (List.mem_of_getElem? hw9))
    have hwl := hgw.2
    obtain ⟨u, us, hsp, hu1, hu2, hu3, _⟩ := name_split hgw
    have o1 : @Ne Nat S I := off _ (.head _)
    have o2 : @Ne Nat R1 I := off _ (.tail _ (.head _))
    have o3 : @Ne Nat nl I := off _ (.tail _ (.tail _ (.head _)))
    have hG1 := hG.len
    have hG2 := hG.last.2
    have hrl := hs9.len_eq
    dsimp only [setL, stored] at hs9 hG hG1 hG2 hrl e n1 n2 o2 F1 N1
    clear off N9 F9 hv
    (try k_fold)
    k_steps
    · have hsd : sdOf said pre = said := if_pos (List.eq_nil_of_length_eq_zero (by omega))
      have hst := gstep_new (ind := ind) hsp hsd (by assumption)
      have hG' := gstep_inv hi hs hgw hw2 hG (wide := wide)
      rw [hst] at hG'
      rename Fr g _ _ _ => F7
      rename News g _ _ _ => N7
      rename StrsAre _ (parts _ _ _ _).1 => h7
      refine MPostS.next (_, _, _, _, _) F7 N7 (fm1 (.tail _ (.tail _ (.head _))) (fm1 (.tail _ (.tail _ (.tail _ (.head _)))) (fm1 (.head _) (fm1 (.tail _ (.tail _ (.tail _ (.tail _ (.tail _ (.head _)))))) fm0)))) (fm1 o1 (fm1 (neN (by omega)) (fm1 o3 fm0))) (fun z hz => ?_) (fm1 rfl fm0) ⟨neN (by omega), neN (by omega), _, (by rw [fold_step hw9, ← e, hst]), (strs_snoc hs9).append' h7, hG'⟩
      simp only [List.mem_cons, List.not_mem_nil, or_false, not_or] at hz
      simp [hz]
    · exfalso; omega
    · have hsd : sdOf said pre = said := if_pos (List.eq_nil_of_length_eq_zero (by omega))
      have hst := gstep_old (ind := ind) hsd (by assumption)
      have hG' := gstep_inv hi hs hgw hw2 hG (wide := wide)
      rw [hst] at hG'
      rename Fr g _ _ _ => F7
      rename News g _ _ _ => N7
      refine MPostS.next (_, _, _, _, _) F7 N7 (fm1 (.head _) (fm1 (.tail _ (.head _)) (fm1 (.tail _ (.tail _ (.head _))) (fm1 (.tail _ (.tail _ (.tail _ (.head _)))) fm0)))) (fm1 o1 (fm1 o2 (fm1 o3 fm0))) (fun z hz => ?_) (fm1 rfl fm0) ⟨n1, n2, _, (by rw [fold_step hw9, ← e, hst]), hs9, hG'⟩
      simp only [List.mem_cons, List.not_mem_nil, or_false, not_or] at hz
      simp [hz]
    · exfalso; omega
    · have hsd : sdOf said pre = PySem.Str.ofString "" := if_neg (fun e9 => by have h8 := congrArg List.length e9; simp only [List.length_nil] at h8; omega)
      have hst := gstep_new (ind := ind) hsp hsd (by assumption)
      have hG' := gstep_inv hi hs hgw hw2 hG (wide := wide)
      rw [hst] at hG'
      rename Fr g _ _ _ => F7
      rename News g _ _ _ => N7
      rename StrsAre _ (parts _ _ _ _).1 => h7
      refine MPostS.next (_, _, _, _, _) F7 N7 (fm1 (.tail _ (.tail _ (.head _))) (fm1 (.tail _ (.tail _ (.tail _ (.head _)))) (fm1 (.head _) (fm1 (.tail _ (.tail _ (.tail _ (.tail _ (.tail _ (.head _)))))) fm0)))) (fm1 o1 (fm1 (neN (by omega)) (fm1 o3 fm0))) (fun z hz => ?_) (fm1 rfl fm0) ⟨neN (by omega), neN (by omega), _, (by rw [fold_step hw9, ← e, hst]), (strs_snoc hs9).append' h7, hG'⟩
      simp only [List.mem_cons, List.not_mem_nil, or_false, not_or] at hz
      simp [hz]
    · have hsd : sdOf said pre = PySem.Str.ofString "" := if_neg (fun e9 => by have h8 := congrArg List.length e9; simp only [List.length_nil] at h8; omega)
      have hst := gstep_old (ind := ind) hsd (by assumption)
      have hG' := gstep_inv hi hs hgw hw2 hG (wide := wide)
      rw [hst] at hG'
      rename Fr g _ _ _ => F7
      rename News g _ _ _ => N7
      refine MPostS.next (_, _, _, _, _) F7 N7 (fm1 (.head _) (fm1 (.tail _ (.head _)) (fm1 (.tail _ (.tail _ (.head _))) (fm1 (.tail _ (.tail _ (.tail _ (.head _)))) fm0)))) (fm1 o1 (fm1 o2 (fm1 o3 fm0))) (fun z hz => ?_) (fm1 rfl fm0) ⟨n1, n2, _, (by rw [fold_step hw9, ← e, hst]), hs9, hG'⟩
      simp only [List.mem_cons, List.not_mem_nil, or_false, not_or] at hz
      simp [hz]
  · rintro ⟨R1, rs, last, tl, k⟩ u9 h tk ⟨n1, n2, pre, e, hs9, hG⟩ F1 N1
    dsimp only [setL, stored] at hs9 hG e n1 n2 F1 N1
    clear N9 F9
    k_steps
    rename Fr h₀ L _ _ => kF
    rename News h₀ L _ (_ :: _) => kN
    rename_i kR
    rename News g L' _ _ => N9
    rw [hvl, List.take_length] at e
    have e1 : (gridR ind said wide hdd nm xs).1 = pre := by rw [gridR, ← e]
    have e2 : (gridR ind said wide hdd nm xs).2 = last := by rw [gridR, ← e]
    refine ret R1 rs tl k _ _ (by rw [e1]; exact hs9) kF ?_ (fun p hp e => ?_)
    · rw [e2]
      exact news_cons kN (by k_mem) (off_back1 N hm kN (by k_mem) kR)
    · have h1 := (N9 (R1, _) (by k_mem)).2.2
      by_cases hpn : @Eq Nat p.1 nl
      · exact n1 (hpn.symm.trans e)
      · have h2 := gr p (List.mem_filter.mpr ⟨hp, by simpa using hpn⟩)
        rw [e, h1] at h2
        cases h2
end
end Mine

namespace Mine
open PySem PySem.W PyProof.Rows
theorem fresh_C7 : (hd.heap_39 = hd.heap_39) ∧ PySem.Challenge.rw_aq6041_01 = PySem.Challenge.rw_aq6041_01 := by
  w_top off
  k_with_none
  k_fill
  exact ⟨rfl, rfl⟩
local macro_rules | `(tactic| k_room) => `(tactic| ktr_room)
local macro_rules | `(tactic| units_room) => `(tactic| ((try simp only [units_in1, units_deeper, Around.mark_units, units_caller]); (try dsimp only [ktrTop]); omega))
local macro_rules | `(tactic| walk_at "exec For") => `(tactic| (k_here; (rename Fr _ _ _ _ => lF'); (with_unfolding_all refine' For_invVF lF' ?mzk1 ?mzk2 ?_; (case mzk1 => exact rfl); (case mzk2 => exact rfl); k_whole)))
local macro_rules | `(tactic| walk_at "exec For Name Name cons nil") => `(tactic| (k_here; (rename Fr _ _ _ _ => lF'); (with_unfolding_all refine' For_invVF lF' ?mzk1 ?mzk2 ?_; (case mzk1 => exact rfl); (case mzk2 => exact rfl); k_whole)))
local macro_rules | `(tactic| walk_at "exec For Name Subscript cons nil") => `(tactic| (k_here; (rename Fr _ _ _ _ => lF'); (with_unfolding_all refine' For_invVF lF' ?mzk1 ?mzk2 ?_; (case mzk1 => exact rfl); (case mzk2 => exact rfl); k_whole)))
local macro_rules | `(tactic| walk_at "exec For Name Call cons nil") => `(tactic| (k_here; (rename Fr _ _ _ _ => lF'); (with_unfolding_all refine' For_invVF lF' ?mzk1 ?mzk2 ?_; (case mzk1 => exact rfl); (case mzk2 => exact rfl); k_whole)))
local macro_rules | `(tactic| walk_at "execs nil") => `(tactic| refine wpAny_execs_nil ?_)
local macro_rules | `(tactic| walk_at "pyIter ref") => `(tactic| k_extra "my loop")
local macro_rules | `(tactic| walk_at "exec While") => `(tactic| k_extra "my while")
local macro_rules | `(tactic| walk_at "call builtin:str.split") => `(tactic| (k_here; (with_reducible show wpAny _ _ (call (Value.builtin "str.split") [Value.str _ _, Value.str _ _]) _ _ _); k_dflt (refine' m_splitH ?mzF ?mzN ?mzy ?mzs ?mzz ?_; (case mzF => k_asm); (case mzN => k_asm); (case mzs => with_reducible assumption); (case mzy => decide); (case mzz => omega)); intro D' vs' tu' h' k' hI' hI2' F' N' l1; (try k_lt l1); (try k_sweep)))
local macro_rules | `(tactic| walk_at "call builtin:str.split") => `(tactic| (k_here; (with_reducible show wpAny _ _ (call (Value.builtin "str.split") [Value.str _ _, Value.str _ _]) _ _ _); k_dflt (refine' m_splitT ?mzF ?mzN ?mzy ?mzs ?mzz ?_; (case mzF => k_asm); (case mzN => k_asm); (case mzs => with_reducible assumption); (case mzy => decide); (case mzz => omega)); intro D' vs' tz' h' k' hI' hI2' F' N' l1; (try k_lt l1); (try k_sweep)))
local macro_rules | `(tactic| walk_at "subscriptTail") => `(tactic| (k_here; (with_reducible show wpAny _ _ (subscriptTail _ _ (Value.ref _) (Value.int 0 _)) _ _ _); k_dflt (refine' m_item (k := 0) ?mzN ?mzm ?mzv ?mzk ?_ ?mzs; (case mzN => k_asm); (case mzm => k_mem); (case mzv => rfl); (case mzk => decide); (case mzs => with_unfolding_all rfl))))
local macro_rules | `(tactic| walk_at "subscriptTail Name Constant ref int") => `(tactic| (k_here; (with_reducible show wpAny _ _ (subscriptTail _ _ (Value.ref _) (Value.int 0 _)) _ _ _); k_dflt (refine' m_item (k := 0) ?mzN ?mzm ?mzv ?mzk ?_ ?mzs; (case mzN => k_asm); (case mzm => k_mem); (case mzv => rfl); (case mzk => decide); (case mzs => with_unfolding_all rfl))))
local macro_rules | `(tactic| walk_at "subscriptTail Call Constant ref int") => `(tactic| (k_here; (with_reducible show wpAny _ _ (subscriptTail _ _ (Value.ref _) (Value.int 0 _)) _ _ _); k_dflt (refine' m_item (k := 0) ?mzN ?mzm ?mzv ?mzk ?_ ?mzs; (case mzN => k_asm); (case mzm => k_mem); (case mzv => rfl); (case mzk => decide); (case mzs => with_unfolding_all rfl))))
local macro_rules | `(tactic| walk_at "subscriptTail") => `(tactic| (k_here; (with_reducible show wpAny _ _ (subscriptTail _ _ (Value.ref _) (Value.int (-1) _)) _ _ _); k_dflt (refine' m_last ?mzN ?mzm ?_ ?mzs; (case mzN => k_asm); (case mzm => k_mem); (case mzs => with_unfolding_all rfl))))
local macro_rules | `(tactic| walk_at "subscriptTail Name UnaryOp ref int") => `(tactic| (k_here; (with_reducible show wpAny _ _ (subscriptTail _ _ (Value.ref _) (Value.int (-1) _)) _ _ _); k_dflt (refine' m_last ?mzN ?mzm ?_ ?mzs; (case mzN => k_asm); (case mzm => k_mem); (case mzs => with_unfolding_all rfl))))
local macro_rules | `(tactic| walk_at "subscriptTail Call UnaryOp ref int") => `(tactic| (k_here; (with_reducible show wpAny _ _ (subscriptTail _ _ (Value.ref _) (Value.int (-1) _)) _ _ _); k_dflt (refine' m_last ?mzN ?mzm ?_ ?mzs; (case mzN => k_asm); (case mzm => k_mem); (case mzs => with_unfolding_all rfl))))
local macro_rules | `(tactic| walk_at "subscriptTail") => `(tactic| (k_here; (with_reducible show wpAny _ _ (subscriptTail _ (PySem.Expr.Slice _ _ none _) (Value.ref _) (Value.ref _)) _ _ _); k_dflt (first
  | (refine' kmk_slice_lit ?mzF ?mzN ?mzl ?mzp ?mzq (pick_tail _ _) ?_ ?mzs ?mzt ?mzz; (case mzF => k_asm); (case mzN => k_asm); (case mzl => exact News.isList (by k_asm) (by k_mem)); (case mzp => kmk_part); (case mzq => kmk_part); (case mzs => with_unfolding_all rfl); (case mzt => kmk_pure); (case mzz => (rw [PySem.sizeLine_eq]; (simp only [List.size_toArray, List.length_cons, List.length_append, List.length_nil]); omega)))
  | (refine' kmk_slice_lit ?mzF ?mzN ?mzl ?mzp ?mzq (pick_init _ _) ?_ ?mzs ?mzt ?mzz; (case mzF => k_asm); (case mzN => k_asm); (case mzl => exact News.isList (by k_asm) (by k_mem)); (case mzp => kmk_part); (case mzq => kmk_part); (case mzs => with_unfolding_all rfl); (case mzt => kmk_pure); (case mzz => (rw [PySem.sizeLine_eq]; (simp only [List.size_toArray, List.length_cons, List.length_append, List.length_nil]); omega)))
  | (refine' kmk_slice_lit ?mzF ?mzN ?mzl ?mzp ?mzq (pick_60 _) ?_ ?mzs ?mzt ?mzz; (case mzF => k_asm); (case mzN => k_asm); (case mzl => exact News.isList (by k_asm) (by k_mem)); (case mzp => kmk_part); (case mzq => kmk_part); (case mzs => with_unfolding_all rfl); (case mzt => kmk_pure); (case mzz => (rw [PySem.sizeLine_eq]; (simp only [List.size_toArray, List.length_cons, List.length_append, List.length_nil]); omega)))); intro D' h' F' N' l1; (try k_lt l1); (try k_sweep)))
local macro_rules | `(tactic| walk_at "subscriptTail Name Slice ref ref") => `(tactic| (k_here; (with_reducible show wpAny _ _ (subscriptTail _ (PySem.Expr.Slice _ _ none _) (Value.ref _) (Value.ref _)) _ _ _); k_dflt (first
  | (refine' kmk_slice_lit ?mzF ?mzN ?mzl ?mzp ?mzq (pick_tail _ _) ?_ ?mzs ?mzt ?mzz; (case mzF => k_asm); (case mzN => k_asm); (case mzl => exact News.isList (by k_asm) (by k_mem)); (case mzp => kmk_part); (case mzq => kmk_part); (case mzs => with_unfolding_all rfl); (case mzt => kmk_pure); (case mzz => (rw [PySem.sizeLine_eq]; (simp only [List.size_toArray, List.length_cons, List.length_append, List.length_nil]); omega)))
  | (refine' kmk_slice_lit ?mzF ?mzN ?mzl ?mzp ?mzq (pick_init _ _) ?_ ?mzs ?mzt ?mzz; (case mzF => k_asm); (case mzN => k_asm); (case mzl => exact News.isList (by k_asm) (by k_mem)); (case mzp => kmk_part); (case mzq => kmk_part); (case mzs => with_unfolding_all rfl); (case mzt => kmk_pure); (case mzz => (rw [PySem.sizeLine_eq]; (simp only [List.size_toArray, List.length_cons, List.length_append, List.length_nil]); omega)))
  | (refine' kmk_slice_lit ?mzF ?mzN ?mzl ?mzp ?mzq (pick_60 _) ?_ ?mzs ?mzt ?mzz; (case mzF => k_asm); (case mzN => k_asm); (case mzl => exact News.isList (by k_asm) (by k_mem)); (case mzp => kmk_part); (case mzq => kmk_part); (case mzs => with_unfolding_all rfl); (case mzt => kmk_pure); (case mzz => (rw [PySem.sizeLine_eq]; (simp only [List.size_toArray, List.length_cons, List.length_append, List.length_nil]); omega)))); intro D' h' F' N' l1; (try k_lt l1); (try k_sweep)))
local macro_rules | `(tactic| walk_at "call builtin:list.append") => `(tactic| (k_here; (with_reducible show wpAny _ _ (call (Value.builtin _) [Value.ref _, _]) _ _ _); k_dflt (refine' m_append ?mzF ?mzN ?mzU ?mzz ?_; (case mzF => k_asm); (case mzN => k_asm); (case mzU => k_upd); (case mzz => ((try simp only [List.length_cons, List.length_append, List.length_nil]); omega))); intro h' F' N'; (try k_sweep)))
local macro_rules | `(tactic| walk_at "setItem ref int") => `(tactic| (k_here; (with_reducible show wpAny _ _ (setItem (Value.ref _) (Value.int (-1) _) _) _ _ _); k_dflt (refine' m_setLast ?mzF ?mzN ?mzU ?_; (case mzF => k_asm); (case mzN => k_asm); (case mzU => k_upd)); intro h' F' N'; (try k_sweep)))
local macro_rules | `(tactic| walk_at "call builtin:list.pop") => `(tactic| (k_here; (with_reducible show wpAny _ _ (call (Value.builtin _) [Value.ref _, Value.int 0 _]) _ _ _); k_dflt (refine' m_pop0 ?mzF ?mzN ?mzU ?mzz ?_; (case mzF => k_asm); (case mzN => k_asm); (case mzU => k_upd); (case mzz => omega)); intro h' F' N'; (try dsimp only [List.nil_append, List.cons_append] at N')))
local macro_rules | `(tactic| walk_at "call builtin:str.join") => `(tactic| (k_here; (with_reducible show wpAny _ _ (call (Value.builtin _) [Value.str _ _, Value.ref _]) _ _ _); k_dflt (refine' m_join ?mzN ?mzm ?mzi ?mzz ?mzw ?_; (case mzN => k_asm); (case mzm => k_mem); (case mzi => with_reducible assumption); (case mzz => decide); (case mzw => first | assumption | omega)); intro t' k'))
local macro_rules | `(tactic| walk_at "call ref") => `(tactic| (k_here; (with_reducible show wpAny _ _ (call (Value.ref 29) [Value.ref _, Value.str _ _] _) _ _ _); (k_dflt show wpAny _ _ (call (Value.ref 29) [Value.ref _, Value.str _ _] [(PySem.Str.ofString "removed", Value.bool _), (PySem.Str.ofString "comment_prefix", Value.str _ _)]) _ _ _); (k_dflt (refine' addto_spec ?k1 ?k2 ?k3 ?k4 ?k5 ?mzhc ?mzho ?mzhk ?mzhf ?mzhl ?mzhp ?mzhd ?mzhu ?_; (case k1 => k_asm); (case k2 => k_asm); (case k3 => k_asm); (case k4 => k_asm); (case k5 => k_asm); (case mzhc => k_mem); (case mzho => with_reducible assumption); (case mzhk => assumption); (case mzhf => assumption); (case mzhl => (first | omega | decide +kernel)); (case mzhp => assumption); (case mzhd => ktr_room); (case mzhu => ktr_units); k_whole)); intro t9 h9 tk9 F9 N9; (try dsimp only); (try k_fold)))

theorem len_c : (PySem.Str.ofString ",").length = 1 := by decide +kernel
theorem len_n : (PySem.Str.ofString "\n").length = 1 := by decide +kernel
local macro_rules | `(tactic| walk_at "call builtin:str.join") => `(tactic| (k_here; (with_reducible show wpAny _ _ (call (Value.builtin _) [Value.str _ _, Value.ref _]) _ _ _); k_dflt (refine' m_join ?mzN ?mzm ?mzi ?mzz ?mzw ?_; (case mzN => k_asm); (case mzm => k_mem); (case mzi => with_reducible assumption); (case mzz => first | decide | (simp only [Str.length_append, len_c, len_n]; omega)); (case mzw => first | assumption | omega)); intro t' k'))
def vhiText (hdd ind lwc : Str) (tc : Bool) (xs : List Str) : Str := hdd ++ PySem.Str.ofString "(" ++ lwc ++ PySem.Str.ofString "\n" ++ ind ++ Txt.join (PySem.Str.ofString ",\n" ++ ind) xs ++ (if tc = true then PySem.Str.ofString "," else PySem.Str.ofString "") ++ PySem.Str.ofString "\n" ++ PySem.Str.ofString ")"
theorem off_back2 {h₀ h h' : Heap} {L a b : Addr} {oa ob : Obj} {news all : Led} (N : News h₀ L h news) (ha : (a, oa) ∈ news) (hb : (b, ob) ∈ news) (kN : News h₀ L h' all) (ma : (a, oa) ∈ all) (mb : (b, ob) ∈ all) (Nr : News h₀ L h' (off [a, b] news)) : News h₀ L h' news := off_back N Nr fun p hp hm' => by
  have e2 := (N p hp).1
  rcases List.mem_cons.mp hm' with e1 | hm'
  · have e3 := (N _ ha).1
    have e4 := (kN _ ma).1
    rw [e1] at e2 ⊢
    exact e4.trans (e3.symm.trans e2)
  · have e1 := List.mem_singleton.mp hm'
    have e3 := (N _ hb).1
    have e4 := (kN _ mb).1
    rw [e1] at e2 ⊢
    exact e4.trans (e3.symm.trans e2)
theorem addTo_len {k : Nat} {rm : Bool} {pfx line : Str} {N : Nat} (hp : pfx.length ≤ 10) (hl : line.length ≤ N) : (addTo k rm pfx line).length ≤ N + 20 := by
  have h1 : (cmtText k).length ≤ 8 := by
    unfold cmtText
    split <;> decide +kernel
  have h2 : (PySem.Str.ofString " ").length = 1 := by decide +kernel
  unfold addTo
  split
  · omega
  · simp only [Str.length_append]
    omega
theorem vjoin_len {ind : Str} {xs : List Str} (hx : xs.length ≤ 11) (hg : ∀ x ∈ xs, GoodNm x) (hi : ind.length ≤ 10) : (Txt.join (PySem.Str.ofString ",\n" ++ ind) xs).length ≤ 1000 := by
  show (Builtin.Str.glued _ _).length ≤ _
  rw [StrLaws.glued_eq_join]
  have := join_len (sep := PySem.Str.ofString ",\n" ++ ind) fun x h => (hg x h).2
  have h2 : (PySem.Str.ofString ",\n").length = 2 := by decide +kernel
  rw [Str.length_append, h2] at this
  have h3 := Nat.mul_le_mul hx (show 30 + (2 + ind.length) ≤ 42 by omega)
  omega
section
variable {w : World} {mean : ExcName → Option Value} {mg mb : Str → Option Value} {dp un : Nat} {gd : Option (List Code)} {cn : Str} {nms : List (Str × NameKind)} {b1 b2 : Bool} {mo : List (Str × Const)} {L a : Addr} {ccd : Value} {cl : List (Str × Addr)} {outer : List Env}
   {A₀ : Around} {base h₀ : Heap} {m : Str → Option Value} {news : Led} {s : Shared} {Q E : Value → Shared → Prop}
theorem vhi_spec {il c : Addr} {o : Obj} {n0 k : Nat} {vs : List Value} {hdd ind pfx : Str} {wide : Int} {tc rm : Bool} {t1 t2 t3 t4 t5 t6 : Tok} {xs : List Str}
   (B : Below A₀ base outer h₀) (F : Fr h₀ L s.heap m) (X : (hd.heap_39 w.params).In h₀) (N : News h₀ L s.heap news) (T : TopX mean mg mb h₀)
   (hm : (il, W.listOf vs.toArray n0) ∈ news) (hc : (c, o) ∈ news) (ho : CmtObj k o) (hk : k < 4) (hv : StrsAre vs xs) (hg : ∀ x ∈ xs, GoodNm x) (hx : xs.length ≤ 11) (hh : hdd.length ≤ 20) (hi : ind.length ≤ 10) (hp : pfx.length ≤ 10)
   (hd : dp + 3 < recursionLimit) (hu : un + 350 < cLine)
   (ret : ∀ t h' tk', Fr h₀ L h' m → News h₀ L h' news → Q (.str (vhiText hdd ind (addTo k rm pfx (PySem.Str.ofString "")) tc xs) t) {s with heap := h', toks := tk'}) :
   wpAny (model prg w) (ktrTop dp un gd cn (fsc nms b1 b2 mo) L a ccd cl outer) (call (.ref 50) [] [(PySem.Str.ofString "statement", .str hdd t1), (PySem.Str.ofString "imports", .ref il), (PySem.Str.ofString "white_space", .str ind t2), (PySem.Str.ofString "indent", .str ind t3), (PySem.Str.ofString "line_length", .int wide t4), (PySem.Str.ofString "comments", .ref c), (PySem.Str.ofString "line_separator", .str (PySem.Str.ofString "\n") t5), (PySem.Str.ofString "comment_prefix", .str pfx t6), (PySem.Str.ofString "include_trailing_comma", .bool tc), (PySem.Str.ofString "remove_comments", .bool rm)]) Q E s := by
  have ret' : ∀ x t h' tk', x = vhiText hdd ind (addTo k rm pfx (PySem.Str.ofString "")) tc xs → Fr h₀ L h' m → News h₀ L h' news → Q (.str x t) {s with heap := h', toks := tk'} := fun x t h' tk' e => by
    subst e
    exact ret t h' tk'
  clear ret
  have hjl := Nat.le_trans (Nat.add_le_add (StrLaws.sumLen_le xs fun x h => (hg x h).2) (Nat.le_refl xs.length)) (show xs.length * 30 + xs.length ≤ 1048576 by omega)
  have hvl := hv.len_eq
  have hal := addTo_len (k := k) (rm := rm) (line := PySem.Str.ofString "") (N := 0) hp (by decide +kernel)
  have hjn := vjoin_len hx hg hi
  have hf9 : rm = true ∨ k ≠ 0 → Txt.find (PySem.Str.ofString "") (PySem.Str.ofString "#") = -1 := fun _ => by decide +kernel
  refine wpAny_call ?_
  k_dflt (refine' m_more (ex := [(PySem.Str.ofString "statement", .str hdd t1), (PySem.Str.ofString "imports", .ref il), (PySem.Str.ofString "white_space", .str ind t2), (PySem.Str.ofString "indent", .str ind t3), (PySem.Str.ofString "line_length", .int wide t4), (PySem.Str.ofString "comments", .ref c), (PySem.Str.ofString "line_separator", .str (PySem.Str.ofString "\n") t5), (PySem.Str.ofString "comment_prefix", .str pfx t6), (PySem.Str.ofString "include_trailing_comma", .bool tc), (PySem.Str.ofString "remove_comments", .bool rm)]) (front := []) (nm := PySem.Str.ofString "interface") (expl := [(il, W.listOf vs.toArray n0), (c, o)]) (rest := off [il, c] news) B F X (news_sub N (fm1 hm (fm1 hc fm0))) (off_news N) (off_apart) T ?kA ?kF ?kK ?k6 ?k7 ?k8 ?kN ?kP ?kT ?kB ?_ ?c2 ?c3 ?c4 ?c5; (case kA => exact rfl); (case kF => exact rfl); (case kK => exact rfl); (case k6 => k_is); (case k7 => k_is); (case k8 => ktr_room); (case kN => exact rfl); (case kP => exact rfl); (case kT => exact fun _ => rfl); (case kB => exact fun _ => locs rfl); (case c5 => decide); (case c2 => exact rfl); (case c3 => exact rfl); (case c4 => exact rfl); k_whole)
  intro D O g L' h₁ tk0 lD lo hO gr FG F' N' B' X' T'
  (try k_lt lD)
  (try dsimp only)
  (try k_lift B')
  (try k_fold)
  k_with_none
  k_with "my loop" => refine haltI ?_
  k_with "my comp" => refine haltI ?_
  k_with "my while" => refine haltI ?_

  k_steps
  all_goals (rename Fr h₀ L _ _ => kF; rename News h₀ L _ (_ :: _) => kN; rename_i kR; refine ret' _ _ _ _ ?_ kF (off_back2 N hm hc kN (by k_mem) (by k_mem) kR))
  · rename tc = true => htc
    subst htc
    exact (congrArg (· ++ PySem.Str.ofString "(" ++ addTo k rm pfx (PySem.Str.ofString "") ++ PySem.Str.ofString "
" ++ ind ++ Txt.join (PySem.Str.ofString ",
" ++ ind) xs ++ PySem.Str.ofString "," ++ PySem.Str.ofString "
" ++ PySem.Str.ofString ")") (Str.empty_append hdd))
  · rename tc = false => htc
    subst htc
    exact (congrArg (· ++ PySem.Str.ofString "(" ++ addTo k rm pfx (PySem.Str.ofString "") ++ PySem.Str.ofString "
" ++ ind ++ Txt.join (PySem.Str.ofString ",
" ++ ind) xs ++ PySem.Str.ofString "" ++ PySem.Str.ofString "
" ++ PySem.Str.ofString ")") (Str.empty_append hdd))
end
end Mine

namespace Mine
open PySem PySem.W PyProof.Rows
theorem fresh_C8 : (hd.heap_39 = hd.heap_39) ∧ PySem.Challenge.rw_aq6041_01 = PySem.Challenge.rw_aq6041_01 := by
  w_top off
  k_with_none
  k_fill
  exact ⟨rfl, rfl⟩
local macro_rules | `(tactic| k_room) => `(tactic| ktr_room)
local macro_rules | `(tactic| units_room) => `(tactic| ((try simp only [units_in1, units_deeper, Around.mark_units, units_caller]); (try dsimp only [ktrTop]); omega))
local macro_rules | `(tactic| walk_at "exec For") => `(tactic| (k_here; (rename Fr _ _ _ _ => lF'); (with_unfolding_all refine' For_invVF lF' ?mzk1 ?mzk2 ?_; (case mzk1 => exact rfl); (case mzk2 => exact rfl); k_whole)))
local macro_rules | `(tactic| walk_at "exec For Name Name cons nil") => `(tactic| (k_here; (rename Fr _ _ _ _ => lF'); (with_unfolding_all refine' For_invVF lF' ?mzk1 ?mzk2 ?_; (case mzk1 => exact rfl); (case mzk2 => exact rfl); k_whole)))
local macro_rules | `(tactic| walk_at "exec For Name Subscript cons nil") => `(tactic| (k_here; (rename Fr _ _ _ _ => lF'); (with_unfolding_all refine' For_invVF lF' ?mzk1 ?mzk2 ?_; (case mzk1 => exact rfl); (case mzk2 => exact rfl); k_whole)))
local macro_rules | `(tactic| walk_at "exec For Name Call cons nil") => `(tactic| (k_here; (rename Fr _ _ _ _ => lF'); (with_unfolding_all refine' For_invVF lF' ?mzk1 ?mzk2 ?_; (case mzk1 => exact rfl); (case mzk2 => exact rfl); k_whole)))
local macro_rules | `(tactic| walk_at "execs nil") => `(tactic| refine wpAny_execs_nil ?_)
local macro_rules | `(tactic| walk_at "pyIter ref") => `(tactic| k_extra "my loop")
local macro_rules | `(tactic| walk_at "exec While") => `(tactic| k_extra "my while")
local macro_rules | `(tactic| walk_at "call builtin:str.split") => `(tactic| (k_here; (with_reducible show wpAny _ _ (call (Value.builtin "str.split") [Value.str _ _, Value.str _ _]) _ _ _); k_dflt (refine' m_splitH ?mzF ?mzN ?mzy ?mzs ?mzz ?_; (case mzF => k_asm); (case mzN => k_asm); (case mzs => with_reducible assumption); (case mzy => decide); (case mzz => omega)); intro D' vs' tu' h' k' hI' hI2' F' N' l1; (try k_lt l1); (try k_sweep)))
local macro_rules | `(tactic| walk_at "call builtin:str.split") => `(tactic| (k_here; (with_reducible show wpAny _ _ (call (Value.builtin "str.split") [Value.str _ _, Value.str _ _]) _ _ _); k_dflt (refine' m_splitT ?mzF ?mzN ?mzy ?mzs ?mzz ?_; (case mzF => k_asm); (case mzN => k_asm); (case mzs => with_reducible assumption); (case mzy => decide); (case mzz => omega)); intro D' vs' tz' h' k' hI' hI2' F' N' l1; (try k_lt l1); (try k_sweep)))
local macro_rules | `(tactic| walk_at "subscriptTail") => `(tactic| (k_here; (with_reducible show wpAny _ _ (subscriptTail _ _ (Value.ref _) (Value.int 0 _)) _ _ _); k_dflt (refine' m_item (k := 0) ?mzN ?mzm ?mzv ?mzk ?_ ?mzs; (case mzN => k_asm); (case mzm => k_mem); (case mzv => rfl); (case mzk => decide); (case mzs => with_unfolding_all rfl))))
local macro_rules | `(tactic| walk_at "subscriptTail Name Constant ref int") => `(tactic| (k_here; (with_reducible show wpAny _ _ (subscriptTail _ _ (Value.ref _) (Value.int 0 _)) _ _ _); k_dflt (refine' m_item (k := 0) ?mzN ?mzm ?mzv ?mzk ?_ ?mzs; (case mzN => k_asm); (case mzm => k_mem); (case mzv => rfl); (case mzk => decide); (case mzs => with_unfolding_all rfl))))
local macro_rules | `(tactic| walk_at "subscriptTail Call Constant ref int") => `(tactic| (k_here; (with_reducible show wpAny _ _ (subscriptTail _ _ (Value.ref _) (Value.int 0 _)) _ _ _); k_dflt (refine' m_item (k := 0) ?mzN ?mzm ?mzv ?mzk ?_ ?mzs; (case mzN => k_asm); (case mzm => k_mem); (case mzv => rfl); (case mzk => decide); (case mzs => with_unfolding_all rfl))))
local macro_rules | `(tactic| walk_at "subscriptTail") => `(tactic| (k_here; (with_reducible show wpAny _ _ (subscriptTail _ _ (Value.ref _) (Value.int (-1) _)) _ _ _); k_dflt (refine' m_last ?mzN ?mzm ?_ ?mzs; (case mzN => k_asm); (case mzm => k_mem); (case mzs => with_unfolding_all rfl))))
local macro_rules | `(tactic| walk_at "subscriptTail Name UnaryOp ref int") => `(tactic| (k_here; (with_reducible show wpAny _ _ (subscriptTail _ _ (Value.ref _) (Value.int (-1) _)) _ _ _); k_dflt (refine' m_last ?mzN ?mzm ?_ ?mzs; (case mzN => k_asm); (case mzm => k_mem); (case mzs => with_unfolding_all rfl))))
local macro_rules | `(tactic| walk_at "subscriptTail Call UnaryOp ref int") => `(tactic| (k_here; (with_reducible show wpAny _ _ (subscriptTail _ _ (Value.ref _) (Value.int (-1) _)) _ _ _); k_dflt (refine' m_last ?mzN ?mzm ?_ ?mzs; (case mzN => k_asm); (case mzm => k_mem); (case mzs => with_unfolding_all rfl))))
local macro_rules | `(tactic| walk_at "subscriptTail") => `(tactic| (k_here; (with_reducible show wpAny _ _ (subscriptTail _ (PySem.Expr.Slice _ _ none _) (Value.ref _) (Value.ref _)) _ _ _); k_dflt (first
  | (refine' kmk_slice_lit ?mzF ?mzN ?mzl ?mzp ?mzq (pick_tail _ _) ?_ ?mzs ?mzt ?mzz; (case mzF => k_asm); (case mzN => k_asm); (case mzl => exact News.isList (by k_asm) (by k_mem)); (case mzp => kmk_part); (case mzq => kmk_part); (case mzs => with_unfolding_all rfl); (case mzt => kmk_pure); (case mzz => (rw [PySem.sizeLine_eq]; (simp only [List.size_toArray, List.length_cons, List.length_append, List.length_nil]); omega)))
  | (refine' kmk_slice_lit ?mzF ?mzN ?mzl ?mzp ?mzq (pick_init _ _) ?_ ?mzs ?mzt ?mzz; (case mzF => k_asm); (case mzN => k_asm); (case mzl => exact News.isList (by k_asm) (by k_mem)); (case mzp => kmk_part); (case mzq => kmk_part); (case mzs => with_unfolding_all rfl); (case mzt => kmk_pure); (case mzz => (rw [PySem.sizeLine_eq]; (simp only [List.size_toArray, List.length_cons, List.length_append, List.length_nil]); omega)))
  | (refine' kmk_slice_lit ?mzF ?mzN ?mzl ?mzp ?mzq (pick_60 _) ?_ ?mzs ?mzt ?mzz; (case mzF => k_asm); (case mzN => k_asm); (case mzl => exact News.isList (by k_asm) (by k_mem)); (case mzp => kmk_part); (case mzq => kmk_part); (case mzs => with_unfolding_all rfl); (case mzt => kmk_pure); (case mzz => (rw [PySem.sizeLine_eq]; (simp only [List.size_toArray, List.length_cons, List.length_append, List.length_nil]); omega)))); intro D' h' F' N' l1; (try k_lt l1); (try k_sweep)))
local macro_rules | `(tactic| walk_at "subscriptTail Name Slice ref ref") => `(tactic| (k_here; (with_reducible show wpAny _ _ (subscriptTail _ (PySem.Expr.Slice _ _ none _) (Value.ref _) (Value.ref _)) _ _ _); k_dflt (first
  | (refine' kmk_slice_lit ?mzF ?mzN ?mzl ?mzp ?mzq (pick_tail _ _) ?_ ?mzs ?mzt ?mzz; (case mzF => k_asm); (case mzN => k_asm); (case mzl => exact News.isList (by k_asm) (by k_mem)); (case mzp => kmk_part); (case mzq => kmk_part); (case mzs => with_unfolding_all rfl); (case mzt => kmk_pure); (case mzz => (rw [PySem.sizeLine_eq]; (simp only [List.size_toArray, List.length_cons, List.length_append, List.length_nil]); omega)))
  | (refine' kmk_slice_lit ?mzF ?mzN ?mzl ?mzp ?mzq (pick_init _ _) ?_ ?mzs ?mzt ?mzz; (case mzF => k_asm); (case mzN => k_asm); (case mzl => exact News.isList (by k_asm) (by k_mem)); (case mzp => kmk_part); (case mzq => kmk_part); (case mzs => with_unfolding_all rfl); (case mzt => kmk_pure); (case mzz => (rw [PySem.sizeLine_eq]; (simp only [List.size_toArray, List.length_cons, List.length_append, List.length_nil]); omega)))
  | (refine' kmk_slice_lit ?mzF ?mzN ?mzl ?mzp ?mzq (pick_60 _) ?_ ?mzs ?mzt ?mzz; (case mzF => k_asm); (case mzN => k_asm); (case mzl => exact News.isList (by k_asm) (by k_mem)); (case mzp => kmk_part); (case mzq => kmk_part); (case mzs => with_unfolding_all rfl); (case mzt => kmk_pure); (case mzz => (rw [PySem.sizeLine_eq]; (simp only [List.size_toArray, List.length_cons, List.length_append, List.length_nil]); omega)))); intro D' h' F' N' l1; (try k_lt l1); (try k_sweep)))
local macro_rules | `(tactic| walk_at "call builtin:list.append") => `(tactic| (k_here; (with_reducible show wpAny _ _ (call (Value.builtin _) [Value.ref _, _]) _ _ _); k_dflt (refine' m_append ?mzF ?mzN ?mzU ?mzz ?_; (case mzF => k_asm); (case mzN => k_asm); (case mzU => k_upd); (case mzz => ((try simp only [List.length_cons, List.length_append, List.length_nil]); omega))); intro h' F' N'; (try k_sweep)))
local macro_rules | `(tactic| walk_at "setItem ref int") => `(tactic| (k_here; (with_reducible show wpAny _ _ (setItem (Value.ref _) (Value.int (-1) _) _) _ _ _); k_dflt (refine' m_setLast ?mzF ?mzN ?mzU ?_; (case mzF => k_asm); (case mzN => k_asm); (case mzU => k_upd)); intro h' F' N'; (try k_sweep)))
local macro_rules | `(tactic| walk_at "call builtin:list.pop") => `(tactic| (k_here; (with_reducible show wpAny _ _ (call (Value.builtin _) [Value.ref _, Value.int 0 _]) _ _ _); k_dflt (refine' m_pop0 ?mzF ?mzN ?mzU ?mzz ?_; (case mzF => k_asm); (case mzN => k_asm); (case mzU => k_upd); (case mzz => omega)); intro h' F' N'; (try dsimp only [List.nil_append, List.cons_append] at N')))
local macro_rules | `(tactic| walk_at "call builtin:str.join") => `(tactic| (k_here; (with_reducible show wpAny _ _ (call (Value.builtin _) [Value.str _ _, Value.ref _]) _ _ _); k_dflt (refine' m_join ?mzN ?mzm ?mzi ?mzz ?mzw ?_; (case mzN => k_asm); (case mzm => k_mem); (case mzi => with_reducible assumption); (case mzz => decide); (case mzw => first | assumption | omega)); intro t' k'))
local macro_rules | `(tactic| walk_at "call ref") => `(tactic| (k_here; (with_reducible show wpAny _ _ (call (Value.ref 29) [Value.ref _, Value.str _ _] _) _ _ _); (k_dflt show wpAny _ _ (call (Value.ref 29) [Value.ref _, Value.str _ _] [(PySem.Str.ofString "removed", Value.bool _), (PySem.Str.ofString "comment_prefix", Value.str _ _)]) _ _ _); (k_dflt (refine' addto_spec ?k1 ?k2 ?k3 ?k4 ?k5 ?mzhc ?mzho ?mzhk ?mzhf ?mzhl ?mzhp ?mzhd ?mzhu ?_; (case k1 => k_asm); (case k2 => k_asm); (case k3 => k_asm); (case k4 => k_asm); (case k5 => k_asm); (case mzhc => k_mem); (case mzho => with_reducible assumption); (case mzhk => assumption); (case mzhf => assumption); (case mzhl => (first | omega | decide +kernel)); (case mzhp => assumption); (case mzhd => ktr_room); (case mzhu => ktr_units); k_whole)); intro t9 h9 tk9 F9 N9; (try dsimp only); (try k_fold)))

def MPostW {σ : Type} (h₀ : Heap) (L : Addr) (s : Shared) (ys : List Str) (m₀ : Str → Option Value) (G : σ → Led) (P : Nat → σ → Prop) (n : Nat) (f : Flow) (s₃ : Shared) : Prop :=
  f = .next ∧ ∃ h' tk m' n' c', s₃ = { s with heap := h', toks := tk } ∧ Fr h₀ L h' m' ∧ News h₀ L h' (G c') ∧ n' < n ∧ (∀ z, z ∉ ys → m' z = m₀ z) ∧ P n' c'
theorem MPostW.next {σ : Type} {h₀ : Heap} {L : Addr} {s : Shared} {ys : List Str} {m₀ : Str → Option Value} {G : σ → Led} {P : Nat → σ → Prop} {n : Nat} {h' : Heap} {tk : Nat} {m' : Str → Option Value} {all : Led} (n' : Nat) (c' : σ)
    (F : Fr h₀ L h' m') (N : News h₀ L h' all) (sub : ∀ p ∈ G c', p ∈ all) (hn : n' < n) (st : ∀ z, z ∉ ys → m' z = m₀ z) (hp : P n' c') : MPostW h₀ L s ys m₀ G P n .next { s with heap := h', toks := tk } :=
  ⟨rfl, h', tk, m', n', c', rfl, F, news_sub N sub, hn, st, hp⟩
section
variable {prog : Program} {w : World} {A : Around} {E : Value → Shared → Prop} {s : Shared} {env : Env} {h₀ : Heap} {L : Addr} {test : PySem.Expr} {body : List Stmt} {Q : Flow → Shared → Prop} {m₀ : Str → Option Value} {pos : Pos}
theorem m_while {σ : Type} (ys : List Str) (G : σ → Led) (P : Nat → σ → Prop) (n₀ : Nat) (c₀ : σ) (F : Fr h₀ L s.heap m₀) (N : News h₀ L s.heap (G c₀)) (h0 : P n₀ c₀)
    (turn : ∀ n c u h tk, P n c → Fr h₀ L h (stored ys u m₀) → News h₀ L h (G c) →
      wpAny (model prog w) A (isTrue test env (eval test env)) (fun b s₂ => WhlIf b (wpAny (model prog w) A (execs body env) (MPostW h₀ L s ys m₀ G P n) E s₂) (Q .next s₂)) E { s with heap := h, toks := tk })
    (hE : PassesOwn (model prog w) A env E) : wpAny (model prog w) A (exec (.While test body [] pos) env) Q E s := by
  refine While_inv (fun n m nw => ∃ c, m = stored ys m m₀ ∧ nw = G c ∧ P n c) F N ⟨c₀, (stored_of fun _ _ => rfl).symm, rfl, h0⟩ ?_ hE
  rintro n m₁ nw h₁ tk₁ F₁ N₁ ⟨c, e, rfl, hp⟩
  rw [e] at F₁
  refine wpAny_mono (turn n c m₁ h₁ tk₁ hp F₁ N₁) (fun b s₂ q => ?_) fun _ _ e => e
  cases b with
  | false => exact q
  | true =>
    refine wpAny_mono q (fun f s₃ q => ?_) fun _ _ e => e
    obtain ⟨e1, h', tk', m', n', c', e2, F', N', hn, st, hp'⟩ := q
    exact ⟨e1, h', tk', m', _, n', e2, F', N', hn, c', (stored_of st).symm, rfl, hp'⟩
end

section
variable {prog : Program} {w : World} {A : Around} {E : Value → Shared → Prop} {s : Shared} {h₀ : Heap} {L D : Addr} {news : Led} {n : Nat}
theorem m_truthC {v : Value} {vs : List Value} {Q : Bool → Shared → Prop} (N : News h₀ L s.heap news) (hm : (D, W.listOf (v :: vs).toArray n) ∈ news) (hz : vs.length ≤ 2000) (h : Q true { s with toks := s.toks + 1 + 1 }) : wpAny (model prog w) A (truthy (.ref D)) Q E s :=
  wpAny_truthy_list (News.isList N hm) (by simp; omega) (by simpa using h)
theorem m_truthN {Q : Bool → Shared → Prop} (N : News h₀ L s.heap news) (hm : (D, W.listOf [].toArray n) ∈ news) (h : Q false { s with toks := s.toks + 1 + 1 }) : wpAny (model prog w) A (truthy (.ref D)) Q E s :=
  wpAny_truthy_list (News.isList N hm) (by simp) (by simpa using h)
end
local macro_rules | `(tactic| walk_at "truthy ref") => `(tactic| (k_here; (with_reducible show wpAny _ _ (truthy (Value.ref _)) _ _ _); k_dflt (first | (refine' m_truthC ?mzN ?mzm ?mzz ?_; (case mzN => k_asm); (case mzm => k_mem); (case mzz => omega)) | (refine' m_truthN ?mzN ?mzm ?_; (case mzN => k_asm); (case mzm => k_mem)))))

local macro_rules | `(tactic| walk_at "subscriptTail") => `(tactic| (k_here; (with_reducible show wpAny _ _ (subscriptTail _ _ (Value.ref _) (Value.str _ _)) _ _ _); k_dflt (refine kda_item (knd := PySem.strKind _ _) (by k_asm) (by k_mem) (by k_asm) (strKind_is _ _ _ _) (by rfl) ?_); (try dsimp only)))
def saidOf (k : Nat) (rm : Bool) (pfx : Str) : Str := if (rm || k == 0) = true then PySem.Str.ofString "" else pfx ++ PySem.Str.ofString " " ++ cmtText k
theorem app_none (x : Str) : x ++ PySem.Str.ofString "" = x := Str.append_empty x
theorem addTo_said (k : Nat) (rm : Bool) (pfx line : Str) : addTo k rm pfx line = line ++ saidOf k rm pfx := by
  unfold addTo saidOf
  split
  · exact (app_none line).symm
  · simp only [Str.append_assoc]

theorem join_free {d : Nat} {sep : Str} (hs : Free d sep) : ∀ {rows : List Str}, (∀ r ∈ rows, Free d r) → Free d (Str.join sep rows)
  | [], _ => fun h => by simp [Str.join, Str.empty] at h
  | [x], h => h x (.head _)
  | x :: y :: r, h => free_app (free_app (h x (.head _)) hs) (join_free (rows := y :: r) hs fun z hz => h z (.tail _ hz))
theorem said_sd {k kA : Nat} {rm : Bool} {pfx : Str} {pre : List Str} (h : kA = if pre = [] then k else 0) : saidOf kA rm pfx = sdOf (saidOf k rm pfx) pre := by
  unfold sdOf
  split
  · rename_i e
    rw [h, if_pos e]
  · rename_i e
    rw [h, if_neg e]
    simp [saidOf]
theorem g_join {k kA : Nat} {rm : Bool} {pfx st last sd : Str} {pre pp : List Str} {lst : Str} (hkE : kA = if pre = [] then k else 0) (hsd : sdOf (saidOf k rm pfx) pre = sd) (hst : st = Str.join (PySem.Str.ofString "
") (pre ++ [last])) :
    addTo kA rm pfx (Str.empty ++ st ++ PySem.Str.ofString ",") ++ (Str.empty ++ PySem.Str.ofString "
" ++ Txt.join (PySem.Str.ofString "
") (pp ++ [lst])) = Str.join (PySem.Str.ofString "
") ((pre ++ [last ++ PySem.Str.ofString "," ++ sd] ++ pp) ++ [lst]) := by
  rw [addTo_said, Str.empty_append, Str.empty_append, said_sd hkE, hsd, hst, join_snoc, join_snoc, show Txt.join (PySem.Str.ofString "
") (pp ++ [lst]) = Str.join (PySem.Str.ofString "
") (pp ++ [lst]) from StrLaws.glued_eq_join _ _, List.append_assoc (pre ++ _), join_app (a := pre ++ [last ++ PySem.Str.ofString "," ++ sd]) (by simp) (by simp), Str.append_assoc (Str.join _ (pre ++ _))]
theorem rows_sum {pp : List Str} {lst : Str} (h1 : pp.length ≤ 30) (h2 : ∀ x ∈ pp, Row 1000 x) (h3 : Row 1000 lst) : ((pp ++ [lst]).map (·.length)).sum + (pp ++ [lst]).length ≤ 1048576 ∧ (Txt.join (PySem.Str.ofString "
") (pp ++ [lst])).length ≤ 40000 := by
  have hB : ∀ y ∈ pp ++ [lst], y.length ≤ 1000 := fun y hy => by
    rcases List.mem_append.mp hy with hy | hy
    · exact (h2 y hy).2.2
    · rw [List.mem_singleton.mp hy]
      exact h3.2.2
  have h4 := StrLaws.sumLen_le _ hB
  have h5 := join_len (sep := PySem.Str.ofString "
") hB
  have h6 : (pp ++ [lst]).length ≤ 31 := by simp; omega
  have h7 : (PySem.Str.ofString "
").length = 1 := by decide +kernel
  rw [h7] at h5
  rw [show Txt.join (PySem.Str.ofString "
") (pp ++ [lst]) = Str.join (PySem.Str.ofString "
") (pp ++ [lst]) from StrLaws.glued_eq_join _ _]
  constructor <;> omega
theorem grid_off {h₀ h h' : Heap} {L il c : Addr} {oi oc o : Obj} {news all : Led} {g1 : Obj → Led} (N : News h₀ L h news) (hc : (c, oc) ∈ news) (hgm : ∀ p, p ∈ g1 oi → p = (il, oi) ∨ p ∈ news ∧ p.1 ≠ il) (kN : News h₀ L h' all) (mi : (il, oi) ∈ all) (mc : (c, oc) ∈ all) (Nr : News h₀ L h' (off [il, c] news)) : News h₀ L h' (g1 oi) := fun p hp => by
  rcases hgm p hp with rfl | ⟨hm, hn⟩
  · exact kN _ mi
  · by_cases e : p.1 = c
    · have e2 := (N p hm).1
      have e3 := (N _ hc).1
      have e4 := kN _ mc
      rw [← e] at e3 e4
      refine ⟨?_, (N p hm).2⟩
      exact e4.1.trans (e3.symm.trans e2)
    · exact Nr p (List.mem_filter.mpr ⟨hm, by simp [hn, e]⟩)
structure GFacts (rm : Bool) (kA : Nat) (said pfx st x last : Str) (pre : List Str) : Prop where
  f1 : rm = true ∨ kA ≠ 0 → Txt.find (st ++ PySem.Str.ofString ", " ++ x) (PySem.Str.ofString "#") = -1
  f2 : rm = true ∨ kA ≠ 0 → Txt.find (Str.empty ++ st ++ PySem.Str.ofString ",") (PySem.Str.ofString "#") = -1
  l0 : st.length ≤ 400000
  l1 : (addTo kA rm pfx (st ++ PySem.Str.ofString ", " ++ x)).length ≤ 500000
  l3 : (Str.empty ++ st ++ PySem.Str.ofString ",").length ≤ 400100
  l2 : (addTo kA rm pfx (Str.empty ++ st ++ PySem.Str.ofString ",")).length ≤ 500000
  sp : Txt.split (addTo kA rm pfx (st ++ PySem.Str.ofString ", " ++ x)) (PySem.Str.ofString "
") = pre ++ [last ++ PySem.Str.ofString ", " ++ x ++ sdOf said pre]
theorem g_facts {k kA i : Nat} {rm : Bool} {pfx st x last : Str} {pre : List Str} (hG : GInv rm i (pre, last)) (hi : i ≤ 11) (hx : GoodNm x) (hp : pfx.length ≤ 10) (hs : SaidOk rm (saidOf k rm pfx)) (hk : kA = if pre = [] then k else 0) (hst : st = Str.join (PySem.Str.ofString "
") (pre ++ [last])) :
    GFacts rm kA (saidOf k rm pfx) pfx st x last pre := by
  have hl := ginv_len hG hi
  rw [← hst] at hl
  have hxr := good_row hx
  have hsd := sd_free (pre := pre) hs
  have h35 : rm = true ∨ kA ≠ 0 → Free 35 st := fun hr => by
    have hr' : rm = true ∨ pre = [] := by
      rcases hr with h | h
      · exact .inl h
      · refine .inr (Decidable.byContradiction fun hn => h ?_)
        rw [hk, if_neg hn]
    have h9 := hG.hash hr'
    rw [hst]
    refine join_free (by rw [nl_eq]; unfold Free; decide) fun r hr => ?_
    rcases List.mem_append.mp hr with hr | hr
    · exact h9.1 r hr
    · rw [List.mem_singleton.mp hr]
      exact h9.2
  have hx30 := hx.2
  refine ⟨fun hr => find_free (free_app (free_app (h35 hr) row_cs.2.1) hxr.2.1), fun hr => find_free ?_, hl, ?_, ?_, ?_, ?_⟩
  · rw [Str.empty_append]
    exact free_app (h35 hr) row_c.2.1
  · refine Nat.le_trans (addTo_len (N := 400100) hp ?_) (by omega)
    have := row_cs.2.2
    simp only [Str.length_append]
    omega
  · have := row_c.2.2
    rw [Str.empty_append]
    simp only [Str.length_append]
    omega
  · refine Nat.le_trans (addTo_len (N := 400100) hp ?_) (by omega)
    have := row_c.2.2
    rw [Str.empty_append]
    simp only [Str.length_append]
    omega
  · rw [addTo_said, hst, said_sd hk, join_snoc, join_snoc, join_snoc, nl_eq]
    refine split_join (by simp) fun r hr => ?_
    rcases List.mem_append.mp hr with hr | hr
    · exact (hG.rows r hr).1
    · rw [List.mem_singleton.mp hr]
      exact free_app (free_app (free_app hG.last.1 row_cs.1) hxr.1) hsd.1
section
variable {w : World} {mean : ExcName → Option Value} {mg mb : Str → Option Value} {dp un : Nat} {gd : Option (List Code)} {cn : Str} {nms : List (Str × NameKind)} {b1 b2 : Bool} {mo : List (Str × Const)} {L a : Addr} {ccd : Value} {cl : List (Str × Addr)} {outer : List Env}
   {A₀ : Around} {base h₀ : Heap} {m : Str → Option Value} {news : Led} {s : Shared} {Q E : Value → Shared → Prop}
theorem grid_spec {il c : Addr} {o : Obj} {n0 k : Nat} {vs : List Value} {hdd ind pfx : Str} {wide : Int} {tc rm : Bool} {t1 t2 t3 t4 t5 t6 : Tok} {nm : Str} {xs : List Str} {g1 : Obj → Led}
   (B : Below A₀ base outer h₀) (F : Fr h₀ L s.heap m) (X : (hd.heap_39 w.params).In h₀) (N : News h₀ L s.heap news) (T : TopX mean mg mb h₀)
   (U : UpdF il (W.listOf vs.toArray n0) news g1) (hc : (c, o) ∈ news) (hne : @Ne Nat il c) (ho : CmtObj k o) (hk : k < 4) (hv : StrsAre vs (nm :: xs)) (hg : ∀ x ∈ nm :: xs, GoodNm x) (hx : xs.length ≤ 10) (hh : Row 20 hdd) (hi : Row 10 ind) (hp : pfx.length ≤ 10) (hs : SaidOk rm (saidOf k rm pfx)) (hw : 0 ≤ wide) (hw2 : wide ≤ 100)
   (hd : dp + 3 < recursionLimit) (hu : un + 350 < cLine)
   (ret : ∀ t n' h' tk', Fr h₀ L h' m → News h₀ L h' (g1 (W.listOf [].toArray n')) → Q (.str (Str.join (PySem.Str.ofString "\n") ((gridR ind (saidOf k rm pfx) wide hdd nm xs).1 ++ [(gridR ind (saidOf k rm pfx) wide hdd nm xs).2]) ++ (if tc = true then PySem.Str.ofString "," else PySem.Str.ofString "") ++ PySem.Str.ofString ")") t) {s with heap := h', toks := tk'}) :
   wpAny (model prg w) (ktrTop dp un gd cn (fsc nms b1 b2 mo) L a ccd cl outer) (call (.ref 43) [] [(PySem.Str.ofString "statement", .str hdd t1), (PySem.Str.ofString "imports", .ref il), (PySem.Str.ofString "white_space", .str ind t2), (PySem.Str.ofString "indent", .str ind t3), (PySem.Str.ofString "line_length", .int wide t4), (PySem.Str.ofString "comments", .ref c), (PySem.Str.ofString "line_separator", .str (PySem.Str.ofString "\n") t5), (PySem.Str.ofString "comment_prefix", .str pfx t6), (PySem.Str.ofString "include_trailing_comma", .bool tc), (PySem.Str.ofString "remove_comments", .bool rm)]) Q E s := by
  obtain ⟨hm, hgm⟩ := updF_mem U
  obtain ⟨tn, vs', rfl, hv'⟩ := hv.cons_inv
  have hvl := hv'.len_eq
  have hnm := (hg nm (.head _)).2
  have hhl := hh.2.2
  have hil := hi.2.2
  clear hv
  refine wpAny_call ?_
  k_dflt (refine' m_more (ex := [(PySem.Str.ofString "statement", .str hdd t1), (PySem.Str.ofString "imports", .ref il), (PySem.Str.ofString "white_space", .str ind t2), (PySem.Str.ofString "indent", .str ind t3), (PySem.Str.ofString "line_length", .int wide t4), (PySem.Str.ofString "comments", .ref c), (PySem.Str.ofString "line_separator", .str (PySem.Str.ofString "\n") t5), (PySem.Str.ofString "comment_prefix", .str pfx t6), (PySem.Str.ofString "include_trailing_comma", .bool tc), (PySem.Str.ofString "remove_comments", .bool rm)]) (front := []) (nm := PySem.Str.ofString "interface") (expl := [(il, W.listOf (Value.str nm tn :: vs').toArray n0), (c, o)]) (rest := off [il, c] news) B F X (news_sub N (fm1 hm (fm1 hc fm0))) (off_news N) (off_apart) T ?kA ?kF ?kK ?k6 ?k7 ?k8 ?kN ?kP ?kT ?kB ?_ ?c2 ?c3 ?c4 ?c5; (case kA => exact rfl); (case kF => exact rfl); (case kK => exact rfl); (case k6 => k_is); (case k7 => k_is); (case k8 => ktr_room); (case kN => exact rfl); (case kP => exact rfl); (case kT => exact fun _ => rfl); (case kB => exact fun _ => locs rfl); (case c5 => decide); (case c2 => exact rfl); (case c3 => exact rfl); (case c4 => exact rfl); k_whole)
  intro D O g L' h₁ tk0 lD lo hO gr FG F' N' B' X' T'
  (try k_lt lD)
  (try dsimp only)
  (try k_lift B')
  (try k_fold)
  k_with_none
  k_with "my loop" => refine haltI ?_
  k_with "my comp" => refine haltI ?_
  k_with "my while" => refine haltI ?_

  k_steps
  refine haltO ?_
  rename_i h8 F8 N8 t8 k8 a8 t7 k7 a7 h9 O9 F9 N9 hO9
  refine m_while [PySem.Str.ofString "next_import", PySem.Str.ofString "next_statement", PySem.Str.ofString "lines", PySem.Str.ofString "part", PySem.Str.ofString "new_line"]
    (fun q : List Value × Nat × Obj × Addr × Obj => [(D, q.2.2.1), (il, W.listOf q.1.toArray q.2.1), (q.2.2.2.1, q.2.2.2.2), (c, o)])
    (fun n q => @Ne Nat q.2.2.2.1 D ∧ @Ne Nat q.2.2.2.1 il ∧ ∃ i pre last ts kA st, n + i = xs.length ∧ (pre, last) = (xs.take i).foldl (gstep ind (saidOf k rm pfx) wide) ([], hdd ++ PySem.Str.ofString "(" ++ nm) ∧ StrsAre q.1 (xs.drop i) ∧ Obj.IsDictOf (PySem.strKind prg w) q.2.2.1 [(PySem.Str.ofString "statement", Value.str st ts), (PySem.Str.ofString "imports", Value.ref il), (PySem.Str.ofString "white_space", Value.str ind t2), (PySem.Str.ofString "indent", Value.str ind t3), (PySem.Str.ofString "line_length", Value.int wide t4), (PySem.Str.ofString "comments", Value.ref q.2.2.2.1), (PySem.Str.ofString "line_separator", Value.str (PySem.Str.ofString "
") t5), (PySem.Str.ofString "comment_prefix", Value.str pfx t6), (PySem.Str.ofString "include_trailing_comma", Value.bool tc), (PySem.Str.ofString "remove_comments", Value.bool rm)] ∧ st = Str.join (PySem.Str.ofString "\n") (pre ++ [last]) ∧ CmtObj kA q.2.2.2.2 ∧ kA < 4 ∧ (kA = if pre = [] then k else 0) ∧ GInv rm i (pre, last))
    xs.length (vs', n0 + 1, O9, c, o) F9 (news_sub N9 (fm1 (.head _) (fm1 (.tail _ (.head _)) (fm1 (.tail _ (.tail _ (.head _))) (fm1 (.tail _ (.tail _ (.head _))) fm0))))) ⟨(by show @Ne Nat c D; exact neN (by omega)), hne.symm, 0, [], _, _, k, _, rfl, rfl, hv', hO9, (by rw [Str.append_assoc]; rfl), ho, hk, rfl, ginv0 hh (hg nm (.head _))⟩ ?_ (by passes_own)
  rintro n ⟨ws, n1, O1, cA, oA⟩ u9 h tk ⟨q1, q2, i, pre, last, ts, kA, st, hni, e, hws, hO1, hst, hoA, hkA, hkE, hG⟩ F1 N1
  dsimp only [stored] at q1 q2 hws hO1 hoA F1 N1
  clear F' N' hO F9 N9 hO9
  by_cases hlt : i < xs.length
  · obtain ⟨x, hx9⟩ : ∃ x, xs[i]? = some x := ⟨_, List.getElem?_eq_getElem hlt⟩
    have hdrop : xs.drop i = x :: xs.drop (i + 1) := by
      rw [List.drop_eq_getElem_cons hlt]
      rw [List.getElem?_eq_getElem hlt] at hx9
      rw [Option.some.inj hx9]
    rw [hdrop] at hws
    obtain ⟨tx, ws', rfl, hws'⟩ := hws.cons_inv
    have hgx : GoodNm x := hg x (.tail _ (List.mem_of_getElem? hx9))
    have hwl := hgx.2
    obtain ⟨u, us, hsp, hu1, hu2, hu3, _⟩ := name_split hgx
    have hwsl := hws'.len_eq
    rw [List.length_drop] at hwsl
    obtain ⟨f1, f2, l0, l1, l3, l2, hspl⟩ := g_facts hG (by omega) hgx hp hs hkE hst
    have hsdl := (sd_free (pre := pre) hs).2
    obtain ⟨sd, hsd⟩ : ∃ sd, sdOf (saidOf k rm pfx) pre = sd := ⟨_, rfl⟩
    rw [hsd] at hspl hsdl
    have hG1 := hG.len
    have hG2 := hG.last.2
    have lc2 : (PySem.Str.ofString ", ").length = 2 := by decide +kernel
    have lc1 : (PySem.Str.ofString ",").length = 1 := by decide +kernel
    have lnl : (PySem.Str.ofString "\n").length = 1 := by decide +kernel
    have lem : Str.empty.length = 0 := rfl
    dsimp only at hG1 hG2
    (try k_fold)
    k_steps
    · refine haltO ?_
      rename_i t8 tk8 Ln h8 lLn h7 D1 vsx tu7 h6 k6 hIx hIx2 lD1 Dl h5 F9 N9 lDl
      have lsp : (PySem.Str.ofString " ").length = 1 := by decide +kernel
      refine m_iterS (vs := vsx) (n := 0) [PySem.Str.ofString "part", PySem.Str.ofString "new_line"] (fun _ => []) (fun q : List Value × Str × Tok × Nat => [(Dl, W.listOf vsx.toArray 0), (Ln, W.listOf (q.1 ++ [Value.str q.2.1 q.2.2.1]).toArray q.2.2.2), (D, O1), (il, W.listOf ws'.toArray (n1 + 1)), (cA, oA), (c, o)])
        (fun j q => ∃ pp, (pp, q.2.1) = (us.take j).foldl (pstep ind wide) ([], ind ++ u) ∧ StrsAre q.1 pp ∧ q.1.length ≤ j ∧ q.2.1.length ≤ 41 + 31 * j) ([], Str.empty ++ ind ++ u, _, 0)
        rfl F9 (news_sub N9 (fm1 (.head _) (fm1 (.tail _ (.tail _ (.head _))) (fm1 (.tail _ (.tail _ (.tail _ (.tail _ (.tail _ (.head _)))))) (fm1 (.tail _ (.tail _ (.tail _ (.tail _ (.tail _ (.tail _ (.head _))))))) (fm1 (.tail _ (.tail _ (.tail _ (.tail _ (.tail _ (.tail _ (.tail _ (.head _)))))))) (fm1 (.tail _ (.tail _ (.tail _ (.tail _ (.tail _ (.tail _ (.tail _ (.tail _ (.head _))))))))) fm0))))))) (fun _ => .head _) rfl rfl ?_ fm0 ?_ ?_
      · exact ⟨[], by dsimp only; rw [Str.empty_append]; rfl, .nil, Nat.le_refl _, by dsimp only; rw [Str.empty_append, Str.length_append]; omega⟩
      · rintro j v I it ⟨rs, lst, tl, k4⟩ u8 h' tk' hv9 ⟨pp, e9, hs9, hl9, hle9⟩ hic off F1 N1
        obtain ⟨w9, tw, rfl, hw9⟩ := hIx.item j v hv9
        have hi9 : j < us.length := (List.getElem?_eq_some_iff.mp hw9).1
        have hwl9 := hu3 w9 (List.mem_of_getElem? hw9)
        have o1 : @Ne Nat Dl I := off _ (.head _)
        have o2 : @Ne Nat Ln I := off _ (.tail _ (.head _))
        have o3 : @Ne Nat D I := off _ (.tail _ (.tail _ (.head _)))
        have o4 : @Ne Nat il I := off _ (.tail _ (.tail _ (.tail _ (.head _))))
        have o5 : @Ne Nat cA I := off _ (.tail _ (.tail _ (.tail _ (.tail _ (.head _)))))
        have o6 : @Ne Nat c I := off _ (.tail _ (.tail _ (.tail _ (.tail _ (.tail _ (.head _))))))
        dsimp only [setL, stored] at hs9 hl9 hle9 e9 N1 F1
        clear off N9 F9
        (try k_fold)
        k_steps
        · rename Fr g _ _ _ => F7
          rename News g _ _ _ => N7
          refine MPostS.next (_, _, _, _) F7 N7 (fun _ h => h) (fm1 o1 (fm1 o2 (fm1 o3 (fm1 o4 (fm1 o5 (fm1 o6 fm0)))))) (fun z hz => ?_) fm0 ⟨pp ++ [lst], ?_, strs_snoc hs9, by (simp only [List.length_append, List.length_cons, List.length_nil]; omega), by (dsimp only; simp only [Str.length_append]; omega)⟩
          · simp only [List.mem_cons, List.not_mem_nil, or_false, not_or] at hz
            simp [hz]
          · rw [fold_step hw9, ← e9, pstep, if_pos (by simp only [Str.length_append]; omega), Str.empty_append]
        · rename Fr g _ _ _ => F7
          rename News g _ _ _ => N7
          refine MPostS.next (_, _, _, _) F7 N7 (fun _ h => h) (fm1 o1 (fm1 o2 (fm1 o3 (fm1 o4 (fm1 o5 (fm1 o6 fm0)))))) (fun z hz => ?_) fm0 ⟨pp, ?_, hs9, by (dsimp only; omega), by (dsimp only; simp only [Str.length_append]; omega)⟩
          · simp only [List.mem_cons, List.not_mem_nil, or_false, not_or] at hz
            simp [hz]
          · rw [fold_step hw9, ← e9, pstep, if_neg (by simp only [Str.length_append]; omega), Str.empty_append]
      · rintro ⟨rs, lst, tl, k4⟩ u8 h' tk' ⟨pp, e9, hs9, hl9, hle9⟩ F1 N1
        dsimp only [setL, stored] at hs9 hl9 hle9 e9 N1 F1
        clear N9 F9
        rw [hIx2, List.take_length] at e9
        have e1 : (parts ind wide u us).1 = pp := by rw [parts, ← e9]
        have e2 : (parts ind wide u us).2 = lst := by rw [parts, ← e9]
        have hpo := partsN_ok (wide := wide) hi hgx
        rw [partsN_of hsp, e1, e2] at hpo
        obtain ⟨hsum, hjl⟩ := rows_sum hpo.1 hpo.2.1 hpo.2.2
        have hsj := strs_snoc (z := lst) (t := tl) hs9
        k_steps
        have hst' := gstep_new (ind := ind) hsp hsd (by assumption)
        have hG' := gstep_inv hi hs hgx hw2 hG (wide := wide)
        rw [hst', e1, e2] at hG'
        rw [e1, e2] at hst'
        rename Fr g _ _ _ => F7
        rename News g _ _ _ => N7
        rename Obj.IsDictOf _ _ _ => O7
        refine MPostW.next (n - 1) (ws', n1 + 1, _, _, _) F7 N7 (fm1 (.tail _ (.tail _ (.tail _ (.head _)))) (fm1 (.tail _ (.tail _ (.tail _ (.tail _ (.head _))))) (fm1 (.head _) (fm1 (.tail _ (.tail _ (.tail _ (.tail _ (.tail _ (.tail _ (.head _))))))) fm0)))) (by omega) (fun z hz => ?_) ⟨?_, ?_, i + 1, _, _, _, 0, _, (by omega), (by rw [fold_step hx9, ← e, hst']), hws', O7, ?_, ⟨tn, tn, 0, rfl⟩, (by omega), (by simp), hG'⟩
        · simp only [List.mem_cons, List.not_mem_nil, or_false, not_or] at hz
          simp [hz]
        · dsimp only
          exact neN (by omega)
        · dsimp only
          exact neN (by omega)
        · exact g_join hkE hsd hst
    · have hst' := gstep_old (ind := ind) hsd (by assumption)
      have hG' := gstep_inv hi hs hgx hw2 hG (wide := wide)
      rw [hst'] at hG'
      rename Fr g _ _ _ => F7
      rename News g _ _ _ => N7
      rename Obj.IsDictOf _ _ _ => O7
      refine MPostW.next (n - 1) (ws', n1 + 1, _, cA, oA) F7 N7 (fm1 (.tail _ (.head _)) (fm1 (.tail _ (.tail _ (.head _))) (fm1 (.tail _ (.tail _ (.tail _ (.head _)))) (fm1 (.tail _ (.tail _ (.tail _ (.tail _ (.head _))))) fm0)))) (by omega) (fun z hz => ?_) ⟨q1, q2, i + 1, pre, _, _, kA, _, (by omega), (by rw [fold_step hx9, ← e, hst']), hws', O7, ?_, hoA, hkA, hkE, hG'⟩
      · simp only [List.mem_cons, List.not_mem_nil, or_false, not_or] at hz
        simp [hz]
      · rw [hst, join_snoc, Str.append_assoc]
  · have hws0 : ws = [] := by
      rw [List.drop_of_length_le (by omega)] at hws
      exact hws.nil_inv
    subst hws0
    rw [List.take_of_length_le (by omega)] at e
    have hgl := ginv_len hG (by omega)
    rw [← hst] at hgl
    have e1 : (gridR ind (saidOf k rm pfx) wide hdd nm xs).1 = pre := by rw [gridR, ← e]
    have e2 : (gridR ind (saidOf k rm pfx) wide hdd nm xs).2 = last := by rw [gridR, ← e]
    rw [e1, e2, ← hst] at ret
    have ret' : ∀ x t h' tk' n', x = st ++ (if tc = true then PySem.Str.ofString "," else PySem.Str.ofString "") ++ PySem.Str.ofString ")" → Fr h₀ L h' m → News h₀ L h' (g1 (W.listOf [].toArray n')) → Q (.str x t) {s with heap := h', toks := tk'} := fun x t h' tk' n' e => by
      subst e
      exact ret t n' h' tk'
    clear ret
    (try k_fold)
    k_steps
    all_goals (rename Fr h₀ L _ _ => kF; rename News h₀ L _ (_ :: _) => kN; rename_i kR; refine ret' _ _ _ _ _ ?_ kF (grid_off (o := o) N hc (hgm _) kN (.tail _ (.head _)) (by k_mem) kR))
    · rename tc = true => htc
      subst htc
      exact congrArg (· ++ PySem.Str.ofString "," ++ PySem.Str.ofString ")") (Str.empty_append st)
    · rename tc = false => htc
      subst htc
      exact congrArg (· ++ PySem.Str.ofString "" ++ PySem.Str.ofString ")") (Str.empty_append st)
end
end Mine

namespace Mine
open PySem PySem.W PyProof.Rows
theorem fresh_C9 : (hd.heap_39 = hd.heap_39) ∧ PySem.Challenge.rw_aq6041_01 = PySem.Challenge.rw_aq6041_01 := by
  w_top off
  k_with_none
  k_fill
  exact ⟨rfl, rfl⟩
local macro_rules | `(tactic| k_room) => `(tactic| ktr_room)
local macro_rules | `(tactic| units_room) => `(tactic| ((try simp only [units_in1, units_deeper, Around.mark_units, units_caller]); (try dsimp only [ktrTop]); omega))
local macro_rules | `(tactic| walk_at "exec For") => `(tactic| (k_here; (rename Fr _ _ _ _ => lF'); (with_unfolding_all refine' For_invVF lF' ?mzk1 ?mzk2 ?_; (case mzk1 => exact rfl); (case mzk2 => exact rfl); k_whole)))
local macro_rules | `(tactic| walk_at "exec For Name Name cons nil") => `(tactic| (k_here; (rename Fr _ _ _ _ => lF'); (with_unfolding_all refine' For_invVF lF' ?mzk1 ?mzk2 ?_; (case mzk1 => exact rfl); (case mzk2 => exact rfl); k_whole)))
local macro_rules | `(tactic| walk_at "exec For Name Subscript cons nil") => `(tactic| (k_here; (rename Fr _ _ _ _ => lF'); (with_unfolding_all refine' For_invVF lF' ?mzk1 ?mzk2 ?_; (case mzk1 => exact rfl); (case mzk2 => exact rfl); k_whole)))
local macro_rules | `(tactic| walk_at "exec For Name Call cons nil") => `(tactic| (k_here; (rename Fr _ _ _ _ => lF'); (with_unfolding_all refine' For_invVF lF' ?mzk1 ?mzk2 ?_; (case mzk1 => exact rfl); (case mzk2 => exact rfl); k_whole)))
local macro_rules | `(tactic| walk_at "execs nil") => `(tactic| refine wpAny_execs_nil ?_)
local macro_rules | `(tactic| walk_at "pyIter ref") => `(tactic| k_extra "my loop")
local macro_rules | `(tactic| walk_at "exec While") => `(tactic| k_extra "my while")
local macro_rules | `(tactic| walk_at "call builtin:str.split") => `(tactic| (k_here; (with_reducible show wpAny _ _ (call (Value.builtin "str.split") [Value.str _ _, Value.str _ _]) _ _ _); k_dflt (refine' m_splitH ?mzF ?mzN ?mzy ?mzs ?mzz ?_; (case mzF => k_asm); (case mzN => k_asm); (case mzs => with_reducible assumption); (case mzy => decide); (case mzz => omega)); intro D' vs' tu' h' k' hI' hI2' F' N' l1; (try k_lt l1); (try k_sweep)))
local macro_rules | `(tactic| walk_at "call builtin:str.split") => `(tactic| (k_here; (with_reducible show wpAny _ _ (call (Value.builtin "str.split") [Value.str _ _, Value.str _ _]) _ _ _); k_dflt (refine' m_splitT ?mzF ?mzN ?mzy ?mzs ?mzz ?_; (case mzF => k_asm); (case mzN => k_asm); (case mzs => with_reducible assumption); (case mzy => decide); (case mzz => omega)); intro D' vs' tz' h' k' hI' hI2' F' N' l1; (try k_lt l1); (try k_sweep)))
local macro_rules | `(tactic| walk_at "subscriptTail") => `(tactic| (k_here; (with_reducible show wpAny _ _ (subscriptTail _ _ (Value.ref _) (Value.int 0 _)) _ _ _); k_dflt (refine' m_item (k := 0) ?mzN ?mzm ?mzv ?mzk ?_ ?mzs; (case mzN => k_asm); (case mzm => k_mem); (case mzv => rfl); (case mzk => decide); (case mzs => with_unfolding_all rfl))))
local macro_rules | `(tactic| walk_at "subscriptTail Name Constant ref int") => `(tactic| (k_here; (with_reducible show wpAny _ _ (subscriptTail _ _ (Value.ref _) (Value.int 0 _)) _ _ _); k_dflt (refine' m_item (k := 0) ?mzN ?mzm ?mzv ?mzk ?_ ?mzs; (case mzN => k_asm); (case mzm => k_mem); (case mzv => rfl); (case mzk => decide); (case mzs => with_unfolding_all rfl))))
local macro_rules | `(tactic| walk_at "subscriptTail Call Constant ref int") => `(tactic| (k_here; (with_reducible show wpAny _ _ (subscriptTail _ _ (Value.ref _) (Value.int 0 _)) _ _ _); k_dflt (refine' m_item (k := 0) ?mzN ?mzm ?mzv ?mzk ?_ ?mzs; (case mzN => k_asm); (case mzm => k_mem); (case mzv => rfl); (case mzk => decide); (case mzs => with_unfolding_all rfl))))
local macro_rules | `(tactic| walk_at "subscriptTail") => `(tactic| (k_here; (with_reducible show wpAny _ _ (subscriptTail _ _ (Value.ref _) (Value.int (-1) _)) _ _ _); k_dflt (refine' m_last ?mzN ?mzm ?_ ?mzs; (case mzN => k_asm); (case mzm => k_mem); (case mzs => with_unfolding_all rfl))))
local macro_rules | `(tactic| walk_at "subscriptTail Name UnaryOp ref int") => `(tactic| (k_here; (with_reducible show wpAny _ _ (subscriptTail _ _ (Value.ref _) (Value.int (-1) _)) _ _ _); k_dflt (refine' m_last ?mzN ?mzm ?_ ?mzs; (case mzN => k_asm); (case mzm => k_mem); (case mzs => with_unfolding_all rfl))))
local macro_rules | `(tactic| walk_at "subscriptTail Call UnaryOp ref int") => `(tactic| (k_here; (with_reducible show wpAny _ _ (subscriptTail _ _ (Value.ref _) (Value.int (-1) _)) _ _ _); k_dflt (refine' m_last ?mzN ?mzm ?_ ?mzs; (case mzN => k_asm); (case mzm => k_mem); (case mzs => with_unfolding_all rfl))))
local macro_rules | `(tactic| walk_at "subscriptTail") => `(tactic| (k_here; (with_reducible show wpAny _ _ (subscriptTail _ (PySem.Expr.Slice _ _ none _) (Value.ref _) (Value.ref _)) _ _ _); k_dflt (first
  | (refine' kmk_slice_lit ?mzF ?mzN ?mzl ?mzp ?mzq (pick_tail _ _) ?_ ?mzs ?mzt ?mzz; (case mzF => k_asm); (case mzN => k_asm); (case mzl => exact News.isList (by k_asm) (by k_mem)); (case mzp => kmk_part); (case mzq => kmk_part); (case mzs => with_unfolding_all rfl); (case mzt => kmk_pure); (case mzz => (rw [PySem.sizeLine_eq]; (simp only [List.size_toArray, List.length_cons, List.length_append, List.length_nil]); omega)))
  | (refine' kmk_slice_lit ?mzF ?mzN ?mzl ?mzp ?mzq (pick_init _ _) ?_ ?mzs ?mzt ?mzz; (case mzF => k_asm); (case mzN => k_asm); (case mzl => exact News.isList (by k_asm) (by k_mem)); (case mzp => kmk_part); (case mzq => kmk_part); (case mzs => with_unfolding_all rfl); (case mzt => kmk_pure); (case mzz => (rw [PySem.sizeLine_eq]; (simp only [List.size_toArray, List.length_cons, List.length_append, List.length_nil]); omega)))
  | (refine' kmk_slice_lit ?mzF ?mzN ?mzl ?mzp ?mzq (pick_60 _) ?_ ?mzs ?mzt ?mzz; (case mzF => k_asm); (case mzN => k_asm); (case mzl => exact News.isList (by k_asm) (by k_mem)); (case mzp => kmk_part); (case mzq => kmk_part); (case mzs => with_unfolding_all rfl); (case mzt => kmk_pure); (case mzz => (rw [PySem.sizeLine_eq]; (simp only [List.size_toArray, List.length_cons, List.length_append, List.length_nil]); omega)))); intro D' h' F' N' l1; (try k_lt l1); (try k_sweep)))
local macro_rules | `(tactic| walk_at "subscriptTail Name Slice ref ref") => `(tactic| (k_here; (with_reducible show wpAny _ _ (subscriptTail _ (PySem.Expr.Slice _ _ none _) (Value.ref _) (Value.ref _)) _ _ _); k_dflt (first
  | (refine' kmk_slice_lit ?mzF ?mzN ?mzl ?mzp ?mzq (pick_tail _ _) ?_ ?mzs ?mzt ?mzz; (case mzF => k_asm); (case mzN => k_asm); (case mzl => exact News.isList (by k_asm) (by k_mem)); (case mzp => kmk_part); (case mzq => kmk_part); (case mzs => with_unfolding_all rfl); (case mzt => kmk_pure); (case mzz => (rw [PySem.sizeLine_eq]; (simp only [List.size_toArray, List.length_cons, List.length_append, List.length_nil]); omega)))
  | (refine' kmk_slice_lit ?mzF ?mzN ?mzl ?mzp ?mzq (pick_init _ _) ?_ ?mzs ?mzt ?mzz; (case mzF => k_asm); (case mzN => k_asm); (case mzl => exact News.isList (by k_asm) (by k_mem)); (case mzp => kmk_part); (case mzq => kmk_part); (case mzs => with_unfolding_all rfl); (case mzt => kmk_pure); (case mzz => (rw [PySem.sizeLine_eq]; (simp only [List.size_toArray, List.length_cons, List.length_append, List.length_nil]); omega)))
  | (refine' kmk_slice_lit ?mzF ?mzN ?mzl ?mzp ?mzq (pick_60 _) ?_ ?mzs ?mzt ?mzz; (case mzF => k_asm); (case mzN => k_asm); (case mzl => exact News.isList (by k_asm) (by k_mem)); (case mzp => kmk_part); (case mzq => kmk_part); (case mzs => with_unfolding_all rfl); (case mzt => kmk_pure); (case mzz => (rw [PySem.sizeLine_eq]; (simp only [List.size_toArray, List.length_cons, List.length_append, List.length_nil]); omega)))); intro D' h' F' N' l1; (try k_lt l1); (try k_sweep)))
local macro_rules | `(tactic| walk_at "call builtin:list.append") => `(tactic| (k_here; (with_reducible show wpAny _ _ (call (Value.builtin _) [Value.ref _, _]) _ _ _); k_dflt (refine' m_append ?mzF ?mzN ?mzU ?mzz ?_; (case mzF => k_asm); (case mzN => k_asm); (case mzU => k_upd); (case mzz => ((try simp only [List.length_cons, List.length_append, List.length_nil]); omega))); intro h' F' N'; (try k_sweep)))
local macro_rules | `(tactic| walk_at "setItem ref int") => `(tactic| (k_here; (with_reducible show wpAny _ _ (setItem (Value.ref _) (Value.int (-1) _) _) _ _ _); k_dflt (refine' m_setLast ?mzF ?mzN ?mzU ?_; (case mzF => k_asm); (case mzN => k_asm); (case mzU => k_upd)); intro h' F' N'; (try k_sweep)))
local macro_rules | `(tactic| walk_at "call builtin:list.pop") => `(tactic| (k_here; (with_reducible show wpAny _ _ (call (Value.builtin _) [Value.ref _, Value.int 0 _]) _ _ _); k_dflt (refine' m_pop0 ?mzF ?mzN ?mzU ?mzz ?_; (case mzF => k_asm); (case mzN => k_asm); (case mzU => k_upd); (case mzz => omega)); intro h' F' N'; (try dsimp only [List.nil_append, List.cons_append] at N')))
local macro_rules | `(tactic| walk_at "call builtin:str.join") => `(tactic| (k_here; (with_reducible show wpAny _ _ (call (Value.builtin _) [Value.str _ _, Value.ref _]) _ _ _); k_dflt (refine' m_join ?mzN ?mzm ?mzi ?mzz ?mzw ?_; (case mzN => k_asm); (case mzm => k_mem); (case mzi => with_reducible assumption); (case mzz => decide); (case mzw => first | assumption | omega)); intro t' k'))
local macro_rules | `(tactic| walk_at "subscriptTail") => `(tactic| (k_here; (with_reducible show wpAny _ _ (subscriptTail _ _ (Value.ref _) (Value.str _ _)) _ _ _); k_dflt (refine kda_item (knd := PySem.strKind _ _) (by k_asm) (by k_mem) (by k_asm) (strKind_is _ _ _ _) (by rfl) ?_); (try dsimp only)))
local macro_rules | `(tactic| walk_at "truthy ref") => `(tactic| (k_here; (with_reducible show wpAny _ _ (truthy (Value.ref _)) _ _ _); k_dflt (refine' m_truthN ?mzN ?mzm ?_; (case mzN => k_asm); (case mzm => k_mem))))

def wmL : List (Str × Value) := [(PySem.Str.ofString "GRID", .ref 43), (PySem.Str.ofString "VERTICAL_HANGING_INDENT", .ref 50), (PySem.Str.ofString "VERTICAL_GRID", .ref 64), (PySem.Str.ofString "VERTICAL_GRID_GROUPED", .ref 71)]
theorem wm_nodup : (wmL.map (·.1)).Nodup := by decide +kernel
theorem wm_dict {w : World} {h₀ : Heap} (X : (hd.heap_39 w.params).In h₀) : h₀.DictOf (PySem.strKind prg w) 72 wmL := by
  refine ⟨_, _, _, X 72 _ rfl, ⟨rfl, rfl, rfl⟩, rfl, ?_, ?_, wm_nodup⟩
  · intro e he
    simp only [List.mem_toArray, List.mem_cons, List.not_mem_nil, or_false] at he
    rcases he with rfl | rfl | rfl | rfl
    · exact ⟨_, strKind_is _ _ _ _, rfl⟩
    · exact ⟨_, strKind_is _ _ _ _, rfl⟩
    · exact ⟨_, strKind_is _ _ _ _, rfl⟩
    · exact ⟨_, strKind_is _ _ _ _, rfl⟩
  · exact .cons (strKind_is _ _ _ _) rfl (.cons (strKind_is _ _ _ _) rfl (.cons (strKind_is _ _ _ _) rfl (.cons (strKind_is _ _ _ _) rfl .nil)))
section
variable {w : World} {A : Around} {E : Value → Shared → Prop} {s : Shared} {h₀ : Heap} {L : Addr} {m : Str → Option Value}
theorem wm_at (F : Fr h₀ L s.heap m) (X : (hd.heap_39 w.params).In h₀) : s.heap.DictOf (PySem.strKind prg w) 72 wmL := (wm_dict X).at fun o e => F.keep _ _ e
theorem wm_method {pl : Sem Bool} {Q : Value × List Value → Shared → Prop} (F : Fr h₀ L s.heap m) (X : (hd.heap_39 w.params).In h₀) (h : Q (.builtin "dict.get", [.ref 72]) s) : wpAny (model prg w) A (getMethod (.ref 72) "get" pl) Q E s :=
  have hD := wm_at F X
  getMethod_builtin hD.typeIs PySem.F.plainAttrs_dict PySem.F.slot_dict_get PySem.F.type_dict_get hD.mapOf.noDict h
theorem wm_get {x : Str} {t : Tok} {dflt : Value} {Q : Value → Shared → Prop} (F : Fr h₀ L s.heap m) (X : (hd.heap_39 w.params).In h₀) (h : Q ((valueAt wmL x).getD dflt) { s with toks := s.toks + 1 }) :
    wpAny (model prg w) A (call (.builtin "dict.get") [.ref 72, .str x t, dflt]) Q E s :=
  have hD := wm_at F X
  call_meetsIn PySem.F.slot_dict_get hD.typeIs PySem.F.entry_dict_get (PySem.F.args_dict_get_3 _ _ _) (meets_dict_get_default (PySem.strKind prg w) 72 (strKind_is _ _ _ _) (by decide) dflt) ⟨_, hD.mapOf, h⟩
end
local macro_rules | `(tactic| walk_at "getMethod ref") => `(tactic| (k_here; (with_reducible show wpAny _ _ (getMethod (Value.ref 72) _ _) _ _ _); k_dflt (refine' wm_method ?mzF ?mzX ?_; (case mzF => k_asm); (case mzX => k_asm))))
local macro_rules | `(tactic| walk_at "call builtin:dict.get") => `(tactic| (k_here; (with_reducible show wpAny _ _ (call _ [Value.ref 72, Value.str _ _, Value.ref _]) _ _ _); k_dflt (refine' wm_get ?mzF ?mzX ?_; (case mzF => k_asm); (case mzX => k_asm)); k_extra "my get"))
section
variable {w : World} {mean : ExcName → Option Value} {mg mb : Str → Option Value} {dp un : Nat} {gd : Option (List Code)} {cn : Str} {nms : List (Str × NameKind)} {b1 b2 : Bool} {mo : List (Str × Const)} {L a : Addr} {ccd : Value} {cl : List (Str × Addr)} {outer : List Env}
   {A₀ : Around} {base h₀ : Heap} {m : Str → Option Value} {news : Led} {s : Shared} {Q E : Value → Shared → Prop}
theorem grid0_spec {il c : Addr} {n0 : Nat} {hdd ind pfx : Str} {wide : Int} {tc rm : Bool} {t1 t2 t3 t4 t5 t6 : Tok}
   (B : Below A₀ base outer h₀) (F : Fr h₀ L s.heap m) (X : (hd.heap_39 w.params).In h₀) (N : News h₀ L s.heap news) (T : TopX mean mg mb h₀)
   (hm : (il, W.listOf [].toArray n0) ∈ news)
   (hd : dp + 1 < recursionLimit) (hu : un + 100 < cLine)
   (ret : ∀ t h' tk', Fr h₀ L h' m → News h₀ L h' news → Q (.str (PySem.Str.ofString "") t) {s with heap := h', toks := tk'}) :
   wpAny (model prg w) (ktrTop dp un gd cn (fsc nms b1 b2 mo) L a ccd cl outer) (call (.ref 43) [] [(PySem.Str.ofString "statement", .str hdd t1), (PySem.Str.ofString "imports", .ref il), (PySem.Str.ofString "white_space", .str ind t2), (PySem.Str.ofString "indent", .str ind t3), (PySem.Str.ofString "line_length", .int wide t4), (PySem.Str.ofString "comments", .ref c), (PySem.Str.ofString "line_separator", .str (PySem.Str.ofString "\n") t5), (PySem.Str.ofString "comment_prefix", .str pfx t6), (PySem.Str.ofString "include_trailing_comma", .bool tc), (PySem.Str.ofString "remove_comments", .bool rm)]) Q E s := by
  refine wpAny_call ?_
  k_dflt (refine' m_more (ex := [(PySem.Str.ofString "statement", .str hdd t1), (PySem.Str.ofString "imports", .ref il), (PySem.Str.ofString "white_space", .str ind t2), (PySem.Str.ofString "indent", .str ind t3), (PySem.Str.ofString "line_length", .int wide t4), (PySem.Str.ofString "comments", .ref c), (PySem.Str.ofString "line_separator", .str (PySem.Str.ofString "\n") t5), (PySem.Str.ofString "comment_prefix", .str pfx t6), (PySem.Str.ofString "include_trailing_comma", .bool tc), (PySem.Str.ofString "remove_comments", .bool rm)]) (front := []) (nm := PySem.Str.ofString "interface") (expl := [(il, W.listOf [].toArray n0)]) (rest := off [il] news) B F X (news_sub N (fm1 hm fm0)) (off_news N) (off_apart) T ?kA ?kF ?kK ?k6 ?k7 ?k8 ?kN ?kP ?kT ?kB ?_ ?c2 ?c3 ?c4 ?c5; (case kA => exact rfl); (case kF => exact rfl); (case kK => exact rfl); (case k6 => k_is); (case k7 => k_is); (case k8 => ktr_room); (case kN => exact rfl); (case kP => exact rfl); (case kT => exact fun _ => rfl); (case kB => exact fun _ => locs rfl); (case c5 => decide); (case c2 => exact rfl); (case c3 => exact rfl); (case c4 => exact rfl); k_whole)
  intro D O g L' h₁ tk0 lD lo hO gr FG F' N' B' X' T'
  (try k_lt lD)
  (try dsimp only)
  (try k_lift B')
  (try k_fold)
  k_with_none
  k_with "my loop" => refine haltI ?_
  k_with "my comp" => refine haltI ?_
  k_with "my while" => refine haltI ?_

  k_steps
  rename Fr h₀ L _ _ => kF
  rename News h₀ L _ (_ :: _) => kN
  rename_i kR
  exact ret _ _ _ kF (off_back1 N hm kN (by k_mem) kR)
end
section
variable {w : World} {mean : ExcName → Option Value} {mg mb : Str → Option Value} {dp un : Nat} {gd : Option (List Code)} {cn : Str} {nms : List (Str × NameKind)} {b1 b2 : Bool} {mo : List (Str × Const)} {L a : Addr} {ccd : Value} {cl : List (Str × Addr)} {outer : List Env}
   {A₀ : Around} {base h₀ : Heap} {m : Str → Option Value} {news : Led} {s : Shared} {Q E : Value → Shared → Prop}
theorem fmt1_spec {t1 : Tok}
   (B : Below A₀ base outer h₀) (F : Fr h₀ L s.heap m) (X : (hd.heap_39 w.params).In h₀) (N : News h₀ L s.heap news) (T : TopX mean mg mb h₀)
   (hd : dp + 1 < recursionLimit) (hu : un + 100 < cLine)
   (ret : ∀ h' tk', Fr h₀ L h' m → News h₀ L h' news → Q (.ref 64) {s with heap := h', toks := tk'}) :
   wpAny (model prg w) (ktrTop dp un gd cn (fsc nms b1 b2 mo) L a ccd cl outer) (call (.ref 36) [.str (PySem.Str.ofString "vertical_grid") t1]) Q E s := by
  refine wpAny_call ?_
  k_dflt (refine' m_call (expl := []) (rest := news) B F X (News.nil) (N) (fun _ _ h => nomatch h) T ?kA ?kF ?kK ?k6 ?k7 ?k8 ?k9 ?kB ?_ ?c2 ?c3 ?c4 ?c5; (case kA => exact rfl); (case kF => exact rfl); (case kK => exact rfl); (case k6 => k_is); (case k7 => k_is); (case k8 => ktr_room); (case k9 => first | exact BindsTo.of_eq rfl | exact binds_K (by k_in) rfl (by k_is) rfl rfl rfl); (case c5 => decide); (case kB => exact locs rfl); (case c2 => exact rfl); (case c3 => exact rfl); (case c4 => exact rfl); k_whole)
  intro g L' h₁ gr FG F' N' B' X' T'
  k_fold

  k_with_none
  k_with "my get" => refine haltI ?_
  k_steps
  refine haltO ?_
  rw [show (valueAt wmL (PySem.Str.ofString "VERTICAL_GRID")).getD (Value.ref 43) = Value.ref 64 from by rfl]
  k_steps
  rename Fr h₀ L _ _ => kF
  rename_i kR
  exact ret _ _ kF kR
end
section
variable {w : World} {mean : ExcName → Option Value} {mg mb : Str → Option Value} {dp un : Nat} {gd : Option (List Code)} {cn : Str} {nms : List (Str × NameKind)} {b1 b2 : Bool} {mo : List (Str × Const)} {L a : Addr} {ccd : Value} {cl : List (Str × Addr)} {outer : List Env}
   {A₀ : Around} {base h₀ : Heap} {m : Str → Option Value} {news : Led} {s : Shared} {Q E : Value → Shared → Prop}
theorem fmt2_spec {t1 : Tok}
   (B : Below A₀ base outer h₀) (F : Fr h₀ L s.heap m) (X : (hd.heap_39 w.params).In h₀) (N : News h₀ L s.heap news) (T : TopX mean mg mb h₀)
   (hd : dp + 1 < recursionLimit) (hu : un + 100 < cLine)
   (ret : ∀ h' tk', Fr h₀ L h' m → News h₀ L h' news → Q (.ref 71) {s with heap := h', toks := tk'}) :
   wpAny (model prg w) (ktrTop dp un gd cn (fsc nms b1 b2 mo) L a ccd cl outer) (call (.ref 36) [.str (PySem.Str.ofString "Vertical_Grid_Grouped") t1]) Q E s := by
  refine wpAny_call ?_
  k_dflt (refine' m_call (expl := []) (rest := news) B F X (News.nil) (N) (fun _ _ h => nomatch h) T ?kA ?kF ?kK ?k6 ?k7 ?k8 ?k9 ?kB ?_ ?c2 ?c3 ?c4 ?c5; (case kA => exact rfl); (case kF => exact rfl); (case kK => exact rfl); (case k6 => k_is); (case k7 => k_is); (case k8 => ktr_room); (case k9 => first | exact BindsTo.of_eq rfl | exact binds_K (by k_in) rfl (by k_is) rfl rfl rfl); (case c5 => decide); (case kB => exact locs rfl); (case c2 => exact rfl); (case c3 => exact rfl); (case c4 => exact rfl); k_whole)
  intro g L' h₁ gr FG F' N' B' X' T'
  k_fold

  k_with_none
  k_with "my get" => refine haltI ?_
  k_steps
  refine haltO ?_
  rw [show (valueAt wmL (PySem.Str.ofString "VERTICAL_GRID_GROUPED")).getD (Value.ref 43) = Value.ref 71 from by rfl]
  k_steps
  rename Fr h₀ L _ _ => kF
  rename_i kR
  exact ret _ _ kF kR
end
section
variable {w : World} {mean : ExcName → Option Value} {mg mb : Str → Option Value} {dp un : Nat} {gd : Option (List Code)} {cn : Str} {nms : List (Str × NameKind)} {b1 b2 : Bool} {mo : List (Str × Const)} {L a : Addr} {ccd : Value} {cl : List (Str × Addr)} {outer : List Env}
   {A₀ : Around} {base h₀ : Heap} {m : Str → Option Value} {news : Led} {s : Shared} {Q E : Value → Shared → Prop}
theorem fmt3_spec {t1 : Tok}
   (B : Below A₀ base outer h₀) (F : Fr h₀ L s.heap m) (X : (hd.heap_39 w.params).In h₀) (N : News h₀ L s.heap news) (T : TopX mean mg mb h₀)
   (hd : dp + 1 < recursionLimit) (hu : un + 100 < cLine)
   (ret : ∀ h' tk', Fr h₀ L h' m → News h₀ L h' news → Q (.ref 50) {s with heap := h', toks := tk'}) :
   wpAny (model prg w) (ktrTop dp un gd cn (fsc nms b1 b2 mo) L a ccd cl outer) (call (.ref 36) [.str (PySem.Str.ofString "VERTICAL_HANGING_INDENT") t1]) Q E s := by
  refine wpAny_call ?_
  k_dflt (refine' m_call (expl := []) (rest := news) B F X (News.nil) (N) (fun _ _ h => nomatch h) T ?kA ?kF ?kK ?k6 ?k7 ?k8 ?k9 ?kB ?_ ?c2 ?c3 ?c4 ?c5; (case kA => exact rfl); (case kF => exact rfl); (case kK => exact rfl); (case k6 => k_is); (case k7 => k_is); (case k8 => ktr_room); (case k9 => first | exact BindsTo.of_eq rfl | exact binds_K (by k_in) rfl (by k_is) rfl rfl rfl); (case c5 => decide); (case kB => exact locs rfl); (case c2 => exact rfl); (case c3 => exact rfl); (case c4 => exact rfl); k_whole)
  intro g L' h₁ gr FG F' N' B' X' T'
  k_fold

  k_with_none
  k_with "my get" => refine haltI ?_
  k_steps
  refine haltO ?_
  rw [show (valueAt wmL (PySem.Str.ofString "VERTICAL_HANGING_INDENT")).getD (Value.ref 43) = Value.ref 50 from by rfl]
  k_steps
  rename Fr h₀ L _ _ => kF
  rename_i kR
  exact ret _ _ kF kR
end
section
variable {w : World} {mean : ExcName → Option Value} {mg mb : Str → Option Value} {dp un : Nat} {gd : Option (List Code)} {cn : Str} {nms : List (Str × NameKind)} {b1 b2 : Bool} {mo : List (Str × Const)} {L a : Addr} {ccd : Value} {cl : List (Str × Addr)} {outer : List Env}
   {A₀ : Around} {base h₀ : Heap} {m : Str → Option Value} {news : Led} {s : Shared} {Q E : Value → Shared → Prop}
theorem fmt4_spec {t1 : Tok}
   (B : Below A₀ base outer h₀) (F : Fr h₀ L s.heap m) (X : (hd.heap_39 w.params).In h₀) (N : News h₀ L s.heap news) (T : TopX mean mg mb h₀)
   (hd : dp + 1 < recursionLimit) (hu : un + 100 < cLine)
   (ret : ∀ h' tk', Fr h₀ L h' m → News h₀ L h' news → Q (.ref 43) {s with heap := h', toks := tk'}) :
   wpAny (model prg w) (ktrTop dp un gd cn (fsc nms b1 b2 mo) L a ccd cl outer) (call (.ref 36) [.str (PySem.Str.ofString "grid") t1]) Q E s := by
  refine wpAny_call ?_
  k_dflt (refine' m_call (expl := []) (rest := news) B F X (News.nil) (N) (fun _ _ h => nomatch h) T ?kA ?kF ?kK ?k6 ?k7 ?k8 ?k9 ?kB ?_ ?c2 ?c3 ?c4 ?c5; (case kA => exact rfl); (case kF => exact rfl); (case kK => exact rfl); (case k6 => k_is); (case k7 => k_is); (case k8 => ktr_room); (case k9 => first | exact BindsTo.of_eq rfl | exact binds_K (by k_in) rfl (by k_is) rfl rfl rfl); (case c5 => decide); (case kB => exact locs rfl); (case c2 => exact rfl); (case c3 => exact rfl); (case c4 => exact rfl); k_whole)
  intro g L' h₁ gr FG F' N' B' X' T'
  k_fold

  k_with_none
  k_with "my get" => refine haltI ?_
  k_steps
  refine haltO ?_
  rw [show (valueAt wmL (PySem.Str.ofString "GRID")).getD (Value.ref 43) = Value.ref 43 from by rfl]
  k_steps
  rename Fr h₀ L _ _ => kF
  rename_i kR
  exact ret _ _ kF kR
end
section
variable {w : World} {mean : ExcName → Option Value} {mg mb : Str → Option Value} {dp un : Nat} {gd : Option (List Code)} {cn : Str} {nms : List (Str × NameKind)} {b1 b2 : Bool} {mo : List (Str × Const)} {L a : Addr} {ccd : Value} {cl : List (Str × Addr)} {outer : List Env}
   {A₀ : Around} {base h₀ : Heap} {m : Str → Option Value} {news : Led} {s : Shared} {Q E : Value → Shared → Prop}
theorem fmt5_spec {t1 : Tok}
   (B : Below A₀ base outer h₀) (F : Fr h₀ L s.heap m) (X : (hd.heap_39 w.params).In h₀) (N : News h₀ L s.heap news) (T : TopX mean mg mb h₀)
   (hd : dp + 1 < recursionLimit) (hu : un + 100 < cLine)
   (ret : ∀ h' tk', Fr h₀ L h' m → News h₀ L h' news → Q (.ref 43) {s with heap := h', toks := tk'}) :
   wpAny (model prg w) (ktrTop dp un gd cn (fsc nms b1 b2 mo) L a ccd cl outer) (call (.ref 36) [.str (PySem.Str.ofString "no such") t1]) Q E s := by
  refine wpAny_call ?_
  k_dflt (refine' m_call (expl := []) (rest := news) B F X (News.nil) (N) (fun _ _ h => nomatch h) T ?kA ?kF ?kK ?k6 ?k7 ?k8 ?k9 ?kB ?_ ?c2 ?c3 ?c4 ?c5; (case kA => exact rfl); (case kF => exact rfl); (case kK => exact rfl); (case k6 => k_is); (case k7 => k_is); (case k8 => ktr_room); (case k9 => first | exact BindsTo.of_eq rfl | exact binds_K (by k_in) rfl (by k_is) rfl rfl rfl); (case c5 => decide); (case kB => exact locs rfl); (case c2 => exact rfl); (case c3 => exact rfl); (case c4 => exact rfl); k_whole)
  intro g L' h₁ gr FG F' N' B' X' T'
  k_fold

  k_with_none
  k_with "my get" => refine haltI ?_
  k_steps
  refine haltO ?_
  rw [show (valueAt wmL (PySem.Str.ofString "NO SUCH")).getD (Value.ref 43) = Value.ref 43 from by rfl]
  k_steps
  rename Fr h₀ L _ _ => kF
  rename_i kR
  exact ret _ _ kF kR
end
end Mine

namespace Mine
open PySem PySem.W PyProof.Rows

def vrows (hdd ind said : Str) (tc : Bool) (ys : List Str) (z : Str) : List Str :=
  (hdd ++ PySem.Str.ofString "(" ++ said) :: (ys.map (fun x => ind ++ x ++ PySem.Str.ofString ",") ++ [ind ++ z ++ (if tc = true then PySem.Str.ofString "," else PySem.Str.ofString ""), PySem.Str.ofString ")"])
theorem cnl_eq : PySem.Str.ofString ",\n" = PySem.Str.ofString "," ++ PySem.Str.ofString "\n" := by decide +kernel
theorem vrows_join {ind c e z : Str} : ∀ {h : Str} {ys : List Str}, h ++ PySem.Str.ofString "\n" ++ ind ++ Str.join (PySem.Str.ofString ",\n" ++ ind) (ys ++ [z]) ++ c ++ PySem.Str.ofString "\n" ++ e =
    Str.join (PySem.Str.ofString "\n") (h :: (ys.map (fun x => ind ++ x ++ PySem.Str.ofString ",") ++ [ind ++ z ++ c, e]))
  | h, [] => by
    show h ++ PySem.Str.ofString "\n" ++ ind ++ z ++ c ++ PySem.Str.ofString "\n" ++ e = h ++ PySem.Str.ofString "\n" ++ (ind ++ z ++ c ++ PySem.Str.ofString "\n" ++ e)
    simp only [Str.append_assoc]
  | h, y :: ys => by
    rw [List.map_cons, List.cons_append, List.cons_append, join_cons (by simp), join_cons (by simp), ← vrows_join (h := ind ++ y ++ PySem.Str.ofString ","), cnl_eq]
    simp only [Str.append_assoc]
theorem vhi_eq {k : Nat} {rm tc : Bool} {hdd ind pfx z : Str} {ys : List Str} : vhiText hdd ind (addTo k rm pfx (PySem.Str.ofString "")) tc (ys ++ [z]) = Txt.join (PySem.Str.ofString "\n") (vrows hdd ind (saidOf k rm pfx) tc ys z) := by
  rw [addTo_said, show PySem.Str.ofString "" ++ saidOf k rm pfx = saidOf k rm pfx from Str.empty_append _, vhiText, vrows]
  rw [show Txt.join (PySem.Str.ofString ",\n" ++ ind) (ys ++ [z]) = Str.join (PySem.Str.ofString ",\n" ++ ind) (ys ++ [z]) from StrLaws.glued_eq_join _ _]
  rw [vrows_join]
  exact (StrLaws.glued_eq_join _ _).symm
theorem strs_of_rel {f : Str → Str} : ∀ {us : List Value} {ys : List Str} {ws : List Value}, StrsAre us ys → ws.length = us.length → (∀ (i : Nat) v y, us[i]? = some v → ws[i]? = some y → ∀ x t, v = .str x t → ∃ t', y = .str (f x) t') → StrsAre ws (ys.map f)
  | _, _, ws, .nil, hl, _ => by
    rw [List.eq_nil_of_length_eq_zero hl]
    exact .nil
  | _, _, [], .cons _ _ _, hl, _ => by simp at hl
  | _, _, w :: ws, .cons y t h, hl, hR => by
    obtain ⟨t', rfl⟩ := hR 0 _ _ rfl rfl y t rfl
    exact .cons _ _ (strs_of_rel h (Nat.succ.inj hl) fun i v y' h1 h2 => hR (i + 1) v y' h1 h2)
theorem vrows_sum {hdd ind said z : Str} {tc : Bool} {ys : List Str} (hh : hdd.length ≤ 20) (hi : ind.length ≤ 10) (hs : said.length ≤ 30) (hy : ys.length ≤ 11) (hg : ∀ x ∈ ys ++ [z], GoodNm x) : ((vrows hdd ind said tc ys z).map (·.length)).sum + (vrows hdd ind said tc ys z).length ≤ 1048576 := by
  have l1 : (PySem.Str.ofString "(").length = 1 := by decide +kernel
  have l2 : (PySem.Str.ofString ",").length = 1 := by decide +kernel
  have l3 : (PySem.Str.ofString "").length = 0 := by decide +kernel
  have l4 : (PySem.Str.ofString ")").length = 1 := by decide +kernel
  have hB : ∀ y ∈ vrows hdd ind said tc ys z, y.length ≤ 100 := fun x hx => by
    rcases List.mem_cons.mp hx with rfl | hx
    · simp only [Str.length_append]; omega
    · rcases List.mem_append.mp hx with hx | hx
      · obtain ⟨y, hy', rfl⟩ := List.mem_map.mp hx
        have := (hg y (List.mem_append_left _ hy')).2
        simp only [Str.length_append]; omega
      · have := (hg z (by simp)).2
        rcases List.mem_cons.mp hx with rfl | hx
        · simp only [Str.length_append]
          split <;> omega
        · rw [List.mem_singleton.mp hx]; omega
  have h4 := StrLaws.sumLen_le _ hB
  have h5 : (vrows hdd ind said tc ys z).length ≤ 14 := by
    simp only [vrows, List.length_cons, List.length_append, List.length_map, List.length_nil]
    omega
  have h6 := Nat.mul_le_mul_right 100 h5
  omega

def CutL (h₀ : Heap) (L : Addr) (s : Shared) (y : Str) (xs : List Str) (m : Str → Option Value) (nw : Led) (f : Flow) (s' : Shared) : Prop :=
  f = .next ∧ ∃ D ws n tk h', s' = { s with heap := h', toks := tk } ∧ StrsAre ws xs ∧ Fr h₀ L h' (fun z => if z = y then some (.ref D) else m z) ∧ News h₀ L h' ((D, W.listOf ws.toArray n) :: nw)
theorem CutL.intro {h₀ h' : Heap} {L D : Addr} {s : Shared} {y : Str} {xs : List Str} {ws : List Value} {n tk : Nat} {m m' : Str → Option Value} {nw all : Led} (F : Fr h₀ L h' m') (N : News h₀ L h' all) (e : StrsAre ws xs) (em : m' = fun z => if z = y then some (.ref D) else m z) (hm : (D, W.listOf ws.toArray n) ∈ all) (sub : ∀ p ∈ nw, p ∈ all) : CutL h₀ L s y xs m nw .next { s with heap := h', toks := tk } :=
  ⟨rfl, D, ws, n, tk, h', rfl, e, em ▸ F, news_cons N hm (news_sub N sub)⟩
section
variable {prog : Program} {w : World} {A : Around} {E : Value → Shared → Prop} {s : Shared} {env : Env} {h₀ : Heap} {L : Addr} {st : Stmt} {Q : Flow → Shared → Prop}
theorem m_cutL {m : Str → Option Value} {nw : Led} (y : Str) (xs : List Str) (F : Fr h₀ L s.heap m) (N : News h₀ L s.heap nw) (h1 : wpAny (model prog w) A (exec st env) (CutL h₀ L s y xs m nw) E s)
    (h2 : ∀ D ws n tk h', StrsAre ws xs → Fr h₀ L h' (fun z => if z = y then some (.ref D) else m z) → News h₀ L h' ((D, W.listOf ws.toArray n) :: nw) → Q .next { s with heap := h', toks := tk }) : wpAny (model prog w) A (exec st env) Q E s :=
  wpAny_mono h1 (fun f s' q => by
    obtain ⟨rfl, D, ws, n, tk, h', rfl, e, F, N⟩ := q
    exact h2 D ws n tk h' e F N) fun _ _ e => e
end
section
variable {w : World} {mean : ExcName → Option Value} {mg mb : Str → Option Value} {dp un : Nat} {gd : Option (List Code)} {cn : Str} {nms : List (Str × NameKind)} {b1 b2 : Bool} {mo : List (Str × Const)} {L a : Addr} {ccd : Value} {cl : List (Str × Addr)} {outer : List Env}
   {A₀ : Around} {base h₀ : Heap} {m : Str → Option Value} {news : Led} {s : Shared} {Q E : Value → Shared → Prop}
theorem vhi2_spec {il c : Addr} {o : Obj} {n0 k : Nat} {vs : List Value} {hdd ind pfx : Str} {wide : Int} {tc rm : Bool} {t1 t2 t3 t4 t5 t6 : Tok} {tz : Tok} {ys : List Str} {z : Str}
   (B : Below A₀ base outer h₀) (F : Fr h₀ L s.heap m) (X : (hd.heap_39 w.params).In h₀) (N : News h₀ L s.heap news) (T : TopX mean mg mb h₀)
   (hm : (il, W.listOf (vs ++ [Value.str z tz]).toArray n0) ∈ news) (hc : (c, o) ∈ news) (ho : CmtObj k o) (hk : k < 4) (hv : StrsAre vs ys) (hg : ∀ x ∈ ys ++ [z], GoodNm x) (hx : ys.length ≤ 10) (hh : hdd.length ≤ 20) (hi : ind.length ≤ 10) (hp : pfx.length ≤ 10)
   (hd : dp + 3 < recursionLimit) (hu : un + 350 < cLine)
   (ret : ∀ t h' tk', Fr h₀ L h' m → News h₀ L h' news → Q (.str (Txt.join (PySem.Str.ofString "\n") (vrows hdd ind (saidOf k rm pfx) tc ys z)) t) {s with heap := h', toks := tk'}) :
   wpAny (model prg w) (ktrTop dp un gd cn (fsc nms b1 b2 mo) L a ccd cl outer) (call (.ref 50) [] [(PySem.Str.ofString "statement", .str hdd t1), (PySem.Str.ofString "imports", .ref il), (PySem.Str.ofString "white_space", .str ind t2), (PySem.Str.ofString "indent", .str ind t3), (PySem.Str.ofString "line_length", .int wide t4), (PySem.Str.ofString "comments", .ref c), (PySem.Str.ofString "line_separator", .str (PySem.Str.ofString "\n") t5), (PySem.Str.ofString "comment_prefix", .str pfx t6), (PySem.Str.ofString "include_trailing_comma", .bool tc), (PySem.Str.ofString "remove_comments", .bool rm)]) Q E s :=
  vhi_spec B F X N T hm hc ho hk (strs_snoc hv) hg (by rw [List.length_append]; exact Nat.succ_le_succ hx) hh hi hp hd hu fun t h' tk' F' N' => by
    rw [vhi_eq]
    exact ret t h' tk' F' N'
end
end Mine

namespace Mine
open PySem PySem.W PyProof.Rows
theorem fresh_LBF : (hd.heap_39 = hd.heap_39) ∧ PySem.Challenge.rw_aq6041_01 = PySem.Challenge.rw_aq6041_01 := by
  w_top off
  k_with_none
  k_fill
  exact ⟨rfl, rfl⟩
local macro_rules | `(tactic| walk_at "exec For") => `(tactic| (k_here; (rename Fr _ _ _ _ => lF'); (with_unfolding_all refine' For_invVF lF' ?mzk1 ?mzk2 ?_; (case mzk1 => exact rfl); (case mzk2 => exact rfl); k_whole)))
local macro_rules | `(tactic| walk_at "exec For Name Name cons nil") => `(tactic| (k_here; (rename Fr _ _ _ _ => lF'); (with_unfolding_all refine' For_invVF lF' ?mzk1 ?mzk2 ?_; (case mzk1 => exact rfl); (case mzk2 => exact rfl); k_whole)))
local macro_rules | `(tactic| walk_at "exec For Name Subscript cons nil") => `(tactic| (k_here; (rename Fr _ _ _ _ => lF'); (with_unfolding_all refine' For_invVF lF' ?mzk1 ?mzk2 ?_; (case mzk1 => exact rfl); (case mzk2 => exact rfl); k_whole)))
local macro_rules | `(tactic| walk_at "exec For Name Call cons nil") => `(tactic| (k_here; (rename Fr _ _ _ _ => lF'); (with_unfolding_all refine' For_invVF lF' ?mzk1 ?mzk2 ?_; (case mzk1 => exact rfl); (case mzk2 => exact rfl); k_whole)))
local macro_rules | `(tactic| walk_at "execs nil") => `(tactic| refine wpAny_execs_nil ?_)
local macro_rules | `(tactic| walk_at "pyIter ref") => `(tactic| k_extra "my loop")
local macro_rules | `(tactic| walk_at "exec While") => `(tactic| k_extra "my while")
local macro_rules | `(tactic| walk_at "call builtin:str.split") => `(tactic| (k_here; (with_reducible show wpAny _ _ (call (Value.builtin "str.split") [Value.str _ _, Value.str _ _]) _ _ _); k_dflt (refine' m_splitH ?mzF ?mzN ?mzy ?mzs ?mzz ?_; (case mzF => k_asm); (case mzN => k_asm); (case mzs => with_reducible assumption); (case mzy => decide); (case mzz => omega)); intro D' vs' tu' h' k' hI' hI2' F' N' l1; (try k_lt l1); (try k_sweep)))
local macro_rules | `(tactic| walk_at "call builtin:str.split") => `(tactic| (k_here; (with_reducible show wpAny _ _ (call (Value.builtin "str.split") [Value.str _ _, Value.str _ _]) _ _ _); k_dflt (refine' m_splitT ?mzF ?mzN ?mzy ?mzs ?mzz ?_; (case mzF => k_asm); (case mzN => k_asm); (case mzs => with_reducible assumption); (case mzy => decide); (case mzz => omega)); intro D' vs' tz' h' k' hI' hI2' F' N' l1; (try k_lt l1); (try k_sweep)))
local macro_rules | `(tactic| walk_at "subscriptTail") => `(tactic| (k_here; (with_reducible show wpAny _ _ (subscriptTail _ _ (Value.ref _) (Value.int 0 _)) _ _ _); k_dflt (refine' m_item (k := 0) ?mzN ?mzm ?mzv ?mzk ?_ ?mzs; (case mzN => k_asm); (case mzm => k_mem); (case mzv => rfl); (case mzk => decide); (case mzs => with_unfolding_all rfl))))
local macro_rules | `(tactic| walk_at "subscriptTail Name Constant ref int") => `(tactic| (k_here; (with_reducible show wpAny _ _ (subscriptTail _ _ (Value.ref _) (Value.int 0 _)) _ _ _); k_dflt (refine' m_item (k := 0) ?mzN ?mzm ?mzv ?mzk ?_ ?mzs; (case mzN => k_asm); (case mzm => k_mem); (case mzv => rfl); (case mzk => decide); (case mzs => with_unfolding_all rfl))))
local macro_rules | `(tactic| walk_at "subscriptTail Call Constant ref int") => `(tactic| (k_here; (with_reducible show wpAny _ _ (subscriptTail _ _ (Value.ref _) (Value.int 0 _)) _ _ _); k_dflt (refine' m_item (k := 0) ?mzN ?mzm ?mzv ?mzk ?_ ?mzs; (case mzN => k_asm); (case mzm => k_mem); (case mzv => rfl); (case mzk => decide); (case mzs => with_unfolding_all rfl))))
local macro_rules | `(tactic| walk_at "subscriptTail") => `(tactic| (k_here; (with_reducible show wpAny _ _ (subscriptTail _ _ (Value.ref _) (Value.int (-1) _)) _ _ _); k_dflt (refine' m_last ?mzN ?mzm ?_ ?mzs; (case mzN => k_asm); (case mzm => k_mem); (case mzs => with_unfolding_all rfl))))
local macro_rules | `(tactic| walk_at "subscriptTail Name UnaryOp ref int") => `(tactic| (k_here; (with_reducible show wpAny _ _ (subscriptTail _ _ (Value.ref _) (Value.int (-1) _)) _ _ _); k_dflt (refine' m_last ?mzN ?mzm ?_ ?mzs; (case mzN => k_asm); (case mzm => k_mem); (case mzs => with_unfolding_all rfl))))
local macro_rules | `(tactic| walk_at "subscriptTail Call UnaryOp ref int") => `(tactic| (k_here; (with_reducible show wpAny _ _ (subscriptTail _ _ (Value.ref _) (Value.int (-1) _)) _ _ _); k_dflt (refine' m_last ?mzN ?mzm ?_ ?mzs; (case mzN => k_asm); (case mzm => k_mem); (case mzs => with_unfolding_all rfl))))
local macro_rules | `(tactic| walk_at "subscriptTail") => `(tactic| (k_here; (with_reducible show wpAny _ _ (subscriptTail _ (PySem.Expr.Slice _ _ none _) (Value.ref _) (Value.ref _)) _ _ _); k_dflt (first
  | (refine' kmk_slice_lit ?mzF ?mzN ?mzl ?mzp ?mzq (pick_tail _ _) ?_ ?mzs ?mzt ?mzz; (case mzF => k_asm); (case mzN => k_asm); (case mzl => exact News.isList (by k_asm) (by k_mem)); (case mzp => kmk_part); (case mzq => kmk_part); (case mzs => with_unfolding_all rfl); (case mzt => kmk_pure); (case mzz => (rw [PySem.sizeLine_eq]; (simp only [List.size_toArray, List.length_cons, List.length_append, List.length_nil]); omega)))
  | (refine' kmk_slice_lit ?mzF ?mzN ?mzl ?mzp ?mzq (pick_init _ _) ?_ ?mzs ?mzt ?mzz; (case mzF => k_asm); (case mzN => k_asm); (case mzl => exact News.isList (by k_asm) (by k_mem)); (case mzp => kmk_part); (case mzq => kmk_part); (case mzs => with_unfolding_all rfl); (case mzt => kmk_pure); (case mzz => (rw [PySem.sizeLine_eq]; (simp only [List.size_toArray, List.length_cons, List.length_append, List.length_nil]); omega)))
  | (refine' kmk_slice_lit ?mzF ?mzN ?mzl ?mzp ?mzq (pick_60 _) ?_ ?mzs ?mzt ?mzz; (case mzF => k_asm); (case mzN => k_asm); (case mzl => exact News.isList (by k_asm) (by k_mem)); (case mzp => kmk_part); (case mzq => kmk_part); (case mzs => with_unfolding_all rfl); (case mzt => kmk_pure); (case mzz => (rw [PySem.sizeLine_eq]; (simp only [List.size_toArray, List.length_cons, List.length_append, List.length_nil]); omega)))); intro D' h' F' N' l1; (try k_lt l1); (try k_sweep)))
local macro_rules | `(tactic| walk_at "subscriptTail Name Slice ref ref") => `(tactic| (k_here; (with_reducible show wpAny _ _ (subscriptTail _ (PySem.Expr.Slice _ _ none _) (Value.ref _) (Value.ref _)) _ _ _); k_dflt (first
  | (refine' kmk_slice_lit ?mzF ?mzN ?mzl ?mzp ?mzq (pick_tail _ _) ?_ ?mzs ?mzt ?mzz; (case mzF => k_asm); (case mzN => k_asm); (case mzl => exact News.isList (by k_asm) (by k_mem)); (case mzp => kmk_part); (case mzq => kmk_part); (case mzs => with_unfolding_all rfl); (case mzt => kmk_pure); (case mzz => (rw [PySem.sizeLine_eq]; (simp only [List.size_toArray, List.length_cons, List.length_append, List.length_nil]); omega)))
  | (refine' kmk_slice_lit ?mzF ?mzN ?mzl ?mzp ?mzq (pick_init _ _) ?_ ?mzs ?mzt ?mzz; (case mzF => k_asm); (case mzN => k_asm); (case mzl => exact News.isList (by k_asm) (by k_mem)); (case mzp => kmk_part); (case mzq => kmk_part); (case mzs => with_unfolding_all rfl); (case mzt => kmk_pure); (case mzz => (rw [PySem.sizeLine_eq]; (simp only [List.size_toArray, List.length_cons, List.length_append, List.length_nil]); omega)))
  | (refine' kmk_slice_lit ?mzF ?mzN ?mzl ?mzp ?mzq (pick_60 _) ?_ ?mzs ?mzt ?mzz; (case mzF => k_asm); (case mzN => k_asm); (case mzl => exact News.isList (by k_asm) (by k_mem)); (case mzp => kmk_part); (case mzq => kmk_part); (case mzs => with_unfolding_all rfl); (case mzt => kmk_pure); (case mzz => (rw [PySem.sizeLine_eq]; (simp only [List.size_toArray, List.length_cons, List.length_append, List.length_nil]); omega)))); intro D' h' F' N' l1; (try k_lt l1); (try k_sweep)))
local macro_rules | `(tactic| walk_at "call builtin:list.append") => `(tactic| (k_here; (with_reducible show wpAny _ _ (call (Value.builtin _) [Value.ref _, _]) _ _ _); k_dflt (refine' m_append ?mzF ?mzN ?mzU ?mzz ?_; (case mzF => k_asm); (case mzN => k_asm); (case mzU => k_upd); (case mzz => ((try simp only [List.length_cons, List.length_append, List.length_nil]); omega))); intro h' F' N'; (try k_sweep)))
local macro_rules | `(tactic| walk_at "setItem ref int") => `(tactic| (k_here; (with_reducible show wpAny _ _ (setItem (Value.ref _) (Value.int (-1) _) _) _ _ _); k_dflt (refine' m_setLast ?mzF ?mzN ?mzU ?_; (case mzF => k_asm); (case mzN => k_asm); (case mzU => k_upd)); intro h' F' N'; (try k_sweep)))
local macro_rules | `(tactic| walk_at "call builtin:list.pop") => `(tactic| (k_here; (with_reducible show wpAny _ _ (call (Value.builtin _) [Value.ref _, Value.int 0 _]) _ _ _); k_dflt (refine' m_pop0 ?mzF ?mzN ?mzU ?mzz ?_; (case mzF => k_asm); (case mzN => k_asm); (case mzU => k_upd); (case mzz => omega)); intro h' F' N'; (try dsimp only [List.nil_append, List.cons_append] at N')))
local macro_rules | `(tactic| walk_at "call builtin:str.join") => `(tactic| (k_here; (with_reducible show wpAny _ _ (call (Value.builtin _) [Value.str _ _, Value.ref _]) _ _ _); k_dflt (refine' m_join ?mzN ?mzm ?mzi ?mzz ?mzw ?_; (case mzN => k_asm); (case mzm => k_mem); (case mzi => with_reducible assumption); (case mzz => decide); (case mzw => first | assumption | omega)); intro t' k'))
local macro_rules | `(tactic| walk_at "call ref") => `(tactic| (k_here; (with_reducible show wpAny _ _ (call (Value.ref 84) [Value.ref _, Value.int _ _]) _ _ _); (k_dflt (refine' take_spec ?k1 ?k2 ?k3 ?k4 ?k5 ?mzU1 ?mzU2 ?mzne ?mzod ?mzol ?mzm ?mzm2 ?mzd ?mzu ?_; (case k1 => k_asm); (case k2 => k_asm); (case k3 => k_asm); (case k4 => k_asm); (case k5 => k_asm); (case mzU1 => k_updF); (case mzod => with_reducible assumption); (case mzU2 => (intro _; k_updF)); (case mzne => (refine neN ?_; omega)); (case mzol => with_reducible assumption); (case mzm => decide); (case mzm2 => decide); (case mzd => decide); (case mzu => decide); k_whole)); intro r9 t9 od9 ol9 h9 tk9 hr0 hr1 hod9 hol9 F9 N9; (try dsimp only at N9); (try k_sweep); (try dsimp only); (try k_fold)))
local macro_rules | `(tactic| walk_at "call ref") => `(tactic| (k_here; (with_reducible show wpAny _ _ (call (Value.ref 77) [Value.ref _]) _ _ _); (k_dflt (refine' draw_spec ?k1 ?k2 ?k3 ?k4 ?k5 ?mzhS ?mzhi ?mzhl ?mzd ?mzu ?_; (case k1 => k_asm); (case k2 => k_asm); (case k3 => k_asm); (case k4 => k_asm); (case k5 => k_asm); (case mzhS => with_reducible assumption); (case mzhi => with_reducible assumption); (case mzhl => omega); (case mzd => decide); (case mzu => decide); k_whole)); intro d9 l9 od9 ol9 h9 tk9 hne9 hod9 hol9 F9 N9 m1 m2; (have m1' : @Ne Nat _ _ := m1 _ (List.Mem.head _)); (have m2' : @Ne Nat _ _ := m2 _ (List.Mem.head _)); (dsimp only at m1' m2'); (clear m1 m2); (try k_sweep); (try dsimp only); (try k_fold)))
local macro_rules | `(tactic| walk_at "call ref") => `(tactic| (k_here; (with_reducible show wpAny _ _ (call (Value.ref 91) [Value.ref _]) _ _ _); (k_dflt (refine' names_spec ?k1 ?k2 ?k3 ?k4 ?k5 ?mzU1 ?mzU2 ?mzne ?mzod ?mzol ?mzd ?mzu ?_; (case k1 => k_asm); (case k2 => k_asm); (case k3 => k_asm); (case k4 => k_asm); (case k5 => k_asm); (case mzU1 => k_updF); (case mzod => with_reducible assumption); (case mzU2 => (intro _; k_updF)); (case mzne => (refine neN ?_; omega)); (case mzol => with_reducible assumption); (case mzd => decide); (case mzu => decide); k_whole)); intro R9 vs9 n9 xs9 od9 ol9 h9 tk9 hs9 hx0 hx1 hg9 hod9 hol9 F9 N9 m9; (try dsimp only at N9); (have m1' : @Ne Nat _ _ := m9 _ (List.Mem.head _)); (have m2' : @Ne Nat _ _ := m9 _ (List.Mem.tail _ (List.Mem.head _))); (have m3' : @Ne Nat _ _ := m9 _ (List.Mem.tail _ (List.Mem.tail _ (List.Mem.head _)))); (dsimp only at m1' m2' m3'); (clear m9); (try k_sweep); (try dsimp only); (try k_fold); k_extra "my names"))
local macro_rules | `(tactic| walk_at "call ref") => `(tactic| (k_here; (with_reducible show wpAny _ _ (call (Value.ref 105) [Value.ref _, Value.str _ _, Value.int _ _, Value.str _ _, Value.str _ _]) _ _ _); (k_dflt (refine' lgrid_spec ?k1 ?k2 ?k3 ?k4 ?k5 ?mzgm ?mzgv ?mzgg ?mzgx ?mzgh ?mzgi ?mzgs ?mzgw ?mzgw2 ?mzgd ?mzgu ?_; (case k1 => k_asm); (case k2 => k_asm); (case k3 => k_asm); (case k4 => k_asm); (case k5 => k_asm); (case mzgm => k_mem); (case mzgv => with_reducible assumption); (case mzgg => with_reducible assumption); (case mzgx => omega); (case mzgh => with_reducible assumption); (case mzgi => with_reducible assumption); (case mzgs => with_reducible assumption); (case mzgw => omega); (case mzgw2 => omega); (case mzgd => decide); (case mzgu => decide); k_whole)); intro R9 ws9 t9 n9 h9 tk9 hs9 F9 N9 m9; (try k_sweep); (try dsimp only); (try k_fold); k_extra "my rows"))
local macro_rules | `(tactic| walk_at "call ref") => `(tactic| (k_here; (with_reducible show wpAny _ _ (call (Value.ref 43) [] _) _ _ _); (k_dflt show wpAny _ _ (call (Value.ref 43) [] [(PySem.Str.ofString "statement", Value.str _ _), (PySem.Str.ofString "imports", Value.ref _), (PySem.Str.ofString "white_space", Value.str _ _), (PySem.Str.ofString "indent", Value.str _ _), (PySem.Str.ofString "line_length", Value.int _ _), (PySem.Str.ofString "comments", Value.ref _), (PySem.Str.ofString "line_separator", Value.str (PySem.Str.ofString "\n") _), (PySem.Str.ofString "comment_prefix", Value.str _ _), (PySem.Str.ofString "include_trailing_comma", Value.bool _), (PySem.Str.ofString "remove_comments", Value.bool _)]) _ _ _); (k_dflt (refine' grid_spec ?k1 ?k2 ?k3 ?k4 ?k5 ?mzjU ?mzjc ?mzjn ?mzjo ?mzjk ?mzjv ?mzjg ?mzjx ?mzjh ?mzji ?mzjp ?mzjs ?mzjw ?mzjw2 ?mzjd ?mzju ?_; (case k1 => k_asm); (case k2 => k_asm); (case k3 => k_asm); (case k4 => k_asm); (case k5 => k_asm); (case mzjU => k_updF); (case mzjc => k_mem); (case mzjn => (refine neN ?_; omega)); (case mzjo => exact ⟨_, _, _, rfl⟩); (case mzjk => assumption); (case mzjv => with_reducible assumption); (case mzjg => with_reducible assumption); (case mzjx => omega); (case mzjh => with_reducible assumption); (case mzji => with_reducible assumption); (case mzjp => with_reducible assumption); (case mzjs => with_reducible assumption); (case mzjw => omega); (case mzjw2 => omega); (case mzjd => decide); (case mzju => decide); k_whole)); intro t9 n9 h9 tk9 F9 N9; (try dsimp only at N9); (try k_sweep); (try dsimp only); (try k_fold); k_extra "my grid"))

theorem strs_get {vs : List Value} {xs : List Str} (h : StrsAre vs xs) {k : Nat} (hk : k < xs.length) : ∃ x t, x ∈ xs ∧ vs[k]? = some (.str x t) := by
  have hv : k < vs.length := by rw [h.len_eq]; exact hk
  obtain ⟨x, t, e, hx⟩ := h.item k vs[k] (List.getElem?_eq_getElem hv)
  exact ⟨x, t, List.mem_of_getElem? hx, by rw [List.getElem?_eq_getElem hv, e]⟩
section
variable {prog : Program} {w : World} {A : Around} {E : Value → Shared → Prop} {s : Shared} {h₀ : Heap} {L D : Addr} {m : Str → Option Value} {news : Led} {n : Nat}
theorem m_pick {value slice : PySem.Expr} {vs : List Value} {xs : List Str} {r : Int} {u : Tok} {Q : Value → Shared → Prop} (N : News h₀ L s.heap news) (hm : (D, W.listOf vs.toArray n) ∈ news) (hi : StrsAre vs xs) (hz : xs.length ≤ 100) (h0 : 0 ≤ r) (h1 : r < xs.length) (h : ∀ x t, x ∈ xs → Q (.str x t) s)
    (hs : ∀ r : Int, subscripted slice false (.ref D) (.int r u) = operate [.ref D, .int r u] (getItem (.ref D) (.int r u)) := by intro _; with_unfolding_all rfl) :
    wpAny (model prog w) A (subscriptTail value slice (.ref D) (.int r u)) Q E s := by
  obtain ⟨k, rfl⟩ := Int.eq_ofNat_of_zero_le h0
  obtain ⟨x, t, hx, hv⟩ := strs_get hi (k := k) (by omega)
  exact m_item N hm hv (by omega) (h x t hx) (hs _)
end
local macro_rules | `(tactic| walk_at "subscriptTail List Call ref int") => `(tactic| (k_here; (with_reducible show wpAny _ _ (subscriptTail _ _ (Value.ref _) (Value.int _ _)) _ _ _); k_dflt (refine' m_pick ?mzN ?mzm ?mzi ?mzz ?mza ?mzb ?_ ?mzs; (case mzN => k_asm); (case mzm => k_mem); (case mzi => first | exact .cons _ _ (.cons _ _ (.cons _ _ .nil)) | exact .cons _ _ (.cons _ _ .nil)); (case mzz => decide); (case mza => with_reducible assumption); (case mzb => (simp only [List.length_cons, List.length_nil]; omega)); (case mzs => intro _; with_unfolding_all rfl)); intro x8 t8 hx8))
local macro_rules | `(tactic| walk_at "subscriptTail") => `(tactic| (k_here; (with_reducible show wpAny _ _ (subscriptTail _ _ (Value.ref _) (Value.int _ _)) _ _ _); k_dflt (refine' m_pick ?mzN ?mzm ?mzi ?mzz ?mza ?mzb ?_ ?mzs; (case mzN => k_asm); (case mzm => k_mem); (case mzi => first | exact .cons _ _ (.cons _ _ (.cons _ _ .nil)) | exact .cons _ _ (.cons _ _ .nil)); (case mzz => decide); (case mza => with_reducible assumption); (case mzb => (simp only [List.length_cons, List.length_nil]; omega)); (case mzs => intro _; with_unfolding_all rfl)); intro x8 t8 hx8))
section
variable {prog : Program} {w : World} {A : Around} {E : Value → Shared → Prop} {s : Shared} {h₀ : Heap} {L D : Addr} {m : Str → Option Value} {news : Led} {n : Nat}
theorem m_pickC {value slice : PySem.Expr} {a0 a1 a2 a3 : Addr} {n0 n1 n2 n3 : Nat} {t1 t2 t3 t4 t5 : Tok} {r : Int} {u : Tok} {Q : Value → Shared → Prop} (N : News h₀ L s.heap news) (hm : (D, W.listOf [Value.ref a0, Value.ref a1, Value.ref a2, Value.ref a3].toArray n) ∈ news)
    (h0 : (a0, W.listOf [].toArray n0) ∈ news) (h1 : (a1, W.listOf [Value.str (PySem.Str.ofString "why") t1].toArray n1) ∈ news) (h2 : (a2, W.listOf [Value.str (PySem.Str.ofString "one") t2, Value.str (PySem.Str.ofString "two") t3].toArray n2) ∈ news) (h3 : (a3, W.listOf [Value.str (PySem.Str.ofString "why") t4, Value.str (PySem.Str.ofString "why") t5].toArray n3) ∈ news)
    (hr0 : 0 ≤ r) (hr1 : r < 4) (h : ∀ (c : Nat) o k, (c, o) ∈ news → CmtObj k o → k < 4 → (@Eq Nat c a0 ∨ @Eq Nat c a1 ∨ @Eq Nat c a2 ∨ @Eq Nat c a3) → Q (.ref c) s)
    (hs : ∀ r : Int, subscripted slice false (.ref D) (.int r u) = operate [.ref D, .int r u] (getItem (.ref D) (.int r u)) := by intro _; with_unfolding_all rfl) :
    wpAny (model prog w) A (subscriptTail value slice (.ref D) (.int r u)) Q E s := by
  obtain ⟨k, rfl⟩ := Int.eq_ofNat_of_zero_le hr0
  have hk : k < 4 := by omega
  rcases k with _ | _ | _ | _ | k
  · exact m_item N hm rfl (by omega) (h a0 _ 0 h0 ⟨t1, t1, _, rfl⟩ (by omega) (.inl rfl)) (hs _)
  · exact m_item N hm rfl (by omega) (h a1 _ 1 h1 ⟨t1, t1, _, rfl⟩ (by omega) (.inr (.inl rfl))) (hs _)
  · exact m_item N hm rfl (by omega) (h a2 _ 2 h2 ⟨t2, t3, _, rfl⟩ (by omega) (.inr (.inr (.inl rfl)))) (hs _)
  · exact m_item N hm rfl (by omega) (h a3 _ 3 h3 ⟨t4, t5, _, rfl⟩ (by omega) (.inr (.inr (.inr rfl)))) (hs _)
  · omega
end
local macro_rules | `(tactic| walk_at "subscriptTail List Call ref int") => `(tactic| (k_here; (with_reducible show wpAny _ _ (subscriptTail _ _ (Value.ref _) (Value.int _ _)) _ _ _); k_dflt (refine' m_pickC ?mzN ?mzm ?mz0 ?mz1 ?mz2 ?mz3 ?mza ?mzb ?_ ?mzs; (case mzN => k_asm); (case mzm => k_mem); (case mz0 => k_mem); (case mz1 => k_mem); (case mz2 => k_mem); (case mz3 => k_mem); (case mza => assumption); (case mzb => with_reducible assumption); (case mzs => intro _; with_unfolding_all rfl)); intro c8 o8 k8 hc8 ho8 hk8 he8; k_extra "my pick"))
local macro_rules | `(tactic| walk_at "subscriptTail") => `(tactic| (k_here; (with_reducible show wpAny _ _ (subscriptTail _ _ (Value.ref _) (Value.int _ _)) _ _ _); k_dflt (refine' m_pickC ?mzN ?mzm ?mz0 ?mz1 ?mz2 ?mz3 ?mza ?mzb ?_ ?mzs; (case mzN => k_asm); (case mzm => k_mem); (case mz0 => k_mem); (case mz1 => k_mem); (case mz2 => k_mem); (case mz3 => k_mem); (case mza => assumption); (case mzb => with_reducible assumption); (case mzs => intro _; with_unfolding_all rfl)); intro c8 o8 k8 hc8 ho8 hk8 he8; k_extra "my pick"))

def CutP (h₀ : Heap) (L : Addr) (s : Shared) (y : Str) (x : Str) (m : Str → Option Value) (nw : Led) (f : Flow) (s' : Shared) : Prop :=
  f = .next ∧ ∃ t tk h', s' = { s with heap := h', toks := tk } ∧ Fr h₀ L h' (fun z => if z = y then some (.str x t) else m z) ∧ News h₀ L h' nw
theorem CutP.intro {h₀ h' : Heap} {L : Addr} {s : Shared} {y x x' : Str} {t : Tok} {tk : Nat} {m m' : Str → Option Value} {nw all : Led} (F : Fr h₀ L h' m') (N : News h₀ L h' all) (e : x' = x) (em : m' = fun z => if z = y then some (.str x' t) else m z) (sub : ∀ p ∈ nw, p ∈ all) : CutP h₀ L s y x m nw .next { s with heap := h', toks := tk } := by
  subst e
  exact ⟨rfl, t, tk, h', rfl, em ▸ F, news_sub N sub⟩
section
variable {prog : Program} {w : World} {A : Around} {E : Value → Shared → Prop} {s : Shared} {env : Env} {h₀ : Heap} {L : Addr} {st : Stmt} {Q : Flow → Shared → Prop}
theorem m_cut {m : Str → Option Value} {nw : Led} (y x : Str) (F : Fr h₀ L s.heap m) (N : News h₀ L s.heap nw) (h1 : wpAny (model prog w) A (exec st env) (CutP h₀ L s y x m nw) E s)
    (h2 : ∀ t tk h', Fr h₀ L h' (fun z => if z = y then some (.str x t) else m z) → News h₀ L h' nw → Q .next { s with heap := h', toks := tk }) : wpAny (model prog w) A (exec st env) Q E s :=
  wpAny_mono h1 (fun f s' q => by
    obtain ⟨rfl, t, tk, h', rfl, F, N⟩ := q
    exact h2 t tk h' F N) fun _ _ e => e
end
def onceV (t1 t2 : Tok) : Nat → Nat → List Value
  | 0, _ => []
  | _, 0 => []
  | 2, 1 => [.str (PySem.Str.ofString "one") t1]
  | 2, _ => [.str (PySem.Str.ofString "one") t1, .str (PySem.Str.ofString "two") t2]
  | _, _ => [.str (PySem.Str.ofString "why") t1]
theorem said_ok {k : Nat} {rm : Bool} {lead : Str} (hk : k < 4) (h : Free 10 lead ∧ lead.length ≤ 10) : SaidOk rm (saidOf k rm lead) := by
  have hc : Free 10 (cmtText k) ∧ (cmtText k).length ≤ 10 := by
    rcases k with _ | _ | _ | _ | k
    · unfold Free; decide +kernel
    · unfold Free; decide +kernel
    · unfold Free; decide +kernel
    · unfold Free; decide +kernel
    · omega
  have h1 : (PySem.Str.ofString " ").length = 1 := by decide +kernel
  unfold saidOf
  split
  · exact ⟨row_e.1, by have := row_e.2.2; omega, fun _ => rfl⟩
  · rename_i hn
    refine ⟨free_app (free_app h.1 row_sp.1) hc.1, ?_, fun hr => absurd (by simp [hr]) hn⟩
    simp only [Str.length_append]
    omega
theorem g_sum {rm : Bool} {i : Nat} {r : List Str × Str} (h : GInv rm i r) (hi : i ≤ 11) : ((r.1 ++ [r.2]).map (·.length)).sum + (r.1 ++ [r.2]).length ≤ 1048576 ∧ (Txt.join (PySem.Str.ofString "\n") (r.1 ++ [r.2])).length ≤ 400000 := by
  have hB : ∀ y ∈ r.1 ++ [r.2], y.length ≤ 1100 := fun x hx => by
    rcases List.mem_append.mp hx with hx | hx
    · exact (h.rows x hx).2
    · rw [List.mem_singleton.mp hx]
      exact Nat.le_trans h.last.2 (by omega)
  have h4 := StrLaws.sumLen_le _ hB
  have h5 : (r.1 ++ [r.2]).length ≤ 342 := by
    have := h.len
    simp only [List.length_append, List.length_cons, List.length_nil]
    omega
  refine ⟨by omega, ?_⟩
  rw [show Txt.join (PySem.Str.ofString "\n") (r.1 ++ [r.2]) = Str.join (PySem.Str.ofString "\n") (r.1 ++ [r.2]) from StrLaws.glued_eq_join _ _]
  exact ginv_len h hi
local macro_rules | `(tactic| walk_at "exec Assign") => `(tactic| (k_here; (with_reducible show wpAny _ _ (exec (Stmt.Assign [PySem.Expr.Name (PySem.Str.ofString "rows") _] _ _) _) _ _ _); k_extra "my vrows"))
local macro_rules | `(tactic| walk_at "eval ListComp") => `(tactic| (k_here; k_dflt (refine LCg.ListComp_U (F₀ := by k_asm) (by with_unfolding_all rfl) (by decide) (by rfl) (by decide) (by rfl) ?_)))
local macro_rules | `(tactic| walk_at "CompSrc") => `(tactic| k_extra "my comp")
theorem cmt_len (t1 t2 : Tok) (k : Nat) : (cmtVals t1 t2 k).length ≤ 2 := by
  rcases k with _ | _ | _ | k <;> simp [cmtVals]
local macro_rules | `(tactic| walk_at "call type:list") => `(tactic| (k_here; (with_reducible show wpAny _ _ (call (Value.type "list") [Value.ref _]) _ _ _); k_dflt (refine' m_copy ?mzF ?mzN ?mzl ?mzz ?_; (case mzF => k_asm); (case mzN => k_asm); (case mzl => k_mem); (case mzz => omega)); intro D' c' h' F' N' l1; (try k_lt l1); (try k_sweep)))
theorem menu_row {n : Nat} {l : List Str} (hl : l.all (fun x => !x.cps.toList.contains 10 && !x.cps.toList.contains 35 && decide (x.length ≤ n)) = true) : ∀ x ∈ l, Row n x := fun x hx => by
  have h := List.all_eq_true.mp hl x hx
  simp only [Bool.and_eq_true, Bool.not_eq_true', decide_eq_true_eq] at h
  have hf : ∀ {c : Nat}, x.cps.toList.contains c = false → Free c x := fun hc hm => by
    rw [List.contains_iff_mem.mpr hm] at hc
    cases hc
  exact ⟨hf h.1.1, hf h.1.2, h.2⟩
theorem menu_lead : ∀ x ∈ [PySem.Str.ofString "  #", PySem.Str.ofString "#"], Free 10 x ∧ x.length ≤ 10 := by unfold Free; decide +kernel
local macro_rules | `(tactic| walk_at "exec Assign") => `(tactic| (k_here; (with_reducible show wpAny _ _ (exec (Stmt.Assign [PySem.Expr.Name (PySem.Str.ofString "said") _] _ _) _) _ _ _); k_extra "my said"))
local macro_rules | `(tactic| walk_at "exec Assign") => `(tactic| (k_here; (with_reducible show wpAny _ _ (exec (Stmt.Assign [PySem.Expr.Name (PySem.Str.ofString "due") _] _ _) _) _ _ _); k_extra "my due"))
local macro_rules | `(tactic| walk_at "call ref") => `(tactic| (k_here; (with_reducible show wpAny _ _ (call (Value.ref 50) [] _) _ _ _); (k_dflt show wpAny _ _ (call (Value.ref 50) [] [(PySem.Str.ofString "statement", Value.str _ _), (PySem.Str.ofString "imports", Value.ref _), (PySem.Str.ofString "white_space", Value.str _ _), (PySem.Str.ofString "indent", Value.str _ _), (PySem.Str.ofString "line_length", Value.int _ _), (PySem.Str.ofString "comments", Value.ref _), (PySem.Str.ofString "line_separator", Value.str (PySem.Str.ofString "\n") _), (PySem.Str.ofString "comment_prefix", Value.str _ _), (PySem.Str.ofString "include_trailing_comma", Value.bool _), (PySem.Str.ofString "remove_comments", Value.bool _)]) _ _ _); (k_dflt (refine' vhi2_spec ?k1 ?k2 ?k3 ?k4 ?k5 ?mzvm ?mzvc ?mzvo ?mzvk ?mzvv ?mzvg ?mzvx ?mzvh ?mzvi ?mzvp ?mzvd ?mzvu ?_; (case k1 => k_asm); (case k2 => k_asm); (case k3 => k_asm); (case k4 => k_asm); (case k5 => k_asm); (case mzvm => k_mem); (case mzvc => k_mem); (case mzvo => exact ⟨_, _, _, rfl⟩); (case mzvk => assumption); (case mzvv => with_reducible assumption); (case mzvg => with_reducible assumption); (case mzvx => omega); (case mzvh => omega); (case mzvi => omega); (case mzvp => omega); (case mzvd => decide); (case mzvu => decide); k_whole)); intro t9 h9 tk9 F9 N9; (try dsimp only at N9); (try k_sweep); (try dsimp only); (try k_fold); k_extra "my vhi"))
local macro_rules | `(tactic| walk_at "call ref") => `(tactic| (k_here; (with_reducible show wpAny _ _ (call (Value.ref 43) [] _) _ _ _); (k_dflt show wpAny _ _ (call (Value.ref 43) [] [(PySem.Str.ofString "statement", Value.str _ _), (PySem.Str.ofString "imports", Value.ref _), (PySem.Str.ofString "white_space", Value.str _ _), (PySem.Str.ofString "indent", Value.str _ _), (PySem.Str.ofString "line_length", Value.int _ _), (PySem.Str.ofString "comments", Value.ref _), (PySem.Str.ofString "line_separator", Value.str (PySem.Str.ofString "\n") _), (PySem.Str.ofString "comment_prefix", Value.str _ _), (PySem.Str.ofString "include_trailing_comma", Value.bool _), (PySem.Str.ofString "remove_comments", Value.bool _)]) _ _ _); (k_dflt (refine' grid0_spec ?k1 ?k2 ?k3 ?k4 ?k5 ?mz0m ?mz0d ?mz0u ?_; (case k1 => k_asm); (case k2 => k_asm); (case k3 => k_asm); (case k4 => k_asm); (case k5 => k_asm); (case mz0m => k_mem); (case mz0d => decide); (case mz0u => decide); k_whole)); intro t9 h9 tk9 F9 N9; (try dsimp only at N9); (try k_sweep); (try dsimp only); (try k_fold); k_extra "my grid0"))
local macro_rules | `(tactic| walk_at "call ref") => `(tactic| (k_here; (with_reducible show wpAny _ _ (call (Value.ref 36) [Value.str (PySem.Str.ofString "vertical_grid") _]) _ _ _); (k_dflt (refine' fmt1_spec ?k1 ?k2 ?k3 ?k4 ?k5 ?mzfd ?mzfu ?_; (case k1 => k_asm); (case k2 => k_asm); (case k3 => k_asm); (case k4 => k_asm); (case k5 => k_asm); (case mzfd => decide); (case mzfu => decide); k_whole)); intro h9 tk9 F9 N9; (try dsimp only at N9); (try k_sweep); (try dsimp only); (try k_fold)))
local macro_rules | `(tactic| walk_at "call ref") => `(tactic| (k_here; (with_reducible show wpAny _ _ (call (Value.ref 36) [Value.str (PySem.Str.ofString "Vertical_Grid_Grouped") _]) _ _ _); (k_dflt (refine' fmt2_spec ?k1 ?k2 ?k3 ?k4 ?k5 ?mzfd ?mzfu ?_; (case k1 => k_asm); (case k2 => k_asm); (case k3 => k_asm); (case k4 => k_asm); (case k5 => k_asm); (case mzfd => decide); (case mzfu => decide); k_whole)); intro h9 tk9 F9 N9; (try dsimp only at N9); (try k_sweep); (try dsimp only); (try k_fold)))
local macro_rules | `(tactic| walk_at "call ref") => `(tactic| (k_here; (with_reducible show wpAny _ _ (call (Value.ref 36) [Value.str (PySem.Str.ofString "VERTICAL_HANGING_INDENT") _]) _ _ _); (k_dflt (refine' fmt3_spec ?k1 ?k2 ?k3 ?k4 ?k5 ?mzfd ?mzfu ?_; (case k1 => k_asm); (case k2 => k_asm); (case k3 => k_asm); (case k4 => k_asm); (case k5 => k_asm); (case mzfd => decide); (case mzfu => decide); k_whole)); intro h9 tk9 F9 N9; (try dsimp only at N9); (try k_sweep); (try dsimp only); (try k_fold)))
local macro_rules | `(tactic| walk_at "call ref") => `(tactic| (k_here; (with_reducible show wpAny _ _ (call (Value.ref 36) [Value.str (PySem.Str.ofString "grid") _]) _ _ _); (k_dflt (refine' fmt4_spec ?k1 ?k2 ?k3 ?k4 ?k5 ?mzfd ?mzfu ?_; (case k1 => k_asm); (case k2 => k_asm); (case k3 => k_asm); (case k4 => k_asm); (case k5 => k_asm); (case mzfd => decide); (case mzfu => decide); k_whole)); intro h9 tk9 F9 N9; (try dsimp only at N9); (try k_sweep); (try dsimp only); (try k_fold)))
local macro_rules | `(tactic| walk_at "call ref") => `(tactic| (k_here; (with_reducible show wpAny _ _ (call (Value.ref 36) [Value.str (PySem.Str.ofString "no such") _]) _ _ _); (k_dflt (refine' fmt5_spec ?k1 ?k2 ?k3 ?k4 ?k5 ?mzfd ?mzfu ?_; (case k1 => k_asm); (case k2 => k_asm); (case k3 => k_asm); (case k4 => k_asm); (case k5 => k_asm); (case mzfd => decide); (case mzfu => decide); k_whole)); intro h9 tk9 F9 N9; (try dsimp only at N9); (try k_sweep); (try dsimp only); (try k_fold)))
theorem is_ref_same {prog : Program} {w : World} {A : Around} {E : Value → Shared → Prop} {s : Shared} {a : Addr} {Q : Value → Shared → Prop} (h : Q (.bool true) s) : wpAny (model prog w) A (compareOp .Is (.ref a) (.ref a)) Q E s := by
  show wpAny (model prog w) A (do return Value.bool (← isSame (.ref a) (.ref a))) Q E s
  unfold isSame
  simp only [beq_self_eq_true]
  exact wpAny_bind (wpAny_pure (wpAny_pure h))
local macro_rules | `(tactic| walk_at "compareOp IsNot ref ref") => `(tactic| (k_here; (with_reducible show wpAny _ _ (compareOp CmpOp.IsNot (Value.ref _) (Value.ref _)) _ _ _); with_reducible refine isnot_ref_same ?_))
local macro_rules | `(tactic| walk_at "compareOp Is ref ref") => `(tactic| (k_here; (with_reducible show wpAny _ _ (compareOp CmpOp.Is (Value.ref _) (Value.ref _)) _ _ _); with_reducible refine is_ref_same ?_))

theorem body : PySem.Challenge.rw_aq6041_01.Holds := by
  refine hd ?_
  k_go0
  k_with_none
  k_with "my loop" => refine haltI ?_
  k_with "my comp" => refine haltI ?_
  k_with "my while" => refine haltI ?_
  k_with "my names" => refine haltI ?_
  k_with "my pick" => refine haltI ?_
  k_with "my said" => refine haltI ?_
  k_with "my due" => refine haltI ?_
  k_with "my rows" => refine haltI ?_
  k_steps
  refine haltO ?_
  rename_i hI9 hr99 hlen9 htr9 K0 hD h₁ tk₁ F wc hright N0 X0 d l od0 ol0 h0 tk0 hdl hod0 hol0 hcd hcl hh R vs n xs0 od ol h1 tk1 hv hx0 hx1 hg hod hol F1 N1 hdR hlR hcR
  clear hod0 hol0
  obtain ⟨nm, xs, rfl⟩ : ∃ nm xs, xs0 = nm :: xs := by
    cases xs0 with
    | nil => exact absurd rfl hx0
    | cons nm xs => exact ⟨nm, xs, rfl⟩
  rw [List.length_cons] at hx1
  clear hx0
  k_steps
  refine haltO ?_
  rename_i rq tq odq olq hq tkq hq0 hq1 hodq holq qk1 ek1 g1 L1 g2 e1 L2 g3 e2 L3 g4 e3 L4 g5 e4 L5 g6 e5 r4 t4 od1 ol1 h2 tk2 hr40 hr41 hod1 hol1 F2 N2 c o k hc ho hk he
  rename _ ∈ [_, _, PySem.Str.ofString "x"] => hhx
  rename _ ∈ [_, _, PySem.Str.ofString ""] => hix
  have hHR : Row 20 _ := menu_row (by decide +kernel) _ hhx
  have hIR : Row 10 _ := menu_row (by decide +kernel) _ hix
  have hHL := hHR.2.2
  have hIL := hIR.2.2
  have N3 := news_cons N2 hc (news_sub N2 (b := List.drop 7 _) fun p hp => List.mem_of_mem_drop hp)
  dsimp only [List.drop] at N3
  have hcd9 : @Ne Nat c d := by omega
  have hcl9 : @Ne Nat c l := by omega
  have hcR9 : @Ne Nat c R := by omega

  clear hc he N2 hhx hix e1 e2 e3 e4 e5
  k_steps
  refine haltO ?_
  rename_i rr tr odA olA hA tkA hrr0 hrr1 hodA holA qkA ekA hB tkB lB hB2 lB1 rl tl odC olC hC tkC hrl0 hrl1 hodC holC lead tlead hlead hD O hD2 lO hD3 F4 N4
  obtain ⟨t1, t2, n9, rfl⟩ := ho
  have hLd := menu_lead _ hlead
  have hLL := hLd.2
  generalize hrm : (rr == 3) = rm at F4
  generalize htc : (rq == 1) = tc at F4
  clear hlead hdl hcd hcl hdR hlR hcd9 hcl9 lB1
  refine m_iterS (vs := cmtVals t1 t2 k) (n := n9) [PySem.Str.ofString "word"] (fun _ => []) (fun q : List Value × Nat => [(c, W.listOf (cmtVals t1 t2 k).toArray n9), (O, W.listOf q.1.toArray q.2), (R, W.listOf vs.toArray n), (_, _)])
    (fun i q => q.1 = onceV t1 t2 k i) ([], 0) rfl F4 (news_sub N4 (fm1 (.tail _ (.tail _ (.head _))) (fm1 (.head _) (fm1 (.tail _ (.tail _ (.tail _ (.head _)))) (fm1 (.tail _ (.tail _ (.tail _ (.tail _ (.tail _ (.tail _ (.head _))))))) fm0))))) (fun _ => .head _) rfl rfl ?_ fm0 ?_ ?_
  · rcases k with _ | _ | _ | _ | k <;> rfl
  · rintro i v I it ⟨ws, nn⟩ u9 h tk hv9 hp hic off F1 N1
    dsimp only at hp
    subst hp
    have o1 : @Ne Nat c I := off _ (.head _)
    have o2 : @Ne Nat O I := off _ (.tail _ (.head _))
    have o3 : @Ne Nat R I := off _ (.tail _ (.tail _ (.head _)))
    have o4 := off _ (.tail _ (.tail _ (.tail _ (.head _))))
    clear off N4 F4 hcR hcR9
    (try (rename Flt.MathXP _ _ _ => z9; clear z9))
    (try (rename Tables _ _ _ _ => z9; clear z9))
    (try (rename LooseAre _ _ _ => z9; clear z9))
    (try (rename Dflts _ _ _ => z9; clear z9))
    (try (rename ReadsAllW _ _ _ _ _ _ => z9; clear z9))
    (try (rename Well _ _ _ _ => z9; clear z9))
    (try (rename Reads _ _ _ _ => z9; clear z9))
    (try (rename ReadsAll _ _ _ _ => z9; clear z9))
    dsimp only [setL, stored] at F1 N1
    rcases k with _ | _ | _ | _ | k
    · exact absurd hv9 (by simp [cmtVals])
    · rcases i with _ | i
      rotate_left
      · exact absurd hv9 (by simp [cmtVals])
      · obtain rfl := Option.some.inj hv9
        have N2 : News _ _ _ [(I, it), (c, W.listOf [Value.str (PySem.Str.ofString "why") t1].toArray n9), (O, W.listOf [].toArray nn), (R, W.listOf vs.toArray n), (_, _)] := N1
        clear N1
        k_steps
        rename Fr _ _ _ _ => F7
        rename News _ _ _ _ => N7
        exact MPostS.next (_, _) F7 N7 (fun _ h => h) (fm1 o1 (fm1 o2 (fm1 o3 (fm1 o4 fm0)))) (fun z hz => (if_neg (fun e => hz (List.mem_singleton.mpr e))).trans (if_neg (fun e => hz (List.mem_singleton.mpr e)))) fm0 rfl
    · rcases i with _ | _ | i
      rotate_left 2
      · exact absurd hv9 (by simp [cmtVals])
      · obtain rfl := Option.some.inj hv9
        have N2 : News _ _ _ [(I, it), (c, W.listOf [Value.str (PySem.Str.ofString "one") t1, Value.str (PySem.Str.ofString "two") t2].toArray n9), (O, W.listOf [].toArray nn), (R, W.listOf vs.toArray n), (_, _)] := N1
        clear N1
        k_steps
        rename Fr _ _ _ _ => F7
        rename News _ _ _ _ => N7
        exact MPostS.next (_, _) F7 N7 (fun _ h => h) (fm1 o1 (fm1 o2 (fm1 o3 (fm1 o4 fm0)))) (fun z hz => (if_neg (fun e => hz (List.mem_singleton.mpr e))).trans (if_neg (fun e => hz (List.mem_singleton.mpr e)))) fm0 rfl
      · obtain rfl := Option.some.inj hv9
        have N2 : News _ _ _ [(I, it), (c, W.listOf [Value.str (PySem.Str.ofString "one") t1, Value.str (PySem.Str.ofString "two") t2].toArray n9), (O, W.listOf [Value.str (PySem.Str.ofString "one") t1].toArray nn), (R, W.listOf vs.toArray n), (_, _)] := N1
        clear N1
        k_steps
        rename Fr _ _ _ _ => F7
        rename News _ _ _ _ => N7
        exact MPostS.next (_, _) F7 N7 (fun _ h => h) (fm1 o1 (fm1 o2 (fm1 o3 (fm1 o4 fm0)))) (fun z hz => (if_neg (fun e => hz (List.mem_singleton.mpr e))).trans (if_neg (fun e => hz (List.mem_singleton.mpr e)))) fm0 rfl
    · rcases i with _ | _ | i
      rotate_left 2
      · exact absurd hv9 (by simp [cmtVals])
      · obtain rfl := Option.some.inj hv9
        have N2 : News _ _ _ [(I, it), (c, W.listOf [Value.str (PySem.Str.ofString "why") t1, Value.str (PySem.Str.ofString "why") t2].toArray n9), (O, W.listOf [].toArray nn), (R, W.listOf vs.toArray n), (_, _)] := N1
        clear N1
        k_steps
        rename Fr _ _ _ _ => F7
        rename News _ _ _ _ => N7
        exact MPostS.next (_, _) F7 N7 (fun _ h => h) (fm1 o1 (fm1 o2 (fm1 o3 (fm1 o4 fm0)))) (fun z hz => (if_neg (fun e => hz (List.mem_singleton.mpr e))).trans (if_neg (fun e => hz (List.mem_singleton.mpr e)))) fm0 rfl
      · obtain rfl := Option.some.inj hv9
        have N2 : News _ _ _ [(I, it), (c, W.listOf [Value.str (PySem.Str.ofString "why") t1, Value.str (PySem.Str.ofString "why") t2].toArray n9), (O, W.listOf [Value.str (PySem.Str.ofString "why") t1].toArray nn), (R, W.listOf vs.toArray n), (_, _)] := N1
        clear N1
        k_steps
        rename Fr _ _ _ _ => F7
        rename News _ _ _ _ => N7
        exact MPostS.next (_, _) F7 N7 (fun _ h => h) (fm1 o1 (fm1 o2 (fm1 o3 (fm1 o4 fm0)))) (fun z hz => (if_neg (fun e => hz (List.mem_singleton.mpr e))).trans (if_neg (fun e => hz (List.mem_singleton.mpr e)))) fm0 rfl
    · omega
  · rintro ⟨ws, nn⟩ u9 h tk hp F1 N1
    dsimp only at hp
    dsimp only [setL, stored] at F1 N1
    clear N4 F4
    k_steps
    refine haltO ?_
    refine m_cut (PySem.Str.ofString "said") (saidOf k rm lead) (by k_asm) (by k_asm) ?_ ?_
    · k_with_none
      subst hp
      rcases k with _ | _ | _ | _ | k
      · have N2 : News _ _ _ [(c, W.listOf [].toArray n9), (O, W.listOf [].toArray nn), (R, W.listOf vs.toArray n), (_, _)] := N1
        clear N1
        k_steps
        rename Fr _ _ _ _ => F7
        rename News _ _ _ _ => N7
        exact CutP.intro F7 N7 (by cases rm <;> rfl) rfl (fun p hp => .tail _ hp)
      · have N2 : News _ _ _ [(c, W.listOf [Value.str (PySem.Str.ofString "why") t1].toArray n9), (O, W.listOf [Value.str (PySem.Str.ofString "why") t1].toArray nn), (R, W.listOf vs.toArray n), (_, _)] := N1
        clear N1
        k_steps
        all_goals (rename Fr _ _ _ _ => F7; rename News _ _ _ _ => N7; refine CutP.intro F7 N7 ?_ rfl (fun p hp => .tail _ hp))
        · rename rm = true => hr
          rw [hr]
          rfl
        · rename rm = false => hr
          rw [hr]
          exact congrArg (lead ++ PySem.Str.ofString " " ++ ·) (by decide +kernel)
      · have N2 : News _ _ _ [(c, W.listOf [Value.str (PySem.Str.ofString "one") t1, Value.str (PySem.Str.ofString "two") t2].toArray n9), (O, W.listOf [Value.str (PySem.Str.ofString "one") t1, Value.str (PySem.Str.ofString "two") t2].toArray nn), (R, W.listOf vs.toArray n), (_, _)] := N1
        clear N1
        k_steps
        all_goals (rename Fr _ _ _ _ => F7; rename News _ _ _ _ => N7; refine CutP.intro F7 N7 ?_ rfl (fun p hp => .tail _ hp))
        · rename rm = true => hr
          rw [hr]
          rfl
        · rename rm = false => hr
          rw [hr]
          exact congrArg (lead ++ PySem.Str.ofString " " ++ ·) (by decide +kernel)
      · have N2 : News _ _ _ [(c, W.listOf [Value.str (PySem.Str.ofString "why") t1, Value.str (PySem.Str.ofString "why") t2].toArray n9), (O, W.listOf [Value.str (PySem.Str.ofString "why") t1].toArray nn), (R, W.listOf vs.toArray n), (_, _)] := N1
        clear N1
        k_steps
        all_goals (rename Fr _ _ _ _ => F7; rename News _ _ _ _ => N7; refine CutP.intro F7 N7 ?_ rfl (fun p hp => .tail _ hp))
        · rename rm = true => hr
          rw [hr]
          rfl
        · rename rm = false => hr
          rw [hr]
          exact congrArg (lead ++ PySem.Str.ofString " " ++ ·) (by decide +kernel)
      · omega
    · intro t5 tk5 h5 F5 N5
      clear F1 N1 hp
      k_with "my loop" => refine haltI ?_
      k_with "my comp" => refine haltI ?_
      k_with "my due" => refine haltI ?_
      k_with "my rows" => refine haltI ?_
      have hSD : SaidOk rm (saidOf k rm lead) := said_ok hk hLd
      k_steps
      refine haltO ?_
      rename_i hdT thd hq1 kq1 rw tw odw olw hw9 tkw hrw0 hrw1 hodw holw qkw ekw hw2 tkw2 lw hw3 lw1 ri ti odi oli hi9 tki hri0 hri1 hodi holi qki eki indT tind hci ocell hocell tka tkb qkc ekc hcc tkc tkd
      have hGI := gfold_inv (rm := rm) (said := saidOf k rm lead) (wide := 20 + rw) hIR hSD (by omega) (fun x hx => hg x (.tail _ hx)) (ginv0 hHR (hg nm (.head _)))
      obtain ⟨hjs, hjl⟩ := g_sum (r := gridR indT (saidOf k rm lead) (20 + rw) hdT nm xs) hGI (by omega)
      clear hodw holw hodi holi lw1 hod hol hodq holq hod1 hol1 hodA holA hodC holC
      refine m_cut (PySem.Str.ofString "due") (Str.join (PySem.Str.ofString "\n") ((gridR indT (saidOf k rm lead) (20 + rw) hdT nm xs).1 ++ [(gridR indT (saidOf k rm lead) (20 + rw) hdT nm xs).2]) ++ (if tc = true then PySem.Str.ofString "," else PySem.Str.ofString "") ++ PySem.Str.ofString ")") (by k_asm) (by k_asm) ?_ ?_
      · k_with_none
        k_with "my rows" => refine haltI ?_
        k_steps
        refine haltO ?_
        rename_i R9 ws9 t9 n9' h9 tk9 hs9 F9 N9 m9
        have hsj := strs_snoc (z := (gridR indT (saidOf k rm lead) (20 + rw) hdT nm xs).2) (t := t9) hs9
        k_steps
        all_goals (rename Fr _ _ _ _ => F7; rename News _ _ _ _ => N7; refine CutP.intro F7 N7 ?_ rfl (fun p hp => .tail _ hp))
        · rename tc = true => hr
          rw [hr]
          exact congrArg (· ++ PySem.Str.ofString "," ++ PySem.Str.ofString ")") (StrLaws.glued_eq_join _ _)
        · rename tc = false => hr
          rw [hr]
          exact congrArg (· ++ PySem.Str.ofString "" ++ PySem.Str.ofString ")") (StrLaws.glued_eq_join _ _)
      · intro t6 tk6 h6 F6 N6
        k_with "my loop" => refine haltI ?_
        k_with "my comp" => refine haltI ?_
        k_with "my rows" => refine haltI ?_
        k_with "my grid" => refine haltI ?_
        have hp10 := hLd.2
        clear F5 N5
        have N7 := news_sub N6 (b := [(c, _), (R, _), (_, _)]) (fm1 (.head _) (fm1 (.tail _ (.tail _ (.head _))) (fm1 (.tail _ (.tail _ (.tail _ (.head _)))) fm0)))
        clear N6 lO
        have hcl := cmt_len t1 t2 k
        have hvl9 := hv.len_eq
        rw [List.length_cons] at hvl9
        k_steps
        refine haltO ?_
        k_with "my vrows" => refine haltI ?_
        k_steps
        as_aux_lemma =>
          refine haltO ?_
          obtain ⟨ys, z, hyz⟩ : ∃ ys z, nm :: xs = ys ++ [z] := ⟨_, _, (List.dropLast_concat_getLast (List.cons_ne_nil nm xs)).symm⟩
          have hv8 := hv
          rw [hyz] at hv8
          obtain ⟨us, tz, hvz, hus⟩ := strs_snoc_inv hv8
          subst hvz
          have hul := hus.len_eq
          have hsl := hSD.l
          have hgz : ∀ x ∈ ys ++ [z], GoodNm x := fun x hx => hg x (hyz ▸ hx)
          have hzl := (hgz z (by simp)).2
          have lpo : (PySem.Str.ofString "(").length = 1 := by decide +kernel
          have lcm : (PySem.Str.ofString ",").length = 1 := by decide +kernel
          have hyl := congrArg List.length hyz
          simp only [List.length_cons, List.length_append, List.length_nil] at hyl
          have hvl := cmt_len t1 t2 k
          rename News _ _ _ _ => N8
          have N9 := news_sub N8 (b := [(c, _), (R, _), (_, ocell)]) (fm1 (.tail _ (.tail _ (.tail _ (.head _)))) (fm1 (.tail _ (.tail _ (.tail _ (.tail _ (.head _))))) (fm1 (.tail _ (.tail _ (.tail _ (.tail _ (.tail _ (.head _)))))) fm0)))
          clear N8
          refine m_cutL (PySem.Str.ofString "rows") (vrows hdT indT (saidOf k rm lead) tc ys z) (by k_asm) (by k_asm) ?_ ?_
          · k_with_none
            k_with "my comp" => refine haltI ?_
            k_steps
            refine haltO ?_
            rename Fr _ _ _ _ => F9
            rename News _ _ _ _ => N9
            refine LCg.CompSrc.ledger rfl F9 N9 (.head _) (by rw [sizeLine_eq, List.size_toArray]; omega) ?_
            intro g9
            refine m_comp (fun v y => ∀ x t, v = .str x t → ∃ t', y = .str (indT ++ x ++ PySem.Str.ofString ",") t') ?_ ?_
            · intro i v I oI C oC D m₂ ws h tk E' hv9 hC hx F2 N2 off ne
              obtain ⟨x9, tx, rfl, hx9⟩ := hus.item i v hv9
              have hxl := (hgz x9 (List.mem_append_left _ (List.mem_of_getElem? hx9))).2
              simp only [LCg.Off3, and_true] at off
              clear F9 N9
              (try k_fold)
              k_steps
              · rename_i xx tt ee
                cases ee
                exact rfl
            · intro ws hl hR D9 h9 tk9 F9 N9 o9
              have hws := strs_of_rel (f := fun x => indT ++ x ++ PySem.Str.ofString ",") hus hl hR
              replace N9 : News _ _ h9 ((D9, W.listOf ws.toArray ws.length) :: _) := N9
              k_steps
              all_goals (rename Fr _ _ _ _ => F7; rename News _ _ _ _ => N7; rename StrsAre ws _ => hw8; refine CutL.intro F7 N7 ?_ rfl (.head _) (fun p hp => .tail _ (.tail _ (.tail _ (.tail _ (.tail _ (.tail _ hp)))))))
              · rename tc = true => hr
                rw [hr]
                exact StrsAre.cons _ _ (hw8.append' (.cons _ _ (.cons _ _ .nil)))
              · rename tc = false => hr
                rw [hr]
                exact StrsAre.cons _ _ (hw8.append' (.cons _ _ (.cons _ _ .nil)))
          · intro D8 ws8 n8 tk8 h8 hws8 F8 N8
            clear N9
            refine haltI ?_
            as_aux_lemma =>
              refine haltO ?_
              have hvs := vrows_sum (hdd := hdT) (ind := indT) (said := saidOf k rm lead) (tc := tc) (ys := ys) (z := z) hHL hIL hsl (by omega) hgz
              have lnl : (PySem.Str.ofString "\n").length = 1 := by decide +kernel
              k_with_none
              k_with "my vhi" => refine haltI ?_
              k_steps
              refine haltO ?_
              rename Fr _ _ _ _ => F9
              rename News _ _ _ _ => N9
              have N8 := news_sub N9 (b := [(D8, _), (c, _), (R, _), (_, ocell)]) (fm1 (.tail _ (.tail _ (.head _))) (fm1 (.tail _ (.tail _ (.tail _ (.head _)))) (fm1 (.tail _ (.tail _ (.tail _ (.tail _ (.head _))))) (fm1 (.tail _ (.tail _ (.tail _ (.tail _ (.tail _ (.head _)))))) fm0))))
              clear N9
              k_with_none
              k_with "my grid0" => refine haltI ?_
              k_steps
              refine haltO ?_
              k_with_none
              repeat' (first | (k_unfold; (try dsimp only)) | (kc_other; walk1) | (kc_other; dsimp only; walk1) | fail "no step")
              kc_bool
              refine goodW_bool (by with_reducible assumption) (by with_reducible assumption) (raisesW_false ?_) ?_
              · wrow_none_raised
              · refine postW_of (by wrow_shape) (w_eq_bool (w_res rfl) w_lit) ?_
                rfl
end Mine

theorem PySem.Challenge.cw_aq6041_01_holds : PySem.Challenge.rw_aq6041_01.Holds :=
  Mine.body
