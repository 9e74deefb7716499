import PyProof.Rows.All
import Wide.All
import OpenK.AllK
import Wide.FinOn
import Lean
import PySem.Challenge.RW_jy0014_01
set_option Elab.async false
set_option maxRecDepth 100000
set_option linter.all false
set_option compiler.extract_closed false
namespace Mine
section
open PySem PySem.W PyProof.Rows
set_option maxHeartbeats 8000000
set_option synthInstance.maxSize 1 in
open_top hd for PySem.Challenge.rw_jy0014_01
end
set_option hygiene false
def HoldN (_n : Nat) (p : Prop) : Prop := p
theorem HoldN.out {n : Nat} {p : Prop} (h : HoldN n p) : p := h
theorem HoldN.mk {n : Nat} {p : Prop} (h : p) : HoldN n p := h
end Mine
section
open PySem PySem.W PySem.Calls PyProof.Rows
namespace Mine
/-- what stands around a call of a def: no exception in hand, room, the frames, the C units -/
abbrev mA (dp un : Nat) (gd : Option (List Code)) (fr : List Env) : Around := { handled := none, depth := dp, frames := some fr, guards := gd, units := un }
theorem lookup_kstB (y : Str) : ∀ l : List (Str × Value), l.lookup y = kstB (fun _ => none) l y
  | [] => rfl
  | (k, v) :: r => by
    rw [List.lookup_cons]
    show _ = if y = k then some v else kstB (fun _ => none) r y
    by_cases h : y = k
    · subst h
      rw [beq_self_eq_true, if_pos rfl]
    · rw [beq_false_of_ne h, if_neg h]
      exact lookup_kstB y r
theorem enter_o {prog : Program} {w : World} {A : Around} {base : Heap} {outer : List Env} {s : Shared} {K : Frag} {p : Program} {loose : List Str} {mg mb : Str → Option Value}
    {R : Result → Shared → Prop} {name qual : Str} {params : Arguments} {body : List Stmt} {scope : Scope} {dV kV doc pm cdv ct oc : Value} {an od : Option Addr} {osl : Array (Option Value)} {f : Addr} {args : Args} {binds : List (Str × Value)}
    (B : Below A base outer s.heap) (X : K.In s.heap) (T : TopRead p loose mg mb s.heap)
    (ho : K.lookup f = some ⟨oc, od, .func (fnOf name qual params body scope dV kV doc pm an cdv ct), osl⟩) (hcd : codeIn K cdv qual = true) (hroom : A.depth < recursionLimit)
    (hbind : BindsTo s (fnOf name qual params body scope dV kV doc pm an cdv ct) args binds.reverse) (hloc : ∀ y ∈ binds.reverse, scope.names.lookup y.1 = some .local)
    (h : ∀ L' h₁ tk₁, Fr s.heap L' h₁ (kstB (fun _ => none) binds) → News s.heap L' h₁ [] → Below A base outer s.heap → K.In s.heap → TopRead p loose mg mb s.heap →
      wpAny (model prog w) (A.deeper (envOf qual scope L' f cdv)) (execs body (envOf qual scope L' f cdv))
        (fun fl s' => R (.ok (.ret (match fl with | .ret v => v | _ => .none))) s')
        (fun e s' => wpAny (model prog w) (A.deeper (envOf qual scope L' f cdv)) (leaving (envOf qual scope L' f cdv) e) (fun _ s'' => R (.error e) s'') (fun e' s'' => R (.error e') s'') s')
        { s with heap := h₁, toks := tk₁ })
    (hco : scope.isCoroutine = false) (hgen : scope.isGenerator = false) (hk : scope.kind = .function)
    (hcell : ∀ x ∈ scope.names, x.2 ≠ .cell) : codeAny (model prog w) A (.call (.ref f) args) R s := by
  refine codeAny_call_def (fd := fnOf name qual params body scope dV kV doc pm an cdv ct) (body := body) (binds := binds.reverse) hroom (X _ _ ho) rfl T.nolimit (codeRec_of X hcd) rfl hbind hcell hloc (fun h₁ hns hk₁ => ?_) hco hgen hk
  have e : (fun y => binds.reverse.reverse.lookup y) = kstB (fun _ => none) binds := by
    rw [List.reverse_reverse]
    exact funext fun y => lookup_kstB y binds
  exact h s.heap.objs.size h₁ _ ⟨e ▸ hns, hk₁, Nat.le_refl _⟩ News.nil B X T
theorem enter_c {prog : Program} {w : World} {A : Around} {base : Heap} {outer : List Env} {s : Shared} {K : Frag} {p : Program} {loose : List Str} {mg mb : Str → Option Value}
    {R : Result → Shared → Prop} {name qual : Str} {params : Arguments} {body : List Stmt} {scope : Scope} {dV kV doc pm cdv ct oc : Value} {an od : Option Addr} {osl : Array (Option Value)} {f : Addr} {args : Args} {binds : List (Str × Value)}
    (B : Below A base outer s.heap) (X : K.In s.heap) (T : TopRead p loose mg mb s.heap)
    (ho : K.lookup f = some ⟨oc, od, .func (fnOf name qual params body scope dV kV doc pm an cdv ct), osl⟩) (hcd : codeIn K cdv qual = true) (hroom : A.depth < recursionLimit)
    (hbind : BindsTo s (fnOf name qual params body scope dV kV doc pm an cdv ct) args binds)
    (hkind : (binds.all fun y => scope.names.lookup y.1 == some .local || scope.names.lookup y.1 == some .cell) = true)
    (hnd : ((cellsFrom 0 scope.names []).map (·.1)).Nodup)
    (h : ∀ L' h₁ tk cells, Fr s.heap L' h₁ (bindL (envOfC qual scope L' f cdv).kindOf binds fun _ => none) → News s.heap L' h₁ (cells ++ []) →
      CellsAre (bindC (envOfC qual scope L' f cdv).kindOf binds fun _ => none) (cellsFrom (L' + 1) scope.names []) cells → Below A base outer s.heap → K.In s.heap → TopRead p loose mg mb s.heap →
      wpAny (model prog w) (A.deeper (envOfC qual scope L' f cdv)) (execs body (envOfC qual scope L' f cdv))
        (fun fl s' => R (.ok (.ret (match fl with | .ret v => v | _ => .none))) s')
        (fun e s' => wpAny (model prog w) (A.deeper (envOfC qual scope L' f cdv)) (leaving (envOfC qual scope L' f cdv) e) (fun _ s'' => R (.error e) s'') (fun e' s'' => R (.error e') s'') s')
        { s with heap := h₁, toks := tk })
    (hco : scope.isCoroutine = false) (hgen : scope.isGenerator = false) (hk : scope.kind = .function) : codeAny (model prog w) A (.call (.ref f) args) R s := by
  refine codeAny_call_function hroom (X _ _ ho) rfl hco hgen rfl (codeRec_of X hcd) (hbind _ _ _ _ ?_)
  refine wpAny_newFunctionEnv_cells hk (kindsX hkind _) fun env' he s' x => ?_
  subst he
  refine ⟨T.nolimit.keeps x.toInCall.keep, codeAny_func ?_⟩
  obtain ⟨h₁, tk, rfl, _⟩ := x.done
  have hk₁ := x.toInCall.keep
  obtain ⟨cells, NC, Y⟩ := Cl.news (h₀ := s.heap) (Nat.le_refl _) fun n c hm => ⟨x.cell n c (lookup_of_mem_nodup (cellsFrom_names scope.names 0 (s.heap.objs.size + 1) [] [] rfl ▸ hnd) hm), x.above n c hm⟩
  exact h s.heap.objs.size h₁ tk cells ⟨x.toInCall.ns, hk₁, Nat.le_refl _⟩ (by rw [List.append_nil]; exact NC) Y B X T
theorem tab_same {h : Heap} {c P P' : Addr} {ps ps' : Array Value} (a : h.TableAt c P ps) (b : h.TableAt c P' ps') : P' = P ∧ ps' = ps := by
  obtain ⟨⟨o, vs, e1, e2, e3, e4⟩, e5⟩ := a
  obtain ⟨⟨o', vs', f1, f2, f3, f4⟩, f5⟩ := b
  rw [e1] at f1; cases f1
  rw [e3] at f3; cases f3
  rw [e4] at f4; cases f4
  rw [e5] at f5; cases f5
  exact ⟨rfl, rfl⟩
/-- the table of bech32_decode's code may have grown, all else stands -/
inductive Grew (h h' : Heap) : Prop
  | mk (P : Addr) (ps more : Array Value) (q0 : h.IsCode 47 P ps) (q1 : h.TableAt 47 P ps) (q2 : P ≠ cStatics) (q3 : h'.IsCode 47 P (ps ++ more)) (q4 : h'.TableAt 47 P (ps ++ more)) (q5 : Heap.ExtBut P h h') : Grew h h'
theorem Grew.of {hS g h' : Heap} {P L : Addr} {ps psN : Array Value} {m : Str → Option Value} (B₀ : Based hS hS 47 P ps) (B : Based hS g 47 P psN) (F : Fr g L h' m) : Grew hS h' := by
  have hx : Heap.ExtBut P hS h' := fun b o hb e => F.keep b o ((B.same.2 b hb).trans e)
  have more : ∃ more, psN = ps ++ more := by
    rcases B.old.old P _ B₀.tab.2 with x | ⟨_, _, vs, more, hv, x⟩ | ⟨e, _⟩
    · have := Option.some.inj (B.tab.2.symm.trans x)
      injection this with _ _ h3; injection h3 with h3
      exact ⟨#[], by rw [h3, Array.append_empty]⟩
    · cases hv
      have := Option.some.inj (B.tab.2.symm.trans x)
      injection this with _ _ h3; injection h3 with h3
      exact ⟨more, h3⟩
    · exact absurd e B.notStatics
  obtain ⟨more, rfl⟩ := more
  exact ⟨P, ps, more, B₀.code, B₀.tab, B.notStatics, B.codeAt F, B.tabAt F, hx⟩
/-- what a call stands on: the frames below, the text's own objects, the names, the growing table, room for k calls within calls -/
structure Cx (w : World) (dp un : Nat) (gd : Option (List Code)) (fr : List Env) (h : Heap) (k : Nat) : Prop where
  below : ∃ base, Below (mA dp un gd fr) base fr h
  kin : (hd.heap_39 w.params).In h
  top : ∃ loose mg mb, TopRead hd.view_39 loose mg mb h ∧ ∃ bm ob, BMod h mainGlobals mg bm ob
  tab : ∃ P ps, Based h h 47 P ps
  room : dp + k < recursionLimit
  units : un + 10 * k < cLine
/-- what a part stands on, laid open -/
inductive CxO (w : World) (dp un : Nat) (gd : Option (List Code)) (fr : List Env) (h : Heap) (k : Nat) : Prop
  | mk (bs : Heap) (l : List Str) (mg mb : Str → Option Value) (B : Below (mA dp un gd fr) bs fr h) (X : (hd.heap_39 w.params).In h) (T : TopRead hd.view_39 l mg mb h) (r : dp + k < recursionLimit) (u : un + 10 * k < cLine) : CxO w dp un gd fr h k
theorem Cx.opens {w : World} {dp un k : Nat} {gd : Option (List Code)} {fr : List Env} {h : Heap} (C : Cx w dp un gd fr h k) : CxO w dp un gd fr h k := by
  obtain ⟨⟨bs, B⟩, X, ⟨l, mg, mb, T, _⟩, _, r, u⟩ := C
  exact ⟨bs, l, mg, mb, B, X, T, r, u⟩
theorem Cx.push {w : World} {dp un un' k k' : Nat} {gd : Option (List Code)} {fr : List Env} {h₀ h : Heap} {L a : Addr} {m : Str → Option Value} {name : Str} {scope : Scope} {cd : Value} {cl : List (Str × Addr)}
    (C : Cx w dp un gd fr h₀ k) (F : Fr h₀ L h m) (hk : scope.kind = .function) (hu : un' ≤ un + 10) (hkk : k' + 1 ≤ k := by decide) : Cx w (dp + 1) un' gd (envX name scope L a cd cl :: fr) h k' := by
  obtain ⟨⟨base, B⟩, X, ⟨loose, mg, mb, T, bm, ob, M⟩, ⟨P, ps, Z⟩, hd, hu'⟩ := C
  have B' := B.push (name := name) (scope := scope) (a := a) (cd := cd) F hk
  refine ⟨⟨base, rfl, B'.stays, ?_⟩, X.keeps F.keep, ⟨loose, mg, mb, T.keeps F.keep, bm, ob, M.keeps F.keep⟩, ⟨P, ps, .start (Z.codeAt F) (Z.tabAt F) Z.notStatics⟩, by omega, by omega⟩
  have f := B'.frames
  exact f
theorem kb_hd (w : World) : kb_classed (hd.heap_39 w.params) = true := by rfl
theorem below_nil {A : Around} {base h h' : Heap} {fr : List Env} {P c : Addr} {ps : Array Value} (B : Below A base fr h) (t : h.TableAt c P ps) (hs : Heap.SameBut P h h') : Below A ({} : Heap) fr h' := by
  refine ⟨B.stack, fun b o e => ?_, ?_⟩
  · exact absurd (Heap.lt_size e) (Nat.not_lt_zero _)
  · have f := B.frames
    clear B
    induction fr with
    | nil => trivial
    | cons env rest ih =>
      obtain ⟨hk, ⟨L, o, hf, hn, ho, hd⟩, hr⟩ := f
      refine ⟨hk, ⟨L, o, hf, rfl, (hs.2 L fun e => ?_).trans ho, hd⟩, ih hr⟩
      rw [e, t.2] at ho
      cases ho
      exact hd ps rfl
/-- a caller's base behind a call in which the table grew -/
inductive Grown (w : World) (dp un : Nat) (gd : Option (List Code)) (fr : List Env) (hS h₀ h h' : Heap) (L P : Addr) (m : Str → Option Value) (k : Nat) : Prop
  | mk (g : Heap) (ps' : Array Value) (q0 : Based hS g 47 P ps') (q1 : Cx w dp un gd fr g k) (q2 : Fr g L h' m) (q3 : ∀ news, News h₀ L h news → News g L h' news) (q4 : ∀ a vs, h₀.IsList a vs → g.IsList a vs) (q5 : ∀ a, h₀.get? a = none → g.get? a = none) : Grown w dp un gd fr hS h₀ h h' L P m k
/-- behind a call in which the table may have grown: the caller's base grows alike -/
theorem Cx.grow {w : World} {dp un k : Nat} {gd : Option (List Code)} {fr : List Env} {hS h₀ h h' : Heap} {L P : Addr} {ps : Array Value} {m : Str → Option Value}
    (C : Cx w dp un gd fr h₀ k) (Z : Based hS h₀ 47 P ps) (F : Fr h₀ L h m) (G : Grew h h') :
    Grown w dp un gd fr hS h₀ h h' L P m k := by
  obtain ⟨P', ps₁, more, c1, t1, nS, c2, t2, hx⟩ := G
  obtain ⟨rfl, rfl⟩ := tab_same (Z.tabAt F) t1
  obtain ⟨Z', F'⟩ := Z.grow F hx c2 t2
  have hs : Heap.SameBut P' h₀ (regrown h₀ P' (ps₁ ++ more)) := ⟨(Heap.SameBut.update h₀ P' _).1, fun b hb => Heap.get?_update_other _ _ (Ne.symm hb)⟩
  have hPlt : P' < h₀.objs.size := Z.code.lt.2
  have none_up : ∀ a, h₀.get? a = none → (regrown h₀ P' (ps₁ ++ more)).get? a = none := fun a e => by
    by_cases hb : a = P'
    · subst hb; rw [Z.tab.2] at e; cases e
    · exact (hs.2 a hb).trans e
  refine ⟨_, _, Z', ?_, F', ?_, ?_, none_up⟩
  · obtain ⟨⟨base, B⟩, X, ⟨loose, mg, mb, T, bm, ob, M⟩, _, hd, hu'⟩ := C
    exact ⟨⟨_, below_nil B Z.tab hs⟩, kb_in_regrown Z X T.g (kb_hd w), ⟨loose, mg, mb, LGe.top_regrown F' T Z, bm, ob, M.regrown Z⟩, ⟨P', _, .start Z'.code Z'.tab Z'.notStatics⟩, hd, hu'⟩
  · intro news N p hp
    obtain ⟨n1, n2, n3⟩ := N p hp
    refine ⟨hx _ _ (fun e => ?_) n1, n2, none_up _ n3⟩
    rw [e, Z.tab.2] at n3
    cases n3
  · intro a vs ⟨o, e, c, r⟩
    refine ⟨o, (hs.2 a fun q => ?_).trans e, c, r⟩
    rw [q, Z.tab.2] at e
    cases e
    cases c
theorem enter {w : World} {dp un k : Nat} {gd : Option (List Code)} {fr : List Env} {s : Shared} {Q E : Value → Shared → Prop} {name qual : Str} {params : Arguments} {body : List Stmt} {scope : Scope} {dV kV doc pm cdv ct oc : Value} {an od : Option Addr} {osl : Array (Option Value)} {f : Addr} {args : List Value} (binds : List (Str × Value))
    (C : Cx w dp un gd fr s.heap (k + 1))
    (ho : (hd.heap_39 w.params).lookup f = some ⟨oc, od, .func (fnOf name qual params body scope dV kV doc pm an cdv ct), osl⟩) (hcd : codeIn (hd.heap_39 w.params) cdv qual = true)
    (hbind : BindsTo s (fnOf name qual params body scope dV kV doc pm an cdv ct) ⟨args, []⟩ binds.reverse) (hloc : ∀ y ∈ binds.reverse, scope.names.lookup y.1 = some .local)
    (hco : scope.isCoroutine = false) (hgen : scope.isGenerator = false) (hk : scope.kind = .function)
    (hcell : ∀ x ∈ scope.names, x.2 ≠ .cell)
    (h : ∀ L' h₁ tk₁ base loose (_mean : Unit) mg mb, Below (mA dp un gd fr) base fr s.heap → (hd.heap_39 w.params).In s.heap → TopRead hd.view_39 loose mg mb s.heap → Fr s.heap L' h₁ (kstB (fun _ => none) binds) → News s.heap L' h₁ [] →
      wpAny (model PySem.Challenge.rw_jy0014_01.row.prog w) ((mA dp un gd fr).deeper (envOf qual scope L' f cdv)) (execs body (envOf qual scope L' f cdv))
        (fun fl s' => Q (match fl with | .ret v => v | _ => .none) s')
        (fun e s' => wpAny (model PySem.Challenge.rw_jy0014_01.row.prog w) ((mA dp un gd fr).deeper (envOf qual scope L' f cdv)) (leaving (envOf qual scope L' f cdv) e) (fun _ s'' => E e s'') (fun e' s'' => E e' s'') s')
        { s with heap := h₁, toks := tk₁ }) :
    wpAny (model PySem.Challenge.rw_jy0014_01.row.prog w) (mA dp un gd fr) (call (.ref f) args) Q E s := by
  obtain ⟨⟨base, B⟩, X, ⟨loose, mg, mb, T, _⟩, _, hd, hu⟩ := C
  exact wpAny_call (enter_o B X T ho hcd (by show dp < _; omega) hbind hloc (fun L' h₁ tk₁ F N B X T => h L' h₁ tk₁ base loose () mg mb B X T F N) hco hgen hk hcell)
/-- the same for a def some of whose names are cells -/
theorem enterC {w : World} {dp un k : Nat} {gd : Option (List Code)} {fr : List Env} {s : Shared} {Q E : Value → Shared → Prop} {name qual : Str} {params : Arguments} {body : List Stmt} {scope : Scope} {dV kV doc pm cdv ct oc : Value} {an od : Option Addr} {osl : Array (Option Value)} {f : Addr} {args : List Value} (binds : List (Str × Value))
    (C : Cx w dp un gd fr s.heap (k + 1))
    (ho : (hd.heap_39 w.params).lookup f = some ⟨oc, od, .func (fnOf name qual params body scope dV kV doc pm an cdv ct), osl⟩) (hcd : codeIn (hd.heap_39 w.params) cdv qual = true)
    (hbind : BindsTo s (fnOf name qual params body scope dV kV doc pm an cdv ct) ⟨args, []⟩ binds)
    (hkind : (binds.all fun y => scope.names.lookup y.1 == some .local || scope.names.lookup y.1 == some .cell) = true)
    (hnd : ((cellsFrom 0 scope.names []).map (·.1)).Nodup)
    (hco : scope.isCoroutine = false) (hgen : scope.isGenerator = false) (hk : scope.kind = .function)
    (h : ∀ L' h₁ tk₁ cells base loose (_mean : Unit) mg mb, Below (mA dp un gd fr) base fr s.heap → (hd.heap_39 w.params).In s.heap → TopRead hd.view_39 loose mg mb s.heap → Fr s.heap L' h₁ (bindL (envOfC qual scope L' f cdv).kindOf binds fun _ => none) → News s.heap L' h₁ (cells ++ []) →
      CellsAre (bindC (envOfC qual scope L' f cdv).kindOf binds fun _ => none) (cellsFrom (L' + 1) scope.names []) cells →
      wpAny (model PySem.Challenge.rw_jy0014_01.row.prog w) ((mA dp un gd fr).deeper (envOfC qual scope L' f cdv)) (execs body (envOfC qual scope L' f cdv))
        (fun fl s' => Q (match fl with | .ret v => v | _ => .none) s')
        (fun e s' => wpAny (model PySem.Challenge.rw_jy0014_01.row.prog w) ((mA dp un gd fr).deeper (envOfC qual scope L' f cdv)) (leaving (envOfC qual scope L' f cdv) e) (fun _ s'' => E e s'') (fun e' s'' => E e' s'') s')
        { s with heap := h₁, toks := tk₁ }) :
    wpAny (model PySem.Challenge.rw_jy0014_01.row.prog w) (mA dp un gd fr) (call (.ref f) args) Q E s := by
  obtain ⟨⟨base, B⟩, X, ⟨loose, mg, mb, T, _⟩, _, hd, hu⟩ := C
  exact wpAny_call (enter_c B X T ho hcd (by show dp < _; omega) hbind hkind hnd (fun L' h₁ tk₁ cells F N Y B X T => h L' h₁ tk₁ cells base loose () mg mb B X T F N Y) hco hgen hk)
/-- behind a call that keeps all -/
theorem fr_stays {h₀ h h' : Heap} {L : Addr} {m : Str → Option Value} (F : Fr h₀ L h m) (k : h.StaysIn h') : Fr h₀ L h' m := F.keeps k
theorem news_stays {h₀ h h' : Heap} {L : Addr} {news : List (Addr × Obj)} (N : News h₀ L h news) (k : h.StaysIn h') : News h₀ L h' news := N.grown k
theorem news_new {h₀ h h' : Heap} {L r : Addr} {o : Obj} {m : Str → Option Value} {news : List (Addr × Obj)} (F : Fr h₀ L h m) (N : News h₀ L h news) (k : h.StaysIn h') (e : h'.get? r = some o) (fresh : h.get? r = none) : News h₀ L h' ((r, o) :: news) := by
  intro p hp
  rcases List.mem_cons.mp hp with rfl | hp
  · refine ⟨e, ?_, ?_⟩
    · rintro rfl
      obtain ⟨oL, _, _, hL, _⟩ := F.ns
      rw [hL] at fresh
      cases fresh
    · cases q : h₀.get? r with
      | none => rfl
      | some o' => have := F.keep r o' q; rw [fresh] at this; cases this
  · exact (N.grown k) p hp
def AllNe (d : Addr) : List (Addr × Obj) → Prop
  | [] => True
  | p :: r => @Ne Nat p.1 d ∧ AllNe d r
theorem allNe_of {h₀ h : Heap} {L d : Addr} : ∀ {l : List (Addr × Obj)}, News h₀ L h l → h.get? d = none → AllNe d l
  | [], _, _ => trivial
  | p :: r, N, e => ⟨fun q => by
      have e2 : h.get? p.1 = none := (congrArg h.get? q).trans e
      have e3 := (N p (.head _)).1
      exact absurd (e2.symm.trans e3) (fun x => nomatch x), allNe_of (fun p hp => N p (.tail _ hp)) e⟩
end Mine
end
section
open PySem PySem.W PySem.Calls PyProof.Rows PySem.Spec
namespace Mine
/-- a goal that the walk leaves alone -/
def Hold (p : Prop) : Prop := p
theorem Hold.out {p : Prop} (h : Hold p) : p := h
theorem Hold.mk {p : Prop} (h : p) : Hold p := h
theorem off_ne {S : List Str} {y x : Str} (hy : S.contains y = false) (hx : S.contains x = true) : y ≠ x := by
  rintro rfl
  rw [hx] at hy
  cases hy
/-- the frame in a loop: the told names, the stored ones, the rest -/
abbrev LMap (S : List Str) (u m₀ : Str → Option Value) (ps : List (Str × Value)) : Str → Option Value := kstB (fun z => if S.contains z then u z else m₀ z) ps
theorem lmap_eq {S : List Str} {m₀ m : Str → Option Value} (hr : ∀ z, S.contains z = false → m z = m₀ z) : ∀ {ps : List (Str × Value)}, (∀ p ∈ ps, m p.1 = some p.2) → LMap S m m₀ ps = m := by
  intro ps hk
  funext z
  refine kstB_eq hk fun _ => ?_
  cases h : S.contains z with
  | true => simp
  | false => simp only [Bool.false_eq_true, if_false]; exact (hr z h).symm
theorem lmap_off {S S' : List Str} {u m₀ : Str → Option Value} {z : Str} (hz : S.contains z = false) (h : (S'.all fun a => S.contains a) = true) : ∀ {ps : List (Str × Value)}, (ps.all fun p => S.contains p.1) = true → LMap S' u m₀ ps z = m₀ z
  | [], _ => by
    show (if S'.contains z then u z else m₀ z) = m₀ z
    have : S'.contains z = false := by
      cases hc : S'.contains z with
      | false => rfl
      | true => exact absurd rfl (off_ne hz (List.all_eq_true.mp h z (by simpa using hc)))
    rw [this]
    simp
  | p :: r, hp => by
    rw [List.all_cons, Bool.and_eq_true] at hp
    exact (if_neg (off_ne hz hp.1)).trans (lmap_off hz h hp.2)
section
variable {σ : Type} {prog : Program} {w : World} {A : Around} {E : Value → Shared → Prop} {s : Shared} {env : Env} {h₀ : Heap} {x : Str} {body : List Stmt} {Q : Flow → Shared → Prop}
/-- where a turn ends -/
def LEnd (h₀ : Heap) (L : Addr) (S : List Str) (m₀ : Str → Option Value) (Led : σ → List (Addr × Obj)) (ps : σ → List (Str × Value)) (P : σ → Prop) (own : List (Addr × Obj)) (s₁ s₂ : Shared) : Prop :=
  ∃ (c : σ) (h' : Heap) (tk : Nat) (m' : Str → Option Value) (news' : List (Addr × Obj)), s₂ = { s₁ with heap := h', toks := tk } ∧ Fr h₀ L h' m' ∧ News h₀ L h' news' ∧ (∀ p ∈ Led c ++ own, p ∈ news') ∧ (∀ p ∈ ps c, m' p.1 = some p.2) ∧ (∀ z, S.contains z = false → m' z = m₀ z) ∧ P c
def LPost (h₀ : Heap) (L : Addr) (S : List Str) (m₀ : Str → Option Value) (Led : σ → List (Addr × Obj)) (ps : σ → List (Str × Value)) (P : σ → Prop) (own : List (Addr × Obj)) (s₁ : Shared) (Q : Flow → Shared → Prop) (f : Flow) (s₂ : Shared) : Prop :=
  match f with
  | .ret v => Q (.ret v) s₂
  | .brk => Q .next s₂
  | _ => LEnd h₀ L S m₀ Led ps P own s₁ s₂
theorem LPost.next {L : Addr} {S : List Str} {m₀ : Str → Option Value} {Led : σ → List (Addr × Obj)} {ps : σ → List (Str × Value)} {P : σ → Prop} {own : List (Addr × Obj)} {s₁ : Shared} {h' : Heap} {tk : Nat} {m' : Str → Option Value} {news' : List (Addr × Obj)}
    (F : Fr h₀ L h' m') (N : News h₀ L h' news') (e : ∃ c : σ, (∀ p ∈ ps c, m' p.1 = some p.2) ∧ (∀ p ∈ Led c ++ own, p ∈ news') ∧ P c) (hr : ∀ z, S.contains z = false → m' z = m₀ z) :
    LPost h₀ L S m₀ Led ps P own s₁ Q .next { s₁ with heap := h', toks := tk } := by
  obtain ⟨c, h1, h2, h3⟩ := e
  exact ⟨c, h', tk, m', news', rfl, F, N, h2, h1, hr, h3⟩
def LJ (S : List Str) (m₀ : Str → Option Value) (Led : σ → List (Addr × Obj)) (ps : σ → List (Str × Value)) (P : σ → Prop) (m : Str → Option Value) (nx : List (Addr × Obj)) : Prop :=
  ∃ c : σ, nx = Led c ∧ (∀ p ∈ ps c, m p.1 = some p.2) ∧ (∀ z, S.contains z = false → m z = m₀ z) ∧ P c
theorem lpost_up {L : Addr} {S : List Str} {m₀ : Str → Option Value} {Led : σ → List (Addr × Obj)} {ps : σ → List (Str × Value)} {P : σ → Prop} {own : List (Addr × Obj)} {adr : List Addr} (hadr : ∀ c, (Led c).map (·.1) = adr) {s₁ : Shared} {f : Flow} {s₂ : Shared}
    (h : LPost h₀ L S m₀ Led ps P own s₁ Q f s₂) : InvPostN h₀ L (LJ S m₀ Led ps P) own adr s₁ Q f s₂ := by
  have up : LEnd h₀ L S m₀ Led ps P own s₁ s₂ → InvEndN h₀ L (LJ S m₀ Led ps P) own adr s₁ s₂ := by
    rintro ⟨c, h', tk, m', news', rfl, F, N, hn, hk, hr, hp⟩
    exact ⟨h', tk, m', news', Led c, rfl, F, N, fun p hp => hn p (List.mem_append_left _ hp), fun p hp => hn p (List.mem_append_right _ hp), hadr c, c, rfl, hk, hr, hp⟩
  cases f with
  | ret v => exact h
  | brk => exact h
  | next => exact up h
  | cont => exact up h
theorem lfr_in {L : Addr} {h : Heap} {S : List Str} {m₀ m₁ : Str → Option Value} {v : Value} {qs : List (Str × Value)} (hk : ∀ p ∈ qs, m₁ p.1 = some p.2) (hr : ∀ z, S.contains z = false → m₁ z = m₀ z)
    (F : Fr h₀ L h (fun y => if y = x then some v else m₁ y)) : Fr h₀ L h (fun y => if y = x then some v else LMap S m₁ m₀ qs y) := by
  rw [lmap_eq hr hk]
  exact F
/-- a for over a list of ints that stands below -/
theorem loop_list {l : Addr} {vs : List Value} {ns : List Int} {m₀ : Str → Option Value} (Led : σ → List (Addr × Obj)) (ps : σ → List (Str × Value)) (S : List Str) (P : List Int → σ → Prop) (adr : List Addr)
    (hadr : ∀ c, (Led c).map (·.1) = adr) (hh : A.handled = none) (hl : h₀.IsList l vs.toArray) (hi : IntsAre vs ns) (_hxS : S.contains x = true) (F : Fr h₀ env.locals s.heap m₀)
    (start : ∃ c₀ : σ, (∀ p ∈ ps c₀, m₀ p.1 = some p.2) ∧ News h₀ env.locals s.heap (Led c₀) ∧ P [] c₀)
    (turn : ∀ (c : σ) pre post n t (u : Str → Option Value) h tk own, ns = pre ++ n :: post → n ∈ ns → OwnOff own adr → P pre c →
      Fr h₀ env.locals h (fun y => if y = x then some (.int n t) else LMap S u m₀ (ps c) y) → News h₀ env.locals h (Led c ++ own) →
      wpAny (model prog w) A (execs body env) (LPost h₀ env.locals S m₀ Led ps (P (pre ++ [n])) own { s with heap := h, toks := tk } Q) E { s with heap := h, toks := tk })
    (done : ∀ (c : σ) (u : Str → Option Value) h tk, P ns c → Fr h₀ env.locals h (LMap S u m₀ (ps c)) → News h₀ env.locals h (Led c) → Q .next { s with heap := h, toks := tk }) :
    wpAny (model prog w) A (pyIter (.ref l)) (fun it s₂ => LoopAtV prog w A h₀ env x body Q E it s₂) E s := by
  obtain ⟨c₀, hk, N, hp⟩ := start
  have e0 := hadr c₀
  refine iter_invN (fun i m nx => LJ S m₀ Led ps (P (ns.take i)) m nx) hh hl hi F N ⟨c₀, rfl, hk, fun _ _ => rfl, by simpa using hp⟩ ?_ ?_
  · rintro i n t m₁ nx h tk own hn _ hoff ⟨c, rfl, h1, h2, hp'⟩ F₁ N₁
    have hs : ns.take (i + 1) = ns.take i ++ [n] := by simp [List.take_add_one, hn]
    have e : ns = ns.take i ++ n :: ns.drop (i + 1) := by
      have ht := List.take_append_drop (i + 1) ns
      rw [hs, List.append_assoc] at ht
      exact ht.symm
    rw [hs, e0]
    refine wpAny_mono (turn c _ _ n t m₁ h tk own e (List.mem_of_getElem? hn) (e0 ▸ hoff) hp' (lfr_in h1 h2 F₁) N₁) (fun f s₂ q => ?_) fun _ _ x => x
    exact lpost_up hadr q
  · rintro m₁ nx h tk ⟨c, rfl, h1, h2, hp'⟩ F₁ N₁
    rw [List.take_length] at hp'
    exact done c m₁ h tk hp' (by rw [lmap_eq h2 h1]; exact F₁) N₁
/-- a for over range(a, a + n) -/
theorem loop_range {r : Addr} {a₀ b₀ : Int} {t₀ u₀ v₀ : Tok} {n : Nat} {m₀ : Str → Option Value} (Led : σ → List (Addr × Obj)) (ps : σ → List (Str × Value)) (S : List Str) (P : Nat → σ → Prop) (adr : List Addr)
    (hadr : ∀ c, (Led c).map (·.1) = adr) (hh : A.handled = none) (hr : IsRange s.heap r a₀ b₀ 1 t₀ u₀ v₀) (hsmall : Builtin.Range.small a₀ b₀ 1 = true) (hn : Builtin.Range.rangeSize a₀ b₀ 1 = (n : Int)) (_hxS : S.contains x = true) (F : Fr h₀ env.locals s.heap m₀)
    (start : ∃ c₀ : σ, (∀ p ∈ ps c₀, m₀ p.1 = some p.2) ∧ News h₀ env.locals s.heap (Led c₀) ∧ P 0 c₀)
    (turn : ∀ (c : σ) (i : Nat) t (u : Str → Option Value) h tk own, i < n → OwnOff own adr → P i c →
      Fr h₀ env.locals h (fun y => if y = x then some (.int (a₀ + (i : Int)) t) else LMap S u m₀ (ps c) y) → News h₀ env.locals h (Led c ++ own) →
      wpAny (model prog w) A (execs body env) (LPost h₀ env.locals S m₀ Led ps (P (i + 1)) own { s with heap := h, toks := tk } Q) E { s with heap := h, toks := tk })
    (done : ∀ (c : σ) (u : Str → Option Value) h tk, P n c → Fr h₀ env.locals h (LMap S u m₀ (ps c)) → News h₀ env.locals h (Led c) → Q .next { s with heap := h, toks := tk }) :
    wpAny (model prog w) A (pyIter (.ref r)) (fun it s₂ => LoopAtV prog w A h₀ env x body Q E it s₂) E s := by
  obtain ⟨c₀, hk, N, hp⟩ := start
  have e0 := hadr c₀
  refine wpAny_pyIter_range hr hsmall ?_
  have W : Walks prog w A s.heap.objs.size [s.heap.objs.size] [s.heap.objs.size] n (fun i v => i < n ∧ ∃ t, v = .int (a₀ + i * 1) t)
      (fun i h => IsRangeIter h s.heap.objs.size (a₀ + (i : Nat) * 1) ((n : Int) - (i : Nat)) 1) := (Walks.range hh _ a₀ 1 n).bound
  have away : ∀ p ∈ Led c₀, p.1 ∉ [s.heap.objs.size] := fun p hp hI => absurd (Heap.lt_size (N p hp).1) ((List.mem_singleton.mp hI) ▸ Nat.lt_irrefl _)
  refine loop_invN (fun i m nx => LJ S m₀ Led ps (P i) m nx) W (fun hm => absurd F.ns.lt ((List.mem_singleton.mp hm) ▸ Nat.lt_irrefl _)) (fun b hb => ?_) away away
    (by show IsRangeIter _ _ _ _ _; rw [hn]; simpa using Heap.get?_push_size _ rfl) (F.push _) (fun p hp => ⟨Heap.get?_push_of_some _ (N p hp).1, (N p hp).2⟩) ⟨c₀, rfl, hk, fun _ _ => rfl, hp⟩ ?_ ?_
  · rw [List.mem_singleton.mp hb]
    exact next_is_new F
  · rintro i v m₁ nx h tk own hi ⟨_, t, rfl⟩ _ hoff ⟨c, rfl, h1, h2, hp'⟩ F₁ N₁
    have e1 : a₀ + (i : Int) * 1 = a₀ + (i : Int) := by omega
    rw [e1] at F₁
    rw [e0]
    exact wpAny_mono (turn c i t m₁ h tk own hi (e0 ▸ hoff) hp' (lfr_in h1 h2 F₁) N₁) (fun f s₂ q => lpost_up hadr q) fun _ _ x => x
  · rintro m₁ nx h tk ⟨c, rfl, h1, h2, hp'⟩ F₁ N₁
    exact done c m₁ h tk hp' (by rw [lmap_eq h2 h1]; exact F₁) N₁
end
section
variable {σ : Type} {prog : Program} {w : World} {A : Around} {E : Value → Shared → Prop} {s : Shared} {env : Env} {h₀ : Heap} {x : Str} {body : List Stmt} {Q : Flow → Shared → Prop}
/-- the same where the ledger stands still -/
theorem loop_listK {l : Addr} {vs : List Value} {ns : List Int} {m₀ : Str → Option Value} {news : List (Addr × Obj)} (ps : σ → List (Str × Value)) (S : List Str) (P : List Int → σ → Prop)
    (hh : A.handled = none) (hl : h₀.IsList l vs.toArray) (hi : IntsAre vs ns) (hxS : S.contains x = true) (F : Fr h₀ env.locals s.heap m₀) (N : News h₀ env.locals s.heap news)
    (start : ∃ c₀ : σ, (∀ p ∈ ps c₀, m₀ p.1 = some p.2) ∧ P [] c₀)
    (turn : ∀ (c : σ) pre post n t (u : Str → Option Value) h tk own, ns = pre ++ n :: post → n ∈ ns → P pre c →
      Fr h₀ env.locals h (fun y => if y = x then some (.int n t) else LMap S u m₀ (ps c) y) → News h₀ env.locals h (news ++ own) →
      wpAny (model prog w) A (execs body env) (LPost h₀ env.locals S m₀ (fun _ => news) ps (P (pre ++ [n])) own { s with heap := h, toks := tk } Q) E { s with heap := h, toks := tk })
    (done : ∀ (c : σ) (u : Str → Option Value) h tk, P ns c → Fr h₀ env.locals h (LMap S u m₀ (ps c)) → News h₀ env.locals h news → Q .next { s with heap := h, toks := tk }) :
    wpAny (model prog w) A (pyIter (.ref l)) (fun it s₂ => LoopAtV prog w A h₀ env x body Q E it s₂) E s := by
  obtain ⟨c₀, hk, hp⟩ := start
  exact loop_list (fun _ => news) ps S P (news.map (·.1)) (fun _ => rfl) hh hl hi hxS F ⟨c₀, hk, N, hp⟩ (fun c pre post n t u h tk own e mem _ => turn c pre post n t u h tk own e mem) done
theorem loop_rangeK {r : Addr} {a₀ b₀ : Int} {t₀ u₀ v₀ : Tok} {m₀ : Str → Option Value} {news : List (Addr × Obj)} (n : Nat) (ps : σ → List (Str × Value)) (S : List Str) (P : Nat → σ → Prop)
    (hh : A.handled = none) (hr : IsRange s.heap r a₀ b₀ 1 t₀ u₀ v₀) (hsmall : Builtin.Range.small a₀ b₀ 1 = true) (hn : Builtin.Range.rangeSize a₀ b₀ 1 = (n : Int)) (hxS : S.contains x = true) (F : Fr h₀ env.locals s.heap m₀) (N : News h₀ env.locals s.heap news)
    (start : ∃ c₀ : σ, (∀ p ∈ ps c₀, m₀ p.1 = some p.2) ∧ P 0 c₀)
    (turn : ∀ (c : σ) (i : Nat) t (u : Str → Option Value) h tk own, i < n → P i c →
      Fr h₀ env.locals h (fun y => if y = x then some (.int (a₀ + (i : Int)) t) else LMap S u m₀ (ps c) y) → News h₀ env.locals h (news ++ own) →
      wpAny (model prog w) A (execs body env) (LPost h₀ env.locals S m₀ (fun _ => news) ps (P (i + 1)) own { s with heap := h, toks := tk } Q) E { s with heap := h, toks := tk })
    (done : ∀ (c : σ) (u : Str → Option Value) h tk, P n c → Fr h₀ env.locals h (LMap S u m₀ (ps c)) → News h₀ env.locals h news → Q .next { s with heap := h, toks := tk }) :
    wpAny (model prog w) A (pyIter (.ref r)) (fun it s₂ => LoopAtV prog w A h₀ env x body Q E it s₂) E s := by
  obtain ⟨c₀, hk, hp⟩ := start
  exact loop_range (fun _ => news) ps S P (news.map (·.1)) (fun _ => rfl) hh hr hsmall hn hxS F ⟨c₀, hk, N, hp⟩ (fun c i t u h tk own hi _ => turn c i t u h tk own hi) done
end
section
variable {σ : Type} {prog : Program} {w : World} {A : Around} {E : Value → Shared → Prop} {s : Shared} {env : Env} {h₀ : Heap} {x : Str} {body : List Stmt} {Q : Flow → Shared → Prop}
/-- the same where one made list grows -/
theorem loop_list1 {l D : Addr} {vs us₀ : List Value} {k₀ : Nat} {ns : List Int} {m₀ : Str → Option Value} (ps : σ → List (Str × Value)) (S : List Str) (P : List Int → σ → List Value → Prop)
    (hh : A.handled = none) (hl : h₀.IsList l vs.toArray) (hi : IntsAre vs ns) (hxS : S.contains x = true) (F : Fr h₀ env.locals s.heap m₀) (N : News h₀ env.locals s.heap [(D, listOf us₀.toArray k₀)])
    (start : ∃ c₀ : σ, (∀ p ∈ ps c₀, m₀ p.1 = some p.2) ∧ P [] c₀ us₀)
    (turn : ∀ (c : σ) (us : List Value) (k : Nat) pre post n t (u : Str → Option Value) h tk own, ns = pre ++ n :: post → n ∈ ns → OwnOff own [D] → P pre c us →
      Fr h₀ env.locals h (fun y => if y = x then some (.int n t) else LMap S u m₀ (ps c) y) → News h₀ env.locals h ((D, listOf us.toArray k) :: own) →
      wpAny (model prog w) A (execs body env) (LPost (σ := σ × List Value × Nat) h₀ env.locals S m₀ (fun c => [(D, listOf c.2.1.toArray c.2.2)]) (fun c => ps c.1) (fun c => P (pre ++ [n]) c.1 c.2.1) own { s with heap := h, toks := tk } Q) E { s with heap := h, toks := tk })
    (done : ∀ (c : σ) (us : List Value) (k : Nat) (u : Str → Option Value) h tk, P ns c us → Fr h₀ env.locals h (LMap S u m₀ (ps c)) → News h₀ env.locals h [(D, listOf us.toArray k)] → Q .next { s with heap := h, toks := tk }) :
    wpAny (model prog w) A (pyIter (.ref l)) (fun it s₂ => LoopAtV prog w A h₀ env x body Q E it s₂) E s := by
  obtain ⟨c₀, hk, hp⟩ := start
  exact loop_list (σ := σ × List Value × Nat) (fun c => [(D, listOf c.2.1.toArray c.2.2)]) (fun c => ps c.1) S (fun pre c => P pre c.1 c.2.1) [D] (fun _ => rfl) hh hl hi hxS F ⟨(c₀, us₀, k₀), hk, N, hp⟩
    (fun c pre post n t u h tk own e mem off hp F N => turn c.1 c.2.1 c.2.2 pre post n t u h tk own e mem off hp F N) (fun c u h tk hp F N => done c.1 c.2.1 c.2.2 u h tk hp F N)
end
theorem and_small {a m : Int} (h0 : 0 ≤ m) (h1 : m < 2 ^ 64) : (Builtin.bitAnd a m).natAbs < 2 ^ 64 := by
  have key : ∀ x : Nat, ((m.toNat &&& x : Nat) : Int).natAbs < 2 ^ 64 := fun x => by
    have := Nat.and_le_left (n := m.toNat) (m := x)
    omega
  by_cases ha : 0 ≤ a
  · rw [bitAnd_pp ha h0, Nat.and_comm]; exact key _
  · rw [bitAnd_np ha h0]
    have := Nat.and_le_left (n := m.toNat) (m := (Builtin.bitNot a).toNat)
    omega
inductive MarkT : Nat → Prop
  | mk (n : Nat) : MarkT n
theorem news_sub {h₀ h : Heap} {L : Addr} {a b : List (Addr × Obj)} (N : News h₀ L h a) (e : ∀ p ∈ b, p ∈ a) : News h₀ L h b := fun p hp => N p (e p hp)
/-- a post that the walk leaves alone -/
def Hid {α : Type} (a : α) (s : Shared) (p : α → Shared → Prop) : Prop := p a s
theorem Hid.mk {α : Type} {p : α → Shared → Prop} {a : α} {s : Shared} (h : p a s) : Hid a s p := h
/-- a statement's end, told in advance -/
theorem join_hid {M : Model} {A : Around} {E : Value → Shared → Prop} {s : Shared} {α : Type} {t : Sem α} {Q : α → Shared → Prop} (J : α → Shared → Prop) (h : wpAny M A t (fun f s' => Hid f s' J) E s) (k : ∀ f s', J f s' → Q f s') : wpAny M A t Q E s := wpAny_mono h k fun _ _ e => e
/-- an expression's text, told in advance -/
theorem join_str {M : Model} {A : Around} {E : Value → Shared → Prop} {s : Shared} {t : Sem Value} {Q : Value → Shared → Prop} (P : Str → Prop)
    (h : wpAny M A t (fun v s' => Hid v s' fun v s' => ∃ Y u tk, v = .str Y u ∧ P Y ∧ s' = { s with toks := tk }) E s) (k : ∀ Y u tk, P Y → Q (.str Y u) { s with toks := tk }) : wpAny M A t Q E s :=
  wpAny_mono h (fun v s' j => by obtain ⟨Y, u, tk, rfl, p, rfl⟩ := j; exact k Y u tk p) fun _ _ e => e
/-- a test's answer, told in advance -/
theorem join_bool {M : Model} {A : Around} {E : Value → Shared → Prop} {s : Shared} {t : Sem Bool} {Q : Bool → Shared → Prop} {h₀ : Heap} {L : Addr} {m : Str → Option Value} {news : List (Addr × Obj)} (c : Bool) (_F : Fr h₀ L s.heap m) (_N : News h₀ L s.heap news)
    (h : wpAny M A t (fun b s' => Hid b s' fun b s' => b = c ∧ ∃ h' tk, s' = { s with heap := h', toks := tk } ∧ Fr h₀ L h' m ∧ News h₀ L h' news) E s) (k : ∀ h' tk, Fr h₀ L h' m → News h₀ L h' news → Q c { s with heap := h', toks := tk }) : wpAny M A t Q E s :=
  wpAny_mono h (fun b s' j => by obtain ⟨rfl, h', tk, rfl, F, N⟩ := j; exact k h' tk F N) fun _ _ e => e
end Mine
end
section
open PySem PySem.W PySem.Calls PyProof.Rows PySem.Spec
namespace Mine
section
variable {prog : Program} {w : World} {A : Around} {E : Value → Shared → Prop} {s : Shared} {h₀ : Heap} {L : Addr} {m : Str → Option Value} {env : Env}
inductive GenPost (prog : Program) (w : World) (A : Around) (h₀ : Heap) (L : Addr) (m : Str → Option Value) (env : Env) (elt : Expr) (x : Str) (scope : Scope) (cl : List (Str × Addr)) (Fin : Shared → List Value → List (Addr × Obj) → Prop) (it : Value) (s₂ : Shared) : Prop
  | mk (I : Addr) (fp : List Addr) (n : Nat) (P : Nat → Value → Prop) (St : Nat → Heap → Prop) (S : List (Addr × Obj) → Prop) (news : List (Addr × Obj)) (q0 : it = .ref I) (q1 : Walks prog w A I fp [I] n P St) (q2 : n ≤ sizeLine) (q3 : (∀ i h, St i h → ∃ o, h.get? I = some o)) (q4 : (∀ i h h' o nw, St i h → h.get? I = some o → h'.get? I = some o → (∀ b o, h₀.get? b = some o → h'.get? b = some o) → News h₀ L h' nw → S nw → St i h')) (q5 : St 0 s₂.heap) (q6 : (∀ b ∈ fp, b < s₂.heap.objs.size)) (q7 : Fr h₀ L s₂.heap m) (q8 : News h₀ L s₂.heap news) (q9 : L ≠ I) (q10 : h₀.get? I = none) (q11 : (∀ p ∈ news, p.1 ≠ I)) (q12 : S news) (q13 : LCg.CompRest prog w A h₀ L m env elt x scope cl s₂ S P (Fin s₂) n 0 [] news) : GenPost prog w A h₀ L m env elt x scope cl Fin it s₂
/-- a comprehension's source, any that walks -/
def GenSrc (prog : Program) (w : World) (A : Around) (h₀ : Heap) (L : Addr) (m : Str → Option Value) (env : Env) (elt : Expr) (x : Str) (scope : Scope) (cl : List (Str × Addr)) (Fin : Shared → List Value → List (Addr × Obj) → Prop) (E : Value → Shared → Prop) (xv : Value) (s₁ : Shared) : Prop :=
  wpAny (model prog w) A (pyIter xv) (GenPost prog w A h₀ L m env elt x scope cl Fin) E s₁
theorem ListComp_G {elt iter : Expr} {x : Str} {px : Pos} {scope : Scope} {cl : List (Str × Addr)} {pos : Pos} {Q : Value → Shared → Prop} (_F : Fr h₀ L s.heap m)
    (hclos : closureFor scope env = pure cl) (hcell : ∀ y ∈ scope.names, y.2 ≠ .cell) (hkind : scope.kind = .function)
    (hnames : ∀ y ∈ scope.names, y.2 = .local → scope.names.lookup y.1 = some .local) (hx : scope.names.lookup x = some .local)
    (h : wpAny (model prog w) A (eval iter env) (GenSrc prog w A h₀ L m env elt x scope cl (fun s₂ => LCg.FinE h₀ L m s₂ Q) E) E s)
    (hs : ∀ x, foldedSetIterable iter env x = pure x := by intro _; rfl) :
    wpAny (model prog w) A (eval (.ListComp elt [⟨.Name x px, iter, [], 0⟩] scope pos) env) Q E s := by
  rw [eval_ListComp]
  refine wpAny_comprehension_free (use := none) rfl hs hclos hkind hnames (wpAny_mono h (fun xv s₁ h₁ => ?_) fun _ _ e => e)
  refine wpAny_mono h₁ (fun it s₂ h₂ => ?_) fun _ _ e => e
  obtain ⟨I, fp, n, P, St, S, news, rfl, W, hsz, hIo, hSt, hst, hfp, F, N, hIL, hI₀, off, hS, R⟩ := h₂
  refine LCg.block_U W hsz hIo hSt hcell hkind hx hst hfp F N hIL hI₀ off hS R ?_
  intro D C h tk m' ys news' F' N' o1 hn hC₀ hD₀ hCL hDL hCD offC fin
  refine ⟨m', hn, fun h'' hs'' => fin D h'' tk (F'.change hs'' hCL hC₀) (fun p hp => ?_) o1⟩
  refine ⟨hs''.extBut _ _ ?_ (N' p hp).1, (N' p hp).2⟩
  rcases List.mem_cons.mp hp with rfl | hp
  · exact Ne.symm hCD
  · exact offC p hp
theorem Assign_ListComp_G {elt iter : Expr} {x y : Str} {px py : Pos} {scope : Scope} {cl : List (Str × Addr)} {pos spos : Pos} {Q : Flow → Shared → Prop} (_F : Fr h₀ L s.heap m) (hLe : env.locals = L)
    (hsw : swapsWith (.ListComp elt [⟨.Name x px, iter, [], 0⟩] scope pos) (some (.Name y py)) spos.line env = pure true)
    (hclos : closureFor scope env = pure cl) (hcell : ∀ z ∈ scope.names, z.2 ≠ .cell) (hkind : scope.kind = .function)
    (hnames : ∀ z ∈ scope.names, z.2 = .local → scope.names.lookup z.1 = some .local) (hx : scope.names.lookup x = some .local)
    (hy : env.kindOf y = some .local) (hp : (env.scope.kind == .class || (env.scope.kind == .module && env.locals != env.globals)) = false)
    (h : wpAny (model prog w) A (eval iter env) (GenSrc prog w A h₀ L m env elt x scope cl (fun s₂ => LCg.FinA h₀ L m s₂ y Q) E) E s)
    (hs : ∀ x, foldedSetIterable iter env x = pure x := by intro _; rfl) :
    wpAny (model prog w) A (exec (.Assign [.Name y py] (.ListComp elt [⟨.Name x px, iter, [], 0⟩] scope pos) spos) env) Q E s := by
  subst hLe
  rw [exec_Assign_Name_used _ _ _ _ hsw]
  refine wpAny_bind (wpAny_standAt (wpAny_bind ?_))
  show wpAny _ A (do let _ ← comprehension (.ListComp elt [⟨.Name x px, iter, [], 0⟩] scope pos) scope env _ (newList []) false (eval iter env) (some (assign (.Name y py) env))) _ _ s
  refine wpAny_bind (wpAny_mono (wpAny_comprehension_free (use := some (assign (.Name y py) env)) (Q := fun _ s' => Q .next s') rfl hs hclos hkind hnames
    (wpAny_mono h (fun xv s₁ h₁ => ?_) fun _ _ e => e)) (fun _ s' hq => wpAny_pure (wpAny_pure hq)) fun _ _ e => e)
  refine wpAny_mono h₁ (fun it s₂ h₂ => ?_) fun _ _ e => e
  obtain ⟨I, fp, n, P, St, S, news, rfl, W, hsz, hIo, hSt, hst, hfp, F, N, hIL, hI₀, off, hS, R⟩ := h₂
  refine LCg.block_U W hsz hIo hSt hcell hkind hx hst hfp F N hIL hI₀ off hS R ?_
  intro D C h tk m' ys news' F' N' o1 hn hC₀ hD₀ hCL hDL hCD offC fin
  show wpAny _ A (assign (.Name y py) env (.ref D)) _ _ _
  refine wpAny_assign_Name (wpAny_storeName_local hy F'.ns (fun h₂ hn₂ hs₂ => ?_) hp)
  refine ⟨m', hn.sameBut hs₂ hCL, fun h₃ hs₃ => ?_⟩
  refine fin D h₃ _ ((F'.set hn₂ hs₂).change hs₃ hCL hC₀) (fun p hp => ?_) o1
  have q := N'.set hs₂ p hp
  refine ⟨hs₃.extBut _ _ ?_ q.1, q.2⟩
  rcases List.mem_cons.mp hp with rfl | hp
  · exact Ne.symm hCD
  · exact offC p hp
/-- an element's end -/
inductive EEnd (h₀ : Heap) (L : Addr) (m : Str → Option Value) (s₁ : Shared) (all : List (Addr × Obj)) (R : Value → Prop) (y : Value) (s₂ : Shared) : Prop
  | mk (h' : Heap) (tk : Nat) (q0 : s₂ = { s₁ with heap := h', toks := tk }) (q1 : Fr h₀ L h' m) (q2 : News h₀ L h' all) (q3 : R y) : EEnd h₀ L m s₁ all R y s₂
theorem EEnd.intro {s₁ : Shared} {all news' : List (Addr × Obj)} {R : Value → Prop} {y : Value} {h' : Heap} {tk : Nat} (F : Fr h₀ L h' m) (N : News h₀ L h' news') (hs : ∀ p ∈ all, p ∈ news') (r : R y) :
    EEnd h₀ L m s₁ all R y { s₁ with heap := h', toks := tk } := ⟨h', tk, rfl, F, fun p hp => N p (hs p hp), r⟩
theorem rest_of {elt : Expr} {x : Str} {scope : Scope} {cl : List (Str × Addr)} {S : List (Addr × Obj) → Prop} {P : Nat → Value → Prop} {Fin : List Value → List (Addr × Obj) → Prop} {news : List (Addr × Obj)} {n : Nat} (R : Nat → Value → Prop) (hS : S news)
    (turn : ∀ i v I oI C oC D m₂ ys h tk (E' : Value → Shared → Prop), i < n → P i v → LCg.NsObj oC m₂ → m₂ x = some v → Fr h₀ L h m → News h₀ L h ((I, oI) :: (C, oC) :: (D, LCg.lst ys) :: news) →
      wpAny (model prog w) A (eval elt (compEnvC scope cl C env)) (EEnd h₀ L m { s with heap := h, toks := tk } ((I, oI) :: (C, oC) :: (D, LCg.lst ys) :: news) (R i)) E' { s with heap := h, toks := tk })
    (fin : ∀ ys, ys.length = n → (∀ i y, ys[i]? = some y → R i y) → Fin ys news) : LCg.CompRest prog w A h₀ L m env elt x scope cl s S P Fin n 0 [] news := by
  have key : ∀ (j i : Nat) (ys : List Value), i + j = n → ys.length = i → (∀ k y, ys[k]? = some y → R k y) → LCg.CompRest prog w A h₀ L m env elt x scope cl s S P Fin j i ys news := by
    intro j
    induction j with
    | zero => intro i ys hi hl hr; exact LCg.CompRest.zero (fin ys (by (first | lia | omega)) hr)
    | succ j ih =>
      intro i ys hi hl hr
      refine LCg.CompRest.succ ?_
      intro v I oI C oC D m₂ h tk E' hv hC hx F N off ne
      refine wpAny_mono (turn i v I oI C oC D m₂ ys h tk E' (by (first | lia | omega)) hv hC hx F N) (fun y s₂ hq => ?_) fun _ _ e => e
      obtain ⟨h', tk', e, F', N', hy⟩ := hq
      refine ⟨h', tk', news, e, F', N', off, hS, ih (i + 1) _ (by (first | lia | omega)) (by rw [List.length_append, List.length_singleton, hl]) fun k y' hk => ?_⟩
      rcases Nat.lt_trichotomy k ys.length with q | q | q
      · rw [List.getElem?_append_left q] at hk; exact hr k y' hk
      · subst q
        rw [List.getElem?_append_right (Nat.le_refl _), Nat.sub_self] at hk
        cases hk
        exact hl ▸ hy
      · have : (ys ++ [y])[k]? = none := List.getElem?_eq_none (by rw [List.length_append, List.length_singleton]; (first | lia | omega))
        rw [this] at hk; cases hk
  exact key n 0 [] (by (first | lia | omega)) rfl (fun k y hk => by simp at hk)
theorem st_of_frame {I : Addr} {n : Nat} {P : Nat → Value → Prop} {St : Nat → Heap → Prop} (W : Walks prog w A I [I] [I] n P St) {i : Nat} {h h' : Heap} {o : Obj} (st : St i h) (e : h.get? I = some o) (e' : h'.get? I = some o) : St i h' :=
  W.frame i h h' st fun b hb o' e2 => by
    rw [List.mem_singleton.mp hb] at e2 ⊢
    rw [e] at e2; cases e2; exact e'
theorem src_str {elt : Expr} {x : Str} {scope : Scope} {cl : List (Str × Addr)} {Fin : Shared → List Value → List (Addr × Obj) → Prop} {tx : Str} {t : Tok} {news : List (Addr × Obj)}
    (hh : A.handled = none) (F : Fr h₀ L s.heap m) (N : News h₀ L s.heap news) (hsz : tx.cps.size ≤ sizeLine)
    (R : ∀ g, LCg.CompRest prog w A h₀ L m env elt x scope cl { s with heap := g } (fun _ => True) (SignAt tx) (Fin { s with heap := g }) tx.cps.size 0 [] news) :
    GenSrc prog w A h₀ L m env elt x scope cl Fin E (.str tx t) s := by
  have up : ∀ (ob : Obj) b o, s.heap.get? b = some o → (s.heap.push ob).get? b = some o := fun ob b o e => Heap.get?_push_of_some _ e
  have lt : ∀ ob : Obj, ∀ b ∈ [s.heap.objs.size], b < (s.heap.push ob).objs.size := fun ob b hb => by
    rw [List.mem_singleton.mp hb, Heap.size_push]; exact Nat.lt_succ_self _
  have off : ∀ p ∈ news, p.1 ≠ s.heap.objs.size := fun p hp => Nat.ne_of_lt (Heap.lt_size (N p hp).1)
  unfold GenSrc
  cases ha : tx.cps.all (· < 128)
  · refine wpAny_pyIter_wide ha ?_
    have W := Walks.strWide (prog := prog) (w := w) hh s.heap.objs.size tx t
    exact ⟨_, _, _, _, _, fun _ => True, news, rfl, W, hsz, (fun i h st => by obtain ⟨o, e, _⟩ := st; exact ⟨o, e⟩), (fun i h h' o nw st e e' _ _ _ => st_of_frame W st e e'),
      ⟨_, Heap.get?_push_size _ rfl, rfl, rfl⟩, lt _, F.keeps (up _), N.grown (up _), Nat.ne_of_lt F.ns.lt, next_is_new F, off, trivial, R _⟩
  · refine wpAny_pyIter_ascii ha ?_
    have W := Walks.strAscii (prog := prog) (w := w) hh s.heap.objs.size tx t
    exact ⟨_, _, _, _, _, fun _ => True, news, rfl, W, hsz, (fun i h st => by obtain ⟨o, e, _⟩ := st; exact ⟨o, e⟩), (fun i h h' o nw st e e' _ _ _ => st_of_frame W st e e'),
      ⟨_, Heap.get?_push_size _ rfl, rfl, rfl⟩, lt _, F.keeps (up _), N.grown (up _), Nat.ne_of_lt F.ns.lt, next_is_new F, off, trivial, R _⟩
theorem src_range {elt : Expr} {x : Str} {scope : Scope} {cl : List (Str × Addr)} {Fin : Shared → List Value → List (Addr × Obj) → Prop} {r : Addr} {a b c : Int} {t u v : Tok} {n : Nat} {news : List (Addr × Obj)}
    (hh : A.handled = none) (F : Fr h₀ L s.heap m) (N : News h₀ L s.heap news) (hr : IsRange s.heap r a b c t u v) (hsm : Builtin.Range.small a b c = true) (hn : Builtin.Range.rangeSize a b c = ((n : Nat) : Int)) (hsz : n ≤ sizeLine)
    (R : ∀ g, LCg.CompRest prog w A h₀ L m env elt x scope cl { s with heap := g } (fun _ => True) (fun i v => ∃ t, v = .int (a + i * c) t) (Fin { s with heap := g }) n 0 [] news) :
    GenSrc prog w A h₀ L m env elt x scope cl Fin E (.ref r) s := by
  have up : ∀ (ob : Obj) b o, s.heap.get? b = some o → (s.heap.push ob).get? b = some o := fun ob b o e => Heap.get?_push_of_some _ e
  have lt : ∀ ob : Obj, ∀ b ∈ [s.heap.objs.size], b < (s.heap.push ob).objs.size := fun ob b hb => by
    rw [List.mem_singleton.mp hb, Heap.size_push]; exact Nat.lt_succ_self _
  have off : ∀ p ∈ news, p.1 ≠ s.heap.objs.size := fun p hp => Nat.ne_of_lt (Heap.lt_size (N p hp).1)
  unfold GenSrc
  refine wpAny_pyIter_range hr hsm ?_
  have W := Walks.range (prog := prog) (w := w) hh s.heap.objs.size a c n
  exact ⟨_, _, _, _, _, fun _ => True, news, rfl, W, hsz, (fun i h st => ⟨_, st⟩), (fun i h h' o nw st e e' _ _ _ => st_of_frame W st e e'),
    (by show IsRangeIter _ _ _ _ _; rw [hn]; simpa using Heap.get?_push_size _ rfl), lt _, F.keeps (up _), N.grown (up _), Nat.ne_of_lt F.ns.lt, next_is_new F, off, trivial, R _⟩
theorem src_list {elt : Expr} {x : Str} {scope : Scope} {cl : List (Str × Addr)} {Fin : Shared → List Value → List (Addr × Obj) → Prop} {ax : Addr} {its : Array Value} {news : List (Addr × Obj)}
    (hh : A.handled = none) (F : Fr h₀ L s.heap m) (N : News h₀ L s.heap news) (S : LCg.SrcAt h₀ ax its news) (hsz : its.size ≤ sizeLine)
    (R : ∀ g, LCg.CompRest prog w A h₀ L m env elt x scope cl { s with heap := g } (LCg.SrcAt h₀ ax its) (fun i v => its[i]? = some v) (Fin { s with heap := g }) its.size 0 [] news) :
    GenSrc prog w A h₀ L m env elt x scope cl Fin E (.ref ax) s := by
  have up : ∀ (ob : Obj) b o, s.heap.get? b = some o → (s.heap.push ob).get? b = some o := fun ob b o e => Heap.get?_push_of_some _ e
  have off : ∀ p ∈ news, p.1 ≠ s.heap.objs.size := fun p hp => Nat.ne_of_lt (Heap.lt_size (N p hp).1)
  have hl := S.list F.keep N
  have hlt : ax < s.heap.objs.size := by obtain ⟨_, e, _⟩ := hl; exact Heap.lt_size e
  unfold GenSrc
  refine wpAny_pyIter_list hl ?_
  refine ⟨_, _, _, _, _, LCg.SrcAt h₀ ax its, news, rfl, Walks.list hh s.heap.objs.size ax (Nat.ne_of_lt hlt) its, hsz, (fun i h st => by obtain ⟨o, e, _⟩ := st.1; exact ⟨o, e⟩), LCg.list_st, ⟨⟨_, Heap.get?_push_size _ rfl, rfl, rfl⟩, hl.push _⟩, (fun b hb => ?_),
    F.keeps (up _), N.grown (up _), Nat.ne_of_lt F.ns.lt, next_is_new F, off, S, R _⟩
  show b < (s.heap.push _).objs.size
  rw [Heap.size_push]
  rcases List.mem_cons.mp hb with rfl | hb
  · exact Nat.lt_succ_self _
  · rw [List.mem_singleton.mp hb]; exact Nat.lt_succ_of_lt hlt
section
variable {elt : Expr} {x : Str} {scope : Scope} {cl : List (Str × Addr)} {Fin : Shared → List Value → List (Addr × Obj) → Prop} {news : List (Addr × Obj)}
/-- an element's walk, over all turns -/
abbrev EltW (prog : Program) (w : World) (A : Around) (h₀ : Heap) (L : Addr) (m : Str → Option Value) (env : Env) (s : Shared) (elt : Expr) (x : Str) (scope : Scope) (cl : List (Str × Addr)) (news : List (Addr × Obj)) (v : Value) (R : Value → Prop) : Prop :=
  ∀ I oI C oC D m₂ ys h tk (E' : Value → Shared → Prop), LCg.NsObj oC m₂ → m₂ x = some v → Fr h₀ L h m → News h₀ L h ((I, oI) :: (C, oC) :: (D, LCg.lst ys) :: news) →
    wpAny (model prog w) A (eval elt (compEnvC scope cl C env)) (EEnd h₀ L m { s with heap := h, toks := tk } ((I, oI) :: (C, oC) :: (D, LCg.lst ys) :: news) R) E' { s with heap := h, toks := tk }
theorem comp_str {tx : Str} {t : Tok} (R : Nat → Value → Prop) (hh : A.handled = none) (F : Fr h₀ L s.heap m) (N : News h₀ L s.heap news) (hsz : tx.cps.size ≤ sizeLine)
    (turn : ∀ (i : Nat) (c : Nat) (u : Tok), i < tx.cps.size → tx.cps[i]? = some c → EltW prog w A h₀ L m env s elt x scope cl news (.str ⟨#[c]⟩ u) (R i))
    (fin : ∀ g ys, ys.length = tx.cps.size → (∀ (i : Nat) (y : Value), ys[i]? = some y → R i y) → Fin { s with heap := g } ys news) :
    GenSrc prog w A h₀ L m env elt x scope cl Fin E (.str tx t) s :=
  src_str hh F N hsz fun g => rest_of R trivial (fun i v I oI C oC D m₂ ys h tk E' hi hP hC hx F N => by
    obtain ⟨c, u, hc, rfl⟩ := hP
    exact turn i c u hi hc I oI C oC D m₂ ys h tk E' hC hx F N) (fin g)
theorem comp_range {r : Addr} {a b c : Int} {t u v : Tok} {n : Nat} (R : Nat → Value → Prop) (hh : A.handled = none) (F : Fr h₀ L s.heap m) (N : News h₀ L s.heap news) (hr : IsRange s.heap r a b c t u v) (hsm : Builtin.Range.small a b c = true) (hn : Builtin.Range.rangeSize a b c = ((n : Nat) : Int)) (hsz : n ≤ sizeLine)
    (turn : ∀ (i : Nat) (u : Tok), i < n → EltW prog w A h₀ L m env s elt x scope cl news (.int (a + i * c) u) (R i))
    (fin : ∀ g ys, ys.length = n → (∀ (i : Nat) (y : Value), ys[i]? = some y → R i y) → Fin { s with heap := g } ys news) :
    GenSrc prog w A h₀ L m env elt x scope cl Fin E (.ref r) s :=
  src_range hh F N hr hsm hn hsz fun g => rest_of R trivial (fun i v I oI C oC D m₂ ys h tk E' hi hP hC hx F N => by
    obtain ⟨u, rfl⟩ := hP
    exact turn i u hi I oI C oC D m₂ ys h tk E' hC hx F N) (fin g)
theorem comp_led {ax : Addr} {vs : List Value} {ns : List Int} {k : Nat} (R : Nat → Value → Prop) (hh : A.handled = none) (F : Fr h₀ L s.heap m) (N : News h₀ L s.heap news) (hm : (ax, listOf vs.toArray k) ∈ news) (hi : IntsAre vs ns) (hsz : vs.length ≤ sizeLine)
    (turn : ∀ (i : Nat) (n : Int) (u : Tok), i < ns.length → ns[i]? = some n → EltW prog w A h₀ L m env s elt x scope cl news (.int n u) (R i))
    (fin : ∀ g ys, ys.length = ns.length → (∀ (i : Nat) (y : Value), ys[i]? = some y → R i y) → Fin { s with heap := g } ys news) :
    GenSrc prog w A h₀ L m env elt x scope cl Fin E (.ref ax) s :=
  src_list (its := vs.toArray) hh F N (.inr ⟨_, hm, rfl, _, rfl⟩) (by rw [List.size_toArray]; exact hsz) fun g => rest_of R (.inr ⟨_, hm, rfl, _, rfl⟩) (fun i v I oI C oC D m₂ ys h tk E' hi' hP hC hx F N => by
    obtain ⟨n, u, e, hn⟩ := IntsAre.at hi i v (by simpa using hP)
    subst e
    exact turn i n u (by rw [List.size_toArray, hi.length] at hi'; exact hi') hn I oI C oC D m₂ ys h tk E' hC hx F N) (fun ys hl => fin g ys (by rw [hl, List.size_toArray, hi.length]))
theorem comp_base {ax : Addr} {vs : List Value} {ns : List Int} (R : Nat → Value → Prop) (hh : A.handled = none) (F : Fr h₀ L s.heap m) (N : News h₀ L s.heap news) (hl : h₀.IsList ax vs.toArray) (hi : IntsAre vs ns) (hsz : vs.length ≤ sizeLine)
    (turn : ∀ (i : Nat) (n : Int) (u : Tok), i < ns.length → ns[i]? = some n → EltW prog w A h₀ L m env s elt x scope cl news (.int n u) (R i))
    (fin : ∀ g ys, ys.length = ns.length → (∀ (i : Nat) (y : Value), ys[i]? = some y → R i y) → Fin { s with heap := g } ys news) :
    GenSrc prog w A h₀ L m env elt x scope cl Fin E (.ref ax) s :=
  src_list (its := vs.toArray) hh F N (.inl hl) (by rw [List.size_toArray]; exact hsz) fun g => rest_of R (.inl hl) (fun i v I oI C oC D m₂ ys h tk E' hi' hP hC hx F N => by
    obtain ⟨n, u, e, hn⟩ := IntsAre.at hi i v (by simpa using hP)
    subst e
    exact turn i n u (by rw [List.size_toArray, hi.length] at hi'; exact hi') hn I oI C oC D m₂ ys h tk E' hC hx F N) (fun ys hl => fin g ys (by rw [hl, List.size_toArray, hi.length]))
end
end
theorem ints_of {f : Nat → Int} : ∀ {n : Nat} {ys : List Value}, ys.length = n → (∀ i y, ys[i]? = some y → ∃ t : Tok, y = Value.int (f i) t) → IntsAre ys ((List.range n).map f) := by
  have key : ∀ (ys : List Value) (a : Nat), (∀ i y, ys[i]? = some y → ∃ t : Tok, y = Value.int (f (a + i)) t) → IntsAre ys ((List.range' a ys.length).map f) := by
    intro ys
    induction ys with
    | nil => intro a _; exact .nil
    | cons y r ih =>
      intro a h
      obtain ⟨t, e⟩ := h 0 y rfl
      rw [e, List.length_cons, List.range'_succ, List.map_cons]
      refine .cons _ t (ih (a + 1) fun i y hy => ?_)
      obtain ⟨t, e⟩ := h (i + 1) y (by simpa using hy)
      exact ⟨t, by rw [e, show a + (i + 1) = a + 1 + i by (first | lia | omega)]⟩
  intro n ys hn h
  have := key ys 0 fun i y hy => by simpa using h i y hy
  rw [hn] at this
  rw [List.range_eq_range']
  exact this
theorem ints_map {α : Type} {g : α → Int} : ∀ {l : List α} {ys : List Value}, ys.length = l.length → (∀ (i : Nat) (y : Value), ys[i]? = some y → ∃ a, l[i]? = some a ∧ ∃ t : Tok, y = Value.int (g a) t) → IntsAre ys (l.map g)
  | [], [], _, _ => .nil
  | a :: r, y :: q, hl, h => by
    obtain ⟨a', e, t, ey⟩ := h 0 y rfl
    cases e
    subst ey
    exact .cons _ _ (ints_map (by simpa using hl) fun i y hy => by simpa using h (i + 1) y (by simpa using hy))
theorem news_list {h₀ h : Heap} {L r : Addr} {vs : Array Value} {n : Nat} {news : List (Addr × Obj)} (N : News h₀ L h news) (hm : (r, ({ cls := .type "list", data := .seq vs n } : Obj)) ∈ news) : h.IsList r vs := ⟨_, (N _ hm).1, rfl, _, rfl⟩
theorem add_J {prog : Program} {w : World} {A : Around} {E : Value → Shared → Prop} {s : Shared} {h₀ : Heap} {L l b : Addr} {m : Str → Option Value} {news : List (Addr × Obj)} {vs ws : List Value} {Q : Value → Shared → Prop}
    (F : Fr h₀ L s.heap m) (N : News h₀ L s.heap news) (hl : s.heap.IsList l vs.toArray) (hb : s.heap.IsList b ws.toArray) (hsz : vs.length + ws.length ≤ sizeLine)
    (h : ∀ D h', Fr h₀ L h' m → News h₀ L h' ((D, listOf (vs ++ ws).toArray 0) :: news) → (∀ p ∈ news, p.1 < D) → Q (.ref D) { s with heap := h' }) :
    wpAny (model prog w) A (binaryOp .Add (.ref l) (.ref b)) Q E s :=
  add_arrays F N hl hb (fun h' F' N' => h _ h' F' N' fun p hp => Heap.lt_size (N p hp).1) (by rw [List.size_toArray, List.size_toArray]; exact hsz)
theorem int_ex {a b : Int} {t : Tok} (h : a = b) : ∃ u : Tok, Value.int a t = Value.int b u := ⟨t, by rw [h]⟩
section
variable {M : Model} {A : Around} {E : Value → Shared → Prop} {s : Shared} {K : Frag} {h₀ : Heap} {L : Addr} {m mg mb : Str → Option Value} {env : Env} {p : Program} {loose : List Str} {x : Str} {pos : Pos} {v : Value} {Q : Value → Shared → Prop}
/-- names that the text or Python gives, in a block of its own -/
theorem nm_global (F : Fr h₀ L s.heap m) (X : K.In h₀) (T : TopRead p loose mg mb h₀) (e : nsIn K mainGlobals x = some (some v)) (h : Q v s) (hg : env.globals = mainGlobals)
    (hk : env.scope.kind = .function) (hx : env.kindOf x = some .globalImplicit) (hd : (x == ("__debug__" : Str)) = false) :
    wpAny M A (eval (.Name x pos) env) Q E s :=
  Name_function_global hk hx (loadGlobal_global (env := env) (show s.heap.Ns env.globals mg from hg ▸ (T.keeps F.keep).g) (mg_of X T.g e) h) hd
theorem nm_built (F : Fr h₀ L s.heap m) (X : K.In h₀) (T : TopRead p loose mg mb h₀) (e : nsIn K mainGlobals x = some none) (hv : bootBuiltins x = some v) (hn : x ≠ "__name__") (h : Q v s) (hg : env.globals = mainGlobals) (hb : env.builtins = builtinsNs)
    (hk : env.scope.kind = .function) (hx : env.kindOf x = some .globalImplicit) (hd : (x == ("__debug__" : Str)) = false) :
    wpAny M A (eval (.Name x pos) env) Q E s :=
  Name_function_global hk hx (loadGlobal_builtin (env := env) (show s.heap.Ns env.globals mg from hg ▸ (T.keeps F.keep).g) (mg_none_of X T.g e) (show s.heap.Ns env.builtins mb from hb ▸ (T.keeps F.keep).b) ((T.builtins x hn).trans hv) h) hd
end
end Mine
end
section
open PySem PySem.W PySem.Calls PyProof.Rows
set_option maxHeartbeats 4000000
namespace Mine
def gens : List Int := [996825010, 642813549, 513874426, 1027748829, 705979059]
def polyStepI (top : Int) (c : Int) (i : Nat) : Int := Builtin.bitXor c (if Builtin.bitAnd (top.fdiv (2 ^ i)) 1 ≠ 0 then gens.getD i 0 else 0)
def polyTurnI (c v : Int) : Int :=
  (List.range 5).foldl (polyStepI (c.fdiv (2 ^ 25))) (Builtin.bitXor (Builtin.bitAnd c 33554431 * 2 ^ 5) v)
theorem poly_step {top a c : Int} {i : Nat} (hc : c = (List.range i).foldl (polyStepI top) a) {x : Int} (hx : x = (if Builtin.bitAnd (top.fdiv (2 ^ (0 + (i : Int)).toNat)) 1 ≠ 0 then gens.getD (0 + (i : Int)).toNat 0 else 0)) :
    Builtin.bitXor c x = (List.range (i + 1)).foldl (polyStepI top) a := by
  have e : (0 + (i : Int)).toNat = i := by omega
  rw [e] at hx
  rw [List.range_succ, List.foldl_append, ← hc, hx]
  rfl
def polyI (ns : List Int) : Int := ns.foldl polyTurnI 1
section
local macro_rules | `(tactic| walk_at "exec For Name Call cons nil") => `(tactic| refine HoldN.out (n := 8) ?_)
local macro_rules | `(tactic| walk_at "exec For Name Name cons nil") => `(tactic| refine HoldN.out (n := 7) ?_)
local macro_rules | `(tactic| walk_at "pyIter ref") => `(tactic| (refine Hold.out ?_))
local macro_rules | `(tactic| walk_at "binaryOp LShift int int") => `(tactic| (with_unfolding_all refine' lshift_int_small ?a ?b ?c ?_; (case a => decide); (case b => decide); (case c => exact and_small (by decide) (by decide)); k_whole))
theorem polymod_tells {w : World} {dp un : Nat} {gd : Option (List Code)} {fr : List Env} {s : Shared} {Q E : Value → Shared → Prop} {l : Addr} {vs : List Value} {ns : List Int}
    (C : Cx w dp un gd fr s.heap 3)
    (hl : s.heap.IsList l vs.toArray) (hi : IntsAre vs ns)
    (ret : ∀ h' tk' t, s.heap.StaysIn h' → Q (.int (polyI ns) t) { s with heap := h', toks := tk' }) :
    wpAny (model PySem.Challenge.rw_jy0014_01.row.prog w) (mA dp un gd fr) (call (.ref 21) [.ref l]) Q E s := by
  refine' enter [(Str.ofString "values", .ref l)] C ?ho ?hcd ?bind ?loc ?c2 ?c3 ?c4 ?c5 ?_
  (((case ho => k_is); (case hcd => k_is); (case bind => exact BindsTo.of_eq rfl); (case loc => exact locs rfl); (case c2 => exact rfl); (case c3 => exact rfl); (case c4 => exact rfl); (case c5 => decide)))
  intro L' h₁ tk₁ base loose mean mg mb B X T F' N'
  (try dsimp only)
  (try k_fold)
  (repeat' (first | (with_reducible refine HoldN.mk (n := 8) ?_; ((rename Fr _ _ _ _ => lF'); (with_unfolding_all refine' For_invVF lF' ?k1 ?k2 ?_; (case k1 => exact rfl); (case k2 => exact rfl); k_whole))) | (with_reducible refine HoldN.mk (n := 7) ?_; ((rename Fr _ _ _ _ => lF'); (with_unfolding_all refine' For_invVF lF' ?k1 ?k2 ?_; (case k1 => exact rfl); (case k2 => exact rfl); k_whole))) | (k_unfold; (try dsimp only)) | (k_end; kc_close) | walk1 | (dsimp only; walk1) | (leave1; walk_say "STEP leave1"; (try dsimp only)) | fail "no step"))
  rename News _ _ _ _ => N1
  rename Fr _ _ _ _ => F1
  refine Hold.mk ?_
  with_unfolding_all refine' loop_listK (σ := Int × Tok) (fun c => [(Str.ofString "chk", .int c.1 c.2)]) [Str.ofString "value", Str.ofString "top", Str.ofString "chk", Str.ofString "i"] (fun pre c => c.1 = polyI pre) rfl hl hi rfl F1 N1 ?start ?turn ?done
  case start => with_unfolding_all exact ⟨(1, _), List.forall_mem_cons.mpr ⟨rfl, List.forall_mem_nil _⟩, rfl⟩
  case done =>
    rintro ⟨c, tc⟩ u h tk hc F2 N2
    dsimp only at F2 N2 hc
    (repeat' (first | (with_reducible refine HoldN.mk (n := 8) ?_; ((rename Fr _ _ _ _ => lF'); (with_unfolding_all refine' For_invVF lF' ?k1 ?k2 ?_; (case k1 => exact rfl); (case k2 => exact rfl); k_whole))) | (with_reducible refine HoldN.mk (n := 7) ?_; ((rename Fr _ _ _ _ => lF'); (with_unfolding_all refine' For_invVF lF' ?k1 ?k2 ?_; (case k1 => exact rfl); (case k2 => exact rfl); k_whole))) | (k_unfold; (try dsimp only)) | (k_end; kc_close) | walk1 | (dsimp only; walk1) | (leave1; walk_say "STEP leave1"; (try dsimp only)) | fail "no step"))
    dsimp only
    k_unfold
    dsimp only
    subst hc
    exact ret _ _ _ F2.keep
  case turn =>
    rintro ⟨c, tc⟩ pre post n t u h tk own e mem hc F2 N2
    dsimp only at F2 N2 hc
    (try k_fold)
    (repeat' (first | (with_reducible refine HoldN.mk (n := 8) ?_; ((rename Fr _ _ _ _ => lF'); (with_unfolding_all refine' For_invVF lF' ?k1 ?k2 ?_; (case k1 => exact rfl); (case k2 => exact rfl); k_whole))) | (with_reducible refine HoldN.mk (n := 7) ?_; ((rename Fr _ _ _ _ => lF'); (with_unfolding_all refine' For_invVF lF' ?k1 ?k2 ?_; (case k1 => exact rfl); (case k2 => exact rfl); k_whole))) | (k_unfold; (try dsimp only)) | (k_end; kc_close) | walk1 | (dsimp only; walk1) | (leave1; walk_say "STEP leave1"; (try dsimp only)) | fail "no step"))
    rename News _ _ _ _ => N3
    rename Fr _ _ _ _ => F3
    rename IsRange _ _ _ _ _ _ _ _ => rg
    refine Hold.mk ?_
    with_unfolding_all refine' loop_rangeK (σ := Int × Tok) 5 (fun c => [(Str.ofString "chk", .int c.1 c.2)]) [Str.ofString "chk", Str.ofString "i"] (fun i c' => c'.1 = (List.range i).foldl (polyStepI (c.fdiv (2 ^ 25))) (Builtin.bitXor (Builtin.bitAnd c 33554431 * 2 ^ 5) n)) rfl rg (by decide) (by decide) rfl F3 N3 ?start ?turn ?done
    case start => with_unfolding_all exact ⟨(_, _), List.forall_mem_cons.mpr ⟨rfl, List.forall_mem_nil _⟩, rfl⟩
    case done =>
      rintro ⟨c', tc'⟩ u' h' tk' hc' F4 N4
      dsimp only at F4 N4 hc'
      (repeat' (first | (with_reducible refine HoldN.mk (n := 8) ?_; ((rename Fr _ _ _ _ => lF'); (with_unfolding_all refine' For_invVF lF' ?k1 ?k2 ?_; (case k1 => exact rfl); (case k2 => exact rfl); k_whole))) | (with_reducible refine HoldN.mk (n := 7) ?_; ((rename Fr _ _ _ _ => lF'); (with_unfolding_all refine' For_invVF lF' ?k1 ?k2 ?_; (case k1 => exact rfl); (case k2 => exact rfl); k_whole))) | (k_unfold; (try dsimp only)) | (k_end; kc_close) | walk1 | (dsimp only; walk1) | (leave1; walk_say "STEP leave1"; (try dsimp only)) | fail "no step"))
      refine LPost.next F4 N4 ⟨(c', tc'), ?_, fun _ h => h, ?_⟩ ?_
      · exact List.forall_mem_cons.mpr ⟨rfl, List.forall_mem_nil _⟩
      · rw [hc', hc]
        show _ = List.foldl polyTurnI 1 (pre ++ [n])
        rw [List.foldl_append]
        rfl
      · ((intro z hz; repeat' (first | exact rfl | (refine (if_neg (off_ne hz (by rfl))).trans ?_) | (refine (lmap_off hz (by rfl) (by rfl)).trans ?_))))
    case turn =>
      rintro ⟨c', tc'⟩ i t' u' h' tk' own' hi' hc' F4 N4
      dsimp only at F4 N4 hc'
      (try k_fold)
      (repeat' (first | (with_reducible refine HoldN.mk (n := 8) ?_; ((rename Fr _ _ _ _ => lF'); (with_unfolding_all refine' For_invVF lF' ?k1 ?k2 ?_; (case k1 => exact rfl); (case k2 => exact rfl); k_whole))) | (with_reducible refine HoldN.mk (n := 7) ?_; ((rename Fr _ _ _ _ => lF'); (with_unfolding_all refine' For_invVF lF' ?k1 ?k2 ?_; (case k1 => exact rfl); (case k2 => exact rfl); k_whole))) | (k_unfold; (try dsimp only)) | (k_end; kc_close) | walk1 | (dsimp only; walk1) | (leave1; walk_say "STEP leave1"; (try dsimp only)) | fail "no step"))
      · rename Fr _ _ _ _ => F5
        rename News _ _ _ _ => N5
        rename _ ≠ (0 : Int) => hbit
        refine LPost.next F5 N5 ⟨(_, _), List.forall_mem_cons.mpr ⟨rfl, List.forall_mem_nil _⟩, fun _ h => h, ?_⟩ (by ((intro z hz; repeat' (first | exact rfl | (refine (if_neg (off_ne hz (by rfl))).trans ?_) | (refine (lmap_off hz (by rfl) (by rfl)).trans ?_)))))
        exact poly_step hc' (if_pos hbit).symm
      · rename Fr _ _ _ _ => F5
        rename News _ _ _ _ => N5
        rename _ = (0 : Int) => hbit
        refine LPost.next F5 N5 ⟨(_, _), List.forall_mem_cons.mpr ⟨rfl, List.forall_mem_nil _⟩, fun _ h => h, ?_⟩ (by ((intro z hz; repeat' (first | exact rfl | (refine (if_neg (off_ne hz (by rfl))).trans ?_) | (refine (lmap_off hz (by rfl) (by rfl)).trans ?_)))))
        exact poly_step hc' (if_neg (fun h => h hbit)).symm
end
end Mine
end
section
open PySem PySem.W PySem.Calls PyProof.Rows
set_option maxHeartbeats 4000000
namespace Mine
def hrpX (tx : Str) : List Int := tx.cps.toList.map (fun c : Nat => Int.fdiv (c : Int) (2 ^ 5)) ++ [0] ++ tx.cps.toList.map (fun c : Nat => Builtin.bitAnd (c : Int) 31)
theorem hrpX_length (tx : Str) : (hrpX tx).length = 2 * tx.cps.size + 1 := by
  unfold hrpX
  simp only [List.length_append, List.length_map, List.length_singleton, Array.length_toList]
  omega
local macro_rules | `(tactic| walk_at "eval Name") => `(tactic| (k_here; k_dflt (first
  | refine nm_global (by k_asm) (by k_asm) (by k_asm) (by k_is) ?_ (by rfl) (by rfl) (by rfl) (by decide)
  | refine nm_built (by k_asm) (by k_asm) (by k_asm) (by k_is) (by boot_by_name) (by decide) ?_ (by rfl) (by rfl) (by rfl) (by rfl) (by decide))))
local macro_rules | `(tactic| walk_at "eval ListComp") => `(tactic| refine HoldN.out (n := 2) ?_)
theorem hrp_tells {w : World} {dp un : Nat} {gd : Option (List Code)} {fr : List Env} {s : Shared} {Q E : Value → Shared → Prop} {tx : Str} {t : Tok}
    (C : Cx w dp un gd fr s.heap 3) (hsz : tx.cps.size ≤ 1000)
    (ret : ∀ h' tk' r vs n, s.heap.StaysIn h' → h'.get? r = some (listOf vs.toArray n) → s.heap.get? r = none → IntsAre vs (hrpX tx) → Q (.ref r) { s with heap := h', toks := tk' }) :
    wpAny (model PySem.Challenge.rw_jy0014_01.row.prog w) (mA dp un gd fr) (call (.ref 26) [.str tx t]) Q E s := by
  refine' enter [(Str.ofString "hrp", .str tx t)] C ?ho ?hcd ?bind ?loc ?c2 ?c3 ?c4 ?c5 ?_
  (((case ho => k_is); (case hcd => k_is); (case bind => exact BindsTo.of_eq rfl); (case loc => exact locs rfl); (case c2 => exact rfl); (case c3 => exact rfl); (case c4 => exact rfl); (case c5 => decide)))
  intro L' h₁ tk₁ base loose mean mg mb B X T F' N'
  (try dsimp only)
  (try k_fold)
  (repeat' (first | (with_reducible refine HoldN.mk (n := 2) ?_; (k_dflt (refine' ListComp_G (by k_asm) ?c1 ?c2 ?c3 ?c4 ?c5 ?_ ?c6; (case c1 => with_unfolding_all rfl); (case c2 => decide); (case c3 => rfl); (case c4 => decide); (case c5 => rfl); (case c6 => intro _; rfl)))) | (k_unfold; (try dsimp only)) | (k_end; kc_close) | walk1 | (dsimp only; walk1) | (leave1; walk_say "STEP leave1"; (try dsimp only)) | fail "no step"))
  rename News _ _ _ _ => N1
  rename Fr _ _ _ _ => F1
  refine src_str rfl F1 N1 (by rw [PySem.sizeLine_eq]; omega) fun g => rest_of (fun i y => ∃ c, tx.cps.toList[i]? = some c ∧ ∃ t : Tok, y = Value.int (Int.fdiv (c : Int) (2 ^ 5)) t) trivial ?_ ?_
  · rintro i v I oI C oC D m₂ ys h tk E' hi ⟨c, u, hc, rfl⟩ hC hx F N
    (try k_fold)
    (repeat' (first | (with_reducible refine HoldN.mk (n := 2) ?_; (k_dflt (refine' ListComp_G (by k_asm) ?c1 ?c2 ?c3 ?c4 ?c5 ?_ ?c6; (case c1 => with_unfolding_all rfl); (case c2 => decide); (case c3 => rfl); (case c4 => decide); (case c5 => rfl); (case c6 => intro _; rfl)))) | (k_unfold; (try dsimp only)) | (k_end; kc_close) | walk1 | (dsimp only; walk1) | (leave1; walk_say "STEP leave1"; (try dsimp only)) | fail "no step"))
    rename News _ _ _ _ => N2
    rename Fr _ _ _ _ => F2
    exact EEnd.intro F2 N2 (fun _ h => h) ⟨c, by simpa using hc, _, rfl⟩
  · intro ys hl hy
    have iy := ints_map (by simpa using hl) hy
    intro D h tk F N o1
    (try dsimp only)
    (repeat' (first | (with_reducible refine HoldN.mk (n := 2) ?_; (k_dflt (refine' ListComp_G (by k_asm) ?c1 ?c2 ?c3 ?c4 ?c5 ?_ ?c6; (case c1 => with_unfolding_all rfl); (case c2 => decide); (case c3 => rfl); (case c4 => decide); (case c5 => rfl); (case c6 => intro _; rfl)))) | (k_unfold; (try dsimp only)) | (k_end; kc_close) | walk1 | (dsimp only; walk1) | (leave1; walk_say "STEP leave1"; (try dsimp only)) | fail "no step"))
    rename News _ _ _ _ => N1
    rename Fr _ _ _ _ => F1
    refine src_str rfl F1 N1 (by rw [PySem.sizeLine_eq]; omega) fun g => rest_of (fun i y => ∃ c, tx.cps.toList[i]? = some c ∧ ∃ t : Tok, y = Value.int (Builtin.bitAnd (c : Int) 31) t) trivial ?_ ?_
    · rintro i v I oI C oC D m₂ ys h tk E' hi ⟨c, u, hc, rfl⟩ hC hx F N
      (try k_fold)
      (repeat' (first | (with_reducible refine HoldN.mk (n := 2) ?_; (k_dflt (refine' ListComp_G (by k_asm) ?c1 ?c2 ?c3 ?c4 ?c5 ?_ ?c6; (case c1 => with_unfolding_all rfl); (case c2 => decide); (case c3 => rfl); (case c4 => decide); (case c5 => rfl); (case c6 => intro _; rfl)))) | (k_unfold; (try dsimp only)) | (k_end; kc_close) | walk1 | (dsimp only; walk1) | (leave1; walk_say "STEP leave1"; (try dsimp only)) | fail "no step"))
      rename News _ _ _ _ => N2
      rename Fr _ _ _ _ => F2
      exact EEnd.intro F2 N2 (fun _ h => h) ⟨c, by simpa using hc, _, rfl⟩
    · intro zs hlz hz
      have iz := ints_map (by simpa using hlz) hz
      intro D h tk F N o1
      (try dsimp only)
      (repeat' (first | (with_reducible refine HoldN.mk (n := 2) ?_; (k_dflt (refine' ListComp_G (by k_asm) ?c1 ?c2 ?c3 ?c4 ?c5 ?_ ?c6; (case c1 => with_unfolding_all rfl); (case c2 => decide); (case c3 => rfl); (case c4 => decide); (case c5 => rfl); (case c6 => intro _; rfl)))) | (k_unfold; (try dsimp only)) | (k_end; kc_close) | walk1 | (dsimp only; walk1) | (leave1; walk_say "STEP leave1"; (try dsimp only)) | fail "no step"))
      rename News _ _ _ _ => N3
      rename Fr _ _ _ _ => F3
      have n3 := N3 _ (.head _)
      exact ret _ _ _ _ _ F3.keep n3.1 n3.2.2 ((iy.append (.cons _ _ .nil)).append iz)
end Mine
end
section
open PySem PySem.W PySem.Calls PyProof.Rows
set_option maxHeartbeats 4000000
namespace Mine
section
local macro_rules | `(tactic| walk_at "J pad") => `(tactic| skip)
local macro_rules | `(tactic| walk_at "binaryOp Add ref ref") => `(tactic| refine HoldN.out (n := 4) ?_)
local macro_rules | `(tactic| walk_at "call ref") => `(tactic| refine Hold.out ?_)
theorem ver_tells {w : World} {dp un : Nat} {gd : Option (List Code)} {fr : List Env} {s : Shared} {Q E : Value → Shared → Prop} {tx : Str} {t : Tok} {l : Addr} {vs : List Value} {ns : List Int}
    (C : Cx w dp un gd fr s.heap 5) (hsz : tx.cps.size ≤ 1000) (hl : s.heap.IsList l vs.toArray) (hi : IntsAre vs ns) (hlen : ns.length ≤ 1000)
    (ret : ∀ h' tk', s.heap.StaysIn h' → Q (.bool (polyI (hrpX tx ++ ns) == 1)) { s with heap := h', toks := tk' }) :
    wpAny (model PySem.Challenge.rw_jy0014_01.row.prog w) (mA dp un gd fr) (call (.ref 33) [.str tx t, .ref l]) Q E s := by
  refine' enter [(Str.ofString "data", .ref l), (Str.ofString "hrp", .str tx t)] C ?ho ?hcd ?bind ?loc ?c2 ?c3 ?c4 ?c5 ?_
  (((case ho => k_is); (case hcd => k_is); (case bind => exact BindsTo.of_eq rfl); (case loc => exact locs rfl); (case c2 => exact rfl); (case c3 => exact rfl); (case c4 => exact rfl); (case c5 => decide)))
  intro L' h₁ tk₁ base loose mean mg mb B X T F' N'
  (try dsimp only)
  (try k_fold)
  (repeat' (first | (with_reducible refine HoldN.mk (n := 4) ?_; ((with_unfolding_all refine' add_J ?F ?N ?a ?b ?z ?_; (case F => k_asm); (case N => k_asm); (case a => is_list); (case b => is_list); (case z => (((rw [PySem.sizeLine_eq]); (try simp only [List.length_append, List.length_cons, List.length_nil]); (try kcf_lens); omega))); k_whole); intro D' h' F' N' l1; (try k_lt l1); (try k_sweep))) | (k_unfold; (try dsimp only)) | (k_end; kc_close) | walk1 | (dsimp only; walk1) | (leave1; walk_say "STEP leave1"; (try dsimp only)) | fail "no step"))
  refine Hold.mk ?_
  rename News _ _ _ _ => N1
  rename Fr _ _ _ _ => F1
  with_unfolding_all refine' hrp_tells (Cx.push C F1 rfl ?hu) hsz ?_
  case hu => (first | exact Nat.add_le_add_left (by decide) _ | (dsimp only; omega))
  intro h2 tk2 r us n st hr fresh iu
  have F2 := fr_stays F1 st
  have N2 := news_new F1 N1 st hr fresh
  have hul := iu.length
  rw [hrpX_length] at hul
  (try dsimp only)
  (repeat' (first | (with_reducible refine HoldN.mk (n := 4) ?_; ((with_unfolding_all refine' add_J ?F ?N ?a ?b ?z ?_; (case F => k_asm); (case N => k_asm); (case a => is_list); (case b => is_list); (case z => (((rw [PySem.sizeLine_eq]); (try simp only [List.length_append, List.length_cons, List.length_nil]); (try kcf_lens); omega))); k_whole); intro D' h' F' N' l1; (try k_lt l1); (try k_sweep))) | (k_unfold; (try dsimp only)) | (k_end; kc_close) | walk1 | (dsimp only; walk1) | (leave1; walk_say "STEP leave1"; (try dsimp only)) | fail "no step"))
  refine Hold.mk ?_
  rename News _ _ _ _ => N1
  rename Fr _ _ _ _ => F1
  with_unfolding_all refine' polymod_tells (Cx.push C F1 rfl ?hu) (by is_list) (iu.append hi) ?_
  case hu => (first | exact Nat.add_le_add_left (by decide) _ | (dsimp only; omega))
  intro h2 tk2 t st
  have F2 := fr_stays F1 st
  have N2 := news_stays N1 st
  (try dsimp only)
  (repeat' (first | (with_reducible refine HoldN.mk (n := 4) ?_; ((with_unfolding_all refine' add_J ?F ?N ?a ?b ?z ?_; (case F => k_asm); (case N => k_asm); (case a => is_list); (case b => is_list); (case z => (((rw [PySem.sizeLine_eq]); (try simp only [List.length_append, List.length_cons, List.length_nil]); (try kcf_lens); omega))); k_whole); intro D' h' F' N' l1; (try k_lt l1); (try k_sweep))) | (k_unfold; (try dsimp only)) | (k_end; kc_close) | walk1 | (dsimp only; walk1) | (leave1; walk_say "STEP leave1"; (try dsimp only)) | fail "no step"))
  exact ret _ _ F2.keep
end
end Mine
end
section
open PySem PySem.W PySem.Calls PyProof.Rows
set_option maxHeartbeats 4000000
namespace Mine
def chkI (ns : List Int) : List Int := (List.range 6).map fun i => Builtin.bitAnd (Int.fdiv (Builtin.bitXor (polyI (ns ++ [0, 0, 0, 0, 0, 0])) 1) (2 ^ (5 * (5 - i)))) 31
theorem chkI_length (ns : List Int) : (chkI ns).length = 6 := by simp [chkI]
section
local macro_rules | `(tactic| walk_at "J pad") => `(tactic| skip)
local macro_rules | `(tactic| walk_at "binaryOp Add ref ref") => `(tactic| refine HoldN.out (n := 4) ?_)
local macro_rules | `(tactic| walk_at "call ref") => `(tactic| refine Hold.out ?_)
local macro_rules | `(tactic| walk_at "eval ListComp") => `(tactic| refine HoldN.out (n := 2) ?_)
theorem chk_tells {w : World} {dp un : Nat} {gd : Option (List Code)} {fr : List Env} {s : Shared} {Q E : Value → Shared → Prop} {tx : Str} {t : Tok} {l : Addr} {vs : List Value} {ns : List Int}
    (C : Cx w dp un gd fr s.heap 5) (hsz : tx.cps.size ≤ 1000) (hl : s.heap.IsList l vs.toArray) (hi : IntsAre vs ns) (hlen : ns.length ≤ 1000)
    (ret : ∀ h' tk' r vs n, s.heap.StaysIn h' → h'.get? r = some (listOf vs.toArray n) → s.heap.get? r = none → IntsAre vs (chkI (hrpX tx ++ ns)) → Q (.ref r) { s with heap := h', toks := tk' }) :
    wpAny (model PySem.Challenge.rw_jy0014_01.row.prog w) (mA dp un gd fr) (call (.ref 38) [.str tx t, .ref l]) Q E s := by
  refine' enterC [(Str.ofString "hrp", .str tx t), (Str.ofString "data", .ref l)] C ?ho ?hcd ?bind ?kind ?nd ?c2 ?c3 ?c4 ?_
  (((case ho => k_is); (case hcd => k_is); (case bind => exact BindsTo.of_eq rfl); (case kind => exact rfl); (case nd => decide +kernel); (case c2 => exact rfl); (case c3 => exact rfl); (case c4 => exact rfl)))
  intro L' h₁ tk₁ cells base loose mean mg mb B X T F' N' Y
  k_cells Y
  rename _ = Data.cell _ => dY
  replace F' : Fr s.heap L' h₁ (kstB (fun _ => none) [(Str.ofString "data", .ref l), (Str.ofString "hrp", .str tx t)]) := F'
  replace dY : _ = Data.cell none := dY
  simp only [List.append_nil] at N'
  (try dsimp only)
  (try k_fold)
  (repeat' (first | (with_reducible refine HoldN.mk (n := 4) ?_; ((with_unfolding_all refine' add_J ?F ?N ?a ?b ?z ?_; (case F => k_asm); (case N => k_asm); (case a => is_list); (case b => is_list); (case z => (((rw [PySem.sizeLine_eq]; (try simp only [List.length_append, List.length_cons, List.length_nil]); (try kcf_lens); (first | lia | omega))))); k_whole); intro D' h' F' N' l1; (try k_lt l1); (try k_sweep))) | (with_reducible refine HoldN.mk (n := 2) ?_; (k_dflt (refine' ListComp_G (by k_asm) ?c1 ?c2 ?c3 ?c4 ?c5 ?_ ?c6; (case c1 => with_unfolding_all rfl); (case c2 => decide); (case c3 => rfl); (case c4 => decide); (case c5 => rfl); (case c6 => intro _; rfl)))) | (k_unfold; (try dsimp only)) | (k_end; kc_close) | walk1 | (dsimp only; walk1) | (leave1; walk_say "STEP leave1"; (try dsimp only)) | fail "no step"))
  refine Hold.mk ?_
  rename News _ _ _ _ => N1
  rename Fr _ _ _ _ => F1
  with_unfolding_all refine' hrp_tells (Cx.push C F1 rfl ?hu) hsz ?_
  case hu => (first | exact Nat.add_le_add_left (by decide) _ | (dsimp only; (first | lia | omega)))
  intro h2 tk2 r us n st hr fresh iu
  have F2 := fr_stays F1 st
  have N2 := news_new F1 N1 st hr fresh
  have l2 := allNe_of N1 fresh
  simp only [AllNe, and_true] at l2
  have hul := iu.length
  rw [hrpX_length] at hul
  (try dsimp only)
  (repeat' (first | (with_reducible refine HoldN.mk (n := 4) ?_; ((with_unfolding_all refine' add_J ?F ?N ?a ?b ?z ?_; (case F => k_asm); (case N => k_asm); (case a => is_list); (case b => is_list); (case z => (((rw [PySem.sizeLine_eq]; (try simp only [List.length_append, List.length_cons, List.length_nil]); (try kcf_lens); (first | lia | omega))))); k_whole); intro D' h' F' N' l1; (try k_lt l1); (try k_sweep))) | (with_reducible refine HoldN.mk (n := 2) ?_; (k_dflt (refine' ListComp_G (by k_asm) ?c1 ?c2 ?c3 ?c4 ?c5 ?_ ?c6; (case c1 => with_unfolding_all rfl); (case c2 => decide); (case c3 => rfl); (case c4 => decide); (case c5 => rfl); (case c6 => intro _; rfl)))) | (k_unfold; (try dsimp only)) | (k_end; kc_close) | walk1 | (dsimp only; walk1) | (leave1; walk_say "STEP leave1"; (try dsimp only)) | fail "no step"))
  refine Hold.mk ?_
  rename News _ _ _ _ => N1
  rename Fr _ _ _ _ => F1
  with_unfolding_all refine' polymod_tells (Cx.push C F1 rfl ?hu) (by is_list) ((iu.append hi).append (by l_intsW)) ?_
  case hu => (first | exact Nat.add_le_add_left (by decide) _ | (dsimp only; (first | lia | omega)))
  intro h2 tk2 t st
  have F2 := fr_stays F1 st
  have N2 := news_stays N1 st
  (try dsimp only)
  (repeat' (first | (with_reducible refine HoldN.mk (n := 4) ?_; ((with_unfolding_all refine' add_J ?F ?N ?a ?b ?z ?_; (case F => k_asm); (case N => k_asm); (case a => is_list); (case b => is_list); (case z => (((rw [PySem.sizeLine_eq]; (try simp only [List.length_append, List.length_cons, List.length_nil]); (try kcf_lens); (first | lia | omega))))); k_whole); intro D' h' F' N' l1; (try k_lt l1); (try k_sweep))) | (with_reducible refine HoldN.mk (n := 2) ?_; (k_dflt (refine' ListComp_G (by k_asm) ?c1 ?c2 ?c3 ?c4 ?c5 ?_ ?c6; (case c1 => with_unfolding_all rfl); (case c2 => decide); (case c3 => rfl); (case c4 => decide); (case c5 => rfl); (case c6 => intro _; rfl)))) | (k_unfold; (try dsimp only)) | (k_end; kc_close) | walk1 | (dsimp only; walk1) | (leave1; walk_say "STEP leave1"; (try dsimp only)) | fail "no step"))
  rename News _ _ _ _ => N3
  rename Fr _ _ _ _ => F3
  rename IsRange _ _ _ _ _ _ _ _ => rg
  refine src_range (n := 6) rfl F3 N3 rg (by decide) (by decide) (by decide) fun g => rest_of (fun i y => ∃ t : Tok, y = Value.int (Builtin.bitAnd (Int.fdiv (Builtin.bitXor (polyI (hrpX tx ++ ns ++ [0, 0, 0, 0, 0, 0])) 1) (2 ^ (5 * (5 - i)))) 31) t) trivial ?_ ?_
  · rintro i v I oI C oC D m₂ ys h tk E' hi ⟨u, rfl⟩ hC hx F N
    (try k_fold)
    (repeat' (first | (with_reducible refine HoldN.mk (n := 4) ?_; ((with_unfolding_all refine' add_J ?F ?N ?a ?b ?z ?_; (case F => k_asm); (case N => k_asm); (case a => is_list); (case b => is_list); (case z => (((rw [PySem.sizeLine_eq]; (try simp only [List.length_append, List.length_cons, List.length_nil]); (try kcf_lens); (first | lia | omega))))); k_whole); intro D' h' F' N' l1; (try k_lt l1); (try k_sweep))) | (with_reducible refine HoldN.mk (n := 2) ?_; (k_dflt (refine' ListComp_G (by k_asm) ?c1 ?c2 ?c3 ?c4 ?c5 ?_ ?c6; (case c1 => with_unfolding_all rfl); (case c2 => decide); (case c3 => rfl); (case c4 => decide); (case c5 => rfl); (case c6 => intro _; rfl)))) | (k_unfold; (try dsimp only)) | (k_end; kc_close) | walk1 | (dsimp only; walk1) | (leave1; walk_say "STEP leave1"; (try dsimp only)) | fail "no step"))
    rename News _ _ _ _ => N4
    rename Fr _ _ _ _ => F4
    refine EEnd.intro F4 N4 (fun _ h => h) (int_ex ?_)
    rw [show (5 * (5 - (0 + (i : Int) * 1))).toNat = 5 * (5 - i) by (first | lia | omega)]
  · intro ys hl hy
    have iy := ints_of hl hy
    intro D h tk F N o1
    (try dsimp only)
    (repeat' (first | (with_reducible refine HoldN.mk (n := 4) ?_; ((with_unfolding_all refine' add_J ?F ?N ?a ?b ?z ?_; (case F => k_asm); (case N => k_asm); (case a => is_list); (case b => is_list); (case z => (((rw [PySem.sizeLine_eq]; (try simp only [List.length_append, List.length_cons, List.length_nil]); (try kcf_lens); (first | lia | omega))))); k_whole); intro D' h' F' N' l1; (try k_lt l1); (try k_sweep))) | (with_reducible refine HoldN.mk (n := 2) ?_; (k_dflt (refine' ListComp_G (by k_asm) ?c1 ?c2 ?c3 ?c4 ?c5 ?_ ?c6; (case c1 => with_unfolding_all rfl); (case c2 => decide); (case c3 => rfl); (case c4 => decide); (case c5 => rfl); (case c6 => intro _; rfl)))) | (k_unfold; (try dsimp only)) | (k_end; kc_close) | walk1 | (dsimp only; walk1) | (leave1; walk_say "STEP leave1"; (try dsimp only)) | fail "no step"))
    have n5 := N _ (.head _)
    exact ret _ _ _ _ _ F.keep n5.1 n5.2.2 iy
end
end Mine
end
section
open PySem PySem.W PySem.Calls PyProof.Rows
set_option maxHeartbeats 4000000
namespace Mine
def cs : Str := Str.ofString "qpzry9x8gf2tvdw0s3jn54khce6mua7l"
theorem cs_length : cs.length = 32 := by decide +kernel
def sg (n : Int) : Nat := cs.cps.getD n.toNat 0
def sgS (n : Int) : Str := ⟨#[sg n]⟩
/-- the text over a name and its groups -/
def encS (tx : Str) (ns : List Int) : Str := tx ++ Str.ofString "1" ++ ⟨((ns ++ chkI (hrpX tx ++ ns)).map sg).toArray⟩
theorem sub_str {prog : Program} {w : World} {A : Around} {E : Value → Shared → Prop} {s : Shared} {value slice : Expr} {x : Str} {t : Tok} {Q : Value → Shared → Prop} {i : Int} {u : Tok} (h0 : 0 ≤ i) (h1 : i < x.length) (hsz : x.length ≤ 1000000)
    (h : Q (.str ⟨#[x.cps.getD i.toNat 0]⟩ s.toks) { s with toks := s.toks + 1 })
    (hs : subscripted slice false (.str x t) (.int i u) = operate [.str x t, .int i u] (getItem (.str x t) (.int i u)) := by with_unfolding_all rfl)
    (ht : ∀ r, letTemporaryGo value (.str x t) r = pure () := by intro _; with_unfolding_all rfl) :
    wpAny (model prog w) A (subscriptTail value slice (.str x t) (.int i u)) Q E s := by
  refine PyProof.Rows.item_str (by unfold fitsSsize; rw [decide_eq_false (by (first | lia | omega)), decide_eq_false (by (first | lia | omega))]; rfl) (by (first | lia | omega)) h1 (fun _ => ?_) hs ht
  have e : Txt.item x i = ⟨#[x.cps.getD i.toNat 0]⟩ := by
    unfold Txt.item Txt.charAt seqIndex?
    rw [if_neg (show ¬ i < 0 by (first | lia | omega)), if_pos (by simp only [Bool.and_eq_true, decide_eq_true_eq]; (first | lia | omega))]
    have h2 : i.toNat < x.cps.size := by
      have : x.length = x.cps.size := rfl
      (first | lia | omega)
    rw [Option.bind_some, Array.getElem?_eq_getElem h2, Array.getD_eq_getD_getElem?, Array.getElem?_eq_getElem h2]
  rw [e]
  exact h
theorem strs_map {α : Type} {g : α → Str} : ∀ {l : List α} {ys : List Value}, ys.length = l.length → (∀ (i : Nat) (y : Value), ys[i]? = some y → ∃ a, l[i]? = some a ∧ ∃ t : Tok, y = Value.str (g a) t) → StrsAre ys (l.map g)
  | [], [], _, _ => .nil
  | a :: r, y :: q, hl, h => by
    obtain ⟨a', e, t, ey⟩ := h 0 y rfl
    cases e
    subst ey
    exact .cons _ _ (strs_map (by simpa using hl) fun i y hy => by simpa using h (i + 1) y (by simpa using hy))
theorem join_signs (l : List Int) : Txt.join (Str.ofString "") (l.map sgS) = ⟨(l.map sg).toArray⟩ := by
  unfold Txt.join
  rw [StrLaws.glued_eq_join]
  have e0 : Str.ofString "" = ⟨#[]⟩ := by decide +kernel
  rw [e0]
  induction l with
  | nil => rfl
  | cons a r ih =>
    cases r with
    | nil => rfl
    | cons b r =>
      show sgS a ++ ⟨#[]⟩ ++ Str.join ⟨#[]⟩ ((b :: r).map sgS) = _
      rw [ih]
      refine Str.ext' ?_
      simp only [Str.cps_append]
      simp [sgS]
theorem sg_total (l : List Int) : ((l.map sgS).map (·.length)).sum = l.length := by
  induction l with
  | nil => rfl
  | cons a r ih =>
    simp only [List.map_cons, List.sum_cons, List.length_cons, ih]
    show 1 + r.length = _
    (first | lia | omega)
theorem bitAnd_31 (a : Int) : 0 ≤ Builtin.bitAnd a 31 ∧ Builtin.bitAnd a 31 < 32 := by
  have h := kbt_mask a 5
  have e : ((2 : Int) ^ 5 - 1) = 31 := by decide
  rw [e] at h
  rw [h]
  have e2 : ((2 : Int) ^ 5) = 32 := by decide
  rw [e2]
  (first | lia | omega)
theorem chkI_small (ns : List Int) : ∀ n ∈ chkI ns, 0 ≤ n ∧ n < 32 := by
  intro n hn
  obtain ⟨i, _, rfl⟩ := List.mem_map.mp hn
  exact bitAnd_31 _
section
local macro_rules | `(tactic| walk_at "binaryOp Add ref ref") => `(tactic| refine HoldN.out (n := 4) ?_)
local macro_rules | `(tactic| walk_at "binaryOp Add str str") => `(tactic| refine HoldN.out (n := 6) ?_)
local macro_rules | `(tactic| walk_at "subscriptTail Name Name str int") => `(tactic| refine Hold.out ?_)
local macro_rules | `(tactic| walk_at "call ref") => `(tactic| refine Hold.out ?_)
local macro_rules | `(tactic| walk_at "eval ListComp") => `(tactic| refine HoldN.out (n := 2) ?_)
theorem enc_tells {w : World} {dp un : Nat} {gd : Option (List Code)} {fr : List Env} {s : Shared} {Q E : Value → Shared → Prop} {tx : Str} {t : Tok} {l : Addr} {vs : List Value} {ns : List Int}
    (C : Cx w dp un gd fr s.heap 7) (hsz : tx.cps.size ≤ 1000) (hl : s.heap.IsList l vs.toArray) (hi : IntsAre vs ns) (hlen : ns.length ≤ 1000) (hb : ∀ n ∈ ns, 0 ≤ n ∧ n < 32)
    (ret : ∀ h' tk' t', s.heap.StaysIn h' → Q (.str (encS tx ns) t') { s with heap := h', toks := tk' }) :
    wpAny (model PySem.Challenge.rw_jy0014_01.row.prog w) (mA dp un gd fr) (call (.ref 43) [.str tx t, .ref l]) Q E s := by
  refine' enter [(Str.ofString "data", .ref l), (Str.ofString "hrp", .str tx t)] C ?ho ?hcd ?bind ?loc ?c2 ?c3 ?c4 ?c5 ?_
  (((case ho => k_is); (case hcd => k_is); (case bind => exact BindsTo.of_eq rfl); (case loc => exact locs rfl); (case c2 => exact rfl); (case c3 => exact rfl); (case c4 => exact rfl); (case c5 => decide)))
  intro L' h₁ tk₁ base loose mean mg mb B X T F' N'
  (try dsimp only)
  (try k_fold)
  (repeat' (first | (with_reducible refine HoldN.mk (n := 4) ?_; ((with_unfolding_all refine' add_J ?F ?N ?a ?b ?z ?_; (case F => k_asm); (case N => k_asm); (case a => is_list); (case b => is_list); (case z => (((rw [PySem.sizeLine_eq]; (try simp only [List.length_append, List.length_cons, List.length_nil]); (try kcf_lens); (first | lia | omega))))); k_whole); intro D' h' F' N' l1; (try k_lt l1); (try k_sweep))) | (with_reducible refine HoldN.mk (n := 6) ?_; ((try dsimp only); (refine' PyProof.Rows.add_str ?_ ?z; (case z => (((rw [PySem.sizeLine_eq]; (try simp only [Str.length_append]); (try simp only [PySem.Str.length]); (try simp only [PySem.Str.cps_append, Array.size_append, List.size_toArray, List.length_map, List.length_append, chkI_length]); first | (first | lia | omega) | (simp only [show (Str.ofString "1").cps.size = 1 by decide +kernel]; (first | lia | omega)))))); k_whole); intro t' tk')) | (with_reducible refine HoldN.mk (n := 2) ?_; (k_dflt (refine' ListComp_G (by k_asm) ?c1 ?c2 ?c3 ?c4 ?c5 ?_ ?c6; (case c1 => with_unfolding_all rfl); (case c2 => decide); (case c3 => rfl); (case c4 => decide); (case c5 => rfl); (case c6 => intro _; rfl)))) | (k_unfold; (try dsimp only)) | (k_end; kc_close) | walk1 | (dsimp only; walk1) | (leave1; walk_say "STEP leave1"; (try dsimp only)) | fail "no step"))
  refine Hold.mk ?_
  rename News _ _ _ _ => N1
  rename Fr _ _ _ _ => F1
  with_unfolding_all refine' chk_tells (Cx.push C F1 rfl ?hu) hsz (by is_list) hi hlen ?_
  case hu => (first | exact Nat.add_le_add_left (by decide) _ | (dsimp only; (first | lia | omega)))
  intro h2 tk2 r us n st hr fresh iu
  have F2 := fr_stays F1 st
  have N2 := news_new F1 N1 st hr fresh
  have l2 := allNe_of N1 fresh
  simp only [AllNe, and_true] at l2
  have hul := iu.length
  rw [chkI_length] at hul
  (try dsimp only)
  (repeat' (first | (with_reducible refine HoldN.mk (n := 4) ?_; ((with_unfolding_all refine' add_J ?F ?N ?a ?b ?z ?_; (case F => k_asm); (case N => k_asm); (case a => is_list); (case b => is_list); (case z => (((rw [PySem.sizeLine_eq]; (try simp only [List.length_append, List.length_cons, List.length_nil]); (try kcf_lens); (first | lia | omega))))); k_whole); intro D' h' F' N' l1; (try k_lt l1); (try k_sweep))) | (with_reducible refine HoldN.mk (n := 6) ?_; ((try dsimp only); (refine' PyProof.Rows.add_str ?_ ?z; (case z => (((rw [PySem.sizeLine_eq]; (try simp only [Str.length_append]); (try simp only [PySem.Str.length]); (try simp only [PySem.Str.cps_append, Array.size_append, List.size_toArray, List.length_map, List.length_append, chkI_length]); first | (first | lia | omega) | (simp only [show (Str.ofString "1").cps.size = 1 by decide +kernel]; (first | lia | omega)))))); k_whole); intro t' tk')) | (with_reducible refine HoldN.mk (n := 2) ?_; (k_dflt (refine' ListComp_G (by k_asm) ?c1 ?c2 ?c3 ?c4 ?c5 ?_ ?c6; (case c1 => with_unfolding_all rfl); (case c2 => decide); (case c3 => rfl); (case c4 => decide); (case c5 => rfl); (case c6 => intro _; rfl)))) | (k_unfold; (try dsimp only)) | (k_end; kc_close) | walk1 | (dsimp only; walk1) | (leave1; walk_say "STEP leave1"; (try dsimp only)) | fail "no step"))
  rename News _ _ _ _ => N1
  rename Fr _ _ _ _ => F1
  have ic := hi.append iu
  refine comp_led (fun i y => ∃ a, (ns ++ chkI (hrpX tx ++ ns))[i]? = some a ∧ ∃ t : Tok, y = Value.str (sgS a) t) rfl F1 N1 (by k_memK) ic (by (((rw [PySem.sizeLine_eq]; (try simp only [List.length_append, List.length_cons, List.length_nil]); (try kcf_lens); (first | lia | omega))))) ?_ ?_
  · intro i n u hi' hn I oI C oC D m₂ ys h tk E' hC hx F N
    have hn2 : 0 ≤ n ∧ n < 32 := by
      rcases List.mem_append.mp (List.mem_of_getElem? hn) with q | q
      · exact hb n q
      · exact chkI_small _ n q
    (try k_fold)
    (repeat' (first | (with_reducible refine HoldN.mk (n := 4) ?_; ((with_unfolding_all refine' add_J ?F ?N ?a ?b ?z ?_; (case F => k_asm); (case N => k_asm); (case a => is_list); (case b => is_list); (case z => (((rw [PySem.sizeLine_eq]; (try simp only [List.length_append, List.length_cons, List.length_nil]); (try kcf_lens); (first | lia | omega))))); k_whole); intro D' h' F' N' l1; (try k_lt l1); (try k_sweep))) | (with_reducible refine HoldN.mk (n := 6) ?_; ((try dsimp only); (refine' PyProof.Rows.add_str ?_ ?z; (case z => (((rw [PySem.sizeLine_eq]; (try simp only [Str.length_append]); (try simp only [PySem.Str.length]); (try simp only [PySem.Str.cps_append, Array.size_append, List.size_toArray, List.length_map, List.length_append, chkI_length]); first | (first | lia | omega) | (simp only [show (Str.ofString "1").cps.size = 1 by decide +kernel]; (first | lia | omega)))))); k_whole); intro t' tk')) | (with_reducible refine HoldN.mk (n := 2) ?_; (k_dflt (refine' ListComp_G (by k_asm) ?c1 ?c2 ?c3 ?c4 ?c5 ?_ ?c6; (case c1 => with_unfolding_all rfl); (case c2 => decide); (case c3 => rfl); (case c4 => decide); (case c5 => rfl); (case c6 => intro _; rfl)))) | (k_unfold; (try dsimp only)) | (k_end; kc_close) | walk1 | (dsimp only; walk1) | (leave1; walk_say "STEP leave1"; (try dsimp only)) | fail "no step"))
    refine Hold.mk ?_
    refine' sub_str hn2.1 ?b ?c ?_ ?d ?e
    case b => show n < ((cs.length : Nat) : Int); rw [cs_length]; exact hn2.2
    case c => show cs.length ≤ _; rw [cs_length]; decide
    case d => with_unfolding_all rfl
    case e => intro _; with_unfolding_all rfl
    (repeat' (first | (with_reducible refine HoldN.mk (n := 4) ?_; ((with_unfolding_all refine' add_J ?F ?N ?a ?b ?z ?_; (case F => k_asm); (case N => k_asm); (case a => is_list); (case b => is_list); (case z => (((rw [PySem.sizeLine_eq]; (try simp only [List.length_append, List.length_cons, List.length_nil]); (try kcf_lens); (first | lia | omega))))); k_whole); intro D' h' F' N' l1; (try k_lt l1); (try k_sweep))) | (with_reducible refine HoldN.mk (n := 6) ?_; ((try dsimp only); (refine' PyProof.Rows.add_str ?_ ?z; (case z => (((rw [PySem.sizeLine_eq]; (try simp only [Str.length_append]); (try simp only [PySem.Str.length]); (try simp only [PySem.Str.cps_append, Array.size_append, List.size_toArray, List.length_map, List.length_append, chkI_length]); first | (first | lia | omega) | (simp only [show (Str.ofString "1").cps.size = 1 by decide +kernel]; (first | lia | omega)))))); k_whole); intro t' tk')) | (with_reducible refine HoldN.mk (n := 2) ?_; (k_dflt (refine' ListComp_G (by k_asm) ?c1 ?c2 ?c3 ?c4 ?c5 ?_ ?c6; (case c1 => with_unfolding_all rfl); (case c2 => decide); (case c3 => rfl); (case c4 => decide); (case c5 => rfl); (case c6 => intro _; rfl)))) | (k_unfold; (try dsimp only)) | (k_end; kc_close) | walk1 | (dsimp only; walk1) | (leave1; walk_say "STEP leave1"; (try dsimp only)) | fail "no step"))
    rename News _ _ _ _ => N2
    rename Fr _ _ _ _ => F2
    exact EEnd.intro F2 N2 (fun _ h => h) ⟨n, hn, _, rfl⟩
  · intro g ys hl hy
    have iy := strs_map hl hy
    intro D h tk F N o1
    (try dsimp only)
    (repeat' (first | (with_reducible refine HoldN.mk (n := 4) ?_; ((with_unfolding_all refine' add_J ?F ?N ?a ?b ?z ?_; (case F => k_asm); (case N => k_asm); (case a => is_list); (case b => is_list); (case z => (((rw [PySem.sizeLine_eq]; (try simp only [List.length_append, List.length_cons, List.length_nil]); (try kcf_lens); (first | lia | omega))))); k_whole); intro D' h' F' N' l1; (try k_lt l1); (try k_sweep))) | (with_reducible refine HoldN.mk (n := 6) ?_; ((try dsimp only); (refine' PyProof.Rows.add_str ?_ ?z; (case z => (((rw [PySem.sizeLine_eq]; (try simp only [Str.length_append]); (try simp only [PySem.Str.length]); (try simp only [PySem.Str.cps_append, Array.size_append, List.size_toArray, List.length_map, List.length_append, chkI_length]); first | (first | lia | omega) | (simp only [show (Str.ofString "1").cps.size = 1 by decide +kernel]; (first | lia | omega)))))); k_whole); intro t' tk')) | (with_reducible refine HoldN.mk (n := 2) ?_; (k_dflt (refine' ListComp_G (by k_asm) ?c1 ?c2 ?c3 ?c4 ?c5 ?_ ?c6; (case c1 => with_unfolding_all rfl); (case c2 => decide); (case c3 => rfl); (case c4 => decide); (case c5 => rfl); (case c6 => intro _; rfl)))) | (k_unfold; (try dsimp only)) | (k_end; kc_close) | walk1 | (dsimp only; walk1) | (leave1; walk_say "STEP leave1"; (try dsimp only)) | fail "no step"))
    refine join_listC (by is_list) iy (by decide) ?_ ?_
    · rw [sg_total, List.length_map, List.length_append, chkI_length]
      (first | lia | omega)
    intro t' k
    rw [join_signs]
    (try dsimp only)
    (repeat' (first | (with_reducible refine HoldN.mk (n := 4) ?_; ((with_unfolding_all refine' add_J ?F ?N ?a ?b ?z ?_; (case F => k_asm); (case N => k_asm); (case a => is_list); (case b => is_list); (case z => (((rw [PySem.sizeLine_eq]; (try simp only [List.length_append, List.length_cons, List.length_nil]); (try kcf_lens); (first | lia | omega))))); k_whole); intro D' h' F' N' l1; (try k_lt l1); (try k_sweep))) | (with_reducible refine HoldN.mk (n := 6) ?_; ((try dsimp only); (refine' PyProof.Rows.add_str ?_ ?z; (case z => (((rw [PySem.sizeLine_eq]; (try simp only [Str.length_append]); (try simp only [PySem.Str.length]); (try simp only [PySem.Str.cps_append, Array.size_append, List.size_toArray, List.length_map, List.length_append, chkI_length]); first | (first | lia | omega) | (simp only [show (Str.ofString "1").cps.size = 1 by decide +kernel]; (first | lia | omega)))))); k_whole); intro t' tk')) | (with_reducible refine HoldN.mk (n := 2) ?_; (k_dflt (refine' ListComp_G (by k_asm) ?c1 ?c2 ?c3 ?c4 ?c5 ?_ ?c6; (case c1 => with_unfolding_all rfl); (case c2 => decide); (case c3 => rfl); (case c4 => decide); (case c5 => rfl); (case c6 => intro _; rfl)))) | (k_unfold; (try dsimp only)) | (k_end; kc_close) | walk1 | (dsimp only; walk1) | (leave1; walk_say "STEP leave1"; (try dsimp only)) | fail "no step"))
    exact ret _ _ _ F.keep
end
end Mine
end
section
open PySem PySem.W PySem.Calls PyProof.Rows
set_option maxHeartbeats 4000000
namespace Mine
/-- one value into the stream: accumulator, bits at hand, what was put out -/
def cvStep (f t : Nat) (st : Int × Nat × List Int) (v : Int) : Int × Nat × List Int :=
  let acc := Builtin.bitAnd (Builtin.bitOr (st.1 * 2 ^ f) v) (2 ^ (f + t - 1) - 1)
  let b := st.2.1 + f
  (acc, b % t, st.2.2 ++ (List.range (b / t)).map fun j => Builtin.bitAnd (Int.fdiv acc (2 ^ (b - t * (j + 1)))) (2 ^ t - 1))
def cv (f t : Nat) (ns : List Int) : Int × Nat × List Int := ns.foldl (cvStep f t) (0, 0, [])
structure CvS where
  acc : Int
  ta : Tok
  bits : Nat
  tb : Tok
theorem mask_bound (a : Int) (k : Nat) : 0 ≤ Builtin.bitAnd a (2 ^ k - 1) ∧ Builtin.bitAnd a (2 ^ k - 1) < 2 ^ k := by
  rw [kbt_mask]
  have := kbt_pos k
  exact ⟨Int.emod_nonneg _ (by (first | lia | omega)), Int.emod_lt_of_pos _ this⟩
theorem cv_snoc (f t : Nat) (pre : List Int) (n : Int) : cv f t (pre ++ [n]) = cvStep f t (cv f t pre) n := by
  unfold cv
  rw [List.foldl_append]
  rfl
theorem cv_ind (f t : Nat) (I : Int × Nat × List Int → Prop) (h0 : I (0, 0, [])) (hs : ∀ st v, I (cvStep f t st v)) (pre : List Int) : I (cv f t pre) := by
  rcases List.eq_nil_or_concat pre with h | ⟨q, n, h⟩
  · rw [h]; exact h0
  · rw [h, List.concat_eq_append, cv_snoc]; exact hs _ _
theorem cv_acc (f t : Nat) (pre : List Int) : 0 ≤ (cv f t pre).1 ∧ (cv f t pre).1 < 2 ^ (f + t - 1) :=
  cv_ind f t (fun st => 0 ≤ st.1 ∧ st.1 < 2 ^ (f + t - 1)) ⟨Int.le_refl _, kbt_pos _⟩ (fun _ _ => mask_bound _ _) pre
theorem cv_bits (f t : Nat) (ht : 0 < t) (pre : List Int) : (cv f t pre).2.1 < t :=
  cv_ind f t (fun st => st.2.1 < t) ht (fun _ _ => Nat.mod_lt _ ht) pre
theorem cv_count (f t : Nat) (pre : List Int) : t * (cv f t pre).2.2.length + (cv f t pre).2.1 = f * pre.length := by
  have key : ∀ n : Nat, ∀ pre : List Int, pre.length = n → t * (cv f t pre).2.2.length + (cv f t pre).2.1 = f * pre.length := by
    intro n
    induction n with
    | zero =>
      intro pre h
      rw [List.length_eq_zero_iff.mp h]
      rfl
    | succ n ih =>
      intro pre h
      rcases List.eq_nil_or_concat pre with e | ⟨q, v, e⟩
      · rw [e] at h; cases h
      · rw [e, List.concat_eq_append] at h ⊢
        rw [List.length_append, List.length_singleton] at h
        have hq := ih q (by (first | lia | omega))
        rw [cv_snoc, List.length_append, List.length_singleton, Nat.mul_add, ← hq]
        simp only [cvStep, List.length_append, List.length_map, List.length_range]
        have := Nat.div_add_mod ((cv f t q).2.1 + f) t
        rw [Nat.mul_add, Nat.mul_one]
        (first | lia | omega)
  exact key _ _ rfl
theorem fdiv_small {n : Int} {k : Nat} (h0 : 0 ≤ n) (h1 : n < 2 ^ k) : n.fdiv (2 ^ k) = 0 := by
  rw [Int.fdiv_eq_ediv_of_nonneg _ (Int.le_of_lt (kbt_pos k))]
  exact Int.ediv_eq_zero_of_lt h0 h1
theorem pow_lit1 : ((1 : Int) * 2 ^ (5 + 8 - 1 : Int).toNat - 1) = 2 ^ (5 + 8 - 1) - 1 := by decide
theorem pow_lit2 : ((1 : Int) * 2 ^ (8 : Int).toNat - 1) = 2 ^ 8 - 1 := by decide
theorem cv58_acc {pre : List Int} {n acc : Int} (h1 : acc = (cv 5 8 pre).1) : Builtin.bitAnd (Builtin.bitOr (acc * 2 ^ (5 : Int).toNat) n) (1 * 2 ^ (5 + 8 - 1 : Int).toNat - 1) = (cv 5 8 (pre ++ [n])).1 := by
  rw [cv_snoc, pow_lit1, h1]
  rfl
theorem cv58_none {pre : List Int} {n : Int} {bits : Nat} (h2 : bits = (cv 5 8 pre).2.1) (hb : bits + 5 < 8) : bits + 5 = (cv 5 8 (pre ++ [n])).2.1 ∧ (cv 5 8 (pre ++ [n])).2.2 = (cv 5 8 pre).2.2 := by
  rw [cv_snoc]
  simp only [cvStep, ← h2]
  rw [Nat.mod_eq_of_lt hb, Nat.div_eq_of_lt hb]
  simp
theorem cv58_one {pre : List Int} {n acc : Int} {bits : Nat} (h1 : acc = (cv 5 8 pre).1) (h2 : bits = (cv 5 8 pre).2.1) (hb : 8 ≤ bits + 5) (hb2 : bits < 8) : bits + 5 - 8 = (cv 5 8 (pre ++ [n])).2.1 ∧
    (cv 5 8 (pre ++ [n])).2.2 = (cv 5 8 pre).2.2 ++ [Builtin.bitAnd (Int.fdiv (Builtin.bitAnd (Builtin.bitOr (acc * 2 ^ (5 : Int).toNat) n) (1 * 2 ^ (5 + 8 - 1 : Int).toNat - 1)) (2 ^ ((bits : Int) + 5 - 8).toNat)) (1 * 2 ^ (8 : Int).toNat - 1)] := by
  rw [cv_snoc, pow_lit1, pow_lit2]
  simp only [cvStep, ← h2, ← h1]
  have e1 : (bits + 5) / 8 = 1 := by (first | lia | omega)
  have e2 : (bits + 5) % 8 = bits + 5 - 8 := by (first | lia | omega)
  have e3 : ((bits : Int) + 5 - 8).toNat = bits + 5 - 8 * (0 + 1) := by (first | lia | omega)
  rw [e1, e2, e3]
  exact ⟨rfl, rfl⟩
theorem cv58_rest {acc : Int} {bits : Nat} (hb : ¬ 5 ≤ (bits : Int)) : Builtin.bitAnd (acc * 2 ^ (8 - (bits : Int)).toNat) (1 * 2 ^ (8 : Int).toNat - 1) = Builtin.bitAnd (acc * 2 ^ (8 - bits)) 255 := by
  rw [show (8 - (bits : Int)).toNat = 8 - bits by (first | lia | omega), pow_lit2]
  rfl
theorem whlIf_split {b : Bool} {T F : Prop} (t : b = true → T) (f : b = false → F) : WhlIf b T F := by
  cases b with
  | true => exact WhlIf.yes rfl (t rfl)
  | false => exact WhlIf.no rfl (f rfl)
section
local macro_rules | `(tactic| walk_at "exec For Name Name cons nil") => `(tactic| refine HoldN.out (n := 7) ?_)
local macro_rules | `(tactic| walk_at "binaryOp LShift int int") => `(tactic| (with_unfolding_all refine' lshift_int_small ?a ?b ?c ?_; (case a => first | decide | (first | lia | omega)); (case b => first | decide | (first | lia | omega)); (case c => (first | lia | omega)); k_whole))
local macro_rules | `(tactic| walk_at "call builtin:list.append") => `(tactic| refine HoldN.out (n := 5) ?_)
local macro_rules | `(tactic| walk_at "pyIter ref") => `(tactic| (refine Hold.out ?_))
local macro_rules | `(tactic| walk_at "exec While Compare") => `(tactic| (k_here; k_dflt (refine whl_start 3 ?_)))
local macro_rules | `(tactic| walk_at "exec While Compare cons nil") => `(tactic| (k_here; k_dflt (refine whl_start 3 ?_)))
local macro_rules | `(tactic| walk_at "WhlIf") => `(tactic| (refine whlIf_split ?_ ?_ <;> (intro hw'; (try simp only [decide_eq_true_eq, decide_eq_false_iff_not] at hw'); (try (exfalso; (first | lia | omega))))))
theorem cv58_tells {w : World} {dp un : Nat} {gd : Option (List Code)} {fr : List Env} {s : Shared} {Q E : Value → Shared → Prop} {l : Addr} {vs : List Value} {ns : List Int} {t1 t2 : Tok}
    (C : Cx w dp un gd fr s.heap 3) (hl : s.heap.IsList l vs.toArray) (hi : IntsAre vs ns) (hlen : ns.length ≤ 1000) (hb : ∀ n ∈ ns, 0 ≤ n ∧ n < 32)
    (ret0 : ((cv 5 8 ns).2.1 ≥ 5 ∨ Builtin.bitAnd ((cv 5 8 ns).1 * 2 ^ (8 - (cv 5 8 ns).2.1)) 255 ≠ 0) → ∀ h' tk', s.heap.StaysIn h' → Q .none { s with heap := h', toks := tk' })
    (ret : ¬ ((cv 5 8 ns).2.1 ≥ 5 ∨ Builtin.bitAnd ((cv 5 8 ns).1 * 2 ^ (8 - (cv 5 8 ns).2.1)) 255 ≠ 0) → ∀ h' tk' r vs n, s.heap.StaysIn h' → h'.get? r = some (listOf vs.toArray n) → s.heap.get? r = none → IntsAre vs (cv 5 8 ns).2.2 → Q (.ref r) { s with heap := h', toks := tk' }) :
    wpAny (model PySem.Challenge.rw_jy0014_01.row.prog w) (mA dp un gd fr) (call (.ref 56) [.ref l, .int 5 t1, .int 8 t2, .bool false]) Q E s := by
  have XX := C.kin
  refine' enter [(Str.ofString "pad", .bool false), (Str.ofString "tobits", .int 8 t2), (Str.ofString "frombits", .int 5 t1), (Str.ofString "data", .ref l)] C ?ho ?hcd ?bind ?loc ?c2 ?c3 ?c4 ?c5 ?_
  (((case ho => k_is); (case hcd => k_is); (case bind => exact binds_K (by assumption) rfl (by k_is) rfl rfl rfl); (case loc => exact locs rfl); (case c2 => exact rfl); (case c3 => exact rfl); (case c4 => exact rfl); (case c5 => decide)))
  intro L' h₁ tk₁ base loose mean mg mb B X T F' N'
  (try dsimp only)
  (try k_fold)
  (repeat' (first | (with_reducible refine HoldN.mk (n := 7) ?_; ((rename Fr _ _ _ _ => lF'); (with_unfolding_all refine' For_invVF lF' ?k1 ?k2 ?_; (case k1 => exact rfl); (case k2 => exact rfl); k_whole))) | (with_reducible refine HoldN.mk (n := 5) ?_; (k_dflt (refine' append_K ?k1 ?k2 ?k3 ?_ ?z; (case k1 => k_asm); (case k2 => k_asm); (case k3 => k_upd); (case z => ((rw [PySem.sizeLine_eq]); (try simp only [List.size_toArray]); (first | lia | omega))); k_whole); intro h' F' N'; (try k_sweep))) | (k_unfold; (try dsimp only)) | (k_end; kc_close) | walk1 | (dsimp only; walk1) | (leave1; walk_say "STEP leave1"; (try dsimp only)) | fail "no step"))
  rename News _ _ _ _ => N1
  rename Fr _ _ _ _ => F1
  refine Hold.mk ?_
  with_unfolding_all refine' loop_list1 (σ := CvS) (fun c => [(Str.ofString "acc", .int c.acc c.ta), (Str.ofString "bits", .int (c.bits : Int) c.tb)]) [Str.ofString "value", Str.ofString "acc", Str.ofString "bits"] (fun pre c us => c.acc = (cv 5 8 pre).1 ∧ c.bits = (cv 5 8 pre).2.1 ∧ IntsAre us (cv 5 8 pre).2.2) rfl hl hi rfl F1 (us₀ := []) N1 ?start ?turn ?done
  case start => with_unfolding_all exact ⟨⟨0, _, 0, _⟩, List.forall_mem_cons.mpr ⟨rfl, List.forall_mem_cons.mpr ⟨rfl, List.forall_mem_nil _⟩⟩, rfl, rfl, .nil⟩
  case turn =>
    rintro ⟨acc, ta, bits, tb⟩ us k pre post n t u h tk own e mem off hc F2 N2
    have hc1 := hc.1
    have hc2 := hc.2.1
    have hc3 := hc.2.2
    clear hc
    dsimp only at F2 N2 hc1 hc2
    have hA := cv_acc 5 8 pre
    have hB := cv_bits 5 8 (by decide) pre
    rw [← hc1] at hA
    rw [← hc2] at hB
    have hL := hc3.length
    have hK := cv_count 5 8 pre
    rw [← hL] at hK
    have hP : pre.length ≤ 1000 := by rw [e, List.length_append] at hlen; (first | lia | omega)
    have hn := hb n mem
    have hz : n.fdiv (2 ^ Int.toNat 5) = 0 := fdiv_small hn.1 hn.2
    (try k_fold)
    (repeat' (first | (with_reducible refine HoldN.mk (n := 7) ?_; ((rename Fr _ _ _ _ => lF'); (with_unfolding_all refine' For_invVF lF' ?k1 ?k2 ?_; (case k1 => exact rfl); (case k2 => exact rfl); k_whole))) | (with_reducible refine HoldN.mk (n := 5) ?_; (k_dflt (refine' append_K ?k1 ?k2 ?k3 ?_ ?z; (case k1 => k_asm); (case k2 => k_asm); (case k3 => k_upd); (case z => ((rw [PySem.sizeLine_eq]); (try simp only [List.size_toArray]); (first | lia | omega))); k_whole); intro h' F' N'; (try k_sweep))) | (k_unfold; (try dsimp only)) | (k_end; kc_close) | walk1 | (dsimp only; walk1) | (leave1; walk_say "STEP leave1"; (try dsimp only)) | fail "no step"))
    · rename _ ≠ (0 : Int) => hne
      exact absurd hz hne
    · rename Fr _ _ _ _ => F5
      rename News _ _ _ _ => N5
      rename 8 ≤ (bits : Int) + 5 => hw
      simp only [List.push_toArray] at N5
      have hone := cv58_one (n := n) hc1 hc2 (by (first | lia | omega)) hB
      refine LPost.next F5 N5 ⟨(⟨_, _, bits + 5 - 8, _⟩, _, _), List.forall_mem_cons.mpr ⟨rfl, List.forall_mem_cons.mpr ⟨congrArg (fun i => some (Value.int i _)) (show ((bits : Int) + 5 - 8) = ((bits + 5 - 8 : Nat) : Int) by (first | lia | omega)), List.forall_mem_nil _⟩⟩, fun _ h => h, ?_, hone.1, ?_⟩ (by ((intro z hz; repeat' (first | exact rfl | (refine (if_neg (off_ne hz (by rfl))).trans ?_) | (refine (lmap_off hz (by rfl) (by rfl)).trans ?_)))))
      · exact cv58_acc hc1
      · rw [hone.2]
        exact hc3.append (.cons _ _ .nil)
    · rename Fr _ _ _ _ => F5
      rename News _ _ _ _ => N5
      rename ¬ 8 ≤ (bits : Int) + 5 => hw
      have hnone := cv58_none (n := n) hc2 (by (first | lia | omega))
      refine LPost.next F5 N5 ⟨(⟨_, _, bits + 5, _⟩, _, _), List.forall_mem_cons.mpr ⟨rfl, List.forall_mem_cons.mpr ⟨congrArg (fun i => some (Value.int i _)) (show ((bits : Int) + 5) = ((bits + 5 : Nat) : Int) by (first | lia | omega)), List.forall_mem_nil _⟩⟩, fun _ h => h, ?_, hnone.1, ?_⟩ (by ((intro z hz; repeat' (first | exact rfl | (refine (if_neg (off_ne hz (by rfl))).trans ?_) | (refine (lmap_off hz (by rfl) (by rfl)).trans ?_)))))
      · exact cv58_acc hc1
      · rw [hnone.2]
        exact hc3
  case done =>
    rintro ⟨acc, ta, bits, tb⟩ us k u h tk hc F2 N2
    have hc1 := hc.1
    have hc2 := hc.2.1
    have hc3 := hc.2.2
    clear hc
    dsimp only at F2 N2 hc1 hc2
    have hA := cv_acc 5 8 ns
    have hB := cv_bits 5 8 (by decide) ns
    rw [← hc1] at hA
    rw [← hc2] at hB
    rw [← hc1, ← hc2] at ret0 ret
    (repeat' (first | (with_reducible refine HoldN.mk (n := 7) ?_; ((rename Fr _ _ _ _ => lF'); (with_unfolding_all refine' For_invVF lF' ?k1 ?k2 ?_; (case k1 => exact rfl); (case k2 => exact rfl); k_whole))) | (with_reducible refine HoldN.mk (n := 5) ?_; (k_dflt (refine' append_K ?k1 ?k2 ?k3 ?_ ?z; (case k1 => k_asm); (case k2 => k_asm); (case k3 => k_upd); (case z => ((rw [PySem.sizeLine_eq]); (try simp only [List.size_toArray]); (first | lia | omega))); k_whole); intro h' F' N'; (try k_sweep))) | (k_unfold; (try dsimp only)) | (k_end; kc_close) | walk1 | (dsimp only; walk1) | (leave1; walk_say "STEP leave1"; (try dsimp only)) | fail "no step"))
    · rename 5 ≤ (bits : Int) => h5
      dsimp only
      k_unfold
      dsimp only
      exact ret0 (.inl (by (first | lia | omega))) _ _ F2.keep
    · rename _ ≠ (0 : Int) => hne
      rename ¬ 5 ≤ (bits : Int) => h5
      rw [cv58_rest h5] at hne
      dsimp only
      k_unfold
      dsimp only
      exact ret0 (.inr hne) _ _ F2.keep
    · rename _ = (0 : Int) => hne
      rename ¬ 5 ≤ (bits : Int) => h5
      rw [cv58_rest h5] at hne
      dsimp only
      k_unfold
      dsimp only
      have n5 := N2 _ (.head _)
      exact ret (fun h => h.elim (fun h => by (first | lia | omega)) (fun h => h hne)) _ _ _ _ _ F2.keep n5.1 n5.2.2 hc3
end
end Mine
end
section
open PySem PySem.W PySem.Calls PyProof.Rows
set_option maxHeartbeats 4000000
namespace Mine
theorem pow_lit3 : ((1 : Int) * 2 ^ (8 + 5 - 1 : Int).toNat - 1) = 2 ^ (8 + 5 - 1) - 1 := by decide
theorem pow_lit4 : ((1 : Int) * 2 ^ (5 : Int).toNat - 1) = 2 ^ 5 - 1 := by decide
theorem cv85_acc {pre : List Int} {n acc : Int} (h1 : acc = (cv 8 5 pre).1) : Builtin.bitAnd (Builtin.bitOr (acc * 2 ^ (8 : Int).toNat) n) (1 * 2 ^ (8 + 5 - 1 : Int).toNat - 1) = (cv 8 5 (pre ++ [n])).1 := by
  rw [cv_snoc, pow_lit3, h1]
  rfl
/-- what one turn puts out at a place -/
abbrev cv85out (acc n : Int) (k : Int) : Int := Builtin.bitAnd (Int.fdiv (Builtin.bitAnd (Builtin.bitOr (acc * 2 ^ (8 : Int).toNat) n) (1 * 2 ^ (8 + 5 - 1 : Int).toNat - 1)) (2 ^ k.toNat)) (1 * 2 ^ (5 : Int).toNat - 1)
theorem cv85_one {pre : List Int} {n acc : Int} {bits : Nat} (h1 : acc = (cv 8 5 pre).1) (h2 : bits = (cv 8 5 pre).2.1) (hb : bits < 2) : bits + 8 - 5 = (cv 8 5 (pre ++ [n])).2.1 ∧
    (cv 8 5 (pre ++ [n])).2.2 = (cv 8 5 pre).2.2 ++ [cv85out acc n ((bits : Int) + 8 - 5)] := by
  unfold cv85out
  rw [cv_snoc, pow_lit3, pow_lit4]
  simp only [cvStep, ← h2, ← h1]
  have e1 : (bits + 8) / 5 = 1 := by (first | lia | omega)
  have e2 : (bits + 8) % 5 = bits + 8 - 5 := by (first | lia | omega)
  have e3 : ((bits : Int) + 8 - 5).toNat = bits + 8 - 5 * (0 + 1) := by (first | lia | omega)
  rw [e1, e2, e3]
  exact ⟨rfl, rfl⟩
theorem cv85_two {pre : List Int} {n acc : Int} {bits : Nat} (h1 : acc = (cv 8 5 pre).1) (h2 : bits = (cv 8 5 pre).2.1) (hb : 2 ≤ bits) (hb2 : bits < 5) : bits + 8 - 5 - 5 = (cv 8 5 (pre ++ [n])).2.1 ∧
    (cv 8 5 (pre ++ [n])).2.2 = (cv 8 5 pre).2.2 ++ [cv85out acc n ((bits : Int) + 8 - 5)] ++ [cv85out acc n ((bits : Int) + 8 - 5 - 5)] := by
  unfold cv85out
  rw [cv_snoc, pow_lit3, pow_lit4]
  simp only [cvStep, ← h2, ← h1]
  have e1 : (bits + 8) / 5 = 2 := by (first | lia | omega)
  have e2 : (bits + 8) % 5 = bits + 8 - 5 - 5 := by (first | lia | omega)
  have e3 : ((bits : Int) + 8 - 5).toNat = bits + 8 - 5 * (0 + 1) := by (first | lia | omega)
  have e4 : ((bits : Int) + 8 - 5 - 5).toNat = bits + 8 - 5 * (1 + 1) := by (first | lia | omega)
  rw [e1, e2, e3, e4, List.append_assoc]
  exact ⟨rfl, rfl⟩
/-- the groups that convertbits makes of octets -/
def cv85 (ns : List Int) : List Int := (cv 8 5 ns).2.2 ++ (if (cv 8 5 ns).2.1 = 0 then [] else [Builtin.bitAnd ((cv 8 5 ns).1 * 2 ^ (5 - (cv 8 5 ns).2.1)) 31])
theorem fdiv_zero_iff {n : Int} (h0 : ¬ n < 0) (h : n.fdiv (2 ^ (8 : Int).toNat) = 0) : 0 ≤ n ∧ n < 256 := by
  rw [Int.fdiv_eq_ediv_of_nonneg _ (by decide), show ((2 : Int) ^ (8 : Int).toNat) = 256 by decide] at h
  (first | lia | omega)
theorem cv85_rest {acc : Int} {bits : Nat} (hb : bits < 5) : Builtin.bitAnd (acc * 2 ^ (5 - (bits : Int)).toNat) (1 * 2 ^ (5 : Int).toNat - 1) = Builtin.bitAnd (acc * 2 ^ (5 - bits)) 31 := by
  rw [show (5 - (bits : Int)).toNat = 5 - bits by (first | lia | omega), pow_lit4]
  rfl
section
local macro_rules | `(tactic| walk_at "J pad") => `(tactic| skip)
local macro_rules | `(tactic| walk_at "exec For Name Name cons nil") => `(tactic| (k_here; (rename Fr _ _ _ _ => lF'); (with_unfolding_all refine' For_invVF lF' ?k1 ?k2 ?_; (case k1 => exact rfl); (case k2 => exact rfl); k_whole)))
local macro_rules | `(tactic| walk_at "binaryOp LShift int int") => `(tactic| (with_unfolding_all refine' lshift_int_small ?a ?b ?c ?_; (case a => first | decide | (first | lia | omega)); (case b => first | decide | (first | lia | omega)); (case c => (first | lia | omega)); k_whole))
local macro_rules | `(tactic| walk_at "call builtin:list.append") => `(tactic| (k_here; k_dflt (refine' append_K ?k1 ?k2 ?k3 ?_ ?z; (case k1 => k_asm); (case k2 => k_asm); (case k3 => k_upd); (case z => ((rw [PySem.sizeLine_eq]); (try simp only [List.size_toArray]); (first | lia | omega))); k_whole); intro h' F' N'; (try k_sweep)))
local macro_rules | `(tactic| walk_at "pyIter ref") => `(tactic| (refine Hold.out ?_))
local macro_rules | `(tactic| walk_at "exec While Compare") => `(tactic| (k_here; k_dflt (refine whl_start 3 ?_)))
local macro_rules | `(tactic| walk_at "exec While Compare cons nil") => `(tactic| (k_here; k_dflt (refine whl_start 3 ?_)))
local macro_rules | `(tactic| walk_at "WhlIf") => `(tactic| (refine whlIf_split ?_ ?_ <;> (intro hw'; (try simp only [decide_eq_true_eq, decide_eq_false_iff_not] at hw'); (try (exfalso; (first | lia | omega))))))
theorem cv85_tells {w : World} {dp un : Nat} {gd : Option (List Code)} {fr : List Env} {s : Shared} {Q E : Value → Shared → Prop} {l : Addr} {vs : List Value} {ns : List Int} {t1 t2 : Tok}
    (C : Cx w dp un gd fr s.heap 3) (hl : s.heap.IsList l vs.toArray) (hi : IntsAre vs ns) (hlen : ns.length ≤ 1000)
    (ret0 : (∃ n ∈ ns, ¬ (0 ≤ n ∧ n < 256)) → ∀ h' tk', s.heap.StaysIn h' → Q .none { s with heap := h', toks := tk' })
    (ret : (∀ n ∈ ns, 0 ≤ n ∧ n < 256) → ∀ h' tk' r vs n, s.heap.StaysIn h' → h'.get? r = some (listOf vs.toArray n) → s.heap.get? r = none → IntsAre vs (cv85 ns) → Q (.ref r) { s with heap := h', toks := tk' }) :
    wpAny (model PySem.Challenge.rw_jy0014_01.row.prog w) (mA dp un gd fr) (call (.ref 56) [.ref l, .int 8 t1, .int 5 t2]) Q E s := by
  have XX := C.kin
  refine' enter [(Str.ofString "pad", .bool true), (Str.ofString "tobits", .int 5 t2), (Str.ofString "frombits", .int 8 t1), (Str.ofString "data", .ref l)] C ?ho ?hcd ?bind ?loc ?c2 ?c3 ?c4 ?c5 ?_
  (((case ho => k_is); (case hcd => k_is); (case bind => exact binds_K (by assumption) rfl (by k_is) rfl rfl rfl); (case loc => exact locs rfl); (case c2 => exact rfl); (case c3 => exact rfl); (case c4 => exact rfl); (case c5 => decide)))
  intro L' h₁ tk₁ base loose mean mg mb B X T F' N'
  (try dsimp only)
  (try k_fold)
  k_steps
  rename News _ _ _ _ => N1
  rename Fr _ _ _ _ => F1
  refine Hold.mk ?_
  with_unfolding_all refine' loop_list1 (σ := CvS) (fun c => [(Str.ofString "acc", .int c.acc c.ta), (Str.ofString "bits", .int (c.bits : Int) c.tb)]) [Str.ofString "value", Str.ofString "acc", Str.ofString "bits"] (fun pre c us => c.acc = (cv 8 5 pre).1 ∧ c.bits = (cv 8 5 pre).2.1 ∧ IntsAre us (cv 8 5 pre).2.2 ∧ ∀ v ∈ pre, 0 ≤ v ∧ v < 256) rfl hl hi rfl F1 (us₀ := []) N1 ?start ?turn ?done
  case start => with_unfolding_all exact ⟨⟨0, _, 0, _⟩, List.forall_mem_cons.mpr ⟨rfl, List.forall_mem_cons.mpr ⟨rfl, List.forall_mem_nil _⟩⟩, rfl, rfl, .nil, List.forall_mem_nil _⟩
  case turn =>
    rintro ⟨acc, ta, bits, tb⟩ us k pre post n t u h tk own e mem off hc F2 N2
    have hc1 := hc.1
    have hc2 := hc.2.1
    have hc3 := hc.2.2.1
    have hc4 := hc.2.2.2
    clear hc
    dsimp only at F2 N2 hc1 hc2
    have hA := cv_acc 8 5 pre
    have hB := cv_bits 8 5 (by decide) pre
    rw [← hc1] at hA
    rw [← hc2] at hB
    have hL := hc3.length
    have hK := cv_count 8 5 pre
    rw [← hL] at hK
    have hP : pre.length ≤ 1000 := by rw [e, List.length_append] at hlen; (first | lia | omega)
    (try k_fold)
    k_steps
    · rename n < 0 => hneg
      ((repeat (first | k_unfold | (dsimp only) | (dsimp only [LPost]))))
      exact ret0 ⟨n, mem, fun q => by (first | lia | omega)⟩ _ _ F2.keep
    · rename _ ≠ (0 : Int) => hne
      ((repeat (first | k_unfold | (dsimp only) | (dsimp only [LPost]))))
      exact ret0 ⟨n, mem, fun q => hne (fdiv_small (k := 8) q.1 q.2)⟩ _ _ F2.keep
    · rename Fr _ _ _ _ => F5
      rename News _ _ _ _ => N5
      rename 5 ≤ (bits : Int) + 8 - 5 => hw
      rename ¬ n < 0 => hpos
      rename n.fdiv _ = (0 : Int) => hz
      simp only [List.push_toArray] at N5
      have htwo := cv85_two (n := n) hc1 hc2 (by (first | lia | omega)) hB
      refine LPost.next F5 N5 ⟨(⟨_, _, bits + 8 - 5 - 5, _⟩, _, _), List.forall_mem_cons.mpr ⟨rfl, List.forall_mem_cons.mpr ⟨congrArg (fun i => some (Value.int i _)) (show ((bits : Int) + 8 - 5 - 5) = ((bits + 8 - 5 - 5 : Nat) : Int) by (first | lia | omega)), List.forall_mem_nil _⟩⟩, fun _ h => h, ?_, htwo.1, ?_, ?_⟩ (by ((intro z hz; repeat' (first | exact rfl | (refine (if_neg (off_ne hz (by rfl))).trans ?_) | (refine (lmap_off hz (by rfl) (by rfl)).trans ?_)))))
      · exact cv85_acc hc1
      · rw [htwo.2]
        exact (hc3.append (.cons _ _ .nil)).append (.cons _ _ .nil)
      · exact List.forall_mem_append.mpr ⟨hc4, List.forall_mem_cons.mpr ⟨fdiv_zero_iff hpos hz, List.forall_mem_nil _⟩⟩
    · rename Fr _ _ _ _ => F5
      rename News _ _ _ _ => N5
      rename ¬ 5 ≤ (bits : Int) + 8 - 5 => hw
      rename ¬ n < 0 => hpos
      rename n.fdiv _ = (0 : Int) => hz
      simp only [List.push_toArray] at N5
      have hone := cv85_one (n := n) hc1 hc2 (by (first | lia | omega))
      refine LPost.next F5 N5 ⟨(⟨_, _, bits + 8 - 5, _⟩, _, _), List.forall_mem_cons.mpr ⟨rfl, List.forall_mem_cons.mpr ⟨congrArg (fun i => some (Value.int i _)) (show ((bits : Int) + 8 - 5) = ((bits + 8 - 5 : Nat) : Int) by (first | lia | omega)), List.forall_mem_nil _⟩⟩, fun _ h => h, ?_, hone.1, ?_, ?_⟩ (by ((intro z hz; repeat' (first | exact rfl | (refine (if_neg (off_ne hz (by rfl))).trans ?_) | (refine (lmap_off hz (by rfl) (by rfl)).trans ?_)))))
      · exact cv85_acc hc1
      · rw [hone.2]
        exact hc3.append (.cons _ _ .nil)
      · exact List.forall_mem_append.mpr ⟨hc4, List.forall_mem_cons.mpr ⟨fdiv_zero_iff hpos hz, List.forall_mem_nil _⟩⟩
  case done =>
    rintro ⟨acc, ta, bits, tb⟩ us k u h tk hc F2 N2
    have hc1 := hc.1
    have hc2 := hc.2.1
    have hc3 := hc.2.2.1
    have hc4 := hc.2.2.2
    clear hc
    dsimp only at F2 N2 hc1 hc2
    have hA := cv_acc 8 5 ns
    have hB := cv_bits 8 5 (by decide) ns
    rw [← hc1] at hA
    rw [← hc2] at hB
    have hL := hc3.length
    have hK := cv_count 8 5 ns
    rw [← hL] at hK
    k_steps
    · rename Fr _ _ _ _ => F5
      rename News _ _ _ _ => N5
      rename (bits : Int) ≠ 0 => hw
      simp only [List.push_toArray] at N5
      ((repeat (first | k_unfold | (dsimp only) | (dsimp only [LPost]))))
      have n5 := N5 _ (.head _)
      refine ret hc4 _ _ _ _ _ F5.keep n5.1 n5.2.2 ?_
      unfold cv85
      rw [← hc1, ← hc2, if_neg (by (first | lia | omega)), cv85_rest hB]
      exact hc3.append (.cons _ _ .nil)
    · rename (bits : Int) = 0 => hw
      ((repeat (first | k_unfold | (dsimp only) | (dsimp only [LPost]))))
      have n5 := N2 _ (.head _)
      refine ret hc4 _ _ _ _ _ F2.keep n5.1 n5.2.2 ?_
      unfold cv85
      rw [← hc2, if_pos (by (first | lia | omega)), List.append_nil]
      exact hc3
end
end Mine
end
section
open PySem PySem.W PySem.Calls PyProof.Rows
namespace Mine
section
variable {prog : Program} {w : World} {A : Around} {E : Value → Shared → Prop} {s : Shared} {hS h₀ : Heap} {P L : Addr} {ps : Array Value} {m : Str → Option Value}
  {dp un k : Nat} {gd : Option (List Code)} {fr : List Env}
/-- a generator expression's code, looked up or made: the table may grow -/
theorem code_any {M : Model} {env : Env} {pos : Pos} {qn : Str} {scope : Scope} {Q : Value → Shared → Prop} (hc : env.code = .ref 47) (C : Cx w dp un gd fr h₀ k) (Z : Based hS h₀ 47 P ps) (F : Fr h₀ L s.heap m)
    (h : ∀ code h₃ tk g psg, Heap.ExtBut P s.heap h₃ → s.heap.objs.size ≤ h₃.objs.size → Based hS g 47 P psg → Cx w dp un gd fr g k → Fr g L h₃ m → Q code { s with heap := h₃, toks := tk }) :
    wpAny M A (genexprCode env pos qn scope) Q E s := by
  cases hf : codeAmong pos ps.toList with
  | some c' => exact wpAny_genexprCode_hit hc (Z.codeAt F) hf (h c' s.heap s.toks h₀ ps (fun _ _ _ e => e) (Nat.le_refl _) Z C F)
  | none =>
    refine wpAny_genexprCodeX hc (Z.codeAt F) (Z.tabAt F) hf fun c' h₃ tk₃ hx₃ hge hlt hcode₃ _ htab₃ _ => ?_
    obtain ⟨g, psg, Z', C', F', _⟩ := C.grow Z F ⟨P, ps, _, Z.codeAt F, Z.tabAt F, Z.notStatics, hcode₃, htab₃, hx₃⟩
    exact h _ h₃ tk₃ g psg hx₃ (Nat.le_trans hge (Nat.le_of_lt hlt)) Z' C' F'
/-- a generator expression over a text: what the walk owes -/
inductive GStr (prog : Program) (w : World) (A : Around) (dp un : Nat) (gd : Option (List Code)) (fr : List Env) (k : Nat) (hS h₀ : Heap) (P L : Addr) (m : Str → Option Value) (env : Env) (scope : Scope) (cl : List (Str × Addr)) (x : Str) (elt : Expr)
    (Q : Value → Shared → Prop) (xv : Value) (s₁ : Shared) : Prop
  | mk (tx : Str) (t : Tok) (q0 : xv = .str tx t) (q1 : Fr h₀ L s₁.heap m) (q2 : AllBare s₁.gens) (R : Nat → Value → Prop) (r0 : (∀ g psg C code (A' : Around) E' i c u (t : Shared) m₂, A'.handled = none → tx.cps[i]? = some c → Based hS g 47 P psg → Cx w dp un gd fr g k → Fr g C t.heap m₂ → m₂ x = some (.str ⟨#[c]⟩ u) →
      wpAny (model prog w) A' (eval elt (genEnv scope cl C code builtinsNs env)) (fun y s₃ => R i y ∧ Keeps t s₃) E' t)) (r1 : (∀ g psg a s₅, Based hS g 47 P psg → Cx w dp un gd fr g k → Fr g L s₅.heap m → AllBare s₅.gens → s₅.os = s₁.os → Gen prog w A L a tx.cps.size R s₅ → Q (.ref a) s₅)) : GStr prog w A dp un gd fr k hS h₀ P L m env scope cl x elt Q xv s₁
theorem passing_all (n : Nat) : passing (fun _ => true) n 0 = List.range n := by
  unfold passing
  simp
theorem GenExp_J {env : Env} {elt iter : Expr} {x : Str} {px : Pos} {scope : Scope} {cl : List (Str × Addr)} {pos : Pos} {Q : Value → Shared → Prop}
    (_F : Fr h₀ L s.heap m) (C : Cx w dp un gd fr h₀ k) (Z : Based hS h₀ 47 P ps) (hcode : env.code = .ref 47) (hglob : env.globals = mainGlobals) (hh : A.handled = none) (hco : scope.isCoroutine = false) (hclos : closureFor scope env = pure cl) (hcell : ∀ y ∈ scope.names, y.2 ≠ .cell) (h0 : scope.names.lookup (".0" : Str) = some NameKind.local)
    (hx : scope.names.lookup x = some .local) (hkind : scope.kind = .function) (hroom : A.depth < recursionLimit)
    (h : wpAny (model prog w) A (eval iter env) (GStr prog w A dp un gd fr k hS h₀ P L m env scope cl x elt Q) E s)
    (hs : ∀ x, genFold iter env x = pure x) :
    wpAny (model prog w) A (eval (.GeneratorExp elt [⟨.Name x px, iter, [], 0⟩] scope pos) env) Q E s := by
  refine wpAny_GeneratorExp_walksQ hh hco hclos hcell h0 hx hkind hroom (wpAny_mono h (fun xv s₁ h₁ => ?_) fun _ _ e => e) hs
  obtain ⟨tx, t, rfl, F₁, G₁, R, turn, fin⟩ := h₁
  refine wpAny_pyIter_str fun o St W hst => ?_
  have F₂ : Fr h₀ L (s₁.heap.push o) m := F₁.keeps fun _ _ e => Heap.get?_push_of_some _ e
  obtain ⟨loose, mg, mb, T, bm, ob, M⟩ := C.top
  refine ⟨T.nolimit.keeps F₂.keep, code_any hcode C Z F₂ fun code h₃ tk g psg hx₃ hsz Z₃ C₃ F₃ => ?_⟩
  obtain ⟨loose₃, mg₃, mb₃, T₃, bm₃, ob₃, M₃'⟩ := C₃.top
  have M₃ := M₃'.keeps F₃.keep
  rw [hglob]
  refine wpAny_builtinsFor M₃.ns M₃.name M₃.ne M₃.obj M₃.cls M₃.dict M₃.data ?_
  have hLlt : L < s₁.heap.objs.size := F₁.ns.lt
  have hsz1 : s₁.heap.objs.size < h₃.objs.size := Nat.lt_of_lt_of_le (by rw [Heap.size_push]; exact Nat.lt_succ_self _) hsz
  have hPlt : P < s₁.heap.objs.size := Heap.lt_size (Z.tabAt F₁).2
  refine ⟨s₁.heap.objs.size, [s₁.heap.objs.size], [s₁.heap.objs.size], tx.cps.size, SignAt tx, St, (fun _ => true), R, rfl, W, (W A hh).frame _ _ _ hst (fun b hb o' e => hx₃ b o' ?_ e), (fun b hb => ?_), T₃.nolimit.keeps F₃.keep, ?_, fun href hhref => ⟨?_, ?_⟩, fun a h₅ tk' gs hgb hag hsz₅ hk₅ WS hat => ?_⟩
  · rw [List.mem_singleton.mp hb]; exact Nat.ne_of_gt hPlt
  · rw [List.mem_singleton.mp hb]; exact hsz1
  · intro hb
    have h1 : cStatics = s₁.heap.objs.size := List.mem_singleton.mp hb
    obtain ⟨_, hns, _⟩ := T.nolimit
    exact absurd (h1 ▸ (hns.keeps F₁.keep).lt) (Nat.lt_irrefl _)
  · intro A' E' i v s₂ m₂ hA _ _ _ _
    exact wpAny_pure ⟨rfl, s₂.heap, s₂.toks, rfl, fun _ _ e => e⟩
  · intro A' E' i v s₂ m₂ hA hP _ hn hm hkp
    obtain ⟨c, u, hc, rfl⟩ := hP
    refine turn g psg h₃.objs.size code A' E' i c u s₂ m₂ hA hc Z₃ C₃ ⟨hn, fun b o' e => ?_, ?_⟩ hm
    · have e3 := F₃.keep b o' e
      refine hkp b (List.mem_range.mpr (Heap.lt_size e3)) (fun hb => ?_) o' (hhref b o' e3)
      have h1 := List.mem_singleton.mp hb
      have h2 := Heap.lt_size e
      have h3 := F₃.above
      rw [h1] at h2
      exact absurd (Nat.lt_of_lt_of_le h2 (Nat.le_trans h3 (Nat.le_of_lt hLlt))) (Nat.lt_irrefl _)
    · exact Nat.le_trans F₃.above (Nat.le_of_lt F₃.ns.lt)
  · refine fin g psg a _ Z₃ C₃ (F₃.keeps hk₅) (G₁.push hgb) rfl ?_
    have X : Gen prog w A L a (passing (fun _ => true) tx.cps.size 0).length (fun j y => ∃ i, (passing (fun _ => true) tx.cps.size 0)[j]? = some i ∧ R i y) { heap := h₅, gens := s₁.gens.push gs, drawn := s₁.drawn, toks := tk', os := s₁.os } := by
      refine ⟨_, _, _, _, WS, hat, (fun i s' st => st.1.typeIs), List.mem_cons_self, ?_, ?_⟩
      · intro b hb
        show b < h₅.objs.size
        rw [hsz₅]
        rcases List.mem_cons.mp hb with rfl | hb
        · exact Nat.lt_succ_self _
        · rcases List.mem_cons.mp hb with rfl | hb
          · exact Nat.lt_succ_of_lt hag
          · exact Nat.lt_succ_of_lt (Nat.lt_trans (List.mem_range.mp hb) hag)
      · intro b hb
        rcases List.mem_cons.mp hb with rfl | hb
        · exact Nat.lt_trans hLlt hsz1
        · rw [List.mem_singleton.mp hb]; exact hLlt
    rw [passing_all, List.length_range] at X
    refine X.imp fun j y hj => ?_
    obtain ⟨i, hi, hR⟩ := hj
    rw [List.getElem?_eq_some_iff] at hi
    obtain ⟨hlt, e⟩ := hi
    rw [List.getElem_range] at e
    rw [e]
    exact hR
end
end Mine
end
section
open PySem PySem.W PySem.Calls PyProof.Rows
set_option maxHeartbeats 1000000
namespace Mine
section
local macro_rules | `(tactic| walk_at "isTrue BoolOp") => `(tactic| ((with_reducible show wpAny _ _ (isTrue (Expr.BoolOp BoolOp.And _ _) _ _) _ _ _); (fail_if_success (with_reducible rename MarkT 41 => mm)); refine Hold.out ?_))
local macro_rules | `(tactic| walk_at "call ref") => `(tactic| refine Hold.out ?_)
local macro_rules | `(tactic| walk_at "call builtin:str.lower") => `(tactic| (refine SCL.lower (by (first | lia | omega)) ?_; intro _))
local macro_rules | `(tactic| walk_at "call builtin:str.upper") => `(tactic| (refine SCL.upper (by (first | lia | omega)) ?_; intro _))
local macro_rules | `(tactic| walk_at "call builtin:str.rfind") => `(tactic| refine Hold.out ?_)
local macro_rules | `(tactic| walk_at "exec Assign cons ListComp") => `(tactic| refine HoldN.out (n := 3) ?_)
local macro_rules | `(tactic| walk_at "call builtin:str.find") => `(tactic| refine Hold.out ?_)
local macro_rules | `(tactic| walk_at "eval GeneratorExp") => `(tactic| refine Hold.out ?_)
local macro_rules | `(tactic| walk_at "call builtin:any") => `(tactic| refine Hold.out ?_)
local macro_rules | `(tactic| walk_at "call builtin:all") => `(tactic| refine Hold.out ?_)
local macro_rules | `(tactic| walk_at "eval Name") => `(tactic| (k_here; k_dflt (first
  | refine nm_global (by k_asm) (by k_asm) (by k_asm) (by k_is) ?_ (by rfl) (by rfl) (by rfl) (by decide)
  | refine nm_built (by k_asm) (by k_asm) (by k_asm) (by k_is) (by boot_by_name) (by decide) ?_ (by rfl) (by rfl) (by rfl) (by rfl) (by decide))))
def badC (c : Nat) : Bool := decide ((c : Int) < 33) || decide ((c : Int) > 126)
def csS : Str := Str.ofString "qpzry9x8gf2tvdw0s3jn54khce6mua7l"
def tailB (tx : Str) : Str := Txt.slice (Txt.lower tx) (some (Txt.rfind (Txt.lower tx) (Str.ofString "1") + 1)) none
def headB (tx : Str) : Str := Txt.slice (Txt.lower tx) none (some (Txt.rfind (Txt.lower tx) (Str.ofString "1")))
def dataB (tx : Str) : List Int := (tailB tx).cps.toList.map fun c => Txt.find csS ⟨#[c]⟩
def decB (tx : Str) : Option (Str × List Int) :=
  if tx.cps.toList.any badC = true then none
  else if (Txt.lower tx != tx) = true ∧ (Txt.upper tx != tx) = true then none
  else if Txt.rfind (Txt.lower tx) (Str.ofString "1") < 1 ∨ 83 < Txt.rfind (Txt.lower tx) (Str.ofString "1") ∨ ((Txt.lower tx).length : Int) < Txt.rfind (Txt.lower tx) (Str.ofString "1") + 7 then none
  else if ((tailB tx).cps.toList.all fun c => Txt.contains csS ⟨#[c]⟩) = false then none
  else if (polyI (hrpX (headB tx) ++ dataB tx) == 1) = true then some (headB tx, (dataB tx).take ((dataB tx).length - 6)) else none
theorem any_truth {prog : Program} {w : World} {A : Around} {tx : Str} (f : Nat → Bool) : TruthOf prog w A (fun i y => ∃ c, tx.cps[i]? = some c ∧ y = .bool (f c)) (fun i => ((tx.cps[i]?).map f).getD false) := by
  rintro i v s Q E ⟨c, hc, rfl⟩ hQ
  dsimp only at hQ
  rw [hc] at hQ
  exact wpAny_truthy_bool hQ
theorem any_chars {tx : Str} (f : Nat → Bool) : (List.range tx.cps.size).any (fun i => ((tx.cps[i]?).map f).getD false) = tx.cps.toList.any f := by
  have e : tx.cps.toList.map f = (List.range tx.cps.size).map (fun i => ((tx.cps[i]?).map f).getD false) := by
    apply List.ext_getElem?
    intro j
    by_cases hj : j < tx.cps.size
    · simp [hj]
    · simp [hj]
  have := congrArg (fun l => l.any id) e
  simpa [List.any_map] using this.symm
theorem all_chars {tx : Str} (f : Nat → Bool) : (List.range tx.cps.size).all (fun i => ((tx.cps[i]?).map f).getD false) = tx.cps.toList.all f := by
  have e : tx.cps.toList.map f = (List.range tx.cps.size).map (fun i => ((tx.cps[i]?).map f).getD false) := by
    apply List.ext_getElem?
    intro j
    by_cases hj : j < tx.cps.size
    · simp [hj]
    · simp [hj]
  have := congrArg (fun l => l.all id) e
  simpa [List.all_map] using this.symm
theorem based_fresh_old {hS g : Heap} {P : Addr} {ps : Array Value} (Z : Based hS g 47 P ps) {b : Addr} (e : g.get? b = none) : hS.get? b = none := by
  rw [← e]
  exact (Z.same.2 b fun q => by rw [q, Z.tab.2] at e; cases e).symm
theorem bd_tells {w : World} {dp un : Nat} {gd : Option (List Code)} {fr : List Env} {s : Shared} {Q E : Value → Shared → Prop} {tx : Str} {t : Tok}
    (C : Cx w dp un gd fr s.heap 7) (G0 : AllBare s.gens) (hsz : tx.cps.size ≤ 200)
    (ret0 : ∀ s' D, Grew s.heap s'.heap → AllBare s'.gens → s'.os = s.os → s'.heap.get? D = some { cls := .type "tuple", data := .seq #[.none, .none] } → s.heap.get? D = none → decB tx = none → Q (.ref D) s')
    (ret : ∀ s' D r vs hx u n ds, Grew s.heap s'.heap → AllBare s'.gens → s'.os = s.os → s'.heap.get? D = some { cls := .type "tuple", data := .seq #[.str hx u, .ref r] } → s.heap.get? D = none →
      s'.heap.get? r = some (listOf vs.toArray n) → s.heap.get? r = none → IntsAre vs ds → decB tx = some (hx, ds) → Q (.ref D) s') :
    wpAny (model PySem.Challenge.rw_jy0014_01.row.prog w) (mA dp un gd fr) (call (.ref 48) [.str tx t]) Q E s := by
  obtain ⟨P, ps, Z⟩ := id C.tab
  have hlow : (Txt.lower tx).length ≤ 600 := Nat.le_trans (PyProof.Rows.len_lower tx) (by have : tx.length ≤ 200 := hsz; (first | lia | omega))
  refine' enter [(Str.ofString "bech", .str tx t)] C ?ho ?hcd ?bind ?loc ?c2 ?c3 ?c4 ?c5 ?_
  (((case ho => k_is); (case hcd => k_is); (case bind => exact BindsTo.of_eq rfl); (case loc => exact locs rfl); (case c2 => exact rfl); (case c3 => exact rfl); (case c4 => exact rfl); (case c5 => decide)))
  intro L' h₁ tk₁ base loose mean mg mb B X T F' N'
  (try dsimp only)
  (try k_fold)
  (repeat' (first | (with_reducible refine HoldN.mk (n := 3) ?_; (k_dflt (refine' Assign_ListComp_G (by k_asm) ?c0 ?cs ?c1 ?c2 ?c3 ?c4 ?c5 ?c7 ?c8 ?_ ?c6; (case c0 => rfl); (case cs => with_unfolding_all rfl); (case c1 => with_unfolding_all rfl); (case c2 => decide); (case c3 => rfl); (case c4 => decide); (case c5 => rfl); (case c7 => rfl); (case c8 => rfl); (case c6 => intro _; rfl)))) | (k_unfold; (try dsimp only)) | (k_end; kc_close) | walk1 | (dsimp only; walk1) | (leave1; walk_say "STEP leave1"; (try dsimp only)) | fail "no step"))
  refine Hold.mk ?_
  rename Fr _ _ _ _ => F1
  refine GenExp_J F1 C Z rfl rfl rfl rfl (by with_unfolding_all rfl) (by decide) (by with_unfolding_all rfl) (by with_unfolding_all rfl) rfl ?room ?_ (fun _ => by with_unfolding_all rfl)
  case room => 
    have := C.room
    show dp + 1 < _
    (first | lia | omega)
  (repeat' (first | (with_reducible refine HoldN.mk (n := 3) ?_; (k_dflt (refine' Assign_ListComp_G (by k_asm) ?c0 ?cs ?c1 ?c2 ?c3 ?c4 ?c5 ?c7 ?c8 ?_ ?c6; (case c0 => rfl); (case cs => with_unfolding_all rfl); (case c1 => with_unfolding_all rfl); (case c2 => decide); (case c3 => rfl); (case c4 => decide); (case c5 => rfl); (case c7 => rfl); (case c8 => rfl); (case c6 => intro _; rfl)))) | (k_unfold; (try dsimp only)) | (k_end; kc_close) | walk1 | (dsimp only; walk1) | (leave1; walk_say "STEP leave1"; (try dsimp only)) | fail "no step"))
  refine ⟨tx, t, rfl, F1, G0, fun i y => ∃ c, tx.cps[i]? = some c ∧ y = .bool (badC c), ?_, ?_⟩
  · intro g psg C₁ code A' E' i c u t' m₂ hA hc Zg Cg Fg hm
    obtain ⟨bs, l3, mg3, mb3, Bg, Xg, Tg, _, _⟩ := Cx.opens Cg
    clear F1 N' T X B
    have lgeM := LGe.Mark.mk
    (try k_fold)
    (repeat' (first | (with_reducible refine HoldN.mk (n := 3) ?_; (k_dflt (refine' Assign_ListComp_G (by k_asm) ?c0 ?cs ?c1 ?c2 ?c3 ?c4 ?c5 ?c7 ?c8 ?_ ?c6; (case c0 => rfl); (case cs => with_unfolding_all rfl); (case c1 => with_unfolding_all rfl); (case c2 => decide); (case c3 => rfl); (case c4 => decide); (case c5 => rfl); (case c7 => rfl); (case c8 => rfl); (case c6 => intro _; rfl)))) | (k_unfold; (try dsimp only)) | (k_end; kc_close) | walk1 | (dsimp only; walk1) | (leave1; walk_say "STEP leave1"; (try dsimp only)) | fail "no step"))
    all_goals first | exact ⟨_, _, rfl, fun _ _ e => e⟩ | simp [badC, *]
  · intro g psg a s₅ Zg Cg Fg Gg hos Yg
    obtain ⟨bs, l3, mg3, mb3, Bg, Xg, Tg, _, _⟩ := Cx.opens Cg
    have Ng : News g L' s₅.heap [] := News.nil
    clear F1 N' T X B
    (try dsimp only)
    (repeat' (first | (with_reducible refine HoldN.mk (n := 3) ?_; (k_dflt (refine' Assign_ListComp_G (by k_asm) ?c0 ?cs ?c1 ?c2 ?c3 ?c4 ?c5 ?c7 ?c8 ?_ ?c6; (case c0 => rfl); (case cs => with_unfolding_all rfl); (case c1 => with_unfolding_all rfl); (case c2 => decide); (case c3 => rfl); (case c4 => decide); (case c5 => rfl); (case c7 => rfl); (case c8 => rfl); (case c6 => intro _; rfl)))) | (k_unfold; (try dsimp only)) | (k_end; kc_close) | walk1 | (dsimp only; walk1) | (leave1; walk_say "STEP leave1"; (try dsimp only)) | fail "no step"))
    refine Hold.mk ?_
    refine any_rows Fg Gg Yg (fun i => ((tx.cps[i]?).map badC).getD false) (any_truth badC) ?_
    intro s₆ F6 G6 h6
    have N6 : News g L' s₆.heap [] := News.nil
    clear Fg Ng Gg Yg
    rw [any_chars]
    have hln : tx.length ≤ 200 := hsz
    (try dsimp only)
    (repeat' (first | (with_reducible refine HoldN.mk (n := 3) ?_; (k_dflt (refine' Assign_ListComp_G (by k_asm) ?c0 ?cs ?c1 ?c2 ?c3 ?c4 ?c5 ?c7 ?c8 ?_ ?c6; (case c0 => rfl); (case cs => with_unfolding_all rfl); (case c1 => with_unfolding_all rfl); (case c2 => decide); (case c3 => rfl); (case c4 => decide); (case c5 => rfl); (case c7 => rfl); (case c8 => rfl); (case c6 => intro _; rfl)))) | (k_unfold; (try dsimp only)) | (k_end; kc_close) | walk1 | (dsimp only; walk1) | (leave1; walk_say "STEP leave1"; (try dsimp only)) | fail "no step"))
    all_goals try (
         ((repeat (first | k_unfold | dsimp only | dsimp only [LPost])))
         rename Fr _ _ _ _ => F9
         rename News _ _ _ _ => N9
         refine ret0 _ _ (Grew.of Z Zg F9) G6 (h6.trans hos) (N9 _ (.head _)).1 (based_fresh_old Zg (N9 _ (.head _)).2.2) ?_
         simp only [decB, *, if_true, if_false, Bool.false_eq_true, true_and, and_true, and_self]
         done)
    refine Hold.mk ?_
    rename News _ _ _ _ => N5
    rename Fr _ _ _ _ => F5
    refine join_bool (decide ((Txt.lower tx != tx) = true ∧ (Txt.upper tx != tx) = true)) F5 N5 ?_ ?_
    · have m41 := MarkT.mk 41
      (repeat' (first | (with_reducible refine HoldN.mk (n := 3) ?_; (k_dflt (refine' Assign_ListComp_G (by k_asm) ?c0 ?cs ?c1 ?c2 ?c3 ?c4 ?c5 ?c7 ?c8 ?_ ?c6; (case c0 => rfl); (case cs => with_unfolding_all rfl); (case c1 => with_unfolding_all rfl); (case c2 => decide); (case c3 => rfl); (case c4 => decide); (case c5 => rfl); (case c7 => rfl); (case c8 => rfl); (case c6 => intro _; rfl)))) | (k_unfold; (try dsimp only)) | (k_end; kc_close) | walk1 | (dsimp only; walk1) | (leave1; walk_say "STEP leave1"; (try dsimp only)) | fail "no step"))
      all_goals (((repeat (first | k_unfold | dsimp only | dsimp only [LPost]))); rename News _ _ _ _ => N9; rename Fr _ _ _ _ => F9; refine Hid.mk ⟨?_, _, _, rfl, F9, news_sub N9 (by kcf_all)⟩; simp [*])
    have m41 := MarkT.mk 41
    intro h7 tk7 F7 N7
    clear F5 N5
    by_cases hmx : (Txt.lower tx != tx) = true ∧ (Txt.upper tx != tx) = true
    · rw [decide_eq_true hmx]
      (try dsimp only)
      (repeat' (first | (with_reducible refine HoldN.mk (n := 3) ?_; (k_dflt (refine' Assign_ListComp_G (by k_asm) ?c0 ?cs ?c1 ?c2 ?c3 ?c4 ?c5 ?c7 ?c8 ?_ ?c6; (case c0 => rfl); (case cs => with_unfolding_all rfl); (case c1 => with_unfolding_all rfl); (case c2 => decide); (case c3 => rfl); (case c4 => decide); (case c5 => rfl); (case c7 => rfl); (case c8 => rfl); (case c6 => intro _; rfl)))) | (k_unfold; (try dsimp only)) | (k_end; kc_close) | walk1 | (dsimp only; walk1) | (leave1; walk_say "STEP leave1"; (try dsimp only)) | fail "no step"))
      (
         ((repeat (first | k_unfold | dsimp only | dsimp only [LPost])))
         rename Fr _ _ _ _ => F9
         rename News _ _ _ _ => N9
         refine ret0 _ _ (Grew.of Z Zg F9) G6 (h6.trans hos) (N9 _ (.head _)).1 (based_fresh_old Zg (N9 _ (.head _)).2.2) ?_
         simp only [decB, *, if_true, if_false, Bool.false_eq_true, true_and, and_true, and_self]
         done)
    rw [decide_eq_false hmx]
    (try dsimp only)
    (repeat' (first | (with_reducible refine HoldN.mk (n := 3) ?_; (k_dflt (refine' Assign_ListComp_G (by k_asm) ?c0 ?cs ?c1 ?c2 ?c3 ?c4 ?c5 ?c7 ?c8 ?_ ?c6; (case c0 => rfl); (case cs => with_unfolding_all rfl); (case c1 => with_unfolding_all rfl); (case c2 => decide); (case c3 => rfl); (case c4 => decide); (case c5 => rfl); (case c7 => rfl); (case c8 => rfl); (case c6 => intro _; rfl)))) | (k_unfold; (try dsimp only)) | (k_end; kc_close) | walk1 | (dsimp only; walk1) | (leave1; walk_say "STEP leave1"; (try dsimp only)) | fail "no step"))
    all_goals (refine Hold.mk ?_; refine SC.rfind ?_)
    all_goals (try dsimp only)
    all_goals (repeat' (first | (with_reducible refine HoldN.mk (n := 3) ?_; (k_dflt (refine' Assign_ListComp_G (by k_asm) ?c0 ?cs ?c1 ?c2 ?c3 ?c4 ?c5 ?c7 ?c8 ?_ ?c6; (case c0 => rfl); (case cs => with_unfolding_all rfl); (case c1 => with_unfolding_all rfl); (case c2 => decide); (case c3 => rfl); (case c4 => decide); (case c5 => rfl); (case c7 => rfl); (case c8 => rfl); (case c6 => intro _; rfl)))) | (k_unfold; (try dsimp only)) | (k_end; kc_close) | walk1 | (dsimp only; walk1) | (leave1; walk_say "STEP leave1"; (try dsimp only)) | fail "no step"))
    all_goals try (
         ((repeat (first | k_unfold | dsimp only | dsimp only [LPost])))
         rename Fr _ _ _ _ => F9
         rename News _ _ _ _ => N9
         refine ret0 _ _ (Grew.of Z Zg F9) G6 (h6.trans hos) (N9 _ (.head _)).1 (based_fresh_old Zg (N9 _ (.head _)).2.2) ?_
         simp only [decB, *, if_true, if_false, Bool.false_eq_true, true_or, or_true, true_and, and_true, and_self, ite_self]
         done)
    all_goals (
      refine Hold.mk ?_
      rename Fr _ _ _ _ => F1
      rename News _ _ _ _ => N1)
    all_goals (refine GenExp_J F1 Cg Zg rfl rfl rfl rfl (by with_unfolding_all rfl) (by decide) (by with_unfolding_all rfl) (by with_unfolding_all rfl) rfl (by have := C.room; show dp + 1 < _; (first | lia | omega)) ?_ (fun _ => by with_unfolding_all rfl))
    all_goals (repeat' (first | (with_reducible refine HoldN.mk (n := 3) ?_; (k_dflt (refine' Assign_ListComp_G (by k_asm) ?c0 ?cs ?c1 ?c2 ?c3 ?c4 ?c5 ?c7 ?c8 ?_ ?c6; (case c0 => rfl); (case cs => with_unfolding_all rfl); (case c1 => with_unfolding_all rfl); (case c2 => decide); (case c3 => rfl); (case c4 => decide); (case c5 => rfl); (case c7 => rfl); (case c8 => rfl); (case c6 => intro _; rfl)))) | (k_unfold; (try dsimp only)) | (k_end; kc_close) | walk1 | (dsimp only; walk1) | (leave1; walk_say "STEP leave1"; (try dsimp only)) | fail "no step"))
    all_goals rename Fr _ _ _ _ => F1
    all_goals refine ⟨_, _, rfl, F1, G6, fun i y => ∃ c, (tailB tx).cps[i]? = some c ∧ y = .bool (Txt.contains csS ⟨#[c]⟩), (by
      intro g psg C₁ code A' E' i c u t' m₂ hA hc Zg Cg Fg hm
      obtain ⟨bs, l3, mg3, mb3, Bg, Xg, Tg, _, _⟩ := Cx.opens Cg
      clear F1
      have lgeM := LGe.Mark.mk
      (try k_fold)
      (repeat' (first | (with_reducible refine HoldN.mk (n := 3) ?_; (k_dflt (refine' Assign_ListComp_G (by k_asm) ?c0 ?cs ?c1 ?c2 ?c3 ?c4 ?c5 ?c7 ?c8 ?_ ?c6; (case c0 => rfl); (case cs => with_unfolding_all rfl); (case c1 => with_unfolding_all rfl); (case c2 => decide); (case c3 => rfl); (case c4 => decide); (case c5 => rfl); (case c7 => rfl); (case c8 => rfl); (case c6 => intro _; rfl)))) | (k_unfold; (try dsimp only)) | (k_end; kc_close) | walk1 | (dsimp only; walk1) | (leave1; walk_say "STEP leave1"; (try dsimp only)) | fail "no step"))
      all_goals exact ⟨_, _, rfl, fun _ _ e => e⟩), ?_⟩
    all_goals (
      intro g2 psg2 a2 s7 Zg2 Cg2 Fg2 Gg2 hos2 Yg2
      obtain ⟨bs2, l4, mg4, mb4, Bg2, Xg2, Tg2, _, _⟩ := Cx.opens Cg2
      have Ng2 : News g2 L' s7.heap [] := News.nil
      clear F1 Tg Xg Bg
      (try dsimp only))
    all_goals (repeat' (first | (with_reducible refine HoldN.mk (n := 3) ?_; (k_dflt (refine' Assign_ListComp_G (by k_asm) ?c0 ?cs ?c1 ?c2 ?c3 ?c4 ?c5 ?c7 ?c8 ?_ ?c6; (case c0 => rfl); (case cs => with_unfolding_all rfl); (case c1 => with_unfolding_all rfl); (case c2 => decide); (case c3 => rfl); (case c4 => decide); (case c5 => rfl); (case c7 => rfl); (case c8 => rfl); (case c6 => intro _; rfl)))) | (k_unfold; (try dsimp only)) | (k_end; kc_close) | walk1 | (dsimp only; walk1) | (leave1; walk_say "STEP leave1"; (try dsimp only)) | fail "no step"))
    all_goals (
      refine Hold.mk ?_
      refine all_rows Fg2 Gg2 Yg2 (fun i => (((tailB tx).cps[i]?).map fun c => Txt.contains csS ⟨#[c]⟩).getD false) (any_truth _) ?_
      intro s8 F8 G8 h8
      have N8 : News g2 L' s8.heap [] := News.nil
      clear Fg2 Ng2 Gg2 Yg2
      rw [show (Txt.slice (Txt.lower tx) (some (Txt.rfind (Txt.lower tx) (Str.ofString "1") + 1)) none) = tailB tx from rfl, all_chars]
      (try dsimp only))
    all_goals (repeat' (first | (with_reducible refine HoldN.mk (n := 3) ?_; (k_dflt (refine' Assign_ListComp_G (by k_asm) ?c0 ?cs ?c1 ?c2 ?c3 ?c4 ?c5 ?c7 ?c8 ?_ ?c6; (case c0 => rfl); (case cs => with_unfolding_all rfl); (case c1 => with_unfolding_all rfl); (case c2 => decide); (case c3 => rfl); (case c4 => decide); (case c5 => rfl); (case c7 => rfl); (case c8 => rfl); (case c6 => intro _; rfl)))) | (k_unfold; (try dsimp only)) | (k_end; kc_close) | walk1 | (dsimp only; walk1) | (leave1; walk_say "STEP leave1"; (try dsimp only)) | fail "no step"))
    all_goals try (
         ((repeat (first | k_unfold | dsimp only | dsimp only [LPost])))
         rename Fr _ _ _ _ => F9
         rename News _ _ _ _ => N9
         refine ret0 _ _ (Grew.of Z Zg2 F9) G8 ((h8.trans hos2).trans (h6.trans hos)) (N9 _ (.head _)).1 (based_fresh_old Zg2 (N9 _ (.head _)).2.2) ?_
         simp only [decB, *, if_true, if_false, Bool.false_eq_true, true_or, or_true, true_and, and_true, and_self, ite_self]
         done)
    all_goals (
      rename Fr _ _ _ _ => F1
      rename News _ _ _ _ => N1
      rename (Str.length (Txt.slice _ _ none) ≤ _) => hs1
      refine comp_str (fun i y => ∃ c, (tailB tx).cps.toList[i]? = some c ∧ ∃ t : Tok, y = Value.int (Txt.find csS ⟨#[c]⟩) t) rfl F1 N1 (Nat.le_trans hs1 (Nat.le_trans hlow (by rw [PySem.sizeLine_eq]; decide))) (by
        intro i c u hi hc I oI C oC D m₂ ys h tk E' hC hx F N
        (try k_fold)
        (repeat' (first | (with_reducible refine HoldN.mk (n := 3) ?_; (k_dflt (refine' Assign_ListComp_G (by k_asm) ?c0 ?cs ?c1 ?c2 ?c3 ?c4 ?c5 ?c7 ?c8 ?_ ?c6; (case c0 => rfl); (case cs => with_unfolding_all rfl); (case c1 => with_unfolding_all rfl); (case c2 => decide); (case c3 => rfl); (case c4 => decide); (case c5 => rfl); (case c7 => rfl); (case c8 => rfl); (case c6 => intro _; rfl)))) | (k_unfold; (try dsimp only)) | (k_end; kc_close) | walk1 | (dsimp only; walk1) | (leave1; walk_say "STEP leave1"; (try dsimp only)) | fail "no step"))
        refine Hold.mk ?_
        refine SC.find ?_
        (try dsimp only)
        (repeat' (first | (with_reducible refine HoldN.mk (n := 3) ?_; (k_dflt (refine' Assign_ListComp_G (by k_asm) ?c0 ?cs ?c1 ?c2 ?c3 ?c4 ?c5 ?c7 ?c8 ?_ ?c6; (case c0 => rfl); (case cs => with_unfolding_all rfl); (case c1 => with_unfolding_all rfl); (case c2 => decide); (case c3 => rfl); (case c4 => decide); (case c5 => rfl); (case c7 => rfl); (case c8 => rfl); (case c6 => intro _; rfl)))) | (k_unfold; (try dsimp only)) | (k_end; kc_close) | walk1 | (dsimp only; walk1) | (leave1; walk_say "STEP leave1"; (try dsimp only)) | fail "no step"))
        rename News _ _ _ _ => N2
        rename Fr _ _ _ _ => F2
        exact EEnd.intro F2 N2 (fun _ h => h) ⟨c, by simpa [tailB] using hc, _, rfl⟩) ?_)
    all_goals (
      intro g ys hl hy
      have iy : IntsAre ys (dataB tx) := ints_map (by simpa [tailB] using hl) hy
      intro D h tk F N o1
      clear F1 N1
      (try dsimp only))
    all_goals (repeat' (first | (with_reducible refine HoldN.mk (n := 3) ?_; (k_dflt (refine' Assign_ListComp_G (by k_asm) ?c0 ?cs ?c1 ?c2 ?c3 ?c4 ?c5 ?c7 ?c8 ?_ ?c6; (case c0 => rfl); (case cs => with_unfolding_all rfl); (case c1 => with_unfolding_all rfl); (case c2 => decide); (case c3 => rfl); (case c4 => decide); (case c5 => rfl); (case c7 => rfl); (case c8 => rfl); (case c6 => intro _; rfl)))) | (k_unfold; (try dsimp only)) | (k_end; kc_close) | walk1 | (dsimp only; walk1) | (leave1; walk_say "STEP leave1"; (try dsimp only)) | fail "no step"))
    all_goals (
      have hdl : (dataB tx).length ≤ 600 := by
        have e : (dataB tx).length = (tailB tx).length := by simp [dataB, PySem.Str.length]
        rw [e]
        exact Nat.le_trans hs1 hlow
      have hhl : (headB tx).length ≤ 600 := Nat.le_trans (by assumption) hlow
      have hyl := iy.length
      refine Hold.mk ?_
      rename News _ _ _ _ => N1
      rename Fr _ _ _ _ => F1
      with_unfolding_all refine' ver_tells (Cx.push Cg2 F1 rfl (by (first | exact Nat.add_le_add_left (by decide) _ | (dsimp only; (first | lia | omega))))) (Nat.le_trans hhl (by decide)) (by is_list) iy (Nat.le_trans hdl (by decide)) ?_
      intro h2 tk2 st
      have F2 := fr_stays F1 st
      have N2 := news_stays N1 st
      clear F1 N1
      (try dsimp only))
    all_goals (repeat' (first | (with_reducible refine HoldN.mk (n := 3) ?_; (k_dflt (refine' Assign_ListComp_G (by k_asm) ?c0 ?cs ?c1 ?c2 ?c3 ?c4 ?c5 ?c7 ?c8 ?_ ?c6; (case c0 => rfl); (case cs => with_unfolding_all rfl); (case c1 => with_unfolding_all rfl); (case c2 => decide); (case c3 => rfl); (case c4 => decide); (case c5 => rfl); (case c7 => rfl); (case c8 => rfl); (case c6 => intro _; rfl)))) | (k_unfold; (try dsimp only)) | (k_end; kc_close) | walk1 | (dsimp only; walk1) | (leave1; walk_say "STEP leave1"; (try dsimp only)) | fail "no step"))
    all_goals (
      have hhe : Txt.slice (Txt.lower tx) none (some (Txt.rfind (Txt.lower tx) (Str.ofString "1"))) = headB tx := rfl
      ((repeat (first | k_unfold | dsimp only | dsimp only [LPost])))
      rename Fr _ _ _ _ => F9
      rename News _ _ _ _ => N9)
    all_goals try (
      rename (polyI _ ≠ 1) => hp
      refine ret0 _ _ (Grew.of Z Zg2 F9) G8 ((h8.trans hos2).trans (h6.trans hos)) (N9 _ (.head _)).1 (based_fresh_old Zg2 (N9 _ (.head _)).2.2) ?_
      rw [hhe] at hp
      simp only [decB, *, if_true, if_false, Bool.false_eq_true, Bool.true_eq_false, true_or, or_true, true_and, and_true, and_self, ite_self, or_self, false_and, and_false, beq_iff_eq]
      done)
    all_goals (
      rename (polyI _ = 1) => hp
      refine ret _ _ _ _ _ _ _ _ (Grew.of Z Zg2 F9) G8 ((h8.trans hos2).trans (h6.trans hos)) (N9 _ (.head _)).1 (based_fresh_old Zg2 (N9 _ (.head _)).2.2) (N9 _ (.tail _ (.head _))).1 (based_fresh_old Zg2 (N9 _ (.tail _ (.head _))).2.2) (by assumption) ?_
      rw [hhe] at hp ⊢
      rename (List.any _ _ = false) => q1
      rename (List.all _ _ = true) => q2
      unfold decB
      rw [if_neg (by rw [q1]; decide), if_neg hmx, if_neg (by (first | lia | omega)), if_neg (by rw [q2]; decide), if_pos (by rw [hp]; rfl)])
end
end Mine
end
section
open PySem PySem.W PySem.Calls PyProof.Rows
set_option maxHeartbeats 1000000
namespace Mine
theorem news_grown {h₀ g h h' : Heap} {L D : Addr} {o : Obj} {m : Str → Option Value} {news : List (Addr × Obj)} (F : Fr h₀ L h m) (N : News g L h' news) (up : ∀ a, h₀.get? a = none → g.get? a = none) (e : h'.get? D = some o) (fresh : h.get? D = none) :
    News g L h' ((D, o) :: news) := by
  intro p hp
  rcases List.mem_cons.mp hp with rfl | hp
  · refine ⟨e, ?_, up _ ?_⟩
    · rintro rfl
      obtain ⟨oL, _, _, hL, _⟩ := F.ns
      rw [hL] at fresh
      cases fresh
    · cases q : h₀.get? D with
      | none => rfl
      | some o' => have := F.keep D o' q; rw [fresh] at this; cases this
  · exact N p hp
abbrev fiveOk (ns : List Int) : Prop := ¬ ((cv 5 8 ns).2.1 ≥ 5 ∨ Builtin.bitAnd ((cv 5 8 ns).1 * 2 ^ (8 - (cv 5 8 ns).2.1)) 255 ≠ 0)
/-- what decode answers -/
def decP (ds : List Int) : Option (Int × List Int) :=
  if ¬ fiveOk (ds.drop 1) then none
  else if (cv 5 8 (ds.drop 1)).2.2.length < 2 ∨ 40 < (cv 5 8 (ds.drop 1)).2.2.length then none
  else if 16 < ds.headD 0 then none
  else if ds.headD 0 = 0 ∧ (cv 5 8 (ds.drop 1)).2.2.length ≠ 20 ∧ (cv 5 8 (ds.drop 1)).2.2.length ≠ 32 then none
  else some (ds.headD 0, (cv 5 8 (ds.drop 1)).2.2)
theorem decP_none {d0 : Int} {dt : List Int} (hok : fiveOk (List.drop 1 (d0 :: dt))) (h : (cv 5 8 (List.drop 1 (d0 :: dt))).2.2.length < 2 ∨ 40 < (cv 5 8 (List.drop 1 (d0 :: dt))).2.2.length ∨ 16 < d0 ∨ (d0 = 0 ∧ (cv 5 8 (List.drop 1 (d0 :: dt))).2.2.length ≠ 20 ∧ (cv 5 8 (List.drop 1 (d0 :: dt))).2.2.length ≠ 32)) : decP (d0 :: dt) = none := by
  unfold decP
  split
  · rfl
  · split
    · rfl
    · split
      · rfl
      · split
        · rfl
        · rename_i a b c d
          simp only [List.headD_cons] at c d
          exfalso
          (first | lia | omega)
theorem decP_some {d0 : Int} {dt : List Int} (hok : fiveOk (List.drop 1 (d0 :: dt))) (h : ¬ ((cv 5 8 (List.drop 1 (d0 :: dt))).2.2.length < 2 ∨ 40 < (cv 5 8 (List.drop 1 (d0 :: dt))).2.2.length ∨ 16 < d0 ∨ (d0 = 0 ∧ (cv 5 8 (List.drop 1 (d0 :: dt))).2.2.length ≠ 20 ∧ (cv 5 8 (List.drop 1 (d0 :: dt))).2.2.length ≠ 32))) : decP (d0 :: dt) = some (d0, (cv 5 8 (List.drop 1 (d0 :: dt))).2.2) := by
  unfold decP
  split
  · rename_i a; exact absurd hok a
  · split
    · exfalso; (first | lia | omega)
    · split
      · rename_i c; simp only [List.headD_cons] at c; exfalso; (first | lia | omega)
      · split
        · rename_i d; simp only [List.headD_cons] at d; exfalso; (first | lia | omega)
        · rfl
def decD (hx tx : Str) : Option (Int × List Int) :=
  match decB tx with
  | none => none
  | some (h, ds) => if h ≠ hx then none else decP ds
section
local macro_rules | `(tactic| walk_at "call ref") => `(tactic| refine Hold.out ?_)
theorem dc_tells {w : World} {dp un : Nat} {gd : Option (List Code)} {fr : List Env} {s : Shared} {Q E : Value → Shared → Prop} {hx tx : Str} {u t : Tok}
    (C : Cx w dp un gd fr s.heap 8) (G0 : AllBare s.gens) (hsz : tx.cps.size ≤ 200) (hd : ∀ h ds, decB tx = some (h, ds) → ds.length ≤ 1000 ∧ ∀ n ∈ ds, 0 ≤ n ∧ n < 32)
    (ret0 : ∀ s' D, Grew s.heap s'.heap → AllBare s'.gens → s'.os = s.os → s'.heap.get? D = some { cls := .type "tuple", data := .seq #[.none, .none] } → s.heap.get? D = none → decD hx tx = none → Q (.ref D) s')
    (ret : ∀ s' D r vs a v n ds, Grew s.heap s'.heap → AllBare s'.gens → s'.os = s.os → s'.heap.get? D = some { cls := .type "tuple", data := .seq #[.int a v, .ref r] } → s.heap.get? D = none →
      s'.heap.get? r = some (listOf vs.toArray n) → s.heap.get? r = none → IntsAre vs ds → decD hx tx = some (a, ds) → Q (.ref D) s') :
    wpAny (model PySem.Challenge.rw_jy0014_01.row.prog w) (mA dp un gd fr) (call (.ref 63) [.str hx u, .str tx t]) Q E s := by
  obtain ⟨P, ps, Z⟩ := id C.tab
  refine' enter [(Str.ofString "addr", .str tx t), (Str.ofString "hrp", .str hx u)] C ?ho ?hcd ?bind ?loc ?c2 ?c3 ?c4 ?c5 ?_
  (((case ho => k_is); (case hcd => k_is); (case bind => exact BindsTo.of_eq rfl); (case loc => exact locs rfl); (case c2 => exact rfl); (case c3 => exact rfl); (case c4 => exact rfl); (case c5 => decide)))
  intro L' h₁ tk₁ base loose mean mg mb B X T F' N'
  (try dsimp only)
  (try k_fold)
  k_steps
  refine Hold.mk ?_
  rename News _ _ _ _ => N1
  rename Fr _ _ _ _ => F1
  with_unfolding_all refine' bd_tells (Cx.push C F1 rfl ?hu) G0 hsz ?_ ?_
  case hu => (first | exact Nat.add_le_add_left (by decide) _ | (dsimp only; (first | lia | omega)))
  · intro s2 D Gr Ga hos hD fresh hdn
    obtain ⟨g, psg, Zg, Cg, F2, Nup, Lup, Fup⟩ := C.grow Z F1 Gr
    have N2 := news_grown F1 (Nup _ N1) Fup hD fresh
    obtain ⟨bs, l3, mg3, mb3, Bg, Xg, Tg, _, _⟩ := Cx.opens Cg
    clear F1 N1 T X B
    (try dsimp only)
    k_steps
    ((repeat (first | k_unfold | dsimp only | dsimp only [LPost])))
    rename Fr _ _ _ _ => F9
    rename News _ _ _ _ => N9
    refine ret0 _ _ (Grew.of Z Zg F9) Ga hos (N9 _ (.head _)).1 (based_fresh_old Zg (N9 _ (.head _)).2.2) ?_
    unfold decD
    rw [hdn]
  · intro s2 D r vs h' u' n ds Gr Ga hos hD fresh hr freshr iv hdn
    obtain ⟨g, psg, Zg, Cg, F2, Nup, Lup, Fup⟩ := C.grow Z F1 Gr
    have N2 := news_grown F1 (news_grown F1 (Nup _ N1) Fup hr freshr) Fup hD fresh
    obtain ⟨bs, l3, mg3, mb3, Bg, Xg, Tg, _, _⟩ := Cx.opens Cg
    clear F1 N1 T X B
    obtain ⟨hl1, hb1⟩ := hd _ _ hdn
    have hvl := iv.length
    (try dsimp only)
    k_steps
    · ((repeat (first | k_unfold | dsimp only | dsimp only [LPost])))
      rename Fr _ _ _ _ => F9
      rename News _ _ _ _ => N9
      refine ret0 _ _ (Grew.of Z Zg F9) Ga hos (N9 _ (.head _)).1 (based_fresh_old Zg (N9 _ (.head _)).2.2) ?_
      rename (h' != hx) = true => hne
      unfold decD
      rw [hdn]
      dsimp only
      rw [if_pos (by simpa using hne)]
    have hde : decD hx tx = decP ds := by
      rename (h' != hx) = false => hne
      unfold decD
      rw [hdn]
      dsimp only
      rw [if_neg (by simpa using hne)]
    refine Hold.mk ?_
    rename News _ _ _ _ => N1
    rename Fr _ _ _ _ => F1
    rename IntsAre _ (List.drop 1 ds) => id1
    have hb2 : ∀ n ∈ ds.drop 1, 0 ≤ n ∧ n < 32 := fun n hn => hb1 n (List.mem_of_mem_drop hn)
    have hl2 : (ds.drop 1).length ≤ 1000 := by rw [List.length_drop]; (first | lia | omega)
    with_unfolding_all refine' cv58_tells (Cx.push Cg F1 rfl ?hu) (by is_list) id1 hl2 hb2 ?_ ?_
    case hu => (first | exact Nat.add_le_add_left (by decide) _ | (dsimp only; (first | lia | omega)))
    · intro hno h2 tk2 st
      have F2 := fr_stays F1 st
      have N2 := news_stays N1 st
      clear F1 N1
      (try dsimp only)
      k_steps
      ((repeat (first | k_unfold | dsimp only | dsimp only [LPost])))
      rename Fr _ _ _ _ => F9
      rename News _ _ _ _ => N9
      refine ret0 _ _ (Grew.of Z Zg F9) Ga hos (N9 _ (.head _)).1 (based_fresh_old Zg (N9 _ (.head _)).2.2) ?_
      rw [hde]
      unfold decP
      rw [if_pos (fun h => h hno)]
    · intro hok h2 tk2 r2 us n2 st hr2 fresh2 iu
      have F2 := fr_stays F1 st
      have N2 := news_new F1 N1 st hr2 fresh2
      have l2 := allNe_of N1 fresh2
      simp only [AllNe, and_true] at l2
      have hul := iu.length
      have hcl : (cv 5 8 (ds.drop 1)).2.2.length ≤ 1000 := by
        have := cv_count 5 8 (ds.drop 1)
        (first | lia | omega)
      clear F1 N1
      rcases ds with _ | ⟨d0, dt⟩
      · have hz : (cv 5 8 (List.drop 1 ([] : List Int))).2.2.length = 0 := rfl
        (try dsimp only)
        k_steps
        ((repeat (first | k_unfold | dsimp only | dsimp only [LPost])))
        rename Fr _ _ _ _ => F9
        rename News _ _ _ _ => N9
        refine ret0 _ _ (Grew.of Z Zg F9) Ga hos (N9 _ (.head _)).1 (based_fresh_old Zg (N9 _ (.head _)).2.2) ?_
        rw [hde]
        rfl
      · obtain ⟨vt, t0, rfl, iv'⟩ : ∃ vt t0, vs = Value.int d0 t0 :: vt ∧ IntsAre vt dt := by
          cases iv with
          | cons _ t0 iv' => exact ⟨_, t0, rfl, iv'⟩
        have hd0 : (d0 :: dt).getD (Int.toNat 0) 0 = d0 := rfl
        (try dsimp only)
        k_steps
        all_goals (
          ((repeat (first | k_unfold | dsimp only | dsimp only [LPost])))
          rename Fr _ _ _ _ => F9
          rename News _ _ _ _ => N9
          try simp only [hd0] at *)
        all_goals try (
          refine ret0 _ _ (Grew.of Z Zg F9) Ga hos (N9 _ (.head _)).1 (based_fresh_old Zg (N9 _ (.head _)).2.2) ?_
          rw [hde]
          exact decP_none hok (by (first | lia | omega))
          done)
        all_goals (
          refine ret _ _ _ _ _ _ _ _ (Grew.of Z Zg F9) Ga hos (N9 _ (.head _)).1 (based_fresh_old Zg (N9 _ (.head _)).2.2) (N9 _ (.tail _ (.head _))).1 (based_fresh_old Zg (N9 _ (.tail _ (.head _))).2.2) iu ?_
          rw [hde]
          exact decP_some hok (by (first | lia | omega)))
end
end Mine
end
section
open PySem PySem.W PySem.Calls PyProof.Rows
set_option maxHeartbeats 1000000
namespace Mine
section
local macro_rules | `(tactic| walk_at "binaryOp Add ref ref") => `(tactic| refine HoldN.out (n := 4) ?_)
local macro_rules | `(tactic| walk_at "call ref") => `(tactic| refine Hold.out ?_)
theorem cv_small_go (f t : Nat) : ∀ (l : List Int) (st : Int × Nat × List Int), (∀ n ∈ st.2.2, 0 ≤ n ∧ n < 2 ^ t) → ∀ n ∈ (l.foldl (cvStep f t) st).2.2, 0 ≤ n ∧ n < 2 ^ t
  | [], _, h => h
  | v :: r, st, h => cv_small_go f t r (cvStep f t st v) (fun n hn => by
      rcases List.mem_append.mp hn with q | q
      · exact h n q
      · obtain ⟨j, _, rfl⟩ := List.mem_map.mp q
        exact mask_bound _ _)
theorem cv_small (f t : Nat) (pre : List Int) : ∀ n ∈ (cv f t pre).2.2, 0 ≤ n ∧ n < 2 ^ t :=
  cv_small_go f t pre (0, 0, []) (fun n hn => by cases hn)
theorem cv85_length (ns : List Int) : (cv85 ns).length ≤ 2 * ns.length + 1 := by
  have h := cv_count 8 5 ns
  unfold cv85
  rw [List.length_append]
  split
  · simp only [List.length_nil]; (first | lia | omega)
  · simp only [List.length_singleton]; (first | lia | omega)
theorem cv85_small (ns : List Int) : ∀ n ∈ cv85 ns, 0 ≤ n ∧ n < 32 := by
  intro n hn
  unfold cv85 at hn
  rcases List.mem_append.mp hn with h | h
  · exact cv_small 8 5 ns n h
  · split at h
    · cases h
    · rw [List.mem_singleton.mp h]; exact bitAnd_31 _
theorem encS_size (hx : Str) (ns : List Int) : (encS hx ns).cps.size = hx.cps.size + ns.length + 7 := by
  unfold encS
  simp only [Str.cps_append, Array.size_append, List.size_toArray, List.length_map, List.length_append, chkI_length]
  rw [show (Str.ofString "1").cps.size = 1 by decide +kernel]
  (first | lia | omega)
theorem ed_tells {w : World} {dp un : Nat} {gd : Option (List Code)} {fr : List Env} {s : Shared} {Q E : Value → Shared → Prop} {hx : Str} {u tv : Tok} {v : Int} {l : Addr} {vs : List Value} {ns : List Int}
    (C : Cx w dp un gd fr s.heap 9) (G0 : AllBare s.gens) (hsz : hx.cps.size ≤ 20) (hl : s.heap.IsList l vs.toArray) (hi : IntsAre vs ns) (hlen : ns.length ≤ 60) (hv : 0 ≤ v ∧ v < 32)
    (hsm : ∀ tx h ds, decB tx = some (h, ds) → tx.cps.size ≤ 200 → ds.length ≤ 1000 ∧ ∀ n ∈ ds, 0 ≤ n ∧ n < 32)
    (ret0 : ∀ s', Grew s.heap s'.heap → AllBare s'.gens → s'.os = s.os → ((∃ n ∈ ns, ¬ (0 ≤ n ∧ n < 256)) ∨ decD hx (encS hx (v :: cv85 ns)) = none) → Q .none s')
    (ret : ∀ s' t', Grew s.heap s'.heap → AllBare s'.gens → s'.os = s.os → (∀ n ∈ ns, 0 ≤ n ∧ n < 256) → (∃ r, decD hx (encS hx (v :: cv85 ns)) = some r) → Q (.str (encS hx (v :: cv85 ns)) t') s') :
    wpAny (model PySem.Challenge.rw_jy0014_01.row.prog w) (mA dp un gd fr) (call (.ref 70) [.str hx u, .int v tv, .ref l]) Q E s := by
  obtain ⟨P, ps, Z⟩ := id C.tab
  refine' enter [(Str.ofString "witprog", .ref l), (Str.ofString "witver", .int v tv), (Str.ofString "hrp", .str hx u)] C ?ho ?hcd ?bind ?loc ?c2 ?c3 ?c4 ?c5 ?_
  (((case ho => k_is); (case hcd => k_is); (case bind => exact BindsTo.of_eq rfl); (case loc => exact locs rfl); (case c2 => exact rfl); (case c3 => exact rfl); (case c4 => exact rfl); (case c5 => decide)))
  intro L' h₁ tk₁ base loose mean mg mb B X T F' N'
  (try dsimp only)
  (try k_fold)
  (repeat' (first | (with_reducible refine HoldN.mk (n := 4) ?_; ((with_unfolding_all refine' add_J ?F ?N ?a ?b ?z ?_; (case F => k_asm); (case N => k_asm); (case a => is_list); (case b => is_list); (case z => (((rw [PySem.sizeLine_eq]; (try simp only [List.length_append, List.length_cons, List.length_nil]); (try kcf_lens); (first | lia | omega))))); k_whole); intro D' h' F' N' l1; (try k_lt l1); (try k_sweep))) | (k_unfold; (try dsimp only)) | (k_end; kc_close) | walk1 | (dsimp only; walk1) | (leave1; walk_say "STEP leave1"; (try dsimp only)) | fail "no step"))
  refine Hold.mk ?_
  rename News _ _ _ _ => N1
  rename Fr _ _ _ _ => F1
  with_unfolding_all refine' cv85_tells (Cx.push C F1 rfl ?hu) (by is_list) hi (Nat.le_trans hlen (by decide)) ?_ ?_
  case hu => (first | exact Nat.add_le_add_left (by decide) _ | (dsimp only; (first | lia | omega)))
  · intro hno h2 tk2 st
    have F2 := fr_stays F1 st
    have N2 := news_stays N1 st
    clear F1 N1
    (try dsimp only)
    (repeat' (first | (with_reducible refine HoldN.mk (n := 4) ?_; ((with_unfolding_all refine' add_J ?F ?N ?a ?b ?z ?_; (case F => k_asm); (case N => k_asm); (case a => is_list); (case b => is_list); (case z => (((rw [PySem.sizeLine_eq]; (try simp only [List.length_append, List.length_cons, List.length_nil]); (try kcf_lens); (first | lia | omega))))); k_whole); intro D' h' F' N' l1; (try k_lt l1); (try k_sweep))) | (k_unfold; (try dsimp only)) | (k_end; kc_close) | walk1 | (dsimp only; walk1) | (leave1; walk_say "STEP leave1"; (try dsimp only)) | fail "no step"))
    ((repeat (first | k_unfold | dsimp only | dsimp only [LPost])))
    rename Fr _ _ _ _ => F9
    exact ret0 _ (Grew.of Z Z F9) G0 rfl (.inl hno)
  · intro hok h2 tk2 r2 us n2 st hr2 fresh2 iu
    have F2 := fr_stays F1 st
    have N2 := news_new F1 N1 st hr2 fresh2
    have l2 := allNe_of N1 fresh2
    simp only [AllNe, and_true] at l2
    have hul := iu.length
    have hcl := cv85_length ns
    clear F1 N1
    (try dsimp only)
    (repeat' (first | (with_reducible refine HoldN.mk (n := 4) ?_; ((with_unfolding_all refine' add_J ?F ?N ?a ?b ?z ?_; (case F => k_asm); (case N => k_asm); (case a => is_list); (case b => is_list); (case z => (((rw [PySem.sizeLine_eq]; (try simp only [List.length_append, List.length_cons, List.length_nil]); (try kcf_lens); (first | lia | omega))))); k_whole); intro D' h' F' N' l1; (try k_lt l1); (try k_sweep))) | (k_unfold; (try dsimp only)) | (k_end; kc_close) | walk1 | (dsimp only; walk1) | (leave1; walk_say "STEP leave1"; (try dsimp only)) | fail "no step"))
    refine Hold.mk ?_
    rename News _ _ _ _ => N1
    rename Fr _ _ _ _ => F1
    have ic : IntsAre ([Value.int v tv] ++ us) (v :: cv85 ns) := .cons _ _ iu
    have hb2 : ∀ n ∈ v :: cv85 ns, 0 ≤ n ∧ n < 32 := fun n hn => by
      rcases List.mem_cons.mp hn with rfl | hn
      · exact hv
      · exact cv85_small _ n hn
    with_unfolding_all refine' enc_tells (Cx.push C F1 rfl ?hu) (Nat.le_trans hsz (by decide)) (by is_list) ic (by rw [List.length_cons]; (first | lia | omega)) hb2 ?_
    case hu => (first | exact Nat.add_le_add_left (by decide) _ | (dsimp only; (first | lia | omega)))
    intro h3 tk3 t3 st3
    have F3 := fr_stays F1 st3
    have N3 := news_stays N1 st3
    have hes := encS_size hx (v :: cv85 ns)
    rw [List.length_cons] at hes
    generalize hE : encS hx (v :: cv85 ns) = tx at *
    clear F1 N1
    (try dsimp only)
    (repeat' (first | (with_reducible refine HoldN.mk (n := 4) ?_; ((with_unfolding_all refine' add_J ?F ?N ?a ?b ?z ?_; (case F => k_asm); (case N => k_asm); (case a => is_list); (case b => is_list); (case z => (((rw [PySem.sizeLine_eq]; (try simp only [List.length_append, List.length_cons, List.length_nil]); (try kcf_lens); (first | lia | omega))))); k_whole); intro D' h' F' N' l1; (try k_lt l1); (try k_sweep))) | (k_unfold; (try dsimp only)) | (k_end; kc_close) | walk1 | (dsimp only; walk1) | (leave1; walk_say "STEP leave1"; (try dsimp only)) | fail "no step"))
    refine Hold.mk ?_
    rename News _ _ _ _ => N1
    rename Fr _ _ _ _ => F1
    with_unfolding_all refine' dc_tells (Cx.push C F1 rfl ?hu) G0 (by (first | lia | omega)) (fun h ds e => hsm _ _ _ e (by (first | lia | omega))) ?_ ?_
    case hu => (first | exact Nat.add_le_add_left (by decide) _ | (dsimp only; (first | lia | omega)))
    · intro s2 D Gr Ga hos hD fresh hdn
      obtain ⟨g, psg, Zg, Cg, F2, Nup, Lup, Fup⟩ := C.grow Z F1 Gr
      have N2 := news_grown F1 (Nup _ N1) Fup hD fresh
      obtain ⟨bs, l3, mg3, mb3, Bg, Xg, Tg, _, _⟩ := Cx.opens Cg
      clear F1 N1 T X B
      (try dsimp only)
      (repeat' (first | (with_reducible refine HoldN.mk (n := 4) ?_; ((with_unfolding_all refine' add_J ?F ?N ?a ?b ?z ?_; (case F => k_asm); (case N => k_asm); (case a => is_list); (case b => is_list); (case z => (((rw [PySem.sizeLine_eq]; (try simp only [List.length_append, List.length_cons, List.length_nil]); (try kcf_lens); (first | lia | omega))))); k_whole); intro D' h' F' N' l1; (try k_lt l1); (try k_sweep))) | (k_unfold; (try dsimp only)) | (k_end; kc_close) | walk1 | (dsimp only; walk1) | (leave1; walk_say "STEP leave1"; (try dsimp only)) | fail "no step"))
      ((repeat (first | k_unfold | dsimp only | dsimp only [LPost])))
      rename Fr _ _ _ _ => F9
      exact ret0 _ (Grew.of Z Zg F9) Ga hos (.inr hdn)
    · intro s2 D r vs' a va n' ds Gr Ga hos hD fresh hr freshr iv hdn
      obtain ⟨g, psg, Zg, Cg, F2, Nup, Lup, Fup⟩ := C.grow Z F1 Gr
      have N2 := news_grown F1 (news_grown F1 (Nup _ N1) Fup hr freshr) Fup hD fresh
      obtain ⟨bs, l3, mg3, mb3, Bg, Xg, Tg, _, _⟩ := Cx.opens Cg
      clear F1 N1 T X B
      (try dsimp only)
      (repeat' (first | (with_reducible refine HoldN.mk (n := 4) ?_; ((with_unfolding_all refine' add_J ?F ?N ?a ?b ?z ?_; (case F => k_asm); (case N => k_asm); (case a => is_list); (case b => is_list); (case z => (((rw [PySem.sizeLine_eq]; (try simp only [List.length_append, List.length_cons, List.length_nil]); (try kcf_lens); (first | lia | omega))))); k_whole); intro D' h' F' N' l1; (try k_lt l1); (try k_sweep))) | (k_unfold; (try dsimp only)) | (k_end; kc_close) | walk1 | (dsimp only; walk1) | (leave1; walk_say "STEP leave1"; (try dsimp only)) | fail "no step"))
      ((repeat (first | k_unfold | dsimp only | dsimp only [LPost])))
      rename Fr _ _ _ _ => F9
      exact ret _ _ (Grew.of Z Zg F9) Ga hos hok ⟨_, hdn⟩
end
end Mine
end
section
open PySem PySem.W PySem.Calls PyProof.Rows
namespace Mine
/-- a list comprehension of two clauses -/
abbrev two (elt it1 it2 : Expr) (x y : Str) (px py : Pos) (scope : Scope) (pos : Pos) : Expr := .ListComp elt [⟨.Name x px, it1, [], 0⟩, ⟨.Name y py, it2, [], 0⟩] scope pos
theorem two_turn0 (elt it1 it2 : Expr) (x y : Str) (px py : Pos) (scope : Scope) (pos : Pos) (it acc : Value) (env : Env) :
    compTurn (two elt it1 it2 x y px py scope pos) 0 it acc env = (standAt it1.pos >>= fun _ => pyNext it >>= fun r => match r with
      | none => pure (.done .next)
      | some v => letOwnedTupleGo (.Name x px) it v >>= fun _ => assign (.Name x px) env v >>= fun _ =>
        eval it2 env >>= fun xv => standAt it2.pos >>= fun _ => foldedSetIterable it2 env xv >>= fun xv' => holding [xv'] (pyIter xv') >>= fun i2 =>
          runOwn (.compStart (two elt it1 it2 x y px py scope pos) 1 i2 acc env) env >>= fun _ =>
          again (.compLoop (two elt it1 it2 x y px py scope pos) 0 it acc env)) := by rfl
theorem two_turn1 (elt it1 it2 : Expr) (x y : Str) (px py : Pos) (scope : Scope) (pos : Pos) (it acc : Value) (env : Env) :
    compTurn (two elt it1 it2 x y px py scope pos) 1 it acc env = (standAt it2.pos >>= fun _ => pyNext it >>= fun r => match r with
      | none => pure (.done .next)
      | some v => letOwnedTupleGo (.Name y py) it v >>= fun _ => assign (.Name y py) env v >>= fun _ =>
        (eval elt env >>= fun x => call (.builtin "list.append") [acc, x] >>= fun _ => pure ()) >>= fun _ =>
          again (.compLoop (two elt it1 it2 x y px py scope pos) 1 it acc env)) := by rfl
section
variable {prog : Program} {w : World} {A : Around} {R : Result → Shared → Prop} {s : Shared}
theorem two_start1 {elt it1 it2 : Expr} {x y : Str} {px py : Pos} {scope : Scope} {pos : Pos} {it acc : Value} {env : Env}
    (h0 : codeAny (model prog w) A (.compLoop (two elt it1 it2 x y px py scope pos) 1 it acc env) R s)
    (h : wpAny (model prog w) A (pyIter it) (fun it' s' => codeAny (model prog w) A (.compLoop (two elt it1 it2 x y px py scope pos) 1 it' acc env) R s')
      (notedBy (model prog w) A env fun x s' => R (.error x) s') s) :
    codeAny (model prog w) A (.compStart (two elt it1 it2 x y px py scope pos) 1 it acc env) R s := by
  refine codeAny_of_tree ?_
  show wpAny _ _ ((compStart (two elt it1 it2 x y px py scope pos) 1 it acc env).onRaise (fun x => do noteFrame x env; standAt theWindowsPlace)) _ _ s
  refine wpAny_notedAt ?_
  unfold compStart
  show wpAny _ _ (ask >>= _) _ _ s
  refine wpAny_bind (wpAny_askSetting (wpAny_ite ?_))
  split
  · first
      | exact wpAny_bind (wpAny_pure (wpAny_pure (And.intro rfl h0)))
      | exact wpAny_pure (And.intro rfl h0)
  · first
      | exact wpAny_bind (wpAny_rule (wpAny_bind (wpAny_standAt (wpAny_bind (wpAny_mono h (fun it' s' h' => wpAny_pure (And.intro rfl h')) fun _ _ x => x)))))
      | (refine wpAny_bind (wpAny_rule ?_); show wpAny _ _ (standAt it2.pos >>= _) _ _ s; exact wpAny_bind (wpAny_standAt (wpAny_bind (wpAny_mono h (fun it' s' h' => wpAny_pure (And.intro rfl h')) fun _ _ x => x))))
end
section
variable {prog : Program} {w : World} {A : Around} {s : Shared} {h₀ : Heap} {L : Addr} {m : Str → Option Value} {env : Env} {elt it1 it2 : Expr} {x y : Str} {px py pos : Pos} {scope : Scope} {cl : List (Str × Addr)}
theorem lst_push (ys : List Value) (y : Value) : ({ cls := .type "list", data := .seq (ys.toArray.push y) (ys.length + 1) } : Obj) = LCg.lst (ys ++ [y]) := LCg.lst_snoc ys y
inductive TwoIn (h₀ : Heap) (L I I2 C D : Addr) (c : Nat) (m : Str → Option Value) (x : Str) (v : Value) (oI : Obj) (ys : List Value) (news : List (Addr × Obj)) (R : Nat → Value → Prop) (s : Shared) (k : Nat) (s' : Shared) : Prop
  | mk (h' : Heap) (tk i : Nat) (zs : List Value) (oC : Obj) (m' : Str → Option Value) (q0 : s' = { s with heap := h', toks := tk }) (q1 : i ≤ c) (q2 : k = c + 1 - i) (q3 : zs.length = i) (q4 : ∀ (j : Nat) z, zs[j]? = some z → R j z) (q5 : IsRangeIter h' I2 ((0 : Int) + (i : Nat) * 1) ((c : Int) - (i : Nat)) 1) (q6 : Fr h₀ L h' m) (q7 : LCg.NsObj oC m') (q8 : m' x = some v)
      (q9 : News h₀ L h' ((I, oI) :: (C, oC) :: (D, LCg.lst (ys ++ zs)) :: news)) : TwoIn h₀ L I I2 C D c m x v oI ys news R s k s'
theorem two_inner {I C D I2 : Addr} {oI oC₀ : Obj} {ys : List Value} {v : Value} {news : List (Addr × Obj)} {c : Nat} {h : Heap} {tk : Nat} {m₂ : Str → Option Value} {RR : Result → Shared → Prop} (R : Nat → Value → Prop)
    (hh : A.handled = none) (hy : scope.names.lookup y = some .local) (hkind : scope.kind = .function) (hxy : x ≠ y) (hsz : ys.length + c ≤ sizeLine)
    (ne : I ≠ C ∧ I ≠ D ∧ C ≠ D ∧ I2 ≠ I ∧ I2 ≠ C ∧ I2 ≠ D ∧ I2 ≠ L ∧ L ≠ C ∧ L ≠ D) (off : ∀ p ∈ news, p.1 ≠ I2 ∧ p.1 ≠ C ∧ p.1 ≠ D) (n0 : h₀.get? I2 = none) (n1 : h₀.get? C = none) (n2 : h₀.get? D = none)
    (turn : ∀ j uj oC m₂ zs oI2 h tk (E' : Value → Shared → Prop), j < c → LCg.NsObj oC m₂ → m₂ x = some v → m₂ y = some (.int (j : Nat) uj) → Fr h₀ L h m → News h₀ L h ((I2, oI2) :: (I, oI) :: (C, oC) :: (D, LCg.lst zs) :: news) →
      wpAny (model prog w) A (eval elt (compEnvC scope cl C env)) (EEnd h₀ L m { s with heap := h, toks := tk } ((I2, oI2) :: (I, oI) :: (C, oC) :: (D, LCg.lst zs) :: news) (R j)) E' { s with heap := h, toks := tk })
    (st : IsRangeIter h I2 ((0 : Int) + ((0 : Nat) : Int) * 1) ((c : Int) - ((0 : Nat) : Int)) 1) (F : Fr h₀ L h m) (hC : LCg.NsObj oC₀ m₂) (hx : m₂ x = some v) (N : News h₀ L h ((I, oI) :: (C, oC₀) :: (D, LCg.lst ys) :: news))
    (fin : ∀ h' tk' oC' m' zs, LCg.NsObj oC' m' → m' x = some v → Fr h₀ L h' m → News h₀ L h' ((I, oI) :: (C, oC') :: (D, LCg.lst (ys ++ zs)) :: news) → zs.length = c → (∀ (j : Nat) z, zs[j]? = some z → R j z) → RR (.ok .next) { s with heap := h', toks := tk' }) :
    codeAny (model prog w) A (.compLoop (two elt it1 it2 x y px py scope pos) 1 (.ref I2) (.ref D) (compEnvC scope cl C env)) RR { s with heap := h, toks := tk } := by
  obtain ⟨e1, e2, e3, e4, e5, e6, e7, e8, e9⟩ := ne
  have W := LCg.range_walks (prog := prog) (w := w) (I := I2) hh 0 c
  refine codeAny_loop rfl
    (TwoIn h₀ L I I2 C D c m x v oI ys news R s) ?_ (c + 1)
    ⟨h, tk, 0, [], oC₀, m₂, rfl, Nat.zero_le _, rfl, rfl, (fun j z hz => by simp at hz), st, F, hC, hx, by rw [List.append_nil]; exact N⟩
  rintro k s' ⟨h', tk', i, zs, oC, m', rfl, hi, rfl, hzl, hz, hst, F', hC', hx', N'⟩
  show wpAny _ A ((compTurn (two elt it1 it2 x y px py scope pos) 1 (.ref I2) (.ref D) (compEnvC scope cl C env)).onRaise (fun x => do noteFrame x (compEnvC scope cl C env); theTreesLotGoes x)) _ _ _
  refine wpAny_noted ?_
  rw [two_turn1]
  refine wpAny_bind (wpAny_standAt (wpAny_bind ?_))
  by_cases hlt : i < c
  · refine W.item i _ _ _ hlt hst fun v' h₂ tk₂ hPv hst₂ hk₂ => ?_
    obtain ⟨uj, rfl⟩ := hPv
    refine wpAny_bind (wpAny_of_eq rfl ?_)
    have kN : ∀ p ∈ (I, oI) :: (C, oC) :: (D, LCg.lst (ys ++ zs)) :: news, p.1 ≠ I2 := fun p hp => by
      rcases List.mem_cons.mp hp with rfl | hp
      · exact Ne.symm e4
      rcases List.mem_cons.mp hp with rfl | hp
      · exact Ne.symm e5
      rcases List.mem_cons.mp hp with rfl | hp
      · exact Ne.symm e6
      exact (off p hp).1
    have F₂ := LCg.fr_but F' hk₂ (Ne.symm e7) n0
    have N₂ := LCg.news_but N' hk₂ kN
    have nsC := hC'.ns (N₂ (C, oC) (.tail _ (.head _))).1
    refine wpAny_bind (wpAny_assign_Name (wpAny_storeName_local (lookup_relabel_local hy) nsC (fun h₃ hn₃ hs₃ => ?_) (by simp [compEnvC, relabel, hkind])))
    obtain ⟨oC3, heC, hoC⟩ := LCg.ns_obj hn₃
    have hst₃ : IsRangeIter h₃ I2 ((0 : Int) + ((i + 1 : Nat) : Int) * 1) ((c : Int) - ((i + 1 : Nat) : Int)) 1 := hs₃.extBut _ _ e5 hst₂
    have F₃ : Fr h₀ L h₃ m := F₂.change hs₃ (Ne.symm e8) n1
    have N₃ : News h₀ L h₃ ((I, oI) :: (C, oC3) :: (D, LCg.lst (ys ++ zs)) :: news) := fun p hp => by
      rcases List.mem_cons.mp hp with rfl | hp
      · have z := N₂ (I, oI) (.head _)
        exact ⟨hs₃.extBut _ _ e1 z.1, z.2⟩
      rcases List.mem_cons.mp hp with rfl | hp
      · exact ⟨heC, Ne.symm e8, n1⟩
      have z := N₂ p (.tail _ (.tail _ hp))
      refine ⟨hs₃.extBut _ _ ?_ z.1, z.2⟩
      rcases List.mem_cons.mp hp with rfl | hp
      · exact Ne.symm e3
      · exact (off p hp).2.1
    have N₃' : News h₀ L h₃ ((I2, _) :: (I, oI) :: (C, oC3) :: (D, LCg.lst (ys ++ zs)) :: news) := fun p hp => by
      rcases List.mem_cons.mp hp with rfl | hp
      · exact ⟨hst₃, e7, n0⟩
      · exact N₃ p hp
    refine wpAny_bind (wpAny_bind (wpAny_mono (turn i uj oC3 _ (ys ++ zs) _ h₃ _ _ hlt hoC (by rw [if_neg hxy]; exact hx') (by rw [if_pos rfl, Int.zero_add]) F₃ N₃') (fun y' s₄ h₄ => ?_) fun _ _ e => e))
    obtain ⟨h₄, tk₄, rfl, F₄, N₄, hy'⟩ := h₄
    have zD := (N₄ (D, LCg.lst (ys ++ zs)) (.tail _ (.tail _ (.tail _ (.head _))))).1
    refine wpAny_bind (append_at (hsz := by show (ys ++ zs).toArray.size ≤ sizeLine; rw [List.size_toArray, List.length_append, hzl]; (first | lia | omega)) zD fun h₅ hs₅ hD₅ => ?_)
    refine wpAny_pure (wpAny_pure ⟨rfl, c + 1 - (i + 1), by (first | lia | omega), h₅, tk₄, i + 1, zs ++ [y'], oC3, _, rfl, hlt, rfl, by rw [List.length_append, List.length_singleton, hzl], ?_, hs₅.extBut _ _ e6 (N₄ _ (.head _)).1, F₄.change hs₅ (Ne.symm e9) n2, hoC, (by rw [if_neg hxy]; exact hx'), fun p hp => ?_⟩)
    · intro j z hjz
      rcases Nat.lt_trichotomy j zs.length with q | q | q
      · rw [List.getElem?_append_left q] at hjz; exact hz j z hjz
      · subst q
        rw [List.getElem?_append_right (Nat.le_refl _), Nat.sub_self] at hjz
        cases hjz
        exact hzl ▸ hy'
      · have : (zs ++ [y'])[j]? = none := List.getElem?_eq_none (by rw [List.length_append, List.length_singleton]; (first | lia | omega))
        rw [this] at hjz; cases hjz
    · rcases List.mem_cons.mp hp with rfl | hp
      · have z := N₄ (I, oI) (.tail _ (.head _))
        exact ⟨hs₅.extBut _ _ e2 z.1, z.2⟩
      rcases List.mem_cons.mp hp with rfl | hp
      · have z := N₄ (C, oC3) (.tail _ (.tail _ (.head _)))
        exact ⟨hs₅.extBut _ _ e3 z.1, z.2⟩
      rcases List.mem_cons.mp hp with rfl | hp
      · refine ⟨?_, Ne.symm e9, n2⟩
        rw [← List.append_assoc]
        exact hD₅.trans (congrArg some (LCg.lst_snoc (ys ++ zs) y'))
      have z := N₄ p (.tail _ (.tail _ (.tail _ (.tail _ hp))))
      exact ⟨hs₅.extBut _ _ (off p hp).2.2 z.1, z.2⟩
  · obtain rfl : i = c := Nat.le_antisymm hi (Nat.not_lt.mp hlt)
    refine W.done _ _ _ hst fun h₂ tk₂ hk₂ => ?_
    refine wpAny_pure (fin h₂ tk₂ oC m' zs hC' hx' (LCg.fr_but F' hk₂ (Ne.symm e7) n0) (LCg.news_but N' hk₂ fun p hp => ?_) hzl hz)
    rcases List.mem_cons.mp hp with rfl | hp
    · exact Ne.symm e4
    rcases List.mem_cons.mp hp with rfl | hp
    · exact Ne.symm e5
    rcases List.mem_cons.mp hp with rfl | hp
    · exact Ne.symm e6
    exact (off p hp).1
/-- what a list comprehension of two clauses owes: a list of ints, then range(c) -/
inductive TwoSrc (prog : Program) (w : World) (A : Around) (h₀ : Heap) (L : Addr) (m : Str → Option Value) (env : Env) (elt it2 : Expr) (x y : Str) (scope : Scope) (cl : List (Str × Addr)) (Q : Value → Shared → Prop) (xv : Value) (s₁ : Shared) : Prop
  | mk (ax : Addr) (vs : List Value) (ns : List Int) (news : List (Addr × Obj)) (c : Nat) (R : Nat → Nat → Value → Prop) (q0 : xv = .ref ax) (q1 : A.handled = none) (q2 : Fr h₀ L s₁.heap m) (q3 : News h₀ L s₁.heap news) (q4 : h₀.IsList ax vs.toArray) (q5 : IntsAre vs ns) (q6 : vs.length * c ≤ sizeLine) (q7 : vs.length ≤ sizeLine) (q8 : Builtin.Range.small 0 c 1 = true) (q9 : Builtin.Range.rangeSize 0 c 1 = (c : Int)) (q10 : (∀ I oI C oC D ys m₂ n u h tk (E' : Value → Shared → Prop), LCg.NsObj oC m₂ → m₂ x = some (.int n u) → Fr h₀ L h m → News h₀ L h ((I, oI) :: (C, oC) :: (D, LCg.lst ys) :: news) →
      wpAny (model prog w) A (eval it2 (compEnvC scope cl C env)) (fun rv s' => ∃ r h' tk' t1 t2 t3, rv = .ref r ∧ s' = { s₁ with heap := h', toks := tk' } ∧ Fr h₀ L h' m ∧ News h₀ L h' ((I, oI) :: (C, oC) :: (D, LCg.lst ys) :: news) ∧ IsRange h' r 0 c 1 t1 t2 t3) E' { s₁ with heap := h, toks := tk })) (q11 : (∀ i n u j uj I oI C oC D zs I2 oI2 m₂ h tk (E' : Value → Shared → Prop), ns[i]? = some n → j < c → LCg.NsObj oC m₂ → m₂ x = some (.int n u) → m₂ y = some (.int (j : Nat) uj) → Fr h₀ L h m → News h₀ L h ((I2, oI2) :: (I, oI) :: (C, oC) :: (D, LCg.lst zs) :: news) →
      wpAny (model prog w) A (eval elt (compEnvC scope cl C env)) (EEnd h₀ L m { s₁ with heap := h, toks := tk } ((I2, oI2) :: (I, oI) :: (C, oC) :: (D, LCg.lst zs) :: news) (R i j)) E' { s₁ with heap := h, toks := tk })) (q12 : (∀ D h tk ys, Fr h₀ L h m → News h₀ L h ((D, LCg.lst ys) :: news) → (∀ p ∈ news, p.1 ≠ D) → ys.length = ns.length * c → (∀ i j z, j < c → ys[i * c + j]? = some z → R i j z) → Q (.ref D) { s₁ with heap := h, toks := tk })) : TwoSrc prog w A h₀ L m env elt it2 x y scope cl Q xv s₁
theorem eval_two (pos : Pos) : eval (two elt it1 it2 x y px py scope pos) env = comprehension (two elt it1 it2 x y px py scope pos) scope env it1.pos (newList []) false (eval it1 env) := by rfl
inductive TwoInv (h₀ : Heap) (L I C D ax : Addr) (m : Str → Option Value) (news : List (Addr × Obj)) (s₁ : Shared) (vs : List Value) (c : Nat) (R : Nat → Nat → Value → Prop) (k : Nat) (s' : Shared) : Prop
  | mk (h' : Heap) (tk i : Nat) (ys : List Value) (m' : Str → Option Value) (q0 : s' = { s₁ with heap := h', toks := tk }) (q1 : i ≤ vs.length) (q2 : k = vs.length + 1 - i) (q3 : ys.length = i * c) (q4 : (∀ (i' j : Nat) z, j < c → ys[i' * c + j]? = some z → R i' j z)) (q5 : (h'.IsListIter I ax i ∧ h'.IsList ax vs.toArray)) (q6 : Fr h₀ L h' m) (q7 : h'.Ns C m') (q8 : News h₀ L h' ((D, LCg.lst ys) :: news)) : TwoInv h₀ L I C D ax m news s₁ vs c R k s'
theorem rows_snoc {R : Nat → Nat → Value → Prop} {c i : Nat} {ys zs : List Value} (hl : ys.length = i * c) (hz : zs.length = c) (hR : ∀ (i' j : Nat) z, j < c → ys[i' * c + j]? = some z → R i' j z) (h2 : ∀ (j : Nat) z, zs[j]? = some z → R i j z) :
    ∀ (i' j : Nat) z, j < c → (ys ++ zs)[i' * c + j]? = some z → R i' j z := by
  intro i' j z hj e
  rcases Nat.lt_trichotomy i' i with q | q | q
  · have lt : i' * c + j < ys.length := by
      rw [hl]
      have : (i' + 1) * c ≤ i * c := Nat.mul_le_mul_right c q
      rw [Nat.add_mul, Nat.one_mul] at this
      (first | lia | omega)
    rw [List.getElem?_append_left lt] at e
    exact hR i' j z hj e
  · subst q
    rw [List.getElem?_append_right (by (first | lia | omega)), hl] at e
    rw [Nat.add_sub_cancel_left] at e
    exact h2 j z e
  · have : (i + 1) * c ≤ i' * c := Nat.mul_le_mul_right c q
    rw [Nat.add_mul, Nat.one_mul] at this
    rw [List.getElem?_eq_none (by rw [List.length_append, hl, hz]; (first | lia | omega))] at e
    cases e
theorem adne {a b : Addr} (h : @Ne Nat a b) : a ≠ b := h
theorem ListComp_2 {E : Value → Shared → Prop} {Q : Value → Shared → Prop} (_F : Fr h₀ L s.heap m)
    (hclos : closureFor scope env = pure cl) (hcell : ∀ y ∈ scope.names, y.2 ≠ .cell) (hkind : scope.kind = .function)
    (hnames : ∀ y ∈ scope.names, y.2 = .local → scope.names.lookup y.1 = some .local) (hx : scope.names.lookup x = some .local) (hy : scope.names.lookup y = some .local) (hxy : x ≠ y)
    (h : wpAny (model prog w) A (eval it1 env) (TwoSrc prog w A h₀ L m env elt it2 x y scope cl Q) E s)
    (hs : ∀ x, foldedSetIterable it1 env x = pure x) (hs2 : ∀ C x, foldedSetIterable it2 (compEnvC scope cl C env) x = pure x) :
    wpAny (model prog w) A (eval (two elt it1 it2 x y px py scope pos) env) Q E s := by
  rw [eval_two]
  refine wpAny_comprehension_free (use := none) rfl hs hclos hkind hnames (wpAny_mono h (fun xv s₁ h₁ => ?_) fun _ _ e => e)
  obtain ⟨ax, vs, ns, news, c, R, rfl, hh, F, N, hl₀, iv, hsz, hsz1, hsm, hrs, w2, we, fin⟩ := h₁
  have hl : s₁.heap.IsList ax vs.toArray := by obtain ⟨o, e, r⟩ := hl₀; exact ⟨o, F.keep _ _ e, r⟩
  have hlt : ax < s₁.heap.objs.size := by obtain ⟨_, e, _⟩ := hl; exact Heap.lt_size e
  refine wpAny_pyIter_list hl ?_
  have hIdef : ∃ I, I = s₁.heap.objs.size := ⟨_, rfl⟩
  obtain ⟨I, hI⟩ := hIdef
  generalize hH1 : s₁.heap.push { cls := .type "list_iterator", data := .fields #[.ref ax, .int 0 0] } = H1
  have hsz1' : H1.objs.size = I + 1 := by rw [← hH1, Heap.size_push, hI]
  have k1 : ∀ b o, s₁.heap.get? b = some o → H1.get? b = some o := fun b o e => by rw [← hH1]; exact Heap.get?_push_of_some _ e
  have hit : H1.IsListIter I ax 0 := by rw [← hH1, hI]; exact ⟨_, Heap.get?_push_size _ rfl, rfl, rfl⟩
  rw [← hI]
  refine wpAny_newObj_type (wpAny_newFunctionEnv hcell (by intro y hy; simp at hy) (fun h₁ hns₁ hsb₁ => ?_) hkind)
  dsimp only at hns₁ hsb₁ ⊢
  generalize hH2 : H1.push { cls := .type "list", dict := none, data := .seq ([] : List Value).toArray } = H2 at hns₁ hsb₁ ⊢
  have hDe : ∃ D, D = H1.objs.size := ⟨_, rfl⟩
  obtain ⟨D, hD⟩ := hDe
  have hCe : ∃ C, C = H2.objs.size := ⟨_, rfl⟩
  obtain ⟨C, hC⟩ := hCe
  rw [← hC] at hns₁ hsb₁ ⊢
  rw [← hD]
  have sC : C = D + 1 := by rw [hC, ← hH2, Heap.size_push, hD]
  have sD : D = I + 1 := by rw [hD, hsz1']
  have old : ∀ b o, H1.get? b = some o → h₁.get? b = some o := fun b o e => hsb₁.extBut b o (adne (by have : @LT.lt Nat _ b H1.objs.size := Heap.lt_size e; (first | lia | omega))) (Heap.get?_push_of_some _ (hH2 ▸ Heap.get?_push_of_some _ e))
  have hacc : h₁.get? D = some (LCg.lst []) := hsb₁.extBut _ _ (adne (by (first | lia | omega))) (Heap.get?_push_of_some _ (by rw [← hH2, hD]; exact Heap.get?_push_size _ rfl))
  have F1 : Fr h₀ L h₁ m := F.keeps fun b o e => old b o (k1 b o e)
  have N1 : News h₀ L h₁ news := N.grown fun b o e => old b o (k1 b o e)
  have fresh₀ : ∀ a, s₁.heap.objs.size ≤ a → h₀.get? a = none := fun a ha => by
    cases e : h₀.get? a with
    | none => rfl
    | some o' => exact absurd (Nat.lt_of_lt_of_le (Heap.lt_size (F.keep a o' e)) ha) (Nat.lt_irrefl _)
  have nI : h₀.get? I = none := fresh₀ _ (by show @LE.le Nat _ _ _; (first | lia | omega))
  have nD : h₀.get? D = none := fresh₀ _ (by show @LE.le Nat _ _ _; (first | lia | omega))
  have nC : h₀.get? C = none := fresh₀ _ (by show @LE.le Nat _ _ _; (first | lia | omega))
  have hLlt : L < s₁.heap.objs.size := F.ns.lt
  have qLI : @Ne Nat L I := by have : @LT.lt Nat _ L s₁.heap.objs.size := hLlt; (first | lia | omega)
  have qLD : @Ne Nat L D := by have : @LT.lt Nat _ L s₁.heap.objs.size := hLlt; (first | lia | omega)
  have qLC : @Ne Nat L C := by have : @LT.lt Nat _ L s₁.heap.objs.size := hLlt; (first | lia | omega)
  have offN : ∀ p ∈ news, @LT.lt Nat _ p.1 I := fun p hp => by rw [hI]; exact Heap.lt_size (N p hp).1
  have W := Walks.list (prog := prog) (w := w) hh I ax (adne (by have : @LT.lt Nat _ ax s₁.heap.objs.size := hlt; (first | lia | omega))) vs.toArray
  have ivl := iv.length
  have loop : ∀ s₃ : Shared, (∃ tk, s₃ = { s₁ with heap := h₁, toks := tk }) →
      codeAny (model prog w) A (.compLoop (two elt it1 it2 x y px py scope pos) 0 (.ref I) (.ref D) (compEnvC scope cl C env))
        (compPost (model prog w) A E none Q (.ref D) C) s₃ := by
    rintro s₃ ⟨tk₀, rfl⟩
    refine codeAny_loop rfl (TwoInv h₀ L I C D ax m news s₁ vs c R) ?_ (vs.length + 1)
      ⟨h₁, tk₀, 0, [], _, rfl, Nat.zero_le _, rfl, by simp, (fun i' j z _ hz => by simp at hz), ⟨?_, ?_⟩, F1, hns₁, fun p hp => ?_⟩
    · rintro k s' ⟨h', tk', i, ys, m', rfl, hi, rfl, hyl, hR, hst, F', hn', N'⟩
      show wpAny _ A ((compTurn (two elt it1 it2 x y px py scope pos) 0 (.ref I) (.ref D) (compEnvC scope cl C env)).onRaise (fun x => do noteFrame x (compEnvC scope cl C env); theTreesLotGoes x)) _ _ _
      refine wpAny_noted ?_
      rw [two_turn0]
      refine wpAny_bind (wpAny_standAt (wpAny_bind ?_))
      by_cases hlt' : i < vs.length
      · refine W.item i _ _ _ (by rw [List.size_toArray]; exact hlt') hst fun v h₂ tk₂ hPv hst₂ hk₂ => ?_
        obtain ⟨n, u, rfl, hn⟩ := IntsAre.at iv i v (by simpa using hPv)
        refine wpAny_bind (wpAny_of_eq rfl ?_)
        have F₂ := LCg.fr_but F' hk₂ (adne qLI) nI
        have N₂ := LCg.news_but N' hk₂ fun p hp => by
          rcases List.mem_cons.mp hp with rfl | hp
          · show @Ne Nat D I; (first | lia | omega)
          · have := offN p hp; show @Ne Nat p.1 I; (first | lia | omega)
        have nsC : h₂.Ns C m' := hn'.at' fun o e => hk₂ _ o (fun hm => absurd (List.mem_singleton.mp hm) (adne (a := C) (b := I) (by (first | lia | omega)))) e
        refine wpAny_bind (wpAny_assign_Name (wpAny_storeName_local (lookup_relabel_local hx) nsC (fun h₃ hn₃ hs₃ => ?_) (by simp [compEnvC, relabel, hkind])))
        obtain ⟨oC3, heC, hoC⟩ := LCg.ns_obj hn₃
        have ex3 : Heap.ExtBut C h₂ h₃ := hs₃.extBut
        have F₃ : Fr h₀ L h₃ m := F₂.change hs₃ (adne (Ne.symm qLC)) nC
        obtain ⟨oI, eI, rI⟩ := hst₂.1
        have eI3 := ex3 I _ (adne (a := I) (b := C) (by (first | lia | omega))) eI
        have N₃ : News h₀ L h₃ ((I, oI) :: (C, oC3) :: (D, LCg.lst ys) :: news) := fun p hp => by
          rcases List.mem_cons.mp hp with rfl | hp
          · exact ⟨eI3, adne (Ne.symm qLI), nI⟩
          rcases List.mem_cons.mp hp with rfl | hp
          · exact ⟨heC, adne (Ne.symm qLC), nC⟩
          have z := N₂ p hp
          refine ⟨ex3 _ _ ?_ z.1, z.2⟩
          rcases List.mem_cons.mp hp with rfl | hp
          · show @Ne Nat D C; (first | lia | omega)
          · have := offN p hp; show @Ne Nat p.1 C; (first | lia | omega)
        refine wpAny_bind (wpAny_mono (w2 I oI C oC3 D ys _ n u h₃ _ _ hoC (by rw [if_pos rfl]) F₃ N₃) (fun rv s₄ h₄ => ?_) fun _ _ e => e)
        obtain ⟨r, h₄, tk₄, t1, t2, t3, rfl, rfl, F₄, N₄, hr⟩ := h₄
        refine wpAny_bind (wpAny_standAt (wpAny_bind (wpAny_of_eq (hs2 C _) (wpAny_bind (wpAny_holding (wpAny_pyIter_range hr hsm ?_))))))
        have kp : ∀ b o, h₄.get? b = some o → (h₄.push { cls := .type "range_iterator", data := .fields #[rawInt 0, rawInt (Builtin.Range.rangeSize 0 c 1), rawInt 1] }).get? b = some o := fun b o e => Heap.get?_push_of_some _ e
        have sz4 : @LT.lt Nat _ C h₄.objs.size := Heap.lt_size (N₄ (C, oC3) (.tail _ (.head _))).1
        have sI4 : @LT.lt Nat _ I h₄.objs.size := Heap.lt_size (N₄ (I, oI) (.head _)).1
        have sD4 : @LT.lt Nat _ D h₄.objs.size := Heap.lt_size (N₄ (D, LCg.lst ys) (.tail _ (.tail _ (.head _)))).1
        have sL4 : @LT.lt Nat _ L h₄.objs.size := F₄.ns.lt
        have n4 : h₀.get? h₄.objs.size = none := by
          cases e : h₀.get? h₄.objs.size with
          | none => rfl
          | some o' => exact absurd (Heap.lt_size (F₄.keep _ o' e)) (Nat.lt_irrefl _)
        have F₅ : Fr h₀ L (h₄.push { cls := .type "range_iterator", data := .fields #[rawInt 0, rawInt (Builtin.Range.rangeSize 0 c 1), rawInt 1] }) m := F₄.keeps kp
        have N₅ := N₄.grown kp
        have st5 : IsRangeIter (h₄.push { cls := .type "range_iterator", data := .fields #[rawInt 0, rawInt (Builtin.Range.rangeSize 0 c 1), rawInt 1] }) h₄.objs.size ((0 : Int) + ((0 : Nat) : Int) * 1) ((c : Int) - ((0 : Nat) : Int)) 1 := by
          show IsRangeIter _ _ _ _ _
          rw [hrs]
          simpa using Heap.get?_push_size _ rfl
        have W2 := LCg.range_walks (prog := prog) (w := w) (I := h₄.objs.size) hh 0 c
        have inner := two_inner (prog := prog) (w := w) (A := A) (s := s₁) (env := env) (elt := elt) (it1 := it1) (it2 := it2) (x := x) (y := y) (px := px) (py := py) (pos := pos) (scope := scope) (cl := cl) (I := I) (C := C) (D := D) (I2 := h₄.objs.size) (oI := oI) (oC₀ := oC3) (ys := ys) (v := .int n u) (news := news) (c := c) (tk := tk₄)
          (RR := fun r s' => match r with | .ok _ => ∃ k', k' < vs.length + 1 - i ∧ TwoInv h₀ L I C D ax m news s₁ vs c R k' s' | .error _ => False) (R i) hh hy hkind hxy (by have : (i + 1) * c ≤ vs.length * c := Nat.mul_le_mul_right c hlt'; rw [Nat.add_mul, Nat.one_mul] at this; (first | lia | omega)) ⟨adne (by (first | lia | omega)), adne (by (first | lia | omega)), adne (by (first | lia | omega)), adne (by (first | lia | omega)), adne (by (first | lia | omega)), adne (by (first | lia | omega)), adne (by (first | lia | omega)), adne qLC, adne qLD⟩ (fun p hp => by have := offN p hp; exact ⟨adne (by (first | lia | omega)), adne (by (first | lia | omega)), adne (by (first | lia | omega))⟩) n4 nC nD
          (fun j uj oC m₂ zs oI2 h tk E' hj hoC' hmx hmy F'' N'' => we i n u j uj I oI C oC D zs h₄.objs.size oI2 m₂ h tk E' hn hj hoC' hmx hmy F'' N'') st5 F₅ hoC (by rw [if_pos rfl]) N₅ ?_
        · refine wpAny_bind (wpAny_runOwn (codeAny_mono (two_start1 inner (W2.self 0 _ _ _ st5 inner)) (fun r s' hr => ?_)))
          cases r with
          | ok f =>
            obtain ⟨k', hk', hI'⟩ := hr
            exact wpAny_pure ⟨rfl, k', hk', hI'⟩
          | error e => exact hr.elim
        · intro h' tk' oC' m' zs hC' hx' F' N' hzl hz
          refine ⟨vs.length + 1 - (i + 1), by (first | lia | omega), h', tk', i + 1, ys ++ zs, m', rfl, hlt', rfl, by rw [List.length_append, hyl, hzl, Nat.add_mul, Nat.one_mul], rows_snoc hyl hzl hR hz, ⟨⟨oI, (N' (I, oI) (.head _)).1, rI⟩, ?_⟩, F', hC'.ns (N' (C, oC') (.tail _ (.head _))).1, fun p hp => N' p (.tail _ (.tail _ hp))⟩
          obtain ⟨o, e, r⟩ := hl₀
          exact ⟨o, F'.keep _ _ e, r⟩
      · obtain rfl : i = vs.length := Nat.le_antisymm hi (Nat.not_lt.mp hlt')
        refine W.done _ _ _ hst fun h₂ tk₂ hk₂ => ?_
        refine wpAny_pure ⟨m', hn'.at' fun o e => hk₂ _ o (fun hm => absurd (List.mem_singleton.mp hm) (adne (a := C) (b := I) (by (first | lia | omega)))) e, fun h'' hs'' => ?_⟩
        have F₂ := LCg.fr_but F' hk₂ (adne qLI) nI
        have N₂ := LCg.news_but N' hk₂ fun p hp => by
          rcases List.mem_cons.mp hp with rfl | hp
          · show @Ne Nat D I; (first | lia | omega)
          · have := offN p hp; show @Ne Nat p.1 I; (first | lia | omega)
        refine fin D h'' tk₂ ys (F₂.change hs'' (adne (Ne.symm qLC)) nC) (fun p hp => ?_) (fun p hp => by have := offN p hp; show @Ne Nat p.1 D; (first | lia | omega)) (by rw [hyl, ivl]) hR
        have z := N₂ p hp
        refine ⟨hs''.extBut _ _ ?_ z.1, z.2⟩
        rcases List.mem_cons.mp hp with rfl | hp
        · show @Ne Nat D C; (first | lia | omega)
        · have := offN p hp; show @Ne Nat p.1 C; (first | lia | omega)
    · obtain ⟨o, e, r⟩ := hit
      exact ⟨o, old _ _ e, r⟩
    · obtain ⟨o, e, r⟩ := hl₀
      exact ⟨o, F1.keep _ _ e, r⟩
    · rcases List.mem_cons.mp hp with rfl | hp
      · exact ⟨hacc, adne (Ne.symm qLD), nD⟩
      · exact N1 p hp
  have st1 : h₁.IsListIter I ax 0 ∧ h₁.IsList ax vs.toArray := by
    constructor
    · obtain ⟨o, e, r⟩ := hit
      exact ⟨o, old _ _ e, r⟩
    · obtain ⟨o, e, r⟩ := hl₀
      exact ⟨o, F1.keep _ _ e, r⟩
  exact codeAny_compStart_list (loop _ ⟨_, rfl⟩) (W.self 0 _ _ _ st1 (loop _ ⟨_, rfl⟩))
end
end Mine
end
section
open PySem PySem.W PySem.Calls PyProof.Rows
set_option maxHeartbeats 1000000
namespace Mine
section
local macro_rules | `(tactic| walk_at "binaryOp Add ref ref") => `(tactic| (k_here; (with_unfolding_all refine' add_J ?F ?N ?a ?b ?z ?_; (case F => k_asm); (case N => k_asm); (case a => is_list); (case b => is_list); (case z => (((rw [PySem.sizeLine_eq]; (try simp only [List.length_append, List.length_cons, List.length_nil]); (try kcf_lens); (first | lia | omega))))); k_whole); intro D' h' F' N' l1; (try k_lt l1); (try k_sweep)))
local macro_rules | `(tactic| walk_at "call ref") => `(tactic| refine Hold.out ?_)
local macro_rules | `(tactic| walk_at "eval ListComp") => `(tactic| (k_here; (with_reducible show wpAny _ _ (eval (Expr.ListComp _ [_] _ _) _) _ _ _); k_dflt (refine' ListComp_G (by k_asm) ?c1 ?c2 ?c3 ?c4 ?c5 ?_ ?c6; (case c1 => with_unfolding_all rfl); (case c2 => decide); (case c3 => rfl); (case c4 => decide); (case c5 => rfl); (case c6 => intro _; rfl))))
local macro_rules | `(tactic| walk_at "eval ListComp") => `(tactic| (k_here; (with_reducible show wpAny _ _ (eval (Expr.ListComp _ [_, _] _ _) _) _ _ _); k_dflt (refine' ListComp_2 (by k_asm) ?c1 ?c2 ?c3 ?c4 ?c5 ?c7 ?c8 ?_ ?c6 ?c9; (case c1 => with_unfolding_all rfl); (case c2 => decide); (case c3 => rfl); (case c4 => decide); (case c5 => rfl); (case c7 => rfl); (case c8 => decide); (case c6 => intro _; rfl); (case c9 => intro _ _; rfl))))
local macro_rules | `(tactic| walk_at "call builtin:len") => `(tactic| ((rename News _ _ _ _ => N9); (simp only [List.cons_append, List.nil_append, List.singleton_append] at N9); walk_at "call builtin:len"))
local macro_rules | `(tactic| walk_at "eval Name") => `(tactic| (k_here; k_dflt (first
  | refine nm_global (by k_asm) (by k_asm) (by k_asm) (by k_is) ?_ (by rfl) (by rfl) (by rfl) (by decide)
  | refine nm_built (by k_asm) (by k_asm) (by k_asm) (by k_is) (by boot_by_name) (by decide) ?_ (by rfl) (by rfl) (by rfl) (by rfl) (by decide))))
/-- the bits of octets, eight each -/
def bitsOf (ns : List Int) : List Int := ns.flatMap fun n => (List.range 8).map fun j => Int.fmod (Int.fdiv n (2 ^ (7 - j))) 2
theorem bitsOf_length (ns : List Int) : (bitsOf ns).length = ns.length * 8 := by
  unfold bitsOf
  induction ns with
  | nil => rfl
  | cons a r ih => rw [List.flatMap_cons, List.length_append, ih, List.length_map, List.length_range, List.length_cons]; (first | lia | omega)
theorem rows_ints {c : Nat} {f : Int → Nat → Int} : ∀ {ns : List Int} {ys : List Value}, ys.length = ns.length * c → (∀ (i j : Nat) (z : Value), j < c → ys[i * c + j]? = some z → ∃ n, ns[i]? = some n ∧ ∃ t : Tok, z = Value.int (f n j) t) →
    IntsAre ys (ns.flatMap fun n => (List.range c).map fun j => f n j)
  | [], ys, hl, _ => by
    rw [List.length_nil, Nat.zero_mul] at hl
    rw [List.length_eq_zero_iff.mp hl]
    exact .nil
  | a :: r, ys, hl, h => by
    rw [List.length_cons, Nat.add_mul, Nat.one_mul] at hl
    have e : ys = ys.take c ++ ys.drop c := (List.take_append_drop c ys).symm
    rw [e, List.flatMap_cons]
    refine .append ?_ (rows_ints (by rw [List.length_drop, hl]; (first | lia | omega)) fun i j z hj hz => ?_)
    · refine ints_of (n := c) (by rw [List.length_take, hl]; (first | lia | omega)) fun j z hz => ?_
      have hj : j < c := by
        rcases Nat.lt_or_ge j c with q | q
        · exact q
        · rw [List.getElem?_eq_none (by rw [List.length_take]; (first | lia | omega))] at hz; cases hz
      rw [List.getElem?_take_of_lt hj] at hz
      obtain ⟨n, e, t, ez⟩ := h 0 j z hj (by rw [Nat.zero_mul, Nat.zero_add]; exact hz)
      cases e
      exact ⟨t, ez⟩
    · rw [List.getElem?_drop] at hz
      obtain ⟨n, e, t, ez⟩ := h (i + 1) j z hj (by rw [Nat.add_mul, Nat.one_mul, show i * c + c + j = c + (i * c + j) by (first | lia | omega)]; exact hz)
      exact ⟨n, by simpa using e, t, ez⟩
theorem bits_ints {ns : List Int} {ys : List Value} (hl : ys.length = ns.length * 8) (h : ∀ (i j : Nat) (z : Value), j < 8 → ys[i * 8 + j]? = some z → ∃ n, ns[i]? = some n ∧ ∃ t : Tok, z = Value.int (Int.fmod (Int.fdiv n (2 ^ (7 - j))) 2) t) : IntsAre ys (bitsOf ns) := rows_ints hl h
def padI (ns : List Int) : List Int := bitsOf ns ++ List.replicate ((-((bitsOf ns).length : Int)).fmod 5).toNat 0
theorem pad_eq (ns : List Int) : bitsOf ns ++ (List.replicate ((-((bitsOf ns).length : Int)).fmod 5).toNat [(0 : Int)]).flatten = padI ns := by
  unfold padI
  rw [List.flatten_replicate_singleton]
theorem padI_length (ns : List Int) : ∃ q, (padI ns).length = 5 * q ∧ 5 * q < 8 * ns.length + 5 := by
  unfold padI
  rw [List.length_append, List.length_replicate, bitsOf_length, Int.fmod_eq_emod_of_nonneg _ (by decide)]
  refine ⟨(ns.length * 8 + (-((ns.length * 8 : Nat) : Int) % 5).toNat) / 5, ?_, ?_⟩ <;> (first | lia | omega)
/-- the group of the five bits from 5 i on -/
def grpI (b : List Int) (i : Nat) : Int := 16 * b.getD (5 * i) 0 + 8 * b.getD (5 * i + 1) 0 + 4 * b.getD (5 * i + 2) 0 + 2 * b.getD (5 * i + 3) 0 + b.getD (5 * i + 4) 0
/-- the groups of five bits over octets -/
def groupsI (ns : List Int) : List Int := (List.range ((padI ns).length / 5)).map (grpI (padI ns))
theorem range_size5 (q : Nat) : Builtin.Range.rangeSize 0 ((5 * q : Nat) : Int) 5 = (q : Int) := by
  unfold Builtin.Range.rangeSize
  rw [if_pos (by decide)]
  split <;> (first | lia | omega)
theorem range_small (q : Nat) (h : 5 * q ≤ 1000) : Builtin.Range.small 0 ((5 * q : Nat) : Int) 5 = true := by
  have f : ∀ x : Int, 0 ≤ x → x ≤ 2000 → Builtin.Range.rangeFitsLong x = true := fun x h1 h2 => by
    unfold Builtin.Range.rangeFitsLong
    simp only [Bool.and_eq_true, decide_eq_true_eq]
    (first | lia | omega)
  unfold Builtin.Range.small
  rw [range_size5, f 0 (by decide) (by decide), f _ (by (first | lia | omega)) (by (first | lia | omega)), f 5 (by decide) (by decide), f (q : Int) (by (first | lia | omega)) (by (first | lia | omega)), if_pos (by decide), f _ (by (first | lia | omega)) (by (first | lia | omega))]
  simp
theorem gr_tells {w : World} {dp un : Nat} {gd : Option (List Code)} {fr : List Env} {s : Shared} {Q E : Value → Shared → Prop} {l : Addr} {vs : List Value} {ns : List Int}
    (C : Cx w dp un gd fr s.heap 3) (hl : s.heap.IsList l vs.toArray) (hi : IntsAre vs ns) (hlen : ns.length ≤ 60)
    (ret : ∀ h' tk' r vs n, s.heap.StaysIn h' → h'.get? r = some (listOf vs.toArray n) → s.heap.get? r = none → IntsAre vs (groupsI ns) → Q (.ref r) { s with heap := h', toks := tk' }) :
    wpAny (model PySem.Challenge.rw_jy0014_01.row.prog w) (mA dp un gd fr) (call (.ref 82) [.ref l]) Q E s := by
  have hvl := hi.length
  refine' enterC [(Str.ofString "octets", .ref l)] C ?ho ?hcd ?bind ?kind ?nd ?c2 ?c3 ?c4 ?_
  (((case ho => k_is); (case hcd => k_is); (case bind => exact BindsTo.of_eq rfl); (case kind => exact rfl); (case nd => decide +kernel); (case c2 => exact rfl); (case c3 => exact rfl); (case c4 => exact rfl)))
  intro L' h₁ tk₁ cells base loose mean mg mb B X T F' N' Y
  k_cells Y
  rename _ = Data.cell _ => dY
  replace F' : Fr s.heap L' h₁ (kstB (fun _ => none) [(Str.ofString "octets", .ref l)]) := F'
  replace dY : _ = Data.cell none := dY
  simp only [List.append_nil] at N'
  (try dsimp only)
  (try k_fold)
  k_steps
  rename News _ _ _ _ => N1
  rename Fr _ _ _ _ => F1
  refine ⟨l, vs, ns, _, 8, fun i j z => ∃ n, ns[i]? = some n ∧ ∃ t : Tok, z = Value.int (Int.fmod (Int.fdiv n (2 ^ (7 - j))) 2) t, rfl, rfl, F1, N1, hl, hi, by rw [PySem.sizeLine_eq]; (first | lia | omega), by rw [PySem.sizeLine_eq]; (first | lia | omega), by decide, by decide, ?_, ?_, ?_⟩
  · intro I oI C' oC D ys m₂ n u h tk E' hC hx F N
    clear F1 N1
    (try k_fold)
    k_steps
    all_goals assumption
  · intro i n u j uj I oI C' oC D zs I2 oI2 m₂ h tk E' hn hj hC hx hy F N
    clear F1 N1
    (try k_fold)
    k_steps
    rename News _ _ _ _ => N4
    rename Fr _ _ _ _ => F4
    refine EEnd.intro F4 N4 (fun _ h => h) ⟨n, hn, int_ex ?_⟩
    rw [show (7 - (j : Int)).toNat = 7 - j by (first | lia | omega)]
  · intro D h tk ys F N l1 hyl hR
    clear F1 N1
    have iy := bits_ints hyl hR
    have l3 : @Ne Nat (L' + 1) D := l1 _ (.head _)
    clear l1
    have hbl := bitsOf_length ns
    (try dsimp only)
    k_steps
    rename IntsAre _ (bitsOf ns ++ _) => hI
    rw [pad_eq] at hI
    have hwl := hI.length
    obtain ⟨q, hq, hq2⟩ := padI_length ns
    rw [hq] at hwl
    k_steps
    rename News _ _ _ _ => N3
    rename Fr _ _ _ _ => F3
    rename IsRange _ _ _ _ _ _ _ _ => rg
    rw [hq] at rg
    refine comp_range (n := q) (fun i y => ∃ t : Tok, y = Value.int (grpI (padI ns) i) t) rfl F3 N3 rg (range_small q (by (first | lia | omega))) (range_size5 q) (by rw [PySem.sizeLine_eq]; (first | lia | omega)) ?_ ?_
    · intro i u hi I oI C oC D m₂ ys h tk E' hC hx F N
      (try k_fold)
      have hi0 : (0 : Int) ≤ 0 + (i : Int) * 5 := by (first | lia | omega)
      k_steps
      rename News _ _ _ _ => N4
      rename Fr _ _ _ _ => F4
      refine EEnd.intro F4 N4 (fun _ h => h) (int_ex ?_)
      unfold grpI
      rw [show (0 + (i : Int) * 5).toNat = 5 * i by (first | lia | omega), show (0 + (i : Int) * 5 + 1).toNat = 5 * i + 1 by (first | lia | omega), show (0 + (i : Int) * 5 + 2).toNat = 5 * i + 2 by (first | lia | omega), show (0 + (i : Int) * 5 + 3).toNat = 5 * i + 3 by (first | lia | omega), show (0 + (i : Int) * 5 + 4).toNat = 5 * i + 4 by (first | lia | omega)]
    · intro g zs hl hz
      have iz := ints_of hl hz
      intro D h tk F N o1
      (try dsimp only)
      k_steps
      have n5 := N _ (.head _)
      refine ret _ _ _ _ _ F.keep n5.1 n5.2.2 ?_
      unfold groupsI
      rw [hq, Nat.mul_div_cancel_left q (by decide)]
      exact iz
end
end Mine
end
section
open PySem PySem.W PySem.Calls PyProof.Rows
namespace Mine
section
variable {prog : Program} {w : World} {A : Around} {s : Shared} {h₀ : Heap} {L : Addr} {m : Str → Option Value} {env : Env} {elt iter : Expr} {x : Str} {px pos : Pos} {scope : Scope} {cl : List (Str × Addr)} {E : Value → Shared → Prop} {Q : Value → Shared → Prop}
theorem newEnv_cell {M : Model} {globals bi : Addr} {qual : Str} {Q : Env → Shared → Prop} (hpc : ∀ n acc, cellsFrom n scope.names acc = (x, n) :: acc) (hph : ∀ h, pushCells h scope.names = h.push { cls := .type "cell", data := .cell none })
    (hQ : Q (newEnv scope s.heap.objs.size globals ((x, s.heap.objs.size + 1) :: cl) qual none .none (some env) bi) { s with heap := (s.heap.push { cls := .type "dict", data := .dict #[] }).push { cls := .type "cell", data := .cell none } }) :
    wpAny M A (newFunctionEnv scope globals cl [] qual none .none (some env) bi) Q E s := by
  simp only [newFunctionEnv, Option.isSome_some, if_true]
  refine wpAny_bind (wpAny_alloc ?_)
  refine wpAny_bind (wpAny_layCells _ (fun name kind cells => by cases hkc : kind == NameKind.cell <;> simp [hkc]) _ _ _ _ ?_)
  rw [hpc, hph, show ({ s with heap := s.heap.push { cls := .type "dict", data := .dict #[] } } : Shared).heap.objs.size = s.heap.objs.size + 1 from Heap.size_push ..]
  exact wpAny_bind (wpAny_pure (wpAny_pure hQ))
inductive CellSrc (prog : Program) (w : World) (A : Around) (h₀ : Heap) (L : Addr) (m : Str → Option Value) (env : Env) (elt : Expr) (x : Str) (scope : Scope) (cl : List (Str × Addr)) (Q : Value → Shared → Prop) (xv : Value) (s₁ : Shared) : Prop
  | mk (r : Addr) (a b c : Int) (t u v : Tok) (n : Nat) (news : List (Addr × Obj)) (R : Nat → Value → Prop) (q0 : xv = .ref r) (q1 : A.handled = none) (q2 : Fr h₀ L s₁.heap m) (q3 : News h₀ L s₁.heap news) (q4 : IsRange s₁.heap r a b c t u v) (q5 : Builtin.Range.small a b c = true) (q6 : Builtin.Range.rangeSize a b c = (n : Int)) (q7 : n ≤ sizeLine) (q8 : (∀ i u I oI C oC D pc oP ys h tk (E' : Value → Shared → Prop), i < n → oP.data = .cell (some (.int (a + (i : Nat) * c) u)) → Fr h₀ L h m → News h₀ L h ((I, oI) :: (C, oC) :: (D, LCg.lst ys) :: (pc, oP) :: news) →
      wpAny (model prog w) A (eval elt (compEnvC scope ((x, pc) :: cl) C env)) (EEnd h₀ L m { s₁ with heap := h, toks := tk } ((I, oI) :: (C, oC) :: (D, LCg.lst ys) :: (pc, oP) :: news) (R i)) E' { s₁ with heap := h, toks := tk })) (q9 : (∀ D h tk ys, Fr h₀ L h m → News h₀ L h ((D, LCg.lst ys) :: news) → ys.length = n → (∀ (i : Nat) z, ys[i]? = some z → R i z) → Q (.ref D) { s₁ with heap := h, toks := tk })) : CellSrc prog w A h₀ L m env elt x scope cl Q xv s₁
inductive CellInv (h₀ : Heap) (L I C D pc : Addr) (a c : Int) (n : Nat) (m : Str → Option Value) (news : List (Addr × Obj)) (oC : Obj) (R : Nat → Value → Prop) (s₁ : Shared) (k : Nat) (s' : Shared) : Prop
  | mk (h' : Heap) (tk i : Nat) (ys : List Value) (oP : Obj) (v₀ : Option Value) (q0 : s' = { s₁ with heap := h', toks := tk }) (q1 : i ≤ n) (q2 : k = n + 1 - i) (q3 : ys.length = i) (q4 : ∀ (i' : Nat) z, ys[i']? = some z → R i' z) (q5 : IsRangeIter h' I (a + (i : Nat) * c) ((n : Int) - (i : Nat)) c) (q6 : Fr h₀ L h' m) (q7 : oP.data = .cell v₀)
      (q8 : News h₀ L h' ((C, oC) :: (D, LCg.lst ys) :: (pc, oP) :: news)) : CellInv h₀ L I C D pc a c n m news oC R s₁ k s'
theorem ListComp_C (_F : Fr h₀ L s.heap m)
    (hclos : closureFor scope env = pure cl) (hpc : ∀ n acc, cellsFrom n scope.names acc = (x, n) :: acc) (hph : ∀ h, pushCells h scope.names = h.push { cls := .type "cell", data := .cell none }) (hkind : scope.kind = .function)
    (hnames : ∀ y ∈ scope.names, y.2 = .local → scope.names.lookup y.1 = some .local) (hxc : ∀ C cells, (compEnvC scope cells C env).kindOf x = some .cell)
    (h : wpAny (model prog w) A (eval iter env) (CellSrc prog w A h₀ L m env elt x scope cl Q) E s)
    (hs : ∀ x, foldedSetIterable iter env x = pure x) :
    wpAny (model prog w) A (eval (.ListComp elt [⟨.Name x px, iter, [], 0⟩] scope pos) env) Q E s := by
  rw [eval_ListComp]
  refine wpAny_comprehension_free (use := none) rfl hs hclos hkind hnames (wpAny_mono h (fun xv s₁ h₁ => ?_) fun _ _ e => e)
  obtain ⟨r, a, b, c, t, u, v, n, news, R, rfl, hh, F, N, hr, hsm, hrs, hsz, turn, fin⟩ := h₁
  refine wpAny_pyIter_range hr hsm ?_
  obtain ⟨I, hI⟩ : ∃ I, I = s₁.heap.objs.size := ⟨_, rfl⟩
  rw [← hI]
  generalize hH1 : s₁.heap.push { cls := .type "range_iterator", data := .fields #[rawInt a, rawInt (Builtin.Range.rangeSize a b c), rawInt c] } = H1
  have hsz1 : H1.objs.size = I + 1 := by rw [← hH1, Heap.size_push, hI]
  have k1 : ∀ b o, s₁.heap.get? b = some o → H1.get? b = some o := fun b o e => by rw [← hH1]; exact Heap.get?_push_of_some _ e
  have hit : IsRangeIter H1 I (a + ((0 : Nat) : Int) * c) ((n : Int) - ((0 : Nat) : Int)) c := by
    rw [← hH1, hI, hrs]
    simpa using Heap.get?_push_size _ rfl
  refine wpAny_newObj_type (newEnv_cell (x := x) hpc hph ?_)
  dsimp only
  generalize hH2 : H1.push { cls := .type "list", dict := none, data := .seq ([] : List Value).toArray } = H2
  obtain ⟨D, hD⟩ : ∃ D, D = H1.objs.size := ⟨_, rfl⟩
  obtain ⟨C, hC⟩ : ∃ C, C = H2.objs.size := ⟨_, rfl⟩
  obtain ⟨pc, hp⟩ : ∃ pc, pc = C + 1 := ⟨_, rfl⟩
  rw [← hC, ← hD, ← hp]
  have sC : C = D + 1 := by rw [hC, ← hH2, Heap.size_push, hD]
  have sD : D = I + 1 := by rw [hD, hsz1]
  generalize hH3 : H2.push { cls := .type "dict", data := .dict #[] } = H3
  have sz3 : H3.objs.size = pc := by rw [← hH3, Heap.size_push, ← hC, hp]
  generalize hH4 : H3.push { cls := .type "cell", data := .cell none } = H4
  have k3 : ∀ b o, H2.get? b = some o → H3.get? b = some o := fun b o e => by rw [← hH3]; exact Heap.get?_push_of_some _ e
  have k4 : ∀ b o, H3.get? b = some o → H4.get? b = some o := fun b o e => by rw [← hH4]; exact Heap.get?_push_of_some _ e
  have old : ∀ b o, H1.get? b = some o → H4.get? b = some o := fun b o e => k4 _ _ (k3 _ _ (hH2 ▸ Heap.get?_push_of_some _ e))
  have hacc : H4.get? D = some (LCg.lst []) := k4 _ _ (k3 _ _ (by rw [← hH2, hD]; exact Heap.get?_push_size _ rfl))
  have hnsC : H4.Ns C (fun _ => none) := by
    have := Heap.Ns.new H2 (.type "dict")
    rw [← hC, hH3] at this
    exact this.keeps k4
  have hpc4 : H4.get? pc = some { cls := .type "cell", data := .cell none } := by rw [← hH4, ← sz3]; exact Heap.get?_push_size _ rfl
  have F1 : Fr h₀ L H4 m := F.keeps fun b o e => old b o (k1 b o e)
  have N1 : News h₀ L H4 news := N.grown fun b o e => old b o (k1 b o e)
  have fresh₀ : ∀ a, s₁.heap.objs.size ≤ a → h₀.get? a = none := fun a ha => by
    cases e : h₀.get? a with
    | none => rfl
    | some o' => exact absurd (Nat.lt_of_lt_of_le (Heap.lt_size (F.keep a o' e)) ha) (Nat.lt_irrefl _)
  have nI : h₀.get? I = none := fresh₀ _ (by show @LE.le Nat _ _ _; (first | lia | omega))
  have nD : h₀.get? D = none := fresh₀ _ (by show @LE.le Nat _ _ _; (first | lia | omega))
  have nC : h₀.get? C = none := fresh₀ _ (by show @LE.le Nat _ _ _; (first | lia | omega))
  have nP : h₀.get? pc = none := fresh₀ _ (by show @LE.le Nat _ _ _; (first | lia | omega))
  have hLlt : @LT.lt Nat _ L s₁.heap.objs.size := F.ns.lt
  have qLI : @Ne Nat L I := by (first | lia | omega)
  have qLD : @Ne Nat L D := by (first | lia | omega)
  have qLC : @Ne Nat L C := by (first | lia | omega)
  have qLP : @Ne Nat L pc := by (first | lia | omega)
  have offN : ∀ p ∈ news, @LT.lt Nat _ p.1 I := fun p hp => by rw [hI]; exact Heap.lt_size (N p hp).1
  have W := Walks.range (prog := prog) (w := w) (A := A) hh I a c n
  obtain ⟨oC, heC, hoC⟩ := LCg.ns_obj hnsC
  have loop : ∀ s₃ : Shared, (∃ tk, s₃ = { s₁ with heap := H4, toks := tk }) →
      codeAny (model prog w) A (.compLoop (.ListComp elt [⟨.Name x px, iter, [], 0⟩] scope pos) 0 (.ref I) (.ref D) (compEnvC scope ((x, pc) :: cl) C env))
        (compPost (model prog w) A E none Q (.ref D) C) s₃ := by
    rintro s₃ ⟨tk₀, rfl⟩
    refine codeAny_compLoop_tests
      (CellInv h₀ L I C D pc a c n m news oC R s₁) ?_ (n + 1)
      ⟨H4, tk₀, 0, [], { cls := .type "cell", data := .cell none }, none, rfl, Nat.zero_le _, rfl, rfl, (fun i' z hz => by simp at hz), old _ _ hit, F1, rfl, fun p hp => ?_⟩
    · rintro k s' ⟨h', tk', i, ys, oP, v₀, rfl, hi, rfl, hyl, hR, hst, F', hoP, N'⟩
      by_cases hlt : i < n
      · refine W.item i _ _ _ hlt hst fun v' h₂ tk₂ hPv hst₂ hk₂ => ?_
        obtain ⟨u', rfl⟩ := hPv
        have F₂ := LCg.fr_but F' hk₂ (adne qLI) nI
        have N₂ := LCg.news_but N' hk₂ fun p hp => by
          rcases List.mem_cons.mp hp with rfl | hp
          · show @Ne Nat C I; (first | lia | omega)
          rcases List.mem_cons.mp hp with rfl | hp
          · show @Ne Nat D I; (first | lia | omega)
          rcases List.mem_cons.mp hp with rfl | hp
          · show @Ne Nat pc I; (first | lia | omega)
          · have := offN p hp; show @Ne Nat p.1 I; (first | lia | omega)
        have isP : h₂.IsCell pc v₀ := ⟨oP, (N₂ (pc, oP) (.tail _ (.tail _ (.head _)))).1, hoP⟩
        refine wpAny_assign_Name (wpAny_storeName_cell (by simp [compEnvC, relabel, hkind]) (hxc _ _) (by simp [compEnvC]) isP (fun h₃ hv₃ hs₃ => ?_))
        refine wpAny_tests_nil ?_
        simp only [if_true]
        obtain ⟨oP3, eP3, dP3⟩ := hv₃
        have ex3 := hs₃.extBut
        have F₃ : Fr h₀ L h₃ m := F₂.change hs₃ (adne (Ne.symm qLP)) nP
        have st3 : IsRangeIter h₃ I (a + ((i + 1 : Nat) : Int) * c) ((n : Int) - ((i + 1 : Nat) : Int)) c := ex3 I _ (adne (a := I) (b := pc) (by (first | lia | omega))) hst₂
        have N₃ : News h₀ L h₃ ((I, _) :: (C, oC) :: (D, LCg.lst ys) :: (pc, oP3) :: news) := fun p hp => by
          rcases List.mem_cons.mp hp with rfl | hp
          · exact ⟨st3, adne (Ne.symm qLI), nI⟩
          rcases List.mem_cons.mp hp with rfl | hp
          · exact ⟨ex3 _ _ (by show @Ne Nat C pc; (first | lia | omega)) (N₂ (C, oC) (.head _)).1, adne (Ne.symm qLC), nC⟩
          rcases List.mem_cons.mp hp with rfl | hp
          · exact ⟨ex3 _ _ (by show @Ne Nat D pc; (first | lia | omega)) (N₂ (D, LCg.lst ys) (.tail _ (.head _))).1, adne (Ne.symm qLD), nD⟩
          rcases List.mem_cons.mp hp with rfl | hp
          · exact ⟨eP3, adne (Ne.symm qLP), nP⟩
          have z := N₂ p (.tail _ (.tail _ (.tail _ hp)))
          exact ⟨ex3 _ _ (by have := offN p hp; show @Ne Nat p.1 pc; (first | lia | omega)) z.1, z.2⟩
        refine wpAny_mono (turn i u' I _ C oC D pc oP3 ys h₃ _ _ hlt dP3 F₃ N₃) (fun y s₄ h₄ => ?_) fun _ _ e => e
        obtain ⟨h₄, tk₄, rfl, F₄, N₄, hy'⟩ := h₄
        have zD := (N₄ (D, LCg.lst ys) (.tail _ (.tail _ (.head _)))).1
        refine append_at (hsz := by show ys.toArray.size ≤ sizeLine; rw [List.size_toArray, hyl]; exact Nat.le_trans hi hsz) zD fun h₅ hs₅ hD₅ => ?_
        refine ⟨n + 1 - (i + 1), by (first | lia | omega), h₅, tk₄, i + 1, ys ++ [y], oP3, _, rfl, hlt, rfl, by rw [List.length_append, List.length_singleton, hyl], ?_, hs₅.extBut I _ (adne (a := I) (b := D) (by (first | lia | omega))) (N₄ _ (.head _)).1, F₄.change hs₅ (adne (Ne.symm qLD)) nD, dP3, fun p hp => ?_⟩
        · intro j z hjz
          rcases Nat.lt_trichotomy j ys.length with q | q | q
          · rw [List.getElem?_append_left q] at hjz; exact hR j z hjz
          · subst q
            rw [List.getElem?_append_right (Nat.le_refl _), Nat.sub_self] at hjz
            cases hjz
            exact hyl ▸ hy'
          · have : (ys ++ [y])[j]? = none := List.getElem?_eq_none (by rw [List.length_append, List.length_singleton]; (first | lia | omega))
            rw [this] at hjz; cases hjz
        · rcases List.mem_cons.mp hp with rfl | hp
          · have z := N₄ (C, oC) (.tail _ (.head _))
            exact ⟨hs₅.extBut _ _ (by show @Ne Nat C D; (first | lia | omega)) z.1, z.2⟩
          rcases List.mem_cons.mp hp with rfl | hp
          · exact ⟨hD₅.trans (congrArg some (LCg.lst_snoc ys y)), adne (Ne.symm qLD), nD⟩
          rcases List.mem_cons.mp hp with rfl | hp
          · have z := N₄ (pc, oP3) (.tail _ (.tail _ (.tail _ (.head _))))
            exact ⟨hs₅.extBut _ _ (by show @Ne Nat pc D; (first | lia | omega)) z.1, z.2⟩
          have z := N₄ p (.tail _ (.tail _ (.tail _ (.tail _ hp))))
          exact ⟨hs₅.extBut _ _ (by have := offN p hp; show @Ne Nat p.1 D; (first | lia | omega)) z.1, z.2⟩
      · obtain rfl : i = n := Nat.le_antisymm hi (Nat.not_lt.mp hlt)
        refine W.done _ _ _ hst fun h₂ tk₂ hk₂ => ?_
        have F₂ := LCg.fr_but F' hk₂ (adne qLI) nI
        have N₂ := LCg.news_but N' hk₂ fun p hp => by
          rcases List.mem_cons.mp hp with rfl | hp
          · show @Ne Nat C I; (first | lia | omega)
          rcases List.mem_cons.mp hp with rfl | hp
          · show @Ne Nat D I; (first | lia | omega)
          rcases List.mem_cons.mp hp with rfl | hp
          · show @Ne Nat pc I; (first | lia | omega)
          · have := offN p hp; show @Ne Nat p.1 I; (first | lia | omega)
        refine ⟨_, hoC.ns (N₂ (C, oC) (.head _)).1, fun h'' hs'' => ?_⟩
        refine fin D h'' tk₂ ys (F₂.change hs'' (adne (Ne.symm qLC)) nC) (fun p hp => ?_) hyl hR
        rcases List.mem_cons.mp hp with rfl | hp
        · have z := N₂ (D, LCg.lst ys) (.tail _ (.head _))
          exact ⟨hs''.extBut _ _ (by show @Ne Nat D C; (first | lia | omega)) z.1, z.2⟩
        · have z := N₂ p (.tail _ (.tail _ (.tail _ hp)))
          exact ⟨hs''.extBut _ _ (by have := offN p hp; show @Ne Nat p.1 C; (first | lia | omega)) z.1, z.2⟩
    · rcases List.mem_cons.mp hp with rfl | hp
      · exact ⟨heC, adne (Ne.symm qLC), nC⟩
      rcases List.mem_cons.mp hp with rfl | hp
      · exact ⟨hacc, adne (Ne.symm qLD), nD⟩
      rcases List.mem_cons.mp hp with rfl | hp
      · exact ⟨hpc4, adne (Ne.symm qLP), nP⟩
      · exact N1 p hp
  exact codeAny_compStart_list (loop _ ⟨_, rfl⟩) (W.self 0 _ _ _ (old _ _ hit) (loop _ ⟨_, rfl⟩))
end
end Mine
end
section
open PySem PySem.W PySem.Calls PyProof.Rows
set_option maxHeartbeats 400000
namespace Mine
section
local macro_rules | `(tactic| walk_at "eval ListComp") => `(tactic| refine HoldN.out (n := 2) ?_)
local macro_rules | `(tactic| walk_at "call builtin:len") => `(tactic| ((rename News _ _ _ _ => N9); (simp only [List.cons_append, List.nil_append, List.singleton_append] at N9); walk_at "call builtin:len"))
local macro_rules | `(tactic| walk_at "binaryOp Mult int int") => `(tactic| ((with_reducible show wpAny _ _ (binaryOp _ (Value.int (List.getD _ _ _) _) _) _ _ _); refine Hold.out ?_))
local macro_rules | `(tactic| walk_at "subscriptTail Name Slice ref ref") => `(tactic| refine Hold.out ?_)
local macro_rules | `(tactic| walk_at "eval Name") => `(tactic| (k_here; k_dflt (first
  | refine nm_global (by k_asm) (by k_asm) (by k_asm) (by k_is) ?_ (by rfl) (by rfl) (by rfl) (by decide)
  | refine nm_built (by k_asm) (by k_asm) (by k_asm) (by k_is) (by boot_by_name) (by decide) ?_ (by rfl) (by rfl) (by rfl) (by rfl) (by decide))))
def bits5 (ns : List Int) : List Int := ns.flatMap fun n => (List.range 5).map fun j => Int.fmod (Int.fdiv n (2 ^ (4 - j))) 2
theorem bits5_length (ns : List Int) : (bits5 ns).length = ns.length * 5 := by
  unfold bits5
  induction ns with
  | nil => rfl
  | cons a r ih => rw [List.flatMap_cons, List.length_append, ih, List.length_map, List.length_range, List.length_cons]; (first | lia | omega)
theorem whole_eq {n q : Nat} (h : q = n / 8) : (n : Int).fdiv 8 * 8 = ((8 * q : Nat) : Int) := by
  rw [Int.fdiv_eq_ediv_of_nonneg _ (by decide)]
  (first | lia | omega)
/-- the octet of the eight bits from 8 i on -/
def octI (b : List Int) (i : Nat) : Int := ((List.range 8).map fun k => b.getD (8 * i + k) 0 * 2 ^ (7 - k)).sum
theorem range_size8 (q : Nat) : Builtin.Range.rangeSize 0 ((8 * q : Nat) : Int) 8 = (q : Int) := by
  unfold Builtin.Range.rangeSize
  rw [if_pos (by decide)]
  split <;> (first | lia | omega)
theorem range_small8 (q : Nat) (h : 8 * q ≤ 1000) : Builtin.Range.small 0 ((8 * q : Nat) : Int) 8 = true := by
  have f : ∀ x : Int, 0 ≤ x → x ≤ 2000 → Builtin.Range.rangeFitsLong x = true := fun x h1 h2 => by
    unfold Builtin.Range.rangeFitsLong
    simp only [Bool.and_eq_true, decide_eq_true_eq]
    (first | lia | omega)
  unfold Builtin.Range.small
  rw [range_size8, f 0 (by decide) (by decide), f _ (by (first | lia | omega)) (by (first | lia | omega)), f 8 (by decide) (by decide), f (q : Int) (by (first | lia | omega)) (by (first | lia | omega)), if_pos (by decide), f _ (by (first | lia | omega)) (by (first | lia | omega))]
  simp
/-- the octets of groups of five bits, where the rest is small and nought -/
def progI (ns : List Int) : Option (List Int) :=
  if 4 < (bits5 ns).length - 8 * ((bits5 ns).length / 8) ∨ ((bits5 ns).drop (8 * ((bits5 ns).length / 8))).any (fun x => x == 1) = true then none
  else some ((List.range ((bits5 ns).length / 8)).map (octI (bits5 ns)))
theorem pow_bits : ∀ k : Nat, k < 8 → Builtin.Int.intBits (2 ^ (7 - k)) ≤ 64 := by decide +kernel
theorem pr_tells {w : World} {dp un : Nat} {gd : Option (List Code)} {fr : List Env} {s : Shared} {Q E : Value → Shared → Prop} {l : Addr} {vs : List Value} {ns : List Int}
    (C : Cx w dp un gd fr s.heap 3) (hl : s.heap.IsList l vs.toArray) (hi : IntsAre vs ns) (hlen : ns.length ≤ 100)
    (ret0 : ∀ h' tk', s.heap.StaysIn h' → progI ns = none → Q .none { s with heap := h', toks := tk' })
    (ret : ∀ h' tk' r vs n os, s.heap.StaysIn h' → h'.get? r = some (listOf vs.toArray n) → s.heap.get? r = none → IntsAre vs os → progI ns = some os → Q (.ref r) { s with heap := h', toks := tk' }) :
    wpAny (model PySem.Challenge.rw_jy0014_01.row.prog w) (mA dp un gd fr) (call (.ref 87) [.ref l]) Q E s := by
  have hvl := hi.length
  refine' enterC [(Str.ofString "groups", .ref l)] C ?ho ?hcd ?bind ?kind ?nd ?c2 ?c3 ?c4 ?_
  (((case ho => k_is); (case hcd => k_is); (case bind => exact BindsTo.of_eq rfl); (case kind => exact rfl); (case nd => decide +kernel); (case c2 => exact rfl); (case c3 => exact rfl); (case c4 => exact rfl)))
  intro L' h₁ tk₁ cells base loose mean mg mb B X T F' N' Y
  k_cells Y
  rename _ = Data.cell _ => dY
  replace F' : Fr s.heap L' h₁ (kstB (fun _ => none) [(Str.ofString "groups", .ref l)]) := F'
  replace dY : _ = Data.cell none := dY
  simp only [List.append_nil] at N'
  (try dsimp only)
  (try k_fold)
  (repeat' (first | (with_reducible refine HoldN.mk (n := 2) ?_; (first | (((with_reducible show wpAny _ _ (eval (Expr.ListComp _ [_, _] _ _) _) _ _ _); k_dflt (refine' ListComp_2 (by k_asm) ?c1 ?c2 ?c3 ?c4 ?c5 ?c7 ?c8 ?_ ?c6 ?c9; (case c1 => with_unfolding_all rfl); (case c2 => decide); (case c3 => rfl); (case c4 => decide); (case c5 => rfl); (case c7 => rfl); (case c8 => decide); (case c6 => intro _; rfl); (case c9 => intro _ _; rfl)))) | (((with_reducible show wpAny _ _ (eval (Expr.ListComp _ [_] _ _) _) _ _ _); k_dflt (refine' ListComp_G (by k_asm) ?c1 ?c2 ?c3 ?c4 ?c5 ?_ ?c6; (case c1 => with_unfolding_all rfl); (case c2 => decide); (case c3 => rfl); (case c4 => decide); (case c5 => rfl); (case c6 => intro _; rfl)))) | (((with_reducible show wpAny _ _ (eval (Expr.ListComp _ [_] _ _) _) _ _ _); k_dflt (refine' ListComp_C (by k_asm) ?c1 ?c2 ?c3 ?c4 ?c5 ?c7 ?_ ?c6; (case c1 => with_unfolding_all rfl); (case c2 => intro _ _; rfl); (case c3 => intro _; rfl); (case c4 => rfl); (case c5 => decide); (case c7 => intro _ _; rfl); (case c6 => intro _; rfl)))))) | (k_unfold; (try dsimp only)) | (k_end; kc_close) | walk1 | (dsimp only; walk1) | (leave1; walk_say "STEP leave1"; (try dsimp only)) | fail "no step"))
  rename News _ _ _ _ => N1
  rename Fr _ _ _ _ => F1
  refine ⟨l, vs, ns, _, 5, fun i j z => ∃ n, ns[i]? = some n ∧ ∃ t : Tok, z = Value.int (Int.fmod (Int.fdiv n (2 ^ (4 - j))) 2) t, rfl, rfl, F1, N1, hl, hi, by rw [PySem.sizeLine_eq]; (first | lia | omega), by rw [PySem.sizeLine_eq]; (first | lia | omega), by decide, by decide, ?_, ?_, ?_⟩
  · intro I oI C' oC D ys m₂ n u h tk E' hC hx F N
    clear F1 N1
    (try k_fold)
    (repeat' (first | (with_reducible refine HoldN.mk (n := 2) ?_; (first | (((with_reducible show wpAny _ _ (eval (Expr.ListComp _ [_, _] _ _) _) _ _ _); k_dflt (refine' ListComp_2 (by k_asm) ?c1 ?c2 ?c3 ?c4 ?c5 ?c7 ?c8 ?_ ?c6 ?c9; (case c1 => with_unfolding_all rfl); (case c2 => decide); (case c3 => rfl); (case c4 => decide); (case c5 => rfl); (case c7 => rfl); (case c8 => decide); (case c6 => intro _; rfl); (case c9 => intro _ _; rfl)))) | (((with_reducible show wpAny _ _ (eval (Expr.ListComp _ [_] _ _) _) _ _ _); k_dflt (refine' ListComp_G (by k_asm) ?c1 ?c2 ?c3 ?c4 ?c5 ?_ ?c6; (case c1 => with_unfolding_all rfl); (case c2 => decide); (case c3 => rfl); (case c4 => decide); (case c5 => rfl); (case c6 => intro _; rfl)))) | (((with_reducible show wpAny _ _ (eval (Expr.ListComp _ [_] _ _) _) _ _ _); k_dflt (refine' ListComp_C (by k_asm) ?c1 ?c2 ?c3 ?c4 ?c5 ?c7 ?_ ?c6; (case c1 => with_unfolding_all rfl); (case c2 => intro _ _; rfl); (case c3 => intro _; rfl); (case c4 => rfl); (case c5 => decide); (case c7 => intro _ _; rfl); (case c6 => intro _; rfl)))))) | (k_unfold; (try dsimp only)) | (k_end; kc_close) | walk1 | (dsimp only; walk1) | (leave1; walk_say "STEP leave1"; (try dsimp only)) | fail "no step"))
    all_goals assumption
  · intro i n u j uj I oI C' oC D zs I2 oI2 m₂ h tk E' hn hj hC hx hy F N
    clear F1 N1
    (try k_fold)
    (repeat' (first | (with_reducible refine HoldN.mk (n := 2) ?_; (first | (((with_reducible show wpAny _ _ (eval (Expr.ListComp _ [_, _] _ _) _) _ _ _); k_dflt (refine' ListComp_2 (by k_asm) ?c1 ?c2 ?c3 ?c4 ?c5 ?c7 ?c8 ?_ ?c6 ?c9; (case c1 => with_unfolding_all rfl); (case c2 => decide); (case c3 => rfl); (case c4 => decide); (case c5 => rfl); (case c7 => rfl); (case c8 => decide); (case c6 => intro _; rfl); (case c9 => intro _ _; rfl)))) | (((with_reducible show wpAny _ _ (eval (Expr.ListComp _ [_] _ _) _) _ _ _); k_dflt (refine' ListComp_G (by k_asm) ?c1 ?c2 ?c3 ?c4 ?c5 ?_ ?c6; (case c1 => with_unfolding_all rfl); (case c2 => decide); (case c3 => rfl); (case c4 => decide); (case c5 => rfl); (case c6 => intro _; rfl)))) | (((with_reducible show wpAny _ _ (eval (Expr.ListComp _ [_] _ _) _) _ _ _); k_dflt (refine' ListComp_C (by k_asm) ?c1 ?c2 ?c3 ?c4 ?c5 ?c7 ?_ ?c6; (case c1 => with_unfolding_all rfl); (case c2 => intro _ _; rfl); (case c3 => intro _; rfl); (case c4 => rfl); (case c5 => decide); (case c7 => intro _ _; rfl); (case c6 => intro _; rfl)))))) | (k_unfold; (try dsimp only)) | (k_end; kc_close) | walk1 | (dsimp only; walk1) | (leave1; walk_say "STEP leave1"; (try dsimp only)) | fail "no step"))
    rename News _ _ _ _ => N4
    rename Fr _ _ _ _ => F4
    refine EEnd.intro F4 N4 (fun _ h => h) ⟨n, hn, int_ex ?_⟩
    rw [show (4 - (j : Int)).toNat = 4 - j by (first | lia | omega)]
  · intro D h tk ys F N l1 hyl hR
    clear F1 N1
    have iy : IntsAre ys (bits5 ns) := rows_ints hyl hR
    have l3 : @Ne Nat (L' + 1) D := l1 _ (.head _)
    clear l1 hR
    have hbl := bits5_length ns
    (try dsimp only)
    (repeat' (first | (with_reducible refine HoldN.mk (n := 2) ?_; (first | (((with_reducible show wpAny _ _ (eval (Expr.ListComp _ [_, _] _ _) _) _ _ _); k_dflt (refine' ListComp_2 (by k_asm) ?c1 ?c2 ?c3 ?c4 ?c5 ?c7 ?c8 ?_ ?c6 ?c9; (case c1 => with_unfolding_all rfl); (case c2 => decide); (case c3 => rfl); (case c4 => decide); (case c5 => rfl); (case c7 => rfl); (case c8 => decide); (case c6 => intro _; rfl); (case c9 => intro _ _; rfl)))) | (((with_reducible show wpAny _ _ (eval (Expr.ListComp _ [_] _ _) _) _ _ _); k_dflt (refine' ListComp_G (by k_asm) ?c1 ?c2 ?c3 ?c4 ?c5 ?_ ?c6; (case c1 => with_unfolding_all rfl); (case c2 => decide); (case c3 => rfl); (case c4 => decide); (case c5 => rfl); (case c6 => intro _; rfl)))) | (((with_reducible show wpAny _ _ (eval (Expr.ListComp _ [_] _ _) _) _ _ _); k_dflt (refine' ListComp_C (by k_asm) ?c1 ?c2 ?c3 ?c4 ?c5 ?c7 ?_ ?c6; (case c1 => with_unfolding_all rfl); (case c2 => intro _ _; rfl); (case c3 => intro _; rfl); (case c4 => rfl); (case c5 => decide); (case c7 => intro _ _; rfl); (case c6 => intro _; rfl)))))) | (k_unfold; (try dsimp only)) | (k_end; kc_close) | walk1 | (dsimp only; walk1) | (leave1; walk_say "STEP leave1"; (try dsimp only)) | fail "no step"))
    · ((repeat (first | k_unfold | dsimp only | dsimp only [LPost])))
      rename Fr _ _ _ _ => F9
      refine ret0 _ _ F9.keep ?_
      rename 4 < _ => h4
      rw [whole_eq rfl] at h4
      unfold progI
      rw [if_pos (.inl (by (first | lia | omega)))]
    · rename News _ _ _ _ => N2
      rename Fr _ _ _ _ => F2
      obtain ⟨q, hq2⟩ : ∃ q : Nat, q = (bits5 ns).length / 8 := ⟨_, rfl⟩
      have hq : ((bits5 ns).length : Int).fdiv 8 * 8 = ((8 * q : Nat) : Int) := whole_eq hq2
      rw [hq] at *
      refine Hold.mk ?_
      with_unfolding_all refine' kmk_slice_ints ?zF ?zN ?zl ?zp ?zq ?zi ?zm ?zc ?_ ?zs ?zt ?zz
      case zF => exact F2
      case zN => exact N2
      case zp => exact IsPart.int _ _
      case zq => exact IsPart.none
      case zi => exact iy
      case zm => exact kmk_from iy (by (first | lia | omega))
      case zc => exact rfl
      case zl => kmk_list
      case zs => with_unfolding_all rfl
      case zt => kmk_pure
      case zz => rw [List.size_toArray, hyl, PySem.sizeLine_eq]; (first | lia | omega)
      intro D' ws' h' F' N' l1 hI' hC' hL'
      k_lt l1
      rw [Int.toNat_natCast] at hI' hC' hL'
      clear F2 N2
      (repeat' (first | (with_reducible refine HoldN.mk (n := 2) ?_; (first | (((with_reducible show wpAny _ _ (eval (Expr.ListComp _ [_, _] _ _) _) _ _ _); k_dflt (refine' ListComp_2 (by k_asm) ?c1 ?c2 ?c3 ?c4 ?c5 ?c7 ?c8 ?_ ?c6 ?c9; (case c1 => with_unfolding_all rfl); (case c2 => decide); (case c3 => rfl); (case c4 => decide); (case c5 => rfl); (case c7 => rfl); (case c8 => decide); (case c6 => intro _; rfl); (case c9 => intro _ _; rfl)))) | (((with_reducible show wpAny _ _ (eval (Expr.ListComp _ [_] _ _) _) _ _ _); k_dflt (refine' ListComp_G (by k_asm) ?c1 ?c2 ?c3 ?c4 ?c5 ?_ ?c6; (case c1 => with_unfolding_all rfl); (case c2 => decide); (case c3 => rfl); (case c4 => decide); (case c5 => rfl); (case c6 => intro _; rfl)))) | (((with_reducible show wpAny _ _ (eval (Expr.ListComp _ [_] _ _) _) _ _ _); k_dflt (refine' ListComp_C (by k_asm) ?c1 ?c2 ?c3 ?c4 ?c5 ?c7 ?_ ?c6; (case c1 => with_unfolding_all rfl); (case c2 => intro _ _; rfl); (case c3 => intro _; rfl); (case c4 => rfl); (case c5 => decide); (case c7 => intro _ _; rfl); (case c6 => intro _; rfl)))))) | (k_unfold; (try dsimp only)) | (k_end; kc_close) | walk1 | (dsimp only; walk1) | (leave1; walk_say "STEP leave1"; (try dsimp only)) | fail "no step"))
      · ((repeat (first | k_unfold | dsimp only | dsimp only [LPost])))
        rename Fr _ _ _ _ => F9
        refine ret0 _ _ F9.keep ?_
        rename (List.any _ _) = true => hany
        unfold progI
        rw [← hq2, if_pos (.inr hany)]
      · rename News _ _ _ _ => N3
        rename Fr _ _ _ _ => F3
        rename IsRange _ _ _ _ _ _ _ _ => rg
        rw [whole_eq hq2] at rg
        have hq8 : 8 * q ≤ (bits5 ns).length := by (first | lia | omega)
        refine ⟨_, 0, _, 8, _, _, _, q, _, fun i y => ∃ t : Tok, y = Value.int (octI (bits5 ns) i) t, rfl, rfl, F3, N3, rg, range_small8 q (by (first | lia | omega)), range_size8 q, by rw [PySem.sizeLine_eq]; (first | lia | omega), ?_, ?_⟩
        · intro i u I oI C' oC D2 pc oP ys2 h tk E' hi hP F N
          clear F3 N3
          (try k_fold)
          (repeat' (first | (with_reducible refine HoldN.mk (n := 2) ?_; (first | (((with_reducible show wpAny _ _ (eval (Expr.ListComp _ [_, _] _ _) _) _ _ _); k_dflt (refine' ListComp_2 (by k_asm) ?c1 ?c2 ?c3 ?c4 ?c5 ?c7 ?c8 ?_ ?c6 ?c9; (case c1 => with_unfolding_all rfl); (case c2 => decide); (case c3 => rfl); (case c4 => decide); (case c5 => rfl); (case c7 => rfl); (case c8 => decide); (case c6 => intro _; rfl); (case c9 => intro _ _; rfl)))) | (((with_reducible show wpAny _ _ (eval (Expr.ListComp _ [_] _ _) _) _ _ _); k_dflt (refine' ListComp_G (by k_asm) ?c1 ?c2 ?c3 ?c4 ?c5 ?_ ?c6; (case c1 => with_unfolding_all rfl); (case c2 => decide); (case c3 => rfl); (case c4 => decide); (case c5 => rfl); (case c6 => intro _; rfl)))) | (((with_reducible show wpAny _ _ (eval (Expr.ListComp _ [_] _ _) _) _ _ _); k_dflt (refine' ListComp_C (by k_asm) ?c1 ?c2 ?c3 ?c4 ?c5 ?c7 ?_ ?c6; (case c1 => with_unfolding_all rfl); (case c2 => intro _ _; rfl); (case c3 => intro _; rfl); (case c4 => rfl); (case c5 => decide); (case c7 => intro _ _; rfl); (case c6 => intro _; rfl)))))) | (k_unfold; (try dsimp only)) | (k_end; kc_close) | walk1 | (dsimp only; walk1) | (leave1; walk_say "STEP leave1"; (try dsimp only)) | fail "no step"))
          rename News _ _ _ _ => N5
          rename Fr _ _ _ _ => F5
          rename IsRange _ _ _ _ _ _ _ _ => rg5
          refine comp_range (n := 8) (fun k y => ∃ t : Tok, y = Value.int ((bits5 ns).getD (8 * i + k) 0 * 2 ^ (7 - k)) t) rfl F5 N5 rg5 (by decide) (by decide) (by decide) ?_ ?_
          · intro k u2 hk I2 oI2 C2 oC2 D3 m₃ ys3 h tk E' hC3 hx3 F N
            (try k_fold)
            have hi0 : (0 : Int) ≤ 0 + (i : Int) * 8 + (0 + (k : Int) * 1) := by (first | lia | omega)
            have hi1 : (0 : Int) + (i : Int) * 8 + (0 + (k : Int) * 1) < ((bits5 ns).length : Int) := by (first | lia | omega)
            (repeat' (first | (with_reducible refine HoldN.mk (n := 2) ?_; (first | (((with_reducible show wpAny _ _ (eval (Expr.ListComp _ [_, _] _ _) _) _ _ _); k_dflt (refine' ListComp_2 (by k_asm) ?c1 ?c2 ?c3 ?c4 ?c5 ?c7 ?c8 ?_ ?c6 ?c9; (case c1 => with_unfolding_all rfl); (case c2 => decide); (case c3 => rfl); (case c4 => decide); (case c5 => rfl); (case c7 => rfl); (case c8 => decide); (case c6 => intro _; rfl); (case c9 => intro _ _; rfl)))) | (((with_reducible show wpAny _ _ (eval (Expr.ListComp _ [_] _ _) _) _ _ _); k_dflt (refine' ListComp_G (by k_asm) ?c1 ?c2 ?c3 ?c4 ?c5 ?_ ?c6; (case c1 => with_unfolding_all rfl); (case c2 => decide); (case c3 => rfl); (case c4 => decide); (case c5 => rfl); (case c6 => intro _; rfl)))) | (((with_reducible show wpAny _ _ (eval (Expr.ListComp _ [_] _ _) _) _ _ _); k_dflt (refine' ListComp_C (by k_asm) ?c1 ?c2 ?c3 ?c4 ?c5 ?c7 ?_ ?c6; (case c1 => with_unfolding_all rfl); (case c2 => intro _ _; rfl); (case c3 => intro _; rfl); (case c4 => rfl); (case c5 => decide); (case c7 => intro _ _; rfl); (case c6 => intro _; rfl)))))) | (k_unfold; (try dsimp only)) | (k_end; kc_close) | walk1 | (dsimp only; walk1) | (leave1; walk_say "STEP leave1"; (try dsimp only)) | fail "no step"))
            refine Hold.mk ?_
            refine PyProof.Rows.mul_int ?_ (hm := IntMulOk.of_right (by rw [show (7 - (0 + (k : Int) * 1)).toNat = 7 - k by (first | lia | omega)]; exact pow_bits k hk))
            (try dsimp only)
            (repeat' (first | (with_reducible refine HoldN.mk (n := 2) ?_; (first | (((with_reducible show wpAny _ _ (eval (Expr.ListComp _ [_, _] _ _) _) _ _ _); k_dflt (refine' ListComp_2 (by k_asm) ?c1 ?c2 ?c3 ?c4 ?c5 ?c7 ?c8 ?_ ?c6 ?c9; (case c1 => with_unfolding_all rfl); (case c2 => decide); (case c3 => rfl); (case c4 => decide); (case c5 => rfl); (case c7 => rfl); (case c8 => decide); (case c6 => intro _; rfl); (case c9 => intro _ _; rfl)))) | (((with_reducible show wpAny _ _ (eval (Expr.ListComp _ [_] _ _) _) _ _ _); k_dflt (refine' ListComp_G (by k_asm) ?c1 ?c2 ?c3 ?c4 ?c5 ?_ ?c6; (case c1 => with_unfolding_all rfl); (case c2 => decide); (case c3 => rfl); (case c4 => decide); (case c5 => rfl); (case c6 => intro _; rfl)))) | (((with_reducible show wpAny _ _ (eval (Expr.ListComp _ [_] _ _) _) _ _ _); k_dflt (refine' ListComp_C (by k_asm) ?c1 ?c2 ?c3 ?c4 ?c5 ?c7 ?_ ?c6; (case c1 => with_unfolding_all rfl); (case c2 => intro _ _; rfl); (case c3 => intro _; rfl); (case c4 => rfl); (case c5 => decide); (case c7 => intro _ _; rfl); (case c6 => intro _; rfl)))))) | (k_unfold; (try dsimp only)) | (k_end; kc_close) | walk1 | (dsimp only; walk1) | (leave1; walk_say "STEP leave1"; (try dsimp only)) | fail "no step"))
            rename News _ _ _ _ => N6
            rename Fr _ _ _ _ => F6
            refine EEnd.intro F6 N6 (fun _ h => h) (int_ex ?_)
            rw [show (7 - (0 + (k : Int) * 1)).toNat = 7 - k by (first | lia | omega), show (0 + (i : Int) * 8 + (0 + (k : Int) * 1)).toNat = 8 * i + k by (first | lia | omega)]
          · intro g zs hl hz
            have iz := ints_of hl hz
            have izl := iz.length
            rw [List.length_map, List.length_range] at izl
            intro D3 h tk F N o1
            clear F5 N5
            (try dsimp only)
            (repeat' (first | (with_reducible refine HoldN.mk (n := 2) ?_; (first | (((with_reducible show wpAny _ _ (eval (Expr.ListComp _ [_, _] _ _) _) _ _ _); k_dflt (refine' ListComp_2 (by k_asm) ?c1 ?c2 ?c3 ?c4 ?c5 ?c7 ?c8 ?_ ?c6 ?c9; (case c1 => with_unfolding_all rfl); (case c2 => decide); (case c3 => rfl); (case c4 => decide); (case c5 => rfl); (case c7 => rfl); (case c8 => decide); (case c6 => intro _; rfl); (case c9 => intro _ _; rfl)))) | (((with_reducible show wpAny _ _ (eval (Expr.ListComp _ [_] _ _) _) _ _ _); k_dflt (refine' ListComp_G (by k_asm) ?c1 ?c2 ?c3 ?c4 ?c5 ?_ ?c6; (case c1 => with_unfolding_all rfl); (case c2 => decide); (case c3 => rfl); (case c4 => decide); (case c5 => rfl); (case c6 => intro _; rfl)))) | (((with_reducible show wpAny _ _ (eval (Expr.ListComp _ [_] _ _) _) _ _ _); k_dflt (refine' ListComp_C (by k_asm) ?c1 ?c2 ?c3 ?c4 ?c5 ?c7 ?_ ?c6; (case c1 => with_unfolding_all rfl); (case c2 => intro _ _; rfl); (case c3 => intro _; rfl); (case c4 => rfl); (case c5 => decide); (case c7 => intro _ _; rfl); (case c6 => intro _; rfl)))))) | (k_unfold; (try dsimp only)) | (k_end; kc_close) | walk1 | (dsimp only; walk1) | (leave1; walk_say "STEP leave1"; (try dsimp only)) | fail "no step"))
            rename News _ _ _ _ => N7
            rename Fr _ _ _ _ => F7
            exact EEnd.intro F7 N7 (fun _ h => .tail _ h) ⟨_, rfl⟩
        · intro D2 h tk zs F N hl hz
          clear F3 N3
          have iz := ints_of hl hz
          (try dsimp only)
          (repeat' (first | (with_reducible refine HoldN.mk (n := 2) ?_; (first | (((with_reducible show wpAny _ _ (eval (Expr.ListComp _ [_, _] _ _) _) _ _ _); k_dflt (refine' ListComp_2 (by k_asm) ?c1 ?c2 ?c3 ?c4 ?c5 ?c7 ?c8 ?_ ?c6 ?c9; (case c1 => with_unfolding_all rfl); (case c2 => decide); (case c3 => rfl); (case c4 => decide); (case c5 => rfl); (case c7 => rfl); (case c8 => decide); (case c6 => intro _; rfl); (case c9 => intro _ _; rfl)))) | (((with_reducible show wpAny _ _ (eval (Expr.ListComp _ [_] _ _) _) _ _ _); k_dflt (refine' ListComp_G (by k_asm) ?c1 ?c2 ?c3 ?c4 ?c5 ?_ ?c6; (case c1 => with_unfolding_all rfl); (case c2 => decide); (case c3 => rfl); (case c4 => decide); (case c5 => rfl); (case c6 => intro _; rfl)))) | (((with_reducible show wpAny _ _ (eval (Expr.ListComp _ [_] _ _) _) _ _ _); k_dflt (refine' ListComp_C (by k_asm) ?c1 ?c2 ?c3 ?c4 ?c5 ?c7 ?_ ?c6; (case c1 => with_unfolding_all rfl); (case c2 => intro _ _; rfl); (case c3 => intro _; rfl); (case c4 => rfl); (case c5 => decide); (case c7 => intro _ _; rfl); (case c6 => intro _; rfl)))))) | (k_unfold; (try dsimp only)) | (k_end; kc_close) | walk1 | (dsimp only; walk1) | (leave1; walk_say "STEP leave1"; (try dsimp only)) | fail "no step"))
          refine ret _ _ _ _ _ _ F.keep (N _ (.head _)).1 (N _ (.head _)).2.2 iz ?_
          rename (List.any _ _) = false => hany
          unfold progI
          rw [← hq2, if_neg]
          rw [hany]
          rename ¬ (4 < _) => h4
          rw [whole_eq hq2] at h4
          simp only [Bool.false_eq_true, or_false]
          (first | lia | omega)
end
end Mine
end
section
open PySem PySem.W PySem.Calls PyProof.Rows
set_option maxHeartbeats 1000000
namespace Mine
section
theorem nm_tells {w : World} {dp un : Nat} {gd : Option (List Code)} {fr : List Env} {s : Shared} {Q E : Value → Shared → Prop}
    (C : Cx w dp un gd fr s.heap 3)
    (ret : ∀ h' tk' r n t1 t2 t3 t4, s.heap.StaysIn h' → h'.get? r = some (listOf #[.str (Str.ofString "bc") t1, .str (Str.ofString "tb") t2, .str (Str.ofString "bcrt") t3, .str (Str.ofString "b") t4] n) → s.heap.get? r = none → Q (.ref r) { s with heap := h', toks := tk' }) :
    wpAny (model PySem.Challenge.rw_jy0014_01.row.prog w) (mA dp un gd fr) (call (.ref 77) []) Q E s := by
  refine' enter [] C ?ho ?hcd ?bind ?loc ?c2 ?c3 ?c4 ?c5 ?_
  (((case ho => k_is); (case hcd => k_is); (case bind => exact BindsTo.of_eq rfl); (case loc => exact locs rfl); (case c2 => exact rfl); (case c3 => exact rfl); (case c4 => exact rfl); (case c5 => decide)))
  intro L' h₁ tk₁ base loose mean mg mb B X T F' N'
  (try dsimp only)
  (try k_fold)
  k_steps
  rename News _ _ _ _ => N1
  rename Fr _ _ _ _ => F1
  ((repeat (first | k_unfold | dsimp only | dsimp only [LPost])))
  exact ret _ _ _ _ _ _ _ _ F1.keep (N1 _ (.head _)).1 (N1 _ (.head _)).2.2
end
end Mine
end
section
open PySem PySem.W PySem.Calls PyProof.Rows
set_option maxHeartbeats 2000000
namespace Mine
theorem ints3 {vs : List Value} {ns : List Int} (h : IntsAre vs (List.take 3 (ns ++ [0, 0, 0]))) : ∃ t0 t1 t2 a b c, vs = [Value.int t0 a, Value.int t1 b, Value.int t2 c] ∧ List.take 3 (ns ++ [0, 0, 0]) = [t0, t1, t2] := by
  have hl : (List.take 3 (ns ++ [0, 0, 0])).length = 3 := by simp
  revert h hl
  generalize List.take 3 (ns ++ [0, 0, 0]) = xs
  intro h hl
  cases h with
  | nil => simp at hl
  | cons t0 a h => cases h with
    | nil => simp at hl
    | cons t1 b h => cases h with
      | nil => simp at hl
      | cons t2 c h => cases h with
        | nil => exact ⟨t0, t1, t2, a, b, c, rfl, rfl⟩
        | cons _ _ h => simp at hl
/-- a statement's end, told in advance -/
theorem join_next {M : Model} {A : Around} {E : Value → Shared → Prop} {s : Shared} {t : Sem Flow} {Q : Flow → Shared → Prop} (J : Flow → Shared → Prop) (h : wpAny M A t J E s) (k : ∀ f s', J f s' → Q f s') : wpAny M A t Q E s := wpAny_mono h k fun _ _ e => e
/-- a name of the frame was set -/
def JSet (h₀ : Heap) (L : Addr) (m : Str → Option Value) (news : List (Addr × Obj)) (x : Str) (P : Value → Prop) (s : Shared) (f : Flow) (s' : Shared) : Prop :=
  f = .next ∧ ∃ h' tk v, s' = { s with heap := h', toks := tk } ∧ Fr h₀ L h' (fun y => if y = x then some v else m y) ∧ News h₀ L h' news ∧ P v
theorem JSet.intro {h₀ h' : Heap} {L : Addr} {m : Str → Option Value} {news news' : List (Addr × Obj)} {x : Str} {P : Value → Prop} {s : Shared} {tk : Nat} {v : Value} (F : Fr h₀ L h' (fun y => if y = x then some v else m y)) (N : News h₀ L h' news') (sub : ∀ p ∈ news, p ∈ news') (p : P v) :
    JSet h₀ L m news x P s .next { s with heap := h', toks := tk } := ⟨rfl, h', tk, v, rfl, F, fun p hp => N p (sub p hp), p⟩
/-- a cell was set to a list -/
def JRow (h₀ : Heap) (L c : Addr) (m : Str → Option Value) (news : List (Addr × Obj)) (P : List Int → Prop) (s : Shared) (f : Flow) (s' : Shared) : Prop :=
  f = .next ∧ ∃ h' tk r vs k oP ns, s' = { s with heap := h', toks := tk } ∧ Fr h₀ L h' m ∧ News h₀ L h' ((r, listOf vs.toArray k) :: news ++ [(c, oP)]) ∧ oP.data = .cell (some (.ref r)) ∧ IntsAre vs ns ∧ P ns
theorem JRow.intro {h₀ h' : Heap} {L c r : Addr} {m : Str → Option Value} {news news' : List (Addr × Obj)} {P : List Int → Prop} {s : Shared} {tk k : Nat} {vs : List Value} {oP : Obj} {ns : List Int} (F : Fr h₀ L h' m) (N : News h₀ L h' news') (d : oP.data = .cell (some (.ref r))) (i : IntsAre vs ns) (sub : ∀ p ∈ (r, listOf vs.toArray k) :: news ++ [(c, oP)], p ∈ news') (p : P ns) :
    JRow h₀ L c m news P s .next { s with heap := h', toks := tk } := ⟨rfl, h', tk, r, vs, k, oP, ns, rfl, F, fun p hp => N p (sub p hp), d, i, p⟩
theorem news_0134 {h₀ h : Heap} {L : Addr} {a b c d : Addr × Obj} (N : News h₀ L h [a, b, c, d]) : News h₀ L h [a, c] := fun p hp => by
  rcases List.mem_cons.mp hp with rfl | hp
  · exact N _ (.head _)
  · rw [List.mem_singleton.mp hp]; exact N _ (.tail _ (.tail _ (.head _)))
theorem groupsI_length (ns : List Int) : (groupsI ns).length = (8 * ns.length + 4) / 5 := by
  unfold groupsI
  rw [List.length_map, List.length_range]
  obtain ⟨q, h1, h2⟩ := padI_length ns
  have h3 : 8 * ns.length ≤ (padI ns).length := by
    unfold padI
    rw [List.length_append, bitsOf_length]
    (first | lia | omega)
  (first | lia | omega)
theorem log256 : ∀ e : Nat, e < 60 → ((256 : Int) ^ e).natAbs.log2 < 9000 := by decide +kernel
theorem news_03 {h₀ h : Heap} {L : Addr} {a b c d : Addr × Obj} (N : News h₀ L h [a, b, c, d]) : News h₀ L h [a, d] := fun p hp => by
  rcases List.mem_cons.mp hp with rfl | hp
  · exact N _ (.head _)
  · rw [List.mem_singleton.mp hp]; exact N _ (.tail _ (.tail _ (.tail _ (.head _))))
theorem sub_acd {a b c d : Addr × Obj} : ∀ p ∈ a :: [c] ++ [d], p ∈ [a, b, c, d] := fun p hp => by
  simp only [List.cons_append, List.nil_append, List.mem_cons, List.not_mem_nil, or_false] at hp ⊢
  rcases hp with h | h | h
  · exact .inl h
  · exact .inr (.inr (.inl h))
  · exact .inr (.inr (.inr h))
theorem ints_ex {P : Int → Prop} : ∀ {ys : List Value}, (∀ (i : Nat) (y : Value), ys[i]? = some y → ∃ n t, y = Value.int n t ∧ P n) → ∃ ns, IntsAre ys ns ∧ ∀ n ∈ ns, P n
  | [], _ => ⟨[], .nil, fun _ h => by cases h⟩
  | y :: r, h => by
    obtain ⟨n, t, e, p⟩ := h 0 y rfl
    obtain ⟨ns, i, q⟩ := ints_ex (ys := r) fun i y hy => h (i + 1) y (by simpa using hy)
    subst e
    exact ⟨n :: ns, .cons _ _ i, fun m hm => by
      rcases List.mem_cons.mp hm with rfl | hm
      · exact p
      · exact q m hm⟩
theorem fd_bound (a k : Int) (ha : 0 ≤ a) (h : 0 < k) : 0 ≤ a.fdiv k ∧ a.fdiv k ≤ a := by
  rw [Int.fdiv_eq_ediv_of_nonneg _ (by (first | lia | omega))]
  exact ⟨Int.ediv_nonneg ha (by (first | lia | omega)), Int.ediv_le_self _ ha⟩
theorem range_size1 (q : Nat) : Builtin.Range.rangeSize 0 (q : Int) 1 = (q : Int) := by
  unfold Builtin.Range.rangeSize
  rw [if_pos (by decide)]
  split <;> (first | lia | omega)
theorem range_small1 (q : Nat) (h : q ≤ 1000) : Builtin.Range.small 0 (q : Int) 1 = true := by
  have f : ∀ x : Int, 0 ≤ x → x ≤ 2000 → Builtin.Range.rangeFitsLong x = true := fun x h1 h2 => by
    unfold Builtin.Range.rangeFitsLong
    simp only [Bool.and_eq_true, decide_eq_true_eq]
    (first | lia | omega)
  unfold Builtin.Range.small
  rw [range_size1, f 0 (by decide) (by decide), f _ (by (first | lia | omega)) (by (first | lia | omega)), f 1 (by decide) (by decide), if_pos (by decide), f _ (by (first | lia | omega)) (by (first | lia | omega))]
  simp
theorem fm_bound (a k : Int) (h : 0 < k) : 0 ≤ a.fmod k ∧ a.fmod k < k := by
  rw [Int.fmod_eq_emod_of_nonneg _ (by (first | lia | omega))]
  exact ⟨Int.emod_nonneg _ (by (first | lia | omega)), Int.emod_lt_of_pos _ h⟩
theorem join_set {M : Model} {A : Around} {E : Value → Shared → Prop} {s : Shared} {t : Sem Flow} {Q : Flow → Shared → Prop} {h₀ : Heap} {L : Addr} {m : Str → Option Value} {news : List (Addr × Obj)} (x : Str) (P : Value → Prop) (_F : Fr h₀ L s.heap m) (_N : News h₀ L s.heap news)
    (h : wpAny M A t (JSet h₀ L m news x P s) E s) (k : ∀ h' tk v, Fr h₀ L h' (fun y => if y = x then some v else m y) → News h₀ L h' news → P v → Q .next { s with heap := h', toks := tk }) : wpAny M A t Q E s :=
  wpAny_mono h (fun f s' j => by obtain ⟨rfl, h', tk, v, rfl, F, N, p⟩ := j; exact k h' tk v F N p) fun _ _ e => e
/-- three names of the frame were set -/
def JSet3 (h₀ : Heap) (L : Addr) (m : Str → Option Value) (news : List (Addr × Obj)) (x y z : Str) (P : Value → Value → Value → Prop) (s : Shared) (f : Flow) (s' : Shared) : Prop :=
  f = .next ∧ ∃ h' tk a b c, s' = { s with heap := h', toks := tk } ∧ Fr h₀ L h' (fun q => if q = x then some a else if q = y then some b else if q = z then some c else m q) ∧ News h₀ L h' news ∧ P a b c
theorem JSet3.intro {h₀ h' : Heap} {L : Addr} {m m' : Str → Option Value} {news news' : List (Addr × Obj)} {x y z : Str} {P : Value → Value → Value → Prop} {s : Shared} {tk : Nat} {a b c : Value} (F : Fr h₀ L h' m') (e : ∀ q, m' q = if q = x then some a else if q = y then some b else if q = z then some c else m q) (N : News h₀ L h' news') (sub : ∀ p ∈ news, p ∈ news') (p : P a b c) :
    JSet3 h₀ L m news x y z P s .next { s with heap := h', toks := tk } := ⟨rfl, h', tk, a, b, c, rfl, (funext e) ▸ F, fun p hp => N p (sub p hp), p⟩
theorem join_set3 {M : Model} {A : Around} {E : Value → Shared → Prop} {s : Shared} {t : Sem Flow} {Q : Flow → Shared → Prop} {h₀ : Heap} {L : Addr} {m : Str → Option Value} {news : List (Addr × Obj)} (x y z : Str) (P : Value → Value → Value → Prop) (_F : Fr h₀ L s.heap m) (_N : News h₀ L s.heap news)
    (h : wpAny M A t (JSet3 h₀ L m news x y z P s) E s) (k : ∀ h' tk a b c, Fr h₀ L h' (fun q => if q = x then some a else if q = y then some b else if q = z then some c else m q) → News h₀ L h' news → P a b c → Q .next { s with heap := h', toks := tk }) : wpAny M A t Q E s :=
  wpAny_mono h (fun f s' j => by obtain ⟨rfl, h', tk, a, b, c, rfl, F, N, p⟩ := j; exact k h' tk a b c F N p) fun _ _ e => e
def nmS : Nat → Str
  | 0 => Str.ofString "bc"
  | 1 => Str.ofString "tb"
  | 2 => Str.ofString "bcrt"
  | _ => Str.ofString "b"
theorem nmS_size (i : Nat) : (nmS i).cps.size ≤ 4 := by
  unfold nmS
  split <;> decide +kernel
theorem abs_fdiv (a : Int) : 0 ≤ (if a < 0 then -a else a).fdiv 32 := by
  rw [Int.fdiv_eq_ediv_of_nonneg _ (by decide)]
  split <;> (first | lia | omega)
theorem other_ne {t r : Int} {i j : Nat} (h : t.fmod 4 = (i : Int)) (h2 : (t + 1 + r.fmod 3).fmod 4 = (j : Int)) : j ≠ i := by
  have b := fm_bound r 3 (by decide)
  rw [Int.fmod_eq_emod_of_nonneg _ (by decide)] at h h2
  (first | lia | omega)
theorem bitsOf_small (ns : List Int) : ∀ b ∈ bitsOf ns, b = 0 ∨ b = 1 := by
  intro b hb
  obtain ⟨n, _, hb⟩ := List.mem_flatMap.mp hb
  obtain ⟨j, _, rfl⟩ := List.mem_map.mp hb
  have := fm_bound (n.fdiv (2 ^ (7 - j))) 2 (by decide)
  (first | lia | omega)
theorem padI_small (ns : List Int) : ∀ b ∈ padI ns, b = 0 ∨ b = 1 := by
  intro b hb
  rcases List.mem_append.mp hb with h | h
  · exact bitsOf_small ns b h
  · exact .inl (List.eq_of_mem_replicate h)
theorem getD_bit {b : List Int} (h : ∀ x ∈ b, x = 0 ∨ x = 1) (i : Nat) : b.getD i 0 = 0 ∨ b.getD i 0 = 1 := by
  rw [List.getD_eq_getElem?_getD]
  cases e : b[i]? with
  | none => exact .inl rfl
  | some x => exact h x (List.mem_of_getElem? e)
theorem grpI_small {b : List Int} (h : ∀ x ∈ b, x = 0 ∨ x = 1) (i : Nat) : 0 ≤ grpI b i ∧ grpI b i < 32 := by
  unfold grpI
  have h0 := getD_bit h (5 * i)
  have h1 := getD_bit h (5 * i + 1)
  have h2 := getD_bit h (5 * i + 2)
  have h3 := getD_bit h (5 * i + 3)
  have h4 := getD_bit h (5 * i + 4)
  (first | lia | omega)
theorem groupsI_small (ns : List Int) : ∀ n ∈ groupsI ns, 0 ≤ n ∧ n < 32 := by
  intro n hn
  obtain ⟨i, _, rfl⟩ := List.mem_map.mp hn
  exact grpI_small (padI_small ns) i
/-- the list of groups was set or written over -/
def JGrp (h₀ : Heap) (L : Addr) (m : Str → Option Value) (news : List (Addr × Obj)) (P : List Int → Prop) (s : Shared) (f : Flow) (s' : Shared) : Prop :=
  f = .next ∧ ∃ h' tk r vs k gs, s' = { s with heap := h', toks := tk } ∧ Fr h₀ L h' (fun q => if q = Str.ofString "groups" then some (.ref r) else m q) ∧ News h₀ L h' ((r, listOf vs.toArray k) :: news) ∧ IntsAre vs gs ∧ P gs
theorem JGrp.intro {h₀ h' : Heap} {L r : Addr} {m m' : Str → Option Value} {news news' : List (Addr × Obj)} {P : List Int → Prop} {s : Shared} {tk k : Nat} {vs : List Value} {gs : List Int} (F : Fr h₀ L h' m') (e : ∀ q, m' q = if q = Str.ofString "groups" then some (.ref r) else m q) (N : News h₀ L h' news') (sub : ∀ p ∈ (r, listOf vs.toArray k) :: news, p ∈ news') (i : IntsAre vs gs) (p : P gs) :
    JGrp h₀ L m news P s .next { s with heap := h', toks := tk } := ⟨rfl, h', tk, r, vs, k, gs, rfl, (funext e) ▸ F, fun p hp => N p (sub p hp), i, p⟩
theorem join_grp {M : Model} {A : Around} {E : Value → Shared → Prop} {s : Shared} {t : Sem Flow} {Q : Flow → Shared → Prop} {h₀ : Heap} {L : Addr} {m : Str → Option Value} {a : Addr × Obj} {news : List (Addr × Obj)} (P : List Int → Prop) (_F : Fr h₀ L s.heap m) (_N : News h₀ L s.heap (a :: news))
    (h : wpAny M A t (JGrp h₀ L m news P s) E s) (k : ∀ h' tk r vs k gs, Fr h₀ L h' (fun q => if q = Str.ofString "groups" then some (.ref r) else m q) → News h₀ L h' ((r, listOf vs.toArray k) :: news) → IntsAre vs gs → P gs → Q .next { s with heap := h', toks := tk }) : wpAny M A t Q E s :=
  wpAny_mono h (fun f s' j => by obtain ⟨rfl, h', tk, r, vs, k', gs, rfl, F, N, i, p⟩ := j; exact k h' tk r vs k' gs F N i p) fun _ _ e => e
theorem join_row {M : Model} {A : Around} {E : Value → Shared → Prop} {s : Shared} {t : Sem Flow} {Q : Flow → Shared → Prop} {h₀ : Heap} {L c : Addr} {oP₀ : Obj} {m : Str → Option Value} (news : List (Addr × Obj)) (P : List Int → Prop) (_F : Fr h₀ L s.heap m) (_N : News h₀ L s.heap (news ++ [(c, oP₀)]))
    (h : wpAny M A t (JRow h₀ L c m news P s) E s) (k : ∀ h' tk r vs k oP ns, Fr h₀ L h' m → News h₀ L h' ((r, listOf vs.toArray k) :: news ++ [(c, oP)]) → oP.data = .cell (some (.ref r)) → IntsAre vs ns → P ns → Q .next { s with heap := h', toks := tk }) : wpAny M A t Q E s :=
  wpAny_mono h (fun f s' j => by obtain ⟨rfl, h', tk, r, vs, k', oP, ns, rfl, F, N, d, i, p⟩ := j; exact k h' tk r vs k' oP ns F N d i p) fun _ _ e => e
section
variable {prog : Program} {w : World} {A : Around} {E : Value → Shared → Prop} {s : Shared} {h₀ : Heap} {L D : Addr} {m : Str → Option Value} {news news' : List (Addr × Obj)} {vs : List Value} {ns : List Int} {n : Nat} {x : Int} {t u : Tok}
/-- xs[-1] = x -/
theorem set_back {Q : Unit → Shared → Prop} (F : Fr h₀ L s.heap m) (N : News h₀ L s.heap news) (U : Upd D (listOf vs.toArray n) (listOf (vs.set (vs.length - 1) (.int x u)).toArray n) news news') (hi : IntsAre vs ns) (hpos : 0 < ns.length)
    (h : ∀ h', Fr h₀ L h' m → News h₀ L h' news' → IntsAre (vs.set (vs.length - 1) (.int x u)) (ns.set (ns.length - 1) x) → Q () { s with heap := h' }) :
    wpAny (model prog w) A (setItem (.ref D) (.int (-1) t) (.int x u)) Q E s := by
  obtain ⟨pre, post, rfl, rfl, a, b⟩ := U.split
  have z := N (D, listOf vs.toArray n) (List.mem_append.mpr (.inr (.head _)))
  have hl : vs.length = ns.length := hi.length
  have hs : vs.toArray.size = vs.length := List.size_toArray ..
  have e : ((-1 : Int) + (vs.toArray.size : Int)).toNat = vs.length - 1 := by (first | lia | omega)
  refine ki_setBack z.1 (by decide) (by (first | lia | omega)) (by decide) (h _ (F.change (Heap.SameBut.update ..) z.2.1 z.2.2) (ki_turn _ N a b ?_ ?_) (by rw [hl]; exact ints_set hi _))
  · show vs.toArray.setIfInBounds _ (.int x u) = (vs.set (vs.length - 1) (.int x u)).toArray
    rw [e]
    apply Array.toList_inj.mp
    simp
  · simp
end
/-- a def's text, got from the heap's own objects -/
theorem cut_use {K : Frag} {f : Addr} {name name' qual qual' : Str} {params params' : Arguments} {body body' : List Stmt} {scope scope' : Scope} {dV dV' kV kV' doc doc' pm pm' cdv cdv' ct ct' oc oc' : Value} {an an' od od' : Option Addr} {osl osl' : Array (Option Value)}
    (motive : Str → List Stmt → Scope → Value → Prop)
    (h1 : K.lookup f = some ⟨oc, od, .func (fnOf name qual params body scope dV kV doc pm an cdv ct), osl⟩)
    (h2 : K.lookup f = some ⟨oc', od', .func (fnOf name' qual' params' body' scope' dV' kV' doc' pm' an' cdv' ct'), osl'⟩)
    (h : motive qual' body' scope' cdv') : motive qual body scope cdv := by
  rw [h1] at h2
  injection h2 with h2
  injection h2 with _ _ h2 _
  injection h2 with h2
  injection h2 with _ eq _ eb es _ _ _ _ _ _ _ ec _ _
  injection eb with eb
  subst eq eb es ec
  exact h
/-- where groups may be an address under a version -/
def mayP (ver : Int) (gs : List Int) : Option (List Int) :=
  match progI gs with
  | none => none
  | some ps => if ver < 17 ∧ 1 < ps.length ∧ ps.length < 41 ∧ (0 < ver ∨ ps.length = 20 ∨ ps.length = 32) then some ps else none
/-- the names of the law's frame up to «other» -/
def fB (l a1 a2 a3 a4 : Addr) (deed rest ver : Int) (ix jx size : Nat) (x1 x2 x3 x4 x5 x6 : Tok) : Str → Option Value := kstB (fun _ => none) [(Str.ofString "other", .str (nmS jx) x4), (Str.ofString "name", .str (nmS ix) x1), (Str.ofString "deed", .int deed x2), (Str.ofString "rest", .int rest x3), (Str.ofString "groups", .ref a1), (Str.ofString "own", .ref a2), (Str.ofString "octets", .ref a3), (Str.ofString "size", .int (size : Int) x5), (Str.ofString "version", .int ver x6), (Str.ofString "told", .ref a4), (Str.ofString "script", .ref l)]
/-- with program and may -/
def fE (mv pv : Value) (r : Addr) (base : Str → Option Value) : Str → Option Value := kstB base [(Str.ofString "may", mv), (Str.ofString "program", pv), (Str.ofString "groups", .ref r)]
/-- with text, way and what the road of way set -/
def fW (wv : Value) (oA oB oC : Option Value) (way : Int) (xw : Tok) (TX : Str) (tt : Tok) (mv pv : Value) (r : Addr) (base : Str → Option Value) : Str → Option Value := fun y => if y = Str.ofString "wrong" then some wv else if y = Str.ofString "touched" then oA else if y = Str.ofString "sign" then oB else if y = Str.ofString "place" then oC else kstB (fE mv pv r base) [(Str.ofString "way", .int way xw), (Str.ofString "text", .str TX tt)] y
end Mine
end
section
open PySem PySem.W PySem.Calls PyProof.Rows
namespace Mine
/-- what a part stands on, laid open -/
theorem Cx.use {p : Prop} {w : World} {dp un k : Nat} {gd : Option (List Code)} {fr : List Env} {h : Heap} (C : Cx w dp un gd fr h k)
    (go : ∀ bs l mg mb, Below (mA dp un gd fr) bs fr h → (hd.heap_39 w.params).In h → TopRead hd.view_39 l mg mb h → p) : p := by
  obtain ⟨⟨bs, B⟩, X, ⟨l, mg, mb, T, _⟩, _⟩ := C
  exact go bs l mg mb B X T
/-- a decode that answers nothing, seen from the caller's frame -/
theorem dc_none {w : World} {dp un un' k : Nat} {gd : Option (List Code)} {fr : List Env} {s : Shared} {Q E : Value → Shared → Prop} {hx tx : Str} {u t : Tok} {hS h₀ : Heap} {L P a : Addr} {ps : Array Value} {m : Str → Option Value} {news : List (Addr × Obj)} {name : Str} {scope : Scope} {cd : Value} {cl : List (Str × Addr)}
    (C : Cx w dp un gd fr h₀ k) (Z : Based hS h₀ 47 P ps) (F : Fr h₀ L s.heap m) (N : News h₀ L s.heap news) (G0 : AllBare s.gens) (hk : scope.kind = .function) (hu : un' ≤ un + 10) (hkk : 9 ≤ k)
    (hsm : ∀ tx h ds, decB tx = some (h, ds) → tx.cps.size ≤ 200 → ds.length ≤ 1000 ∧ ∀ n ∈ ds, 0 ≤ n ∧ n < 32) (hsz : tx.cps.size ≤ 200) (hn : decD hx tx = none)
    (go : ∀ g psg s2 D, Based hS g 47 P psg → Cx w dp un gd fr g k → Fr g L s2.heap m → News g L s2.heap ((D, { cls := .type "tuple", data := .seq #[.none, .none] }) :: news) → AllBare s2.gens → s2.os = s.os →
      ∀ bs l mg mb, Below (mA dp un gd fr) bs fr g → (hd.heap_39 w.params).In g → TopRead hd.view_39 l mg mb g → Q (.ref D) s2) :
    wpAny (model PySem.Challenge.rw_jy0014_01.row.prog w) (mA (dp + 1) un' gd (envX name scope L a cd cl :: fr)) (call (.ref 63) [.str hx u, .str tx t]) Q E s := by
  refine dc_tells (Cx.push C F hk hu hkk) G0 hsz (fun h ds e => hsm _ _ _ e hsz) ?_ ?_
  · intro s2 D Gr Ga hos hD fresh hdn
    obtain ⟨g, psg, Zg, Cg, F2, Nup, Lup, Fup⟩ := C.grow Z F Gr
    exact Cg.use fun bs l mg mb B X T => go g psg s2 D Zg Cg F2 (news_grown F (Nup _ N) Fup hD fresh) Ga hos bs l mg mb B X T
  · intro s2 D r vs' b va n' ds Gr Ga hos hD fresh hr freshr iv hdn
    rw [hn] at hdn
    cases hdn
/-- a decode that answers a version and octets -/
theorem dc_some {w : World} {dp un un' k : Nat} {gd : Option (List Code)} {fr : List Env} {s : Shared} {Q E : Value → Shared → Prop} {hx tx : Str} {u t : Tok} {hS h₀ : Heap} {L P a : Addr} {ps : Array Value} {m : Str → Option Value} {news : List (Addr × Obj)} {name : Str} {scope : Scope} {cd : Value} {cl : List (Str × Addr)} {v : Int} {os : List Int}
    (C : Cx w dp un gd fr h₀ k) (Z : Based hS h₀ 47 P ps) (F : Fr h₀ L s.heap m) (N : News h₀ L s.heap news) (G0 : AllBare s.gens) (hk : scope.kind = .function) (hu : un' ≤ un + 10) (hkk : 9 ≤ k)
    (hsm : ∀ tx h ds, decB tx = some (h, ds) → tx.cps.size ≤ 200 → ds.length ≤ 1000 ∧ ∀ n ∈ ds, 0 ≤ n ∧ n < 32) (hsz : tx.cps.size ≤ 200) (hn : decD hx tx = some (v, os))
    (go : ∀ g psg s2 D r vs va n, Based hS g 47 P psg → Cx w dp un gd fr g k → Fr g L s2.heap m → News g L s2.heap ((D, { cls := .type "tuple", data := .seq #[.int v va, .ref r] }) :: (r, listOf vs.toArray n) :: news) → IntsAre vs os → AllBare s2.gens → s2.os = s.os →
      ∀ bs l mg mb, Below (mA dp un gd fr) bs fr g → (hd.heap_39 w.params).In g → TopRead hd.view_39 l mg mb g → Q (.ref D) s2) :
    wpAny (model PySem.Challenge.rw_jy0014_01.row.prog w) (mA (dp + 1) un' gd (envX name scope L a cd cl :: fr)) (call (.ref 63) [.str hx u, .str tx t]) Q E s := by
  refine dc_tells (Cx.push C F hk hu hkk) G0 hsz (fun h ds e => hsm _ _ _ e hsz) ?_ ?_
  · intro s2 D Gr Ga hos hD fresh hdn
    rw [hn] at hdn
    cases hdn
  · intro s2 D r vs' b va n' ds Gr Ga hos hD fresh hr freshr iv hdn
    rw [hn] at hdn
    cases hdn
    obtain ⟨g, psg, Zg, Cg, F2, Nup, Lup, Fup⟩ := C.grow Z F Gr
    exact Cg.use fun bs l mg mb B X T => go g psg s2 D r vs' va n' Zg Cg F2 (news_grown F (news_grown F (Nup _ N) Fup hr freshr) Fup hD fresh) iv Ga hos bs l mg mb B X T
end Mine
end
section
open PySem PySem.W PySem.Calls PyProof.Rows
namespace Mine
theorem xor_and_sum : ∀ (n a b : Nat), a ≤ n → a + b = (a ^^^ b) + 2 * (a &&& b)
  | 0, a, b, h => by
    obtain rfl : a = 0 := by (first | lia | omega)
    simp
  | n + 1, a, b, h => by
    by_cases h0 : a = 0
    · subst h0; simp
    have ih := xor_and_sum n (a / 2) (b / 2) (by (first | lia | omega))
    have e1 := Nat.xor_div_two (a := a) (b := b)
    have e2 : (a &&& b) / 2 = a / 2 &&& b / 2 := Nat.and_div_two
    have m1 := Nat.xor_mod_two_eq_one (a := a) (b := b)
    have m2 : (a &&& b) % 2 = 1 ↔ a % 2 = 1 ∧ b % 2 = 1 := Nat.and_mod_two_eq_one
    rw [← e1, ← e2] at ih
    (first | lia | omega)
theorem bitXor_nat (a b : Nat) : Builtin.bitXor (a : Int) (b : Int) = ((a ^^^ b : Nat) : Int) := by
  rw [bitXor_and]
  have e : Builtin.bitAnd (a : Int) (b : Int) = ((a &&& b : Nat) : Int) := by
    unfold Builtin.bitAnd
    rw [decide_eq_true (by (first | lia | omega)), decide_eq_true (by (first | lia | omega))]
    rfl
  rw [e]
  have := xor_and_sum a a b (Nat.le_refl _)
  (first | lia | omega)
def GN (t : Nat) : Nat := (if t.testBit 0 then 996825010 else 0) ^^^ (if t.testBit 1 then 642813549 else 0) ^^^ (if t.testBit 2 then 513874426 else 0) ^^^ (if t.testBit 3 then 1027748829 else 0) ^^^ (if t.testBit 4 then 705979059 else 0)
def LN (c : Nat) : Nat := (c % 2 ^ 25 * 2 ^ 5) ^^^ GN (c / 2 ^ 25)
theorem bit_iff (t i : Nat) : (Builtin.bitAnd ((t : Int).fdiv (2 ^ i)) 1 ≠ 0) = (t.testBit i = true) := by
  rw [bitAnd_m1, Int.fdiv_eq_ediv_of_nonneg _ (by exact Int.le_of_lt (kbt_pos i)), ← kbt_cast, ← Int.natCast_ediv]
  have e : ((t / 2 ^ i : Nat) : Int) % 2 = ((t / 2 ^ i % 2 : Nat) : Int) := rfl
  rw [e, Nat.testBit_eq_decide_div_mod_eq]
  have : t / 2 ^ i % 2 < 2 := Nat.mod_lt _ (by decide)
  simp only [decide_eq_true_eq, eq_iff_iff]
  (first | lia | omega)
theorem bit_step (t c i g : Nat) : Builtin.bitXor (c : Int) (if Builtin.bitAnd ((t : Int).fdiv (2 ^ i)) 1 ≠ 0 then (g : Int) else 0) = ((c ^^^ (if t.testBit i then g else 0) : Nat) : Int) := by
  rw [← bitXor_nat]
  congr 1
  simp only [bit_iff]
  split <;> rfl
theorem polyTurn_nat (c v : Nat) : polyTurnI (c : Int) (v : Int) = ((LN c ^^^ v : Nat) : Int) := by
  unfold polyTurnI
  have e1 : (c : Int).fdiv (2 ^ 25) = ((c / 2 ^ 25 : Nat) : Int) := by
    rw [Int.fdiv_eq_ediv_of_nonneg _ (by decide)]
    rfl
  have e2 : Builtin.bitAnd (c : Int) 33554431 * 2 ^ 5 = ((c % 2 ^ 25 * 2 ^ 5 : Nat) : Int) := by
    have := kbt_mask (c : Int) 25
    have z : ((2 : Int) ^ 25 - 1) = 33554431 := by decide
    rw [z] at this
    rw [this]
    rfl
  rw [e1, e2, bitXor_nat]
  show List.foldl (polyStepI _) _ [0, 1, 2, 3, 4] = _
  simp only [List.foldl_cons, List.foldl_nil, polyStepI]
  have g0 : gens.getD 0 0 = ((996825010 : Nat) : Int) := rfl
  have g1 : gens.getD 1 0 = ((642813549 : Nat) : Int) := rfl
  have g2 : gens.getD 2 0 = ((513874426 : Nat) : Int) := rfl
  have g3 : gens.getD 3 0 = ((1027748829 : Nat) : Int) := rfl
  have g4 : gens.getD 4 0 = ((705979059 : Nat) : Int) := rfl
  rw [g0, bit_step, g1, bit_step, g2, bit_step, g3, bit_step, g4, bit_step]
  congr 1
  unfold LN GN
  generalize c % 2 ^ 25 * 2 ^ 5 = x
  generalize (if (c / 2 ^ 25).testBit 0 then 996825010 else 0) = y0
  generalize (if (c / 2 ^ 25).testBit 1 then 642813549 else 0) = y1
  generalize (if (c / 2 ^ 25).testBit 2 then 513874426 else 0) = y2
  generalize (if (c / 2 ^ 25).testBit 3 then 1027748829 else 0) = y3
  generalize (if (c / 2 ^ 25).testBit 4 then 705979059 else 0) = y4
  ac_rfl
theorem sel_xor (a b i g : Nat) : (if (a ^^^ b).testBit i then g else 0) = (if a.testBit i then g else 0) ^^^ (if b.testBit i then g else 0) := by
  rw [Nat.testBit_xor]
  cases a.testBit i <;> cases b.testBit i <;> simp
theorem GN_xor (a b : Nat) : GN (a ^^^ b) = GN a ^^^ GN b := by
  unfold GN
  simp only [sel_xor]
  generalize (if a.testBit 0 then 996825010 else 0) = y0
  generalize (if a.testBit 1 then 642813549 else 0) = y1
  generalize (if a.testBit 2 then 513874426 else 0) = y2
  generalize (if a.testBit 3 then 1027748829 else 0) = y3
  generalize (if a.testBit 4 then 705979059 else 0) = y4
  generalize (if b.testBit 0 then 996825010 else 0) = z0
  generalize (if b.testBit 1 then 642813549 else 0) = z1
  generalize (if b.testBit 2 then 513874426 else 0) = z2
  generalize (if b.testBit 3 then 1027748829 else 0) = z3
  generalize (if b.testBit 4 then 705979059 else 0) = z4
  simp only [Nat.xor_assoc]
  congr 1
  rw [Nat.xor_comm z0]
  simp only [Nat.xor_assoc]
  congr 1
  rw [Nat.xor_comm z1]
  simp only [Nat.xor_assoc]
  congr 1
  rw [Nat.xor_comm z2]
  simp only [Nat.xor_assoc]
  congr 1
  rw [Nat.xor_comm z3]
  simp only [Nat.xor_assoc]
  congr 1
  rw [Nat.xor_comm z4]
  simp only [Nat.xor_assoc]
theorem LN_xor (a b : Nat) : LN (a ^^^ b) = LN a ^^^ LN b := by
  unfold LN
  rw [Nat.xor_mod_two_pow, Nat.xor_div_two_pow, GN_xor]
  have e : (a % 2 ^ 25 ^^^ b % 2 ^ 25) * 2 ^ 5 = (a % 2 ^ 25 * 2 ^ 5) ^^^ (b % 2 ^ 25 * 2 ^ 5) := by
    have := Nat.shiftLeft_xor_distrib (a := a % 2 ^ 25) (b := b % 2 ^ 25) (i := 5)
    simpa only [Nat.shiftLeft_eq] using this
  rw [e]
  generalize a % 2 ^ 25 * 2 ^ 5 = x
  generalize b % 2 ^ 25 * 2 ^ 5 = y
  generalize GN (a / 2 ^ 25) = z
  generalize GN (b / 2 ^ 25) = u
  simp only [Nat.xor_assoc]
  congr 1
  rw [← Nat.xor_assoc, Nat.xor_comm y z, Nat.xor_assoc]
theorem sel_lt (b : Bool) {g n : Nat} (h : g < 2 ^ n) : (if b then g else 0) < 2 ^ n := by
  cases b
  · exact Nat.two_pow_pos n
  · exact h
theorem LN_lt (c : Nat) : LN c < 2 ^ 30 := by
  unfold LN GN
  refine Nat.xor_lt_two_pow ?_ (Nat.xor_lt_two_pow (Nat.xor_lt_two_pow (Nat.xor_lt_two_pow (Nat.xor_lt_two_pow ?_ ?_) ?_) ?_) ?_)
  · have := Nat.mod_lt c (show 0 < 2 ^ 25 by decide)
    have e : (2 : Nat) ^ 30 = 2 ^ 25 * 2 ^ 5 := by decide
    (first | lia | omega)
  all_goals exact sel_lt _ (by decide)
theorem LN_small {d : Nat} (h : d < 2 ^ 25) : LN d = d * 2 ^ 5 := by
  unfold LN
  rw [Nat.mod_eq_of_lt h, Nat.div_eq_of_lt h]
  show _ ^^^ 0 = _
  exact Nat.xor_zero _
theorem GN_low : ∀ t : Nat, t < 32 → GN t % 32 = 0 → t = 0 := by decide +kernel
theorem LN_zero {x : Nat} (hx : x < 2 ^ 30) (h : LN x = 0) : x = 0 := by
  have e : LN x % 2 ^ 5 = 0 := by rw [h]
  unfold LN at e
  rw [Nat.xor_mod_two_pow, Nat.mul_mod_left, Nat.zero_xor] at e
  have ht : x / 2 ^ 25 < 32 := by (first | lia | omega)
  have t0 := GN_low _ ht e
  have hl : x < 2 ^ 25 := by (first | lia | omega)
  rw [LN_small hl] at h
  (first | lia | omega)
theorem xor_zero_eq {a b : Nat} (h : a ^^^ b = 0) : a = b := by
  have e : a ^^^ (a ^^^ b) = a ^^^ 0 := by rw [h]
  rw [← Nat.xor_assoc, Nat.xor_self, Nat.zero_xor, Nat.xor_zero] at e
  exact e.symm
theorem LN_inj {a b : Nat} (ha : a < 2 ^ 30) (hb : b < 2 ^ 30) (h : LN a = LN b) : a = b := by
  apply xor_zero_eq
  apply LN_zero (Nat.xor_lt_two_pow ha hb)
  rw [LN_xor, h, Nat.xor_self]
theorem xor_right_cancel {a b c : Nat} (h : a ^^^ c = b ^^^ c) : a = b := by
  have e : (a ^^^ c) ^^^ c = (b ^^^ c) ^^^ c := by rw [h]
  rw [Nat.xor_assoc, Nat.xor_assoc, Nat.xor_self, Nat.xor_zero, Nat.xor_zero] at e
  exact e
theorem xor_left_cancel {a b c : Nat} (h : c ^^^ a = c ^^^ b) : a = b := by
  rw [Nat.xor_comm c a, Nat.xor_comm c b] at h
  exact xor_right_cancel h
/-- the checksum's state, by naturals -/
def pN (c : Nat) (ms : List Nat) : Nat := ms.foldl (fun c v => LN c ^^^ v) c
def castL (ms : List Nat) : List Int := ms.map (fun m : Nat => (m : Int))
theorem castL_append (a b : List Nat) : castL (a ++ b) = castL a ++ castL b := List.map_append
theorem fold_nat : ∀ (ms : List Nat) (c : Nat), (castL ms).foldl polyTurnI (c : Int) = ((pN c ms : Nat) : Int)
  | [], _ => rfl
  | m :: r, c => by
    show (castL r).foldl polyTurnI (polyTurnI (c : Int) (m : Int)) = _
    rw [polyTurn_nat, fold_nat r]
    rfl
theorem polyI_nat (ms : List Nat) : polyI (castL ms) = ((pN 1 ms : Nat) : Int) := fold_nat ms 1
theorem pN_append (c : Nat) (a b : List Nat) : pN c (a ++ b) = pN (pN c a) b := List.foldl_append
theorem pN_lt : ∀ (ms : List Nat) (c : Nat), c < 2 ^ 30 → (∀ m ∈ ms, m < 32) → pN c ms < 2 ^ 30
  | [], _, h, _ => h
  | m :: r, c, _, hm => pN_lt r _ (Nat.xor_lt_two_pow (LN_lt c) (Nat.lt_trans (hm m (.head _)) (by decide))) fun x hx => hm x (.tail _ hx)
theorem pN_inj : ∀ (ms : List Nat) (a b : Nat), a < 2 ^ 30 → b < 2 ^ 30 → (∀ m ∈ ms, m < 32) → pN a ms = pN b ms → a = b
  | [], _, _, _, _, _, h => h
  | m :: r, a, b, ha, hb, hm, h => by
    have hm' : m < 2 ^ 30 := Nat.lt_trans (hm m (.head _)) (by decide)
    have h2 := pN_inj r (LN a ^^^ m) (LN b ^^^ m) (Nat.xor_lt_two_pow (LN_lt a) hm') (Nat.xor_lt_two_pow (LN_lt b) hm') (fun x hx => hm x (.tail _ hx)) h
    exact LN_inj ha hb (xor_right_cancel h2)
/-- one turned sign breaks the checksum -/
theorem pN_turned {pre post : List Nat} {a b : Nat} (h2 : ∀ m ∈ post, m < 32) (ha : a < 32) (hb : b < 32) (hab : a ≠ b) : pN 1 (pre ++ a :: post) ≠ pN 1 (pre ++ b :: post) := by
  intro h
  rw [pN_append, pN_append] at h
  refine hab (xor_left_cancel (c := LN (pN 1 pre)) (pN_inj post _ _ ?_ ?_ h2 h))
  · exact Nat.xor_lt_two_pow (LN_lt _) (Nat.lt_trans ha (by decide))
  · exact Nat.xor_lt_two_pow (LN_lt _) (Nat.lt_trans hb (by decide))
theorem pN_xor : ∀ (ms : List Nat) (a b : Nat), pN (a ^^^ b) ms = pN a (List.replicate ms.length 0) ^^^ pN b ms
  | [], _, _ => rfl
  | m :: r, a, b => by
    show pN (LN (a ^^^ b) ^^^ m) r = pN (LN a ^^^ 0) (List.replicate r.length 0) ^^^ pN (LN b ^^^ m) r
    rw [LN_xor, Nat.xor_assoc, pN_xor r, Nat.xor_zero]
theorem xor_parts (p : Nat) : p / 32 * 32 ^^^ p % 32 = p := by
  have h1 := Nat.xor_div_two_pow (a := p / 32 * 32) (b := p % 32) (n := 5)
  have h2 := Nat.xor_mod_two_pow (a := p / 32 * 32) (b := p % 32) (n := 5)
  have e : (2 : Nat) ^ 5 = 32 := by decide
  rw [e] at h1 h2
  rw [Nat.mul_div_cancel _ (by decide), Nat.div_eq_of_lt (Nat.mod_lt _ (by decide)), Nat.xor_zero] at h1
  rw [Nat.mul_mod_left, Nat.mod_mod, Nat.zero_xor] at h2
  (first | lia | omega)
theorem LN_parts {p : Nat} (h : p < 2 ^ 30) : LN (p / 32) ^^^ p % 32 = p := by
  rw [LN_small (by (first | lia | omega))]
  exact xor_parts p
def signsN (p : Nat) : List Nat := [p / 2 ^ 25 % 32, p / 2 ^ 20 % 32, p / 2 ^ 15 % 32, p / 2 ^ 10 % 32, p / 2 ^ 5 % 32, p % 32]
theorem pN_signs {p : Nat} (h : p < 2 ^ 30) : pN 0 (signsN p) = p := by
  show LN (LN (LN (LN (LN (LN 0 ^^^ p / 2 ^ 25 % 32) ^^^ p / 2 ^ 20 % 32) ^^^ p / 2 ^ 15 % 32) ^^^ p / 2 ^ 10 % 32) ^^^ p / 2 ^ 5 % 32) ^^^ p % 32 = p
  have step : ∀ q, q < 2 ^ 30 → LN (q / 32) ^^^ q % 32 = q := fun q hq => LN_parts hq
  have e0 : LN 0 ^^^ p / 2 ^ 25 % 32 = p / 2 ^ 25 := by
    rw [show LN 0 = 0 by decide +kernel, Nat.zero_xor]
    (first | lia | omega)
  rw [e0]
  have e1 : LN (p / 2 ^ 25) ^^^ p / 2 ^ 20 % 32 = p / 2 ^ 20 := by
    have := step (p / 2 ^ 20) (by (first | lia | omega))
    rwa [Nat.div_div_eq_div_mul] at this
  rw [e1]
  have e2 : LN (p / 2 ^ 20) ^^^ p / 2 ^ 15 % 32 = p / 2 ^ 15 := by
    have := step (p / 2 ^ 15) (by (first | lia | omega))
    rwa [Nat.div_div_eq_div_mul] at this
  rw [e2]
  have e3 : LN (p / 2 ^ 15) ^^^ p / 2 ^ 10 % 32 = p / 2 ^ 10 := by
    have := step (p / 2 ^ 10) (by (first | lia | omega))
    rwa [Nat.div_div_eq_div_mul] at this
  rw [e3]
  have e4 : LN (p / 2 ^ 10) ^^^ p / 2 ^ 5 % 32 = p / 2 ^ 5 := by
    have := step (p / 2 ^ 5) (by (first | lia | omega))
    rwa [Nat.div_div_eq_div_mul] at this
  rw [e4]
  exact step p h
theorem chk_nat (ms : List Nat) : chkI (castL ms) = castL (signsN (pN 1 (ms ++ [0, 0, 0, 0, 0, 0]) ^^^ 1)) := by
  have e : polyI (castL ms ++ [0, 0, 0, 0, 0, 0]) = ((pN 1 (ms ++ [0, 0, 0, 0, 0, 0]) : Nat) : Int) := by
    rw [← polyI_nat, castL_append]
    rfl
  unfold chkI
  rw [e]
  have e1 : Builtin.bitXor ((pN 1 (ms ++ [0, 0, 0, 0, 0, 0]) : Nat) : Int) 1 = ((pN 1 (ms ++ [0, 0, 0, 0, 0, 0]) ^^^ 1 : Nat) : Int) := bitXor_nat _ 1
  rw [e1]
  generalize pN 1 (ms ++ [0, 0, 0, 0, 0, 0]) ^^^ 1 = p
  have f : ∀ k : Nat, Builtin.bitAnd ((p : Int).fdiv (2 ^ k)) 31 = ((p / 2 ^ k % 32 : Nat) : Int) := fun k => by
    rw [bitAnd_m5, Int.fdiv_eq_ediv_of_nonneg _ (Int.le_of_lt (kbt_pos k)), ← kbt_cast, ← Int.natCast_ediv]
    rfl
  show [_, _, _, _, _, _] = _
  simp only [f]
  have z : p / 2 ^ (5 * (5 - 5)) = p := by simp
  rw [z]
  rfl
theorem signsN_small (p : Nat) : ∀ m ∈ signsN p, m < 32 := by
  intro m hm
  simp only [signsN, List.mem_cons, List.not_mem_nil, or_false] at hm
  rcases hm with rfl | rfl | rfl | rfl | rfl | rfl <;> exact Nat.mod_lt _ (by decide)
/-- the checksum's signs check -/
theorem poly_chk (ms : List Nat) (h : ∀ m ∈ ms, m < 32) : polyI (castL ms ++ chkI (castL ms)) = 1 := by
  rw [chk_nat, ← castL_append, polyI_nat, pN_append]
  have hc : pN 1 ms < 2 ^ 30 := pN_lt ms 1 (by decide) h
  have hp : pN 1 (ms ++ [0, 0, 0, 0, 0, 0]) < 2 ^ 30 := pN_lt _ 1 (by decide) (fun m hm => by
    rcases List.mem_append.mp hm with q | q
    · exact h m q
    · simp only [List.mem_cons, List.not_mem_nil, or_false] at q
      (first | lia | omega))
  have hp1 := Nat.xor_lt_two_pow hp (show 1 < 2 ^ 30 by decide)
  have k := pN_xor (signsN (pN 1 (ms ++ [0, 0, 0, 0, 0, 0]) ^^^ 1)) (pN 1 ms) 0
  rw [Nat.xor_zero, pN_signs hp1] at k
  rw [k]
  have e : pN (pN 1 ms) (List.replicate (signsN (pN 1 (ms ++ [0, 0, 0, 0, 0, 0]) ^^^ 1)).length 0) = pN 1 (ms ++ [0, 0, 0, 0, 0, 0]) := (pN_append 1 ms _).symm
  rw [e, ← Nat.xor_assoc, Nat.xor_self, Nat.zero_xor]
  rfl
theorem cast_ex : ∀ {ns : List Int}, (∀ n ∈ ns, 0 ≤ n ∧ n < 32) → ∃ ms : List Nat, ns = castL ms ∧ ∀ m ∈ ms, m < 32
  | [], _ => ⟨[], rfl, fun _ h => by cases h⟩
  | n :: r, h => by
    obtain ⟨ms, e, hm⟩ := cast_ex (ns := r) fun x hx => h x (.tail _ hx)
    obtain ⟨h1, h2⟩ := h n (.head _)
    refine ⟨n.toNat :: ms, ?_, fun m hx => ?_⟩
    · show _ = ((n.toNat : Nat) : Int) :: castL ms
      rw [← e, Int.toNat_of_nonneg h1]
    · rcases List.mem_cons.mp hx with rfl | hx
      · (first | lia | omega)
      · exact hm m hx
theorem chk_holds {ns : List Int} (h : ∀ n ∈ ns, 0 ≤ n ∧ n < 32) : polyI (ns ++ chkI ns) = 1 := by
  obtain ⟨ms, rfl, hm⟩ := cast_ex h
  exact poly_chk ms hm
theorem chk_turned {pre post : List Int} {a b : Int} (h1 : ∀ n ∈ pre, 0 ≤ n ∧ n < 32) (h2 : ∀ n ∈ post, 0 ≤ n ∧ n < 32) (ha : 0 ≤ a ∧ a < 32) (hb : 0 ≤ b ∧ b < 32) (hab : a ≠ b) (h : polyI (pre ++ a :: post) = 1) : polyI (pre ++ b :: post) ≠ 1 := by
  obtain ⟨p, rfl, hp⟩ := cast_ex h1
  obtain ⟨q, rfl, hq⟩ := cast_ex h2
  have ea : a = ((a.toNat : Nat) : Int) := (Int.toNat_of_nonneg ha.1).symm
  have eb : b = ((b.toNat : Nat) : Int) := (Int.toNat_of_nonneg hb.1).symm
  rw [eb]
  rw [ea] at h
  have e : ∀ x : Nat, castL p ++ (x : Int) :: castL q = castL (p ++ x :: q) := fun x => (castL_append p (x :: q)).symm
  rw [e, polyI_nat] at h ⊢
  intro h'
  exact pN_turned (pre := p) hq (a := a.toNat) (b := b.toNat) (by (first | lia | omega)) (by (first | lia | omega)) (by (first | lia | omega)) (by (first | lia | omega))
end Mine
end
section
open PySem PySem.W PySem.Calls PyProof.Rows
set_option maxHeartbeats 2000000
namespace Mine
section
local macro_rules | `(tactic| walk_at "exec Assign cons Subscript") => `(tactic| ((with_reducible show wpAny _ _ (exec (Stmt.Assign [Expr.Name (Str.ofString "version") _] _ _) _) _ _ _); (fail_if_success (with_reducible rename MarkT 2 => mm)); refine Hold.out ?_))
local macro_rules | `(tactic| walk_at "exec Assign cons Subscript") => `(tactic| ((with_reducible show wpAny _ _ (exec (Stmt.Assign [Expr.Name (Str.ofString "size") _] _ _) _) _ _ _); (fail_if_success (with_reducible rename MarkT 3 => mm)); refine Hold.out ?_))
local macro_rules | `(tactic| walk_at "exec Assign cons BoolOp") => `(tactic| ((with_reducible show wpAny _ _ (exec (Stmt.Assign [Expr.Name (Str.ofString "rows") _] _ _) _) _ _ _); (fail_if_success (with_reducible rename MarkT 4 => mm)); refine Hold.out ?_))
local macro_rules | `(tactic| walk_at "exec Assign cons Tuple") => `(tactic| ((fail_if_success (with_reducible rename MarkT 5 => mm)); refine Hold.out ?_))
local macro_rules | `(tactic| walk_at "exec Assign cons Subscript") => `(tactic| ((with_reducible show wpAny _ _ (exec (Stmt.Assign [Expr.Name (Str.ofString "other") _] _ _) _) _ _ _); (fail_if_success (with_reducible rename MarkT 6 => mm)); refine Hold.out ?_))
local macro_rules | `(tactic| walk_at "exec If BoolOp cons cons") => `(tactic| ((fail_if_success (with_reducible rename MarkT 7 => mm)); refine Hold.out ?_))
local macro_rules | `(tactic| walk_at "compareOp NotEq ref ref") => `(tactic| refine HoldN.out (n := 1) ?_)
local macro_rules | `(tactic| walk_at "binaryOp FloorDiv int int") => `(tactic| ((with_reducible show wpAny _ _ (binaryOp _ _ (Value.int (HPow.hPow _ _) _)) _ _ _); refine Hold.out ?_))
local macro_rules | `(tactic| walk_at "call ref") => `(tactic| refine Hold.out ?_)
local macro_rules | `(tactic| walk_at "storeName") => `(tactic| ((with_reducible show wpAny _ _ (storeName _ (Str.ofString "told") _) _ _ _); (fail_if_success (with_reducible rename MarkT 1 => mm)); refine Hold.out ?_))
local macro_rules | `(tactic| walk_at "exec Assign cons ListComp") => `(tactic| refine HoldN.out (n := 3) ?_)
local macro_rules | `(tactic| walk_at "eval Name") => `(tactic| (k_here; k_dflt (first
  | refine nm_global (by k_asm) (by k_asm) (by k_asm) (by k_is) ?_ (by rfl) (by rfl) (by rfl) (by decide)
  | refine nm_built (by k_asm) (by k_asm) (by k_asm) (by k_is) (by boot_by_name) (by decide) ?_ (by rfl) (by rfl) (by rfl) (by rfl) (by decide))))
/-- told, version, size, rows, octets -/
theorem law_A {w : World} {s : Shared} {Q E : Value → Shared → Prop} {l : Addr} {ns : List Int} {vs : List Value}
    {name qual : Str} {params : Arguments} {body : List Stmt} {scope : Scope} {dV kV doc pm cdv ct oc : Value} {an od : Option Addr} {osl : Array (Option Value)}
    {L' : Addr} {h : Heap} {tk : Nat} {oP : Obj}
    (ho : (hd.heap_39 w.params).lookup 92 = some ⟨oc, od, .func (fnOf name qual params body scope dV kV doc pm an cdv ct), osl⟩)
    (C : Cx w (1 + claimMargin) 4 (some []) [] s.heap 10) (hl : s.heap.IsList l vs.toArray) (hi : IntsAre vs ns) (hlen : ns.length ≤ 63)
    (F : Fr s.heap L' h (kstB (fun _ => none) [(Str.ofString "script", .ref l)])) (dY : oP.data = Data.cell none)
    (N : News s.heap L' h [(L' + 1, oP)])
    (done : (∀ h' tk' a3 a4 ys os (size : Nat) (ver t0 t1 t2 : Int) b0 b1 b2 x5 x6, Fr s.heap L' h' (kstB (fun _ => none) [(Str.ofString "octets", .ref a3), (Str.ofString "size", .int (size : Int) x5), (Str.ofString "version", .int ver x6), (Str.ofString "told", .ref a4), (Str.ofString "script", .ref l)]) →
      News s.heap L' h' [(a3, LCg.lst ys), (a4, listOf #[.int t0 b0, .int t1 b1, .int t2 b2] 0)] → IntsAre ys os → size = os.length → size ≤ 41 → (∀ n ∈ os, 0 ≤ n ∧ n < 256) → 0 ≤ ver → ver < 32 →
      wpAny (model PySem.Challenge.rw_jy0014_01.row.prog w) ((mA (1 + claimMargin) 4 (some []) []).deeper (envOfC qual scope L' 92 cdv)) (execs (body.drop 5) (envOfC qual scope L' 92 cdv)) (fun fl s' => Q (match fl with | .ret v => v | _ => .none) s') E { s with heap := h', toks := tk' })) :
    wpAny (model PySem.Challenge.rw_jy0014_01.row.prog w) ((mA (1 + claimMargin) 4 (some []) []).deeper (envOfC qual scope L' 92 cdv)) (execs (body.drop 0) (envOfC qual scope L' 92 cdv)) (fun fl s' => Q (match fl with | .ret v => v | _ => .none) s') E { s with heap := h, toks := tk } := by
  revert done
  refine' cut_use (motive := fun qual body scope cdv => (∀ h' tk' a3 a4 ys os (size : Nat) (ver t0 t1 t2 : Int) b0 b1 b2 x5 x6, Fr s.heap L' h' (kstB (fun _ => none) [(Str.ofString "octets", .ref a3), (Str.ofString "size", .int (size : Int) x5), (Str.ofString "version", .int ver x6), (Str.ofString "told", .ref a4), (Str.ofString "script", .ref l)]) →
      News s.heap L' h' [(a3, LCg.lst ys), (a4, listOf #[.int t0 b0, .int t1 b1, .int t2 b2] 0)] → IntsAre ys os → size = os.length → size ≤ 41 → (∀ n ∈ os, 0 ≤ n ∧ n < 256) → 0 ≤ ver → ver < 32 →
      wpAny (model PySem.Challenge.rw_jy0014_01.row.prog w) ((mA (1 + claimMargin) 4 (some []) []).deeper (envOfC qual scope L' 92 cdv)) (execs (body.drop 5) (envOfC qual scope L' 92 cdv)) (fun fl s' => Q (match fl with | .ret v => v | _ => .none) s') E { s with heap := h', toks := tk' }) →
      wpAny (model PySem.Challenge.rw_jy0014_01.row.prog w) ((mA (1 + claimMargin) 4 (some []) []).deeper (envOfC qual scope L' 92 cdv)) (execs (body.drop 0) (envOfC qual scope L' 92 cdv)) (fun fl s' => Q (match fl with | .ret v => v | _ => .none) s') E { s with heap := h, toks := tk }) ho ?h2 ?_
  case h2 => k_is
  dsimp only [List.drop]
  intro done
  have hun : 4 + 100 < cLine := C.units
  have hvl := hi.length
  obtain ⟨base, loose, mg, mb, B, X, T, _, _⟩ := Cx.opens C
  (try k_fold)
  (repeat' (first | (with_reducible refine HoldN.mk (n := 1) ?_; ((with_reducible show wpAny _ _ (compareOp CmpOp.NotEq (Value.ref _) (Value.ref _)) _ _ _); (with_unfolding_all refine' ne_intsK ?k1 ?k2 ?k3 ?k4 ?k5 ?_; (case k1 => is_list); (case k2 => l_intsC); (case k3 => is_list); (case k4 => l_intsC); (case k5 => (change _ + 3 + 64 < cLine; omega)); k_whole); (try simp only [filter_tt]))) | (with_reducible refine HoldN.mk (n := 3) ?_; (k_dflt (refine' Assign_ListComp_G (by k_asm) ?c0 ?cs ?c1 ?c2 ?c3 ?c4 ?c5 ?c7 ?c8 ?_ ?c6; (case c0 => rfl); (case cs => with_unfolding_all rfl); (case c1 => with_unfolding_all rfl); (case c2 => decide); (case c3 => rfl); (case c4 => decide); (case c5 => rfl); (case c7 => rfl); (case c8 => rfl); (case c6 => intro _; rfl)))) | (k_unfold; (try dsimp only)) | (k_end; kc_close) | walk1 | (dsimp only; walk1) | (leave1; walk_say "STEP leave1"; (try dsimp only)) | fail "no step"))
  refine Hold.mk ?_
  rename IntsAre _ (List.take 3 _) => h3
  obtain ⟨t0, t1, t2, a0, a1, a2, rfl, e3⟩ := ints3 h3
  rw [e3] at *
  have m1 := MarkT.mk 1
  (repeat' (first | (with_reducible refine HoldN.mk (n := 1) ?_; ((with_reducible show wpAny _ _ (compareOp CmpOp.NotEq (Value.ref _) (Value.ref _)) _ _ _); (with_unfolding_all refine' ne_intsK ?k1 ?k2 ?k3 ?k4 ?k5 ?_; (case k1 => is_list); (case k2 => l_intsC); (case k3 => is_list); (case k4 => l_intsC); (case k5 => (change _ + 3 + 64 < cLine; omega)); k_whole); (try simp only [filter_tt]))) | (with_reducible refine HoldN.mk (n := 3) ?_; (k_dflt (refine' Assign_ListComp_G (by k_asm) ?c0 ?cs ?c1 ?c2 ?c3 ?c4 ?c5 ?c7 ?c8 ?_ ?c6; (case c0 => rfl); (case cs => with_unfolding_all rfl); (case c1 => with_unfolding_all rfl); (case c2 => decide); (case c3 => rfl); (case c4 => decide); (case c5 => rfl); (case c7 => rfl); (case c8 => rfl); (case c6 => intro _; rfl)))) | (k_unfold; (try dsimp only)) | (k_end; kc_close) | walk1 | (dsimp only; walk1) | (leave1; walk_say "STEP leave1"; (try dsimp only)) | fail "no step"))
  have m2 := MarkT.mk 2
  have g0 : [t0, t1, t2].getD (Int.toNat 0) 0 = t0 := rfl
  have g1 : [t0, t1, t2].getD (Int.toNat 1) 0 = t1 := rfl
  have g2 : [t0, t1, t2].getD (Int.toNat 2) 0 = t2 := rfl
  refine Hold.mk ?_
  rename Fr _ _ _ _ => F1
  rename News _ _ _ _ => N1
  have N2 := news_03 N1
  clear N1 e3
  refine join_set (Str.ofString "version") (fun v => ∃ n t, v = .int n t ∧ 0 ≤ n ∧ n < 32) F1 N2 ?_ ?_
  · (repeat' (first | (with_reducible refine HoldN.mk (n := 1) ?_; ((with_reducible show wpAny _ _ (compareOp CmpOp.NotEq (Value.ref _) (Value.ref _)) _ _ _); (with_unfolding_all refine' ne_intsK ?k1 ?k2 ?k3 ?k4 ?k5 ?_; (case k1 => is_list); (case k2 => l_intsC); (case k3 => is_list); (case k4 => l_intsC); (case k5 => (change _ + 3 + 64 < cLine; omega)); k_whole); (try simp only [filter_tt]))) | (with_reducible refine HoldN.mk (n := 3) ?_; (k_dflt (refine' Assign_ListComp_G (by k_asm) ?c0 ?cs ?c1 ?c2 ?c3 ?c4 ?c5 ?c7 ?c8 ?_ ?c6; (case c0 => rfl); (case cs => with_unfolding_all rfl); (case c1 => with_unfolding_all rfl); (case c2 => decide); (case c3 => rfl); (case c4 => decide); (case c5 => rfl); (case c7 => rfl); (case c8 => rfl); (case c6 => intro _; rfl)))) | (k_unfold; (try dsimp only)) | (k_end; kc_close) | walk1 | (dsimp only; walk1) | (leave1; walk_say "STEP leave1"; (try dsimp only)) | fail "no step"))
    all_goals (
      rename Fr _ _ _ _ => F8
      rename News _ _ _ _ => N8
      refine JSet.intro F8 N8 (fun _ h => .tail _ h) ⟨_, _, rfl, ?_⟩
      try simp only [g0]
      have b1 := fm_bound (Int.fdiv t0 4) 3 (by decide)
      have b2 := fm_bound (Int.fdiv t0 4) 32 (by decide)
      omega)
  rintro h' tk _ F N ⟨ver, tv, rfl, hv0, hv1⟩
  clear F1 N2
  (try dsimp only)
  (repeat' (first | (with_reducible refine HoldN.mk (n := 1) ?_; ((with_reducible show wpAny _ _ (compareOp CmpOp.NotEq (Value.ref _) (Value.ref _)) _ _ _); (with_unfolding_all refine' ne_intsK ?k1 ?k2 ?k3 ?k4 ?k5 ?_; (case k1 => is_list); (case k2 => l_intsC); (case k3 => is_list); (case k4 => l_intsC); (case k5 => (change _ + 3 + 64 < cLine; omega)); k_whole); (try simp only [filter_tt]))) | (with_reducible refine HoldN.mk (n := 3) ?_; (k_dflt (refine' Assign_ListComp_G (by k_asm) ?c0 ?cs ?c1 ?c2 ?c3 ?c4 ?c5 ?c7 ?c8 ?_ ?c6; (case c0 => rfl); (case cs => with_unfolding_all rfl); (case c1 => with_unfolding_all rfl); (case c2 => decide); (case c3 => rfl); (case c4 => decide); (case c5 => rfl); (case c7 => rfl); (case c8 => rfl); (case c6 => intro _; rfl)))) | (k_unfold; (try dsimp only)) | (k_end; kc_close) | walk1 | (dsimp only; walk1) | (leave1; walk_say "STEP leave1"; (try dsimp only)) | fail "no step"))
  have m3 := MarkT.mk 3
  refine Hold.mk ?_
  rename Fr _ _ _ _ => F1
  rename News _ _ _ _ => N1
  refine join_set (Str.ofString "size") (fun v => ∃ (n : Nat) (t : Tok), v = .int (n : Int) t ∧ n ≤ 41) F1 N1 ?_ ?_
  · (repeat' (first | (with_reducible refine HoldN.mk (n := 1) ?_; ((with_reducible show wpAny _ _ (compareOp CmpOp.NotEq (Value.ref _) (Value.ref _)) _ _ _); (with_unfolding_all refine' ne_intsK ?k1 ?k2 ?k3 ?k4 ?k5 ?_; (case k1 => is_list); (case k2 => l_intsC); (case k3 => is_list); (case k4 => l_intsC); (case k5 => (change _ + 3 + 64 < cLine; omega)); k_whole); (try simp only [filter_tt]))) | (with_reducible refine HoldN.mk (n := 3) ?_; (k_dflt (refine' Assign_ListComp_G (by k_asm) ?c0 ?cs ?c1 ?c2 ?c3 ?c4 ?c5 ?c7 ?c8 ?_ ?c6; (case c0 => rfl); (case cs => with_unfolding_all rfl); (case c1 => with_unfolding_all rfl); (case c2 => decide); (case c3 => rfl); (case c4 => decide); (case c5 => rfl); (case c7 => rfl); (case c8 => rfl); (case c6 => intro _; rfl)))) | (k_unfold; (try dsimp only)) | (k_end; kc_close) | walk1 | (dsimp only; walk1) | (leave1; walk_say "STEP leave1"; (try dsimp only)) | fail "no step"))
    all_goals (
      rename Fr _ _ _ _ => F8
      rename News _ _ _ _ => N8
      refine JSet.intro F8 N8 (fun _ h => .tail _ h) ?_
      try simp only [g1]
      have b1 := fm_bound (Int.fdiv t1 3) 42 (by decide)
      first
        | exact ⟨20, _, rfl, by decide⟩
        | exact ⟨32, _, rfl, by decide⟩
        | exact ⟨((t1.fdiv 3).fmod 42).toNat, _, by rw [Int.toNat_of_nonneg b1.1], by omega⟩)
  clear F1 N1
  rintro h' tk _ F N ⟨size, tv, rfl, hsz⟩
  (try dsimp only)
  (repeat' (first | (with_reducible refine HoldN.mk (n := 1) ?_; ((with_reducible show wpAny _ _ (compareOp CmpOp.NotEq (Value.ref _) (Value.ref _)) _ _ _); (with_unfolding_all refine' ne_intsK ?k1 ?k2 ?k3 ?k4 ?k5 ?_; (case k1 => is_list); (case k2 => l_intsC); (case k3 => is_list); (case k4 => l_intsC); (case k5 => (change _ + 3 + 64 < cLine; omega)); k_whole); (try simp only [filter_tt]))) | (with_reducible refine HoldN.mk (n := 3) ?_; (k_dflt (refine' Assign_ListComp_G (by k_asm) ?c0 ?cs ?c1 ?c2 ?c3 ?c4 ?c5 ?c7 ?c8 ?_ ?c6; (case c0 => rfl); (case cs => with_unfolding_all rfl); (case c1 => with_unfolding_all rfl); (case c2 => decide); (case c3 => rfl); (case c4 => decide); (case c5 => rfl); (case c7 => rfl); (case c8 => rfl); (case c6 => intro _; rfl)))) | (k_unfold; (try dsimp only)) | (k_end; kc_close) | walk1 | (dsimp only; walk1) | (leave1; walk_say "STEP leave1"; (try dsimp only)) | fail "no step"))
  have m4 := MarkT.mk 4
  refine Hold.mk ?_
  rename Fr _ _ _ _ => F1
  rename News _ _ _ _ => N1
  refine join_row [_] (fun rs => rs ≠ [] ∧ rs.length ≤ 60) F1 N1 ?_ ?_
  · (repeat' (first | (with_reducible refine HoldN.mk (n := 1) ?_; ((with_reducible show wpAny _ _ (compareOp CmpOp.NotEq (Value.ref _) (Value.ref _)) _ _ _); (with_unfolding_all refine' ne_intsK ?k1 ?k2 ?k3 ?k4 ?k5 ?_; (case k1 => is_list); (case k2 => l_intsC); (case k3 => is_list); (case k4 => l_intsC); (case k5 => (change _ + 3 + 64 < cLine; omega)); k_whole); (try simp only [filter_tt]))) | (with_reducible refine HoldN.mk (n := 3) ?_; (k_dflt (refine' Assign_ListComp_G (by k_asm) ?c0 ?cs ?c1 ?c2 ?c3 ?c4 ?c5 ?c7 ?c8 ?_ ?c6; (case c0 => rfl); (case cs => with_unfolding_all rfl); (case c1 => with_unfolding_all rfl); (case c2 => decide); (case c3 => rfl); (case c4 => decide); (case c5 => rfl); (case c7 => rfl); (case c8 => rfl); (case c6 => intro _; rfl)))) | (k_unfold; (try dsimp only)) | (k_end; kc_close) | walk1 | (dsimp only; walk1) | (leave1; walk_say "STEP leave1"; (try dsimp only)) | fail "no step"))
    · rename Fr _ _ _ _ => F8
      rename News _ _ _ _ => N8
      rename _ = Data.cell _ => d8
      rename IntsAre _ (List.take (min 44 _ - 3) _) => i8
      rename 0 < List.length _ => p8
      refine JRow.intro F8 N8 d8 i8 (fun _ h => h) ⟨fun e => ?_, ?_⟩
      · rw [e] at p8; exact absurd p8 (Nat.lt_irrefl _)
      · rename (List.take (min 44 _ - 3) _).length ≤ _ => q8
        have : (List.take (min 44 ns.length - 3) (List.drop 3 ns)).length ≤ min 44 ns.length - 3 := List.length_take_le _ _
        omega
    · rename Fr _ _ _ _ => F8
      rename News _ _ _ _ => N8
      rename _ = Data.cell _ => d8
      exact JRow.intro (ns := [_]) F8 N8 d8 (.cons _ _ .nil) sub_acd ⟨fun e => (by cases e), by simp⟩
  clear F1 N1
  intro h' tk r rv rk oR rs F N dR ir hrs
  simp only [List.cons_append, List.nil_append] at N
  have hrl := ir.length
  have hrs0 : 0 < rs.length := List.length_pos_iff.mpr hrs.1
  have hrs1 : rs.length ≤ 60 := hrs.2
  (try dsimp only)
  (repeat' (first | (with_reducible refine HoldN.mk (n := 1) ?_; ((with_reducible show wpAny _ _ (compareOp CmpOp.NotEq (Value.ref _) (Value.ref _)) _ _ _); (with_unfolding_all refine' ne_intsK ?k1 ?k2 ?k3 ?k4 ?k5 ?_; (case k1 => is_list); (case k2 => l_intsC); (case k3 => is_list); (case k4 => l_intsC); (case k5 => (change _ + 3 + 64 < cLine; omega)); k_whole); (try simp only [filter_tt]))) | (with_reducible refine HoldN.mk (n := 3) ?_; (k_dflt (refine' Assign_ListComp_G (by k_asm) ?c0 ?cs ?c1 ?c2 ?c3 ?c4 ?c5 ?c7 ?c8 ?_ ?c6; (case c0 => rfl); (case cs => with_unfolding_all rfl); (case c1 => with_unfolding_all rfl); (case c2 => decide); (case c3 => rfl); (case c4 => decide); (case c5 => rfl); (case c7 => rfl); (case c8 => rfl); (case c6 => intro _; rfl)))) | (k_unfold; (try dsimp only)) | (k_end; kc_close) | walk1 | (dsimp only; walk1) | (leave1; walk_say "STEP leave1"; (try dsimp only)) | fail "no step"))
  rename News _ _ _ _ => N3
  rename Fr _ _ _ _ => F3
  rename IsRange _ _ _ _ _ _ _ _ => rg
  refine comp_range (n := size) (fun i y => ∃ n t, y = Value.int n t ∧ 0 ≤ n ∧ n < 256) rfl F3 N3 rg (range_small1 size (by omega)) (range_size1 size) (by rw [PySem.sizeLine_eq]; omega) ?_ ?_
  · intro i u hi I oI C' oC D ys m₂ h tk E' hC hx F N
    clear F3 N3
    have hm := fm_bound (0 + (i : Int) * 1) (rs.length : Int) (by omega)
    have hd := fd_bound (0 + (i : Int) * 1) (rs.length : Int) (by omega) (by omega)
    -- BEGIN octet
    have hp : (256 : Int) ^ ((0 + (i : Int) * 1).fdiv (rs.length : Int)).toNat ≠ 0 := Int.pow_ne_zero (by decide)
    (try k_fold)
    (repeat' (first | (with_reducible refine HoldN.mk (n := 1) ?_; ((with_reducible show wpAny _ _ (compareOp CmpOp.NotEq (Value.ref _) (Value.ref _)) _ _ _); (with_unfolding_all refine' ne_intsK ?k1 ?k2 ?k3 ?k4 ?k5 ?_; (case k1 => is_list); (case k2 => l_intsC); (case k3 => is_list); (case k4 => l_intsC); (case k5 => (change _ + 3 + 64 < cLine; omega)); k_whole); (try simp only [filter_tt]))) | (with_reducible refine HoldN.mk (n := 3) ?_; (k_dflt (refine' Assign_ListComp_G (by k_asm) ?c0 ?cs ?c1 ?c2 ?c3 ?c4 ?c5 ?c7 ?c8 ?_ ?c6; (case c0 => rfl); (case cs => with_unfolding_all rfl); (case c1 => with_unfolding_all rfl); (case c2 => decide); (case c3 => rfl); (case c4 => decide); (case c5 => rfl); (case c7 => rfl); (case c8 => rfl); (case c6 => intro _; rfl)))) | (k_unfold; (try dsimp only)) | (k_end; kc_close) | walk1 | (dsimp only; walk1) | (leave1; walk_say "STEP leave1"; (try dsimp only)) | fail "no step"))
    refine Hold.mk ?_
    refine PyProof.Rows.floordiv_int hp ?_ (.inl (PyProof.noPylong_of_log2 (log256 _ (by omega))))
    (try dsimp only)
    (repeat' (first | (with_reducible refine HoldN.mk (n := 1) ?_; ((with_reducible show wpAny _ _ (compareOp CmpOp.NotEq (Value.ref _) (Value.ref _)) _ _ _); (with_unfolding_all refine' ne_intsK ?k1 ?k2 ?k3 ?k4 ?k5 ?_; (case k1 => is_list); (case k2 => l_intsC); (case k3 => is_list); (case k4 => l_intsC); (case k5 => (change _ + 3 + 64 < cLine; omega)); k_whole); (try simp only [filter_tt]))) | (with_reducible refine HoldN.mk (n := 3) ?_; (k_dflt (refine' Assign_ListComp_G (by k_asm) ?c0 ?cs ?c1 ?c2 ?c3 ?c4 ?c5 ?c7 ?c8 ?_ ?c6; (case c0 => rfl); (case cs => with_unfolding_all rfl); (case c1 => with_unfolding_all rfl); (case c2 => decide); (case c3 => rfl); (case c4 => decide); (case c5 => rfl); (case c7 => rfl); (case c8 => rfl); (case c6 => intro _; rfl)))) | (k_unfold; (try dsimp only)) | (k_end; kc_close) | walk1 | (dsimp only; walk1) | (leave1; walk_say "STEP leave1"; (try dsimp only)) | fail "no step"))
    rename News _ _ _ _ => N4
    rename Fr _ _ _ _ => F4
    exact EEnd.intro F4 N4 (fun _ h => h) ⟨_, _, rfl, fm_bound _ 256 (by decide)⟩
    -- END octet
  · intro g ys hyl hy
    obtain ⟨os, io, hos⟩ := ints_ex hy
    have hol := io.length
    rw [hyl] at hol
    intro D h tk F N o1
    clear F3 N3
    (try dsimp only)
    exact done _ _ _ _ _ _ _ _ _ _ _ _ _ _ _ _ F (news_0134 N) io hol (by omega) hos hv0 hv1
end
end Mine
end
section
open PySem PySem.W PySem.Calls PyProof.Rows
set_option maxHeartbeats 2000000
namespace Mine
section
local macro_rules | `(tactic| walk_at "J pad") => `(tactic| skip)
local macro_rules | `(tactic| walk_at "exec Assign cons Subscript") => `(tactic| ((with_reducible show wpAny _ _ (exec (Stmt.Assign [Expr.Name (Str.ofString "version") _] _ _) _) _ _ _); (fail_if_success (with_reducible rename MarkT 2 => mm)); refine Hold.out ?_))
local macro_rules | `(tactic| walk_at "exec Assign cons Subscript") => `(tactic| ((with_reducible show wpAny _ _ (exec (Stmt.Assign [Expr.Name (Str.ofString "size") _] _ _) _) _ _ _); (fail_if_success (with_reducible rename MarkT 3 => mm)); refine Hold.out ?_))
local macro_rules | `(tactic| walk_at "exec Assign cons BoolOp") => `(tactic| ((with_reducible show wpAny _ _ (exec (Stmt.Assign [Expr.Name (Str.ofString "rows") _] _ _) _) _ _ _); (fail_if_success (with_reducible rename MarkT 4 => mm)); refine Hold.out ?_))
local macro_rules | `(tactic| walk_at "exec Assign cons Tuple") => `(tactic| ((fail_if_success (with_reducible rename MarkT 5 => mm)); refine Hold.out ?_))
local macro_rules | `(tactic| walk_at "exec Assign cons Subscript") => `(tactic| ((with_reducible show wpAny _ _ (exec (Stmt.Assign [Expr.Name (Str.ofString "other") _] _ _) _) _ _ _); (fail_if_success (with_reducible rename MarkT 6 => mm)); refine Hold.out ?_))
local macro_rules | `(tactic| walk_at "exec If BoolOp cons cons") => `(tactic| ((fail_if_success (with_reducible rename MarkT 7 => mm)); refine Hold.out ?_))
local macro_rules | `(tactic| walk_at "compareOp NotEq ref ref") => `(tactic| refine HoldN.out (n := 1) ?_)
local macro_rules | `(tactic| walk_at "binaryOp FloorDiv int int") => `(tactic| ((with_reducible show wpAny _ _ (binaryOp _ _ (Value.int (HPow.hPow _ _) _)) _ _ _); refine Hold.out ?_))
local macro_rules | `(tactic| walk_at "call ref") => `(tactic| refine Hold.out ?_)
local macro_rules | `(tactic| walk_at "storeName") => `(tactic| ((with_reducible show wpAny _ _ (storeName _ (Str.ofString "told") _) _ _ _); (fail_if_success (with_reducible rename MarkT 1 => mm)); refine Hold.out ?_))
local macro_rules | `(tactic| walk_at "exec Assign cons ListComp") => `(tactic| refine HoldN.out (n := 3) ?_)
local macro_rules | `(tactic| walk_at "eval Name") => `(tactic| (k_here; k_dflt (first
  | refine nm_global (by k_asm) (by k_asm) (by k_asm) (by k_is) ?_ (by rfl) (by rfl) (by rfl) (by decide)
  | refine nm_built (by k_asm) (by k_asm) (by k_asm) (by k_is) (by boot_by_name) (by decide) ?_ (by rfl) (by rfl) (by rfl) (by rfl) (by decide))))
/-- own, groups, names -/
theorem law_B {w : World} {s : Shared} {Q E : Value → Shared → Prop} {l : Addr} {os : List Int}
    {name qual : Str} {params : Arguments} {body : List Stmt} {scope : Scope} {dV kV doc pm cdv ct oc : Value} {an od : Option Addr} {osl : Array (Option Value)}
    {L' a3 a4 : Addr} {h : Heap} {tk : Nat} {ver t0 t1 t2 : Int} {size : Nat} {ys : List Value} {b0 b1 b2 x5 x6 : Tok}
    (ho : (hd.heap_39 w.params).lookup 92 = some ⟨oc, od, .func (fnOf name qual params body scope dV kV doc pm an cdv ct), osl⟩)
    (C : Cx w (1 + claimMargin) 4 (some []) [] s.heap 10) (io : IntsAre ys os) (hol : size = os.length) (hsz : size ≤ 41)
    (F : Fr s.heap L' h (kstB (fun _ => none) [(Str.ofString "octets", .ref a3), (Str.ofString "size", .int (size : Int) x5), (Str.ofString "version", .int ver x6), (Str.ofString "told", .ref a4), (Str.ofString "script", .ref l)]))
    (N : News s.heap L' h [(a3, LCg.lst ys), (a4, listOf #[.int t0 b0, .int t1 b1, .int t2 b2] 0)])
    (done : (∀ h' tk' a1 a2 k1 k2 us (ix jx : Nat) (deed rest : Int) x1 x2 x3 x4, Fr s.heap L' h' (fB l a1 a2 a3 a4 deed rest ver ix jx size x1 x2 x3 x4 x5 x6) →
      News s.heap L' h' [(a1, listOf us.toArray k1), (a2, listOf us.toArray k2), (a3, LCg.lst ys), (a4, listOf #[.int t0 b0, .int t1 b1, .int t2 b2] 0)] → IntsAre us (groupsI os) → us.length = (8 * os.length + 4) / 5 → 0 ≤ deed → deed < 8 → 0 ≤ rest → ix < 4 → jx < 4 → jx ≠ ix → @Ne Nat a2 a1 → @Ne Nat a3 a1 → @Ne Nat a4 a1 →
      wpAny (model PySem.Challenge.rw_jy0014_01.row.prog w) ((mA (1 + claimMargin) 4 (some []) []).deeper (envOfC qual scope L' 92 cdv)) (execs (body.drop 9) (envOfC qual scope L' 92 cdv)) (fun fl s' => Q (match fl with | .ret v => v | _ => .none) s') E { s with heap := h', toks := tk' })) :
    wpAny (model PySem.Challenge.rw_jy0014_01.row.prog w) ((mA (1 + claimMargin) 4 (some []) []).deeper (envOfC qual scope L' 92 cdv)) (execs (body.drop 5) (envOfC qual scope L' 92 cdv)) (fun fl s' => Q (match fl with | .ret v => v | _ => .none) s') E { s with heap := h, toks := tk } := by
  revert done
  refine' cut_use (motive := fun qual body scope cdv => (∀ h' tk' a1 a2 k1 k2 us (ix jx : Nat) (deed rest : Int) x1 x2 x3 x4, Fr s.heap L' h' (fB l a1 a2 a3 a4 deed rest ver ix jx size x1 x2 x3 x4 x5 x6) →
      News s.heap L' h' [(a1, listOf us.toArray k1), (a2, listOf us.toArray k2), (a3, LCg.lst ys), (a4, listOf #[.int t0 b0, .int t1 b1, .int t2 b2] 0)] → IntsAre us (groupsI os) → us.length = (8 * os.length + 4) / 5 → 0 ≤ deed → deed < 8 → 0 ≤ rest → ix < 4 → jx < 4 → jx ≠ ix → @Ne Nat a2 a1 → @Ne Nat a3 a1 → @Ne Nat a4 a1 →
      wpAny (model PySem.Challenge.rw_jy0014_01.row.prog w) ((mA (1 + claimMargin) 4 (some []) []).deeper (envOfC qual scope L' 92 cdv)) (execs (body.drop 9) (envOfC qual scope L' 92 cdv)) (fun fl s' => Q (match fl with | .ret v => v | _ => .none) s') E { s with heap := h', toks := tk' }) →
      wpAny (model PySem.Challenge.rw_jy0014_01.row.prog w) ((mA (1 + claimMargin) 4 (some []) []).deeper (envOfC qual scope L' 92 cdv)) (execs (body.drop 5) (envOfC qual scope L' 92 cdv)) (fun fl s' => Q (match fl with | .ret v => v | _ => .none) s') E { s with heap := h, toks := tk }) ho ?h2 ?_
  case h2 => k_is
  dsimp only [List.drop]
  intro done
  have hun : 4 + 100 < cLine := C.units
  obtain ⟨base, loose, mg, mb, B, X, T, _, _⟩ := Cx.opens C
  have i3 : IntsAre [Value.int t0 b0, Value.int t1 b1, Value.int t2 b2] [t0, t1, t2] := .cons _ _ (.cons _ _ (.cons _ _ .nil))
  have hyl := io.length
  (try k_fold)
  (repeat' (first | (with_reducible refine HoldN.mk (n := 1) ?_; ((with_reducible show wpAny _ _ (compareOp CmpOp.NotEq (Value.ref _) (Value.ref _)) _ _ _); (with_unfolding_all refine' ne_intsK ?k1 ?k2 ?k3 ?k4 ?k5 ?_; (case k1 => is_list); (case k2 => l_intsC); (case k3 => is_list); (case k4 => l_intsC); (case k5 => (change _ + 3 + 64 < cLine; (first | lia | omega))); k_whole); (try simp only [filter_tt]))) | (with_reducible refine HoldN.mk (n := 3) ?_; (k_dflt (refine' Assign_ListComp_G (by k_asm) ?c0 ?cs ?c1 ?c2 ?c3 ?c4 ?c5 ?c7 ?c8 ?_ ?c6; (case c0 => rfl); (case cs => with_unfolding_all rfl); (case c1 => with_unfolding_all rfl); (case c2 => decide); (case c3 => rfl); (case c4 => decide); (case c5 => rfl); (case c7 => rfl); (case c8 => rfl); (case c6 => intro _; rfl)))) | (k_unfold; (try dsimp only)) | (k_end; kc_close) | walk1 | (dsimp only; walk1) | (leave1; walk_say "STEP leave1"; (try dsimp only)) | fail "no step"))
  refine Hold.mk ?_
  rename News _ _ _ _ => N1
  rename Fr _ _ _ _ => F1
  with_unfolding_all refine' gr_tells (Cx.push C F1 rfl ?hu) (by is_list) io (by (first | lia | omega)) ?_
  case hu => (first | exact Nat.add_le_add_left (by decide) _ | (dsimp only; (first | lia | omega)))
  intro h2 tk2 r2 us n2 st hr2 fresh2 iu
  have F2 := fr_stays F1 st
  have N2 := news_new F1 N1 st hr2 fresh2
  have l2 := allNe_of N1 fresh2
  simp only [AllNe, and_true] at l2
  have hul := iu.length
  have hgl := groupsI_length os
  clear F1 N1
  (try dsimp only)
  (repeat' (first | (with_reducible refine HoldN.mk (n := 1) ?_; ((with_reducible show wpAny _ _ (compareOp CmpOp.NotEq (Value.ref _) (Value.ref _)) _ _ _); (with_unfolding_all refine' ne_intsK ?k1 ?k2 ?k3 ?k4 ?k5 ?_; (case k1 => is_list); (case k2 => l_intsC); (case k3 => is_list); (case k4 => l_intsC); (case k5 => (change _ + 3 + 64 < cLine; (first | lia | omega))); k_whole); (try simp only [filter_tt]))) | (with_reducible refine HoldN.mk (n := 3) ?_; (k_dflt (refine' Assign_ListComp_G (by k_asm) ?c0 ?cs ?c1 ?c2 ?c3 ?c4 ?c5 ?c7 ?c8 ?_ ?c6; (case c0 => rfl); (case cs => with_unfolding_all rfl); (case c1 => with_unfolding_all rfl); (case c2 => decide); (case c3 => rfl); (case c4 => decide); (case c5 => rfl); (case c7 => rfl); (case c8 => rfl); (case c6 => intro _; rfl)))) | (k_unfold; (try dsimp only)) | (k_end; kc_close) | walk1 | (dsimp only; walk1) | (leave1; walk_say "STEP leave1"; (try dsimp only)) | fail "no step"))
  have g0 : [t0, t1, t2].getD (Int.toNat 0) 0 = t0 := rfl
  have g1 : [t0, t1, t2].getD (Int.toNat 1) 0 = t1 := rfl
  have g2 : [t0, t1, t2].getD (Int.toNat 2) 0 = t2 := rfl
  refine Hold.mk ?_
  rename News _ _ _ _ => N1
  rename Fr _ _ _ _ => F1
  have m5 := MarkT.mk 5
  refine join_set3 (Str.ofString "name") (Str.ofString "deed") (Str.ofString "rest") (fun a b c => ∃ (i : Nat) (d e : Int) (x y z : Tok), a = .str (nmS i) x ∧ b = .int d y ∧ c = .int e z ∧ i < 4 ∧ Int.fmod t2 4 = (i : Int) ∧ 0 ≤ d ∧ d < 8 ∧ 0 ≤ e) F1 N1 ?_ ?_
  · (repeat' (first | (with_reducible refine HoldN.mk (n := 1) ?_; ((with_reducible show wpAny _ _ (compareOp CmpOp.NotEq (Value.ref _) (Value.ref _)) _ _ _); (with_unfolding_all refine' ne_intsK ?k1 ?k2 ?k3 ?k4 ?k5 ?_; (case k1 => is_list); (case k2 => l_intsC); (case k3 => is_list); (case k4 => l_intsC); (case k5 => (change _ + 3 + 64 < cLine; (first | lia | omega))); k_whole); (try simp only [filter_tt]))) | (with_reducible refine HoldN.mk (n := 3) ?_; (k_dflt (refine' Assign_ListComp_G (by k_asm) ?c0 ?cs ?c1 ?c2 ?c3 ?c4 ?c5 ?c7 ?c8 ?_ ?c6; (case c0 => rfl); (case cs => with_unfolding_all rfl); (case c1 => with_unfolding_all rfl); (case c2 => decide); (case c3 => rfl); (case c4 => decide); (case c5 => rfl); (case c7 => rfl); (case c8 => rfl); (case c6 => intro _; rfl)))) | (k_unfold; (try dsimp only)) | (k_end; kc_close) | walk1 | (dsimp only; walk1) | (leave1; walk_say "STEP leave1"; (try dsimp only)) | fail "no step"))
    refine Hold.mk ?_
    rename News _ _ _ _ => N1
    rename Fr _ _ _ _ => F1
    with_unfolding_all refine' nm_tells (Cx.push C F1 rfl ?hu) ?_
    case hu => (first | exact Nat.add_le_add_left (by decide) _ | (dsimp only; (first | lia | omega)))
    intro h3 tk3 r3 n3 u1 u2 u3 u4 st3 hr3 fresh3
    have F2 := fr_stays F1 st3
    have N2 := news_new F1 N1 st3 hr3 fresh3
    have l3 := allNe_of N1 fresh3
    simp only [AllNe, and_true] at l3
    clear F1 N1
    (try dsimp only)
    (repeat' (first | (with_reducible refine HoldN.mk (n := 1) ?_; ((with_reducible show wpAny _ _ (compareOp CmpOp.NotEq (Value.ref _) (Value.ref _)) _ _ _); (with_unfolding_all refine' ne_intsK ?k1 ?k2 ?k3 ?k4 ?k5 ?_; (case k1 => is_list); (case k2 => l_intsC); (case k3 => is_list); (case k4 => l_intsC); (case k5 => (change _ + 3 + 64 < cLine; (first | lia | omega))); k_whole); (try simp only [filter_tt]))) | (with_reducible refine HoldN.mk (n := 3) ?_; (k_dflt (refine' Assign_ListComp_G (by k_asm) ?c0 ?cs ?c1 ?c2 ?c3 ?c4 ?c5 ?c7 ?c8 ?_ ?c6; (case c0 => rfl); (case cs => with_unfolding_all rfl); (case c1 => with_unfolding_all rfl); (case c2 => decide); (case c3 => rfl); (case c4 => decide); (case c5 => rfl); (case c7 => rfl); (case c8 => rfl); (case c6 => intro _; rfl)))) | (k_unfold; (try dsimp only)) | (k_end; kc_close) | walk1 | (dsimp only; walk1) | (leave1; walk_say "STEP leave1"; (try dsimp only)) | fail "no step"))
    all_goals (
      rename Fr _ _ _ _ => F8
      rename News _ _ _ _ => N8
      refine JSet3.intro F8 (fun _ => rfl) N8 (fun _ h => .tail _ (.tail _ h)) ?_
      have b1 := fm_bound (Int.fdiv t2 4) 8 (by decide)
      have b2 := abs_fdiv t2
      first
        | exact ⟨0, _, _, _, _, _, rfl, rfl, rfl, by decide, by assumption, b1.1, b1.2, b2⟩
        | exact ⟨1, _, _, _, _, _, rfl, rfl, rfl, by decide, by assumption, b1.1, b1.2, b2⟩
        | exact ⟨2, _, _, _, _, _, rfl, rfl, rfl, by decide, by assumption, b1.1, b1.2, b2⟩
        | exact ⟨3, _, _, _, _, _, rfl, rfl, rfl, by decide, by assumption, b1.1, b1.2, b2⟩)
  clear F1 N1
  rintro h' tk _ _ _ F N ⟨ix, deed, rest, x1, x2, x3, rfl, rfl, rfl, hix, hfm, hd0, hd1, hr0⟩
  (try dsimp only)
  (repeat' (first | (with_reducible refine HoldN.mk (n := 1) ?_; ((with_reducible show wpAny _ _ (compareOp CmpOp.NotEq (Value.ref _) (Value.ref _)) _ _ _); (with_unfolding_all refine' ne_intsK ?k1 ?k2 ?k3 ?k4 ?k5 ?_; (case k1 => is_list); (case k2 => l_intsC); (case k3 => is_list); (case k4 => l_intsC); (case k5 => (change _ + 3 + 64 < cLine; (first | lia | omega))); k_whole); (try simp only [filter_tt]))) | (with_reducible refine HoldN.mk (n := 3) ?_; (k_dflt (refine' Assign_ListComp_G (by k_asm) ?c0 ?cs ?c1 ?c2 ?c3 ?c4 ?c5 ?c7 ?c8 ?_ ?c6; (case c0 => rfl); (case cs => with_unfolding_all rfl); (case c1 => with_unfolding_all rfl); (case c2 => decide); (case c3 => rfl); (case c4 => decide); (case c5 => rfl); (case c7 => rfl); (case c8 => rfl); (case c6 => intro _; rfl)))) | (k_unfold; (try dsimp only)) | (k_end; kc_close) | walk1 | (dsimp only; walk1) | (leave1; walk_say "STEP leave1"; (try dsimp only)) | fail "no step"))
  refine Hold.mk ?_
  rename News _ _ _ _ => N1
  rename Fr _ _ _ _ => F1
  have m6 := MarkT.mk 6
  have hnl := nmS_size ix
  refine join_set (Str.ofString "other") (fun v => ∃ (j : Nat) (t : Tok), v = .str (nmS j) t ∧ j < 4 ∧ j ≠ ix) F1 N1 ?_ ?_
  · (repeat' (first | (with_reducible refine HoldN.mk (n := 1) ?_; ((with_reducible show wpAny _ _ (compareOp CmpOp.NotEq (Value.ref _) (Value.ref _)) _ _ _); (with_unfolding_all refine' ne_intsK ?k1 ?k2 ?k3 ?k4 ?k5 ?_; (case k1 => is_list); (case k2 => l_intsC); (case k3 => is_list); (case k4 => l_intsC); (case k5 => (change _ + 3 + 64 < cLine; (first | lia | omega))); k_whole); (try simp only [filter_tt]))) | (with_reducible refine HoldN.mk (n := 3) ?_; (k_dflt (refine' Assign_ListComp_G (by k_asm) ?c0 ?cs ?c1 ?c2 ?c3 ?c4 ?c5 ?c7 ?c8 ?_ ?c6; (case c0 => rfl); (case cs => with_unfolding_all rfl); (case c1 => with_unfolding_all rfl); (case c2 => decide); (case c3 => rfl); (case c4 => decide); (case c5 => rfl); (case c7 => rfl); (case c8 => rfl); (case c6 => intro _; rfl)))) | (k_unfold; (try dsimp only)) | (k_end; kc_close) | walk1 | (dsimp only; walk1) | (leave1; walk_say "STEP leave1"; (try dsimp only)) | fail "no step"))
    refine Hold.mk ?_
    rename News _ _ _ _ => N1
    rename Fr _ _ _ _ => F1
    with_unfolding_all refine' nm_tells (Cx.push C F1 rfl ?hu) ?_
    case hu => (first | exact Nat.add_le_add_left (by decide) _ | (dsimp only; (first | lia | omega)))
    intro h3 tk3 r3 n3 u1 u2 u3 u4 st3 hr3 fresh3
    have F2 := fr_stays F1 st3
    have N2 := news_new F1 N1 st3 hr3 fresh3
    have l3 := allNe_of N1 fresh3
    simp only [AllNe, and_true] at l3
    clear F1 N1
    (try dsimp only)
    (repeat' (first | (with_reducible refine HoldN.mk (n := 1) ?_; ((with_reducible show wpAny _ _ (compareOp CmpOp.NotEq (Value.ref _) (Value.ref _)) _ _ _); (with_unfolding_all refine' ne_intsK ?k1 ?k2 ?k3 ?k4 ?k5 ?_; (case k1 => is_list); (case k2 => l_intsC); (case k3 => is_list); (case k4 => l_intsC); (case k5 => (change _ + 3 + 64 < cLine; (first | lia | omega))); k_whole); (try simp only [filter_tt]))) | (with_reducible refine HoldN.mk (n := 3) ?_; (k_dflt (refine' Assign_ListComp_G (by k_asm) ?c0 ?cs ?c1 ?c2 ?c3 ?c4 ?c5 ?c7 ?c8 ?_ ?c6; (case c0 => rfl); (case cs => with_unfolding_all rfl); (case c1 => with_unfolding_all rfl); (case c2 => decide); (case c3 => rfl); (case c4 => decide); (case c5 => rfl); (case c7 => rfl); (case c8 => rfl); (case c6 => intro _; rfl)))) | (k_unfold; (try dsimp only)) | (k_end; kc_close) | walk1 | (dsimp only; walk1) | (leave1; walk_say "STEP leave1"; (try dsimp only)) | fail "no step"))
    all_goals (
      rename Fr _ _ _ _ => F8
      rename News _ _ _ _ => N8
      refine JSet.intro F8 N8 (fun _ h => .tail _ h) ?_
      first
        | exact ⟨0, _, rfl, by decide, other_ne hfm (by assumption)⟩
        | exact ⟨1, _, rfl, by decide, other_ne hfm (by assumption)⟩
        | exact ⟨2, _, rfl, by decide, other_ne hfm (by assumption)⟩
        | exact ⟨3, _, rfl, by decide, other_ne hfm (by assumption)⟩)
  clear F1 N1
  rintro h' tk _ F N ⟨jx, x4, rfl, hjx, hji⟩
  (try dsimp only)
  rw [hgl] at hul
  refine done _ _ _ _ _ _ _ _ _ _ _ _ _ _ _ F N iu hul hd0 hd1 hr0 hix hjx hji ?_ ?_ ?_
  all_goals (show @Ne Nat _ _; first | assumption | (first | lia | omega))
end
end Mine
end
section
open PySem PySem.W PySem.Calls PyProof.Rows
set_option maxHeartbeats 2000000
namespace Mine
section
local macro_rules | `(tactic| walk_at "exec Assign cons Subscript") => `(tactic| ((with_reducible show wpAny _ _ (exec (Stmt.Assign [Expr.Name (Str.ofString "version") _] _ _) _) _ _ _); (fail_if_success (with_reducible rename MarkT 2 => mm)); refine Hold.out ?_))
local macro_rules | `(tactic| walk_at "exec Assign cons Subscript") => `(tactic| ((with_reducible show wpAny _ _ (exec (Stmt.Assign [Expr.Name (Str.ofString "size") _] _ _) _) _ _ _); (fail_if_success (with_reducible rename MarkT 3 => mm)); refine Hold.out ?_))
local macro_rules | `(tactic| walk_at "exec Assign cons BoolOp") => `(tactic| ((with_reducible show wpAny _ _ (exec (Stmt.Assign [Expr.Name (Str.ofString "rows") _] _ _) _) _ _ _); (fail_if_success (with_reducible rename MarkT 4 => mm)); refine Hold.out ?_))
local macro_rules | `(tactic| walk_at "exec Assign cons Tuple") => `(tactic| ((fail_if_success (with_reducible rename MarkT 5 => mm)); refine Hold.out ?_))
local macro_rules | `(tactic| walk_at "exec Assign cons Subscript") => `(tactic| ((with_reducible show wpAny _ _ (exec (Stmt.Assign [Expr.Name (Str.ofString "other") _] _ _) _) _ _ _); (fail_if_success (with_reducible rename MarkT 6 => mm)); refine Hold.out ?_))
local macro_rules | `(tactic| walk_at "exec If BoolOp cons cons") => `(tactic| ((fail_if_success (with_reducible rename MarkT 7 => mm)); refine Hold.out ?_))
local macro_rules | `(tactic| walk_at "compareOp NotEq ref ref") => `(tactic| refine HoldN.out (n := 1) ?_)
local macro_rules | `(tactic| walk_at "binaryOp Pow int int") => `(tactic| ((fail_if_success (with_reducible rename MarkT 9 => mm)); refine Hold.out ?_))
local macro_rules | `(tactic| walk_at "setItem ref int") => `(tactic| refine Hold.out ?_)
local macro_rules | `(tactic| walk_at "binaryOp FloorDiv int int") => `(tactic| ((with_reducible show wpAny _ _ (binaryOp _ _ (Value.int (HPow.hPow _ _) _)) _ _ _); refine Hold.out ?_))
local macro_rules | `(tactic| walk_at "call ref") => `(tactic| refine Hold.out ?_)
local macro_rules | `(tactic| walk_at "storeName") => `(tactic| ((with_reducible show wpAny _ _ (storeName _ (Str.ofString "told") _) _ _ _); (fail_if_success (with_reducible rename MarkT 1 => mm)); refine Hold.out ?_))
local macro_rules | `(tactic| walk_at "exec Assign cons ListComp") => `(tactic| refine HoldN.out (n := 3) ?_)
local macro_rules | `(tactic| walk_at "eval Name") => `(tactic| (k_here; k_dflt (first
  | refine nm_global (by k_asm) (by k_asm) (by k_asm) (by k_is) ?_ (by rfl) (by rfl) (by rfl) (by decide)
  | refine nm_built (by k_asm) (by k_asm) (by k_asm) (by k_is) (by boot_by_name) (by decide) ?_ (by rfl) (by rfl) (by rfl) (by rfl) (by decide))))
theorem grp_same {m : Str → Option Value} {r : Addr} (h : m (Str.ofString "groups") = some (.ref r)) : ∀ q, m q = if q = Str.ofString "groups" then some (.ref r) else m q := fun q => by
  by_cases e : q = Str.ofString "groups"
  · rw [if_pos e, e, h]
  · rw [if_neg e]
theorem pow_small {n g size : Nat} (h : g = (8 * n + 4) / 5) (hs : n = size) (r : Int) : r.fmod (if 5 * (g : Int) - 8 * (size : Int) > 1 then 5 * (g : Int) - 8 * (size : Int) else 1) = 0 ∨ r.fmod (if 5 * (g : Int) - 8 * (size : Int) > 1 then 5 * (g : Int) - 8 * (size : Int) else 1) = 1 ∨ r.fmod (if 5 * (g : Int) - 8 * (size : Int) > 1 then 5 * (g : Int) - 8 * (size : Int) else 1) = 2 ∨ r.fmod (if 5 * (g : Int) - 8 * (size : Int) > 1 then 5 * (g : Int) - 8 * (size : Int) else 1) = 3 := by
  split
  · have b := fm_bound r (5 * (g : Int) - 8 * (size : Int)) (by (first | lia | omega))
    (first | lia | omega)
  · have b := fm_bound r 1 (by decide)
    (first | lia | omega)
theorem xor_small : ∀ a : Nat, a < 32 → ∀ b : Nat, b < 32 → 0 ≤ Builtin.bitXor (a : Int) (b : Int) ∧ Builtin.bitXor (a : Int) (b : Int) < 32 := by decide +kernel
theorem xor_smallI {a b : Int} (ha : 0 ≤ a ∧ a < 32) (hb : 0 ≤ b ∧ b < 32) : 0 ≤ Builtin.bitXor a b ∧ Builtin.bitXor a b < 32 := by
  have := xor_small a.toNat (by (first | lia | omega)) b.toNat (by (first | lia | omega))
  rwa [Int.toNat_of_nonneg ha.1, Int.toNat_of_nonneg hb.1] at this
theorem news_tail {h₀ h : Heap} {L : Addr} {a : Addr × Obj} {l : List (Addr × Obj)} (N : News h₀ L h (a :: l)) : News h₀ L h l := fun p hp => N p (.tail _ hp)
theorem getD_mem {l : List Int} {i : Nat} (h : i < l.length) : l.getD i 0 ∈ l := by
  rw [List.getD_eq_getElem?_getD, List.getElem?_eq_getElem h]
  exact List.getElem_mem h
/-- the chain of deeds -/
theorem law_C {w : World} {s : Shared} {Q E : Value → Shared → Prop} {l : Addr} {ns os : List Int}
    {name qual : Str} {params : Arguments} {body : List Stmt} {scope : Scope} {dV kV doc pm cdv ct oc : Value} {an od : Option Addr} {osl : Array (Option Value)}
    {L' a1 a2 a3 a4 : Addr} {h : Heap} {tk : Nat} {deed rest ver : Int} {ix jx size k1 k2 : Nat} {us ys : List Value} {oT : Obj} {x1 x2 x3 x4 x5 x6 : Tok}
    (ho : (hd.heap_39 w.params).lookup 92 = some ⟨oc, od, .func (fnOf name qual params body scope dV kV doc pm an cdv ct), osl⟩)
    (C : Cx w (1 + claimMargin) 4 (some []) [] s.heap 10) (iu : IntsAre us (groupsI os)) (hul : us.length = (8 * os.length + 4) / 5) (hsz : os.length = size) (hsz2 : size ≤ 41) (hd0 : 0 ≤ deed) (hd1 : deed < 8) (hr0 : 0 ≤ rest) (d12 : @Ne Nat a2 a1) (d13 : @Ne Nat a3 a1) (d14 : @Ne Nat a4 a1)
    (F : Fr s.heap L' h (fB l a1 a2 a3 a4 deed rest ver ix jx size x1 x2 x3 x4 x5 x6))
    (N : News s.heap L' h [(a1, listOf us.toArray k1), (a2, listOf us.toArray k2), (a3, LCg.lst ys), (a4, oT)])
    (rest : ∀ h' tk' r vs k gs, Fr s.heap L' h' (kstB (fB l a1 a2 a3 a4 deed rest ver ix jx size x1 x2 x3 x4 x5 x6) [(Str.ofString "groups", .ref r)]) →
      News s.heap L' h' [(r, listOf vs.toArray k), (a2, listOf us.toArray k2), (a3, LCg.lst ys), (a4, oT)] → IntsAre vs gs → (∀ n ∈ gs, 0 ≤ n ∧ n < 32) → gs.length ≤ 68 → ((deed = 0 ∨ deed = 5 ∨ deed = 6 ∨ deed = 7) → gs = groupsI os) →
      wpAny (model PySem.Challenge.rw_jy0014_01.row.prog w) ((mA (1 + claimMargin) 4 (some []) []).deeper (envOfC qual scope L' 92 cdv)) (execs (body.drop 10) (envOfC qual scope L' 92 cdv)) (fun fl s' => Q (match fl with | .ret v => v | _ => .none) s') E { s with heap := h', toks := tk' }) :
    wpAny (model PySem.Challenge.rw_jy0014_01.row.prog w) ((mA (1 + claimMargin) 4 (some []) []).deeper (envOfC qual scope L' 92 cdv)) (execs (body.drop 9) (envOfC qual scope L' 92 cdv)) (fun fl s' => Q (match fl with | .ret v => v | _ => .none) s') E { s with heap := h, toks := tk } := by
  revert rest
  refine' cut_use (motive := fun qual body scope cdv => (∀ h' tk' r vs k gs, Fr s.heap L' h' (kstB (fB l a1 a2 a3 a4 deed rest ver ix jx size x1 x2 x3 x4 x5 x6) [(Str.ofString "groups", .ref r)]) →
      News s.heap L' h' [(r, listOf vs.toArray k), (a2, listOf us.toArray k2), (a3, LCg.lst ys), (a4, oT)] → IntsAre vs gs → (∀ n ∈ gs, 0 ≤ n ∧ n < 32) → gs.length ≤ 68 → ((deed = 0 ∨ deed = 5 ∨ deed = 6 ∨ deed = 7) → gs = groupsI os) →
      wpAny (model PySem.Challenge.rw_jy0014_01.row.prog w) ((mA (1 + claimMargin) 4 (some []) []).deeper (envOfC qual scope L' 92 cdv)) (execs (body.drop 10) (envOfC qual scope L' 92 cdv)) (fun fl s' => Q (match fl with | .ret v => v | _ => .none) s') E { s with heap := h', toks := tk' }) →
      wpAny (model PySem.Challenge.rw_jy0014_01.row.prog w) ((mA (1 + claimMargin) 4 (some []) []).deeper (envOfC qual scope L' 92 cdv)) (execs (body.drop 9) (envOfC qual scope L' 92 cdv)) (fun fl s' => Q (match fl with | .ret v => v | _ => .none) s') E { s with heap := h, toks := tk }) ho ?h2 ?_
  case h2 => k_is
  dsimp only [List.drop]
  intro done
  have hun : 4 + 100 < cLine := C.units
  obtain ⟨base, loose, mg, mb, B, X, T, _, _⟩ := Cx.opens C
  have hgl := groupsI_length os
  have hown := groupsI_small os
  (try k_fold)
  (repeat' (first | (with_reducible refine HoldN.mk (n := 1) ?_; ((with_reducible show wpAny _ _ (compareOp CmpOp.NotEq (Value.ref _) (Value.ref _)) _ _ _); (with_unfolding_all refine' ne_intsK ?k1 ?k2 ?k3 ?k4 ?k5 ?_; (case k1 => is_list); (case k2 => l_intsC); (case k3 => is_list); (case k4 => l_intsC); (case k5 => (change _ + 3 + 64 < cLine; (first | lia | omega))); k_whole); (try simp only [filter_tt]))) | (with_reducible refine HoldN.mk (n := 3) ?_; (k_dflt (refine' Assign_ListComp_G (by k_asm) ?c0 ?cs ?c1 ?c2 ?c3 ?c4 ?c5 ?c7 ?c8 ?_ ?c6; (case c0 => rfl); (case cs => with_unfolding_all rfl); (case c1 => with_unfolding_all rfl); (case c2 => decide); (case c3 => rfl); (case c4 => decide); (case c5 => rfl); (case c7 => rfl); (case c8 => rfl); (case c6 => intro _; rfl)))) | (k_unfold; (try dsimp only)) | (k_end; kc_close) | walk1 | (dsimp only; walk1) | (leave1; walk_say "STEP leave1"; (try dsimp only)) | fail "no step"))
  have m7 := MarkT.mk 7
  refine Hold.mk ?_
  refine join_grp (fun gs => (∀ n ∈ gs, 0 ≤ n ∧ n < 32) ∧ gs.length ≤ 68 ∧ ((deed = 0 ∨ deed = 5 ∨ deed = 6 ∨ deed = 7) → gs = groupsI os)) F N ?_ ?_
  · (repeat' (first | (with_reducible refine HoldN.mk (n := 1) ?_; ((with_reducible show wpAny _ _ (compareOp CmpOp.NotEq (Value.ref _) (Value.ref _)) _ _ _); (with_unfolding_all refine' ne_intsK ?k1 ?k2 ?k3 ?k4 ?k5 ?_; (case k1 => is_list); (case k2 => l_intsC); (case k3 => is_list); (case k4 => l_intsC); (case k5 => (change _ + 3 + 64 < cLine; (first | lia | omega))); k_whole); (try simp only [filter_tt]))) | (with_reducible refine HoldN.mk (n := 3) ?_; (k_dflt (refine' Assign_ListComp_G (by k_asm) ?c0 ?cs ?c1 ?c2 ?c3 ?c4 ?c5 ?c7 ?c8 ?_ ?c6; (case c0 => rfl); (case cs => with_unfolding_all rfl); (case c1 => with_unfolding_all rfl); (case c2 => decide); (case c3 => rfl); (case c4 => decide); (case c5 => rfl); (case c7 => rfl); (case c8 => rfl); (case c6 => intro _; rfl)))) | (k_unfold; (try dsimp only)) | (k_end; kc_close) | walk1 | (dsimp only; walk1) | (leave1; walk_say "STEP leave1"; (try dsimp only)) | fail "no step"))
    all_goals try (
      rename Fr _ _ _ _ => F8
      rename News _ _ _ _ => N8
      rename IntsAre _ (groupsI os ++ [_]) => i8
      have b8 := fm_bound rest 32 (by decide)
      refine JGrp.intro F8 (fun _ => rfl) N8 (by kcf_all) i8 ⟨fun n hn => ?_, ?_, fun hd => ?_⟩
      · rcases List.mem_append.mp hn with h | h
        · exact hown n h
        · rw [List.mem_singleton.mp h]; first | exact b8 | decide
      · rw [List.length_append, hgl, List.length_singleton]; (first | lia | omega)
      · exfalso; (first | lia | omega))
    all_goals try (
      rename Fr _ _ _ _ => F8
      rename News _ _ _ _ => N8
      rename IntsAre _ (List.take _ (groupsI os)) => i8
      refine JGrp.intro F8 (fun _ => rfl) N8 (by kcf_all) i8 ⟨fun n hn => hown n (List.mem_of_mem_take hn), ?_, fun hd => ?_⟩
      · have := List.length_take_le ((groupsI os).length - 1) (groupsI os)
        (first | lia | omega)
      · exfalso; (first | lia | omega))
    all_goals try (
      rename Fr _ _ _ _ => F8
      rename News _ _ _ _ => N8
      refine JGrp.intro F8 (grp_same rfl) N8 (by kcf_all) iu ⟨hown, ?_, fun _ => rfl⟩
      (first | lia | omega))
    all_goals (
      have m8 := MarkT.mk 8
      rename decide (groupsI os = []) = false => hne
      have hpos : 0 < (groupsI os).length := by
        rcases Nat.eq_zero_or_pos (groupsI os).length with h | h
        · rw [List.length_eq_zero_iff.mp h] at hne
          simp at hne
        · exact h)
    all_goals (repeat' (first | (with_reducible refine HoldN.mk (n := 1) ?_; ((with_reducible show wpAny _ _ (compareOp CmpOp.NotEq (Value.ref _) (Value.ref _)) _ _ _); (with_unfolding_all refine' ne_intsK ?k1 ?k2 ?k3 ?k4 ?k5 ?_; (case k1 => is_list); (case k2 => l_intsC); (case k3 => is_list); (case k4 => l_intsC); (case k5 => (change _ + 3 + 64 < cLine; (first | lia | omega))); k_whole); (try simp only [filter_tt]))) | (with_reducible refine HoldN.mk (n := 3) ?_; (k_dflt (refine' Assign_ListComp_G (by k_asm) ?c0 ?cs ?c1 ?c2 ?c3 ?c4 ?c5 ?c7 ?c8 ?_ ?c6; (case c0 => rfl); (case cs => with_unfolding_all rfl); (case c1 => with_unfolding_all rfl); (case c2 => decide); (case c3 => rfl); (case c4 => decide); (case c5 => rfl); (case c7 => rfl); (case c8 => rfl); (case c6 => intro _; rfl)))) | (k_unfold; (try dsimp only)) | (k_end; kc_close) | walk1 | (dsimp only; walk1) | (leave1; walk_say "STEP leave1"; (try dsimp only)) | fail "no step"))
    all_goals (
      have m9 := MarkT.mk 9
      refine Hold.mk ?_
      obtain ⟨e, he, he2⟩ : ∃ e : Int, rest.fmod (if 5 * ((groupsI os).length : Int) - 8 * (size : Int) > 1 then 5 * ((groupsI os).length : Int) - 8 * (size : Int) else 1) = e ∧ (e = 0 ∨ e = 1 ∨ e = 2 ∨ e = 3) := ⟨_, rfl, pow_small hgl hsz rest⟩
      rw [he]
      clear he)
    all_goals rcases he2 with rfl | rfl | rfl | rfl
    all_goals (repeat' (first | (with_reducible refine HoldN.mk (n := 1) ?_; ((with_reducible show wpAny _ _ (compareOp CmpOp.NotEq (Value.ref _) (Value.ref _)) _ _ _); (with_unfolding_all refine' ne_intsK ?k1 ?k2 ?k3 ?k4 ?k5 ?_; (case k1 => is_list); (case k2 => l_intsC); (case k3 => is_list); (case k4 => l_intsC); (case k5 => (change _ + 3 + 64 < cLine; (first | lia | omega))); k_whole); (try simp only [filter_tt]))) | (with_reducible refine HoldN.mk (n := 3) ?_; (k_dflt (refine' Assign_ListComp_G (by k_asm) ?c0 ?cs ?c1 ?c2 ?c3 ?c4 ?c5 ?c7 ?c8 ?_ ?c6; (case c0 => rfl); (case cs => with_unfolding_all rfl); (case c1 => with_unfolding_all rfl); (case c2 => decide); (case c3 => rfl); (case c4 => decide); (case c5 => rfl); (case c7 => rfl); (case c8 => rfl); (case c6 => intro _; rfl)))) | (k_unfold; (try dsimp only)) | (k_end; kc_close) | walk1 | (dsimp only; walk1) | (leave1; walk_say "STEP leave1"; (try dsimp only)) | fail "no step"))
    all_goals (
      refine Hold.mk ?_
      rename Fr _ _ _ _ => F8
      rename News _ _ _ _ => N8
      have N9 := news_tail N8
      (try dsimp only)
      refine' set_back F8 N9 (by k_upd) iu hpos ?_
      intro h9 F9 N10 i9
      clear F8 N8 N9
      (try dsimp only))
    all_goals (repeat' (first | (with_reducible refine HoldN.mk (n := 1) ?_; ((with_reducible show wpAny _ _ (compareOp CmpOp.NotEq (Value.ref _) (Value.ref _)) _ _ _); (with_unfolding_all refine' ne_intsK ?k1 ?k2 ?k3 ?k4 ?k5 ?_; (case k1 => is_list); (case k2 => l_intsC); (case k3 => is_list); (case k4 => l_intsC); (case k5 => (change _ + 3 + 64 < cLine; (first | lia | omega))); k_whole); (try simp only [filter_tt]))) | (with_reducible refine HoldN.mk (n := 3) ?_; (k_dflt (refine' Assign_ListComp_G (by k_asm) ?c0 ?cs ?c1 ?c2 ?c3 ?c4 ?c5 ?c7 ?c8 ?_ ?c6; (case c0 => rfl); (case cs => with_unfolding_all rfl); (case c1 => with_unfolding_all rfl); (case c2 => decide); (case c3 => rfl); (case c4 => decide); (case c5 => rfl); (case c7 => rfl); (case c8 => rfl); (case c6 => intro _; rfl)))) | (k_unfold; (try dsimp only)) | (k_end; kc_close) | walk1 | (dsimp only; walk1) | (leave1; walk_say "STEP leave1"; (try dsimp only)) | fail "no step"))
    all_goals (
      rename Fr _ _ _ _ => F9
      rename News _ _ _ _ => N10
      rename IntsAre _ (List.set _ _ _) => i9
      refine JGrp.intro F9 (grp_same rfl) N10 (by kcf_all) i9 ⟨fun n hn => ?_, ?_, fun hd => ?_⟩
      · rcases List.mem_or_eq_of_mem_set hn with h | rfl
        · exact hown n h
        · refine xor_smallI ?_ (by decide)
          refine hown _ ?_
          first
            | exact getD_mem (by (first | lia | omega))
      · rw [List.length_set]; (first | lia | omega)
      · exfalso; (first | lia | omega))
  intro h' tk gr gv gk gs F N ig hgs
  (try dsimp only)
  exact done _ _ _ _ _ _ F N ig hgs.1 hgs.2.1 hgs.2.2
end
end Mine
end
section
open PySem PySem.W PySem.Calls PyProof.Rows
set_option maxHeartbeats 2000000
namespace Mine
section
local macro_rules | `(tactic| walk_at "exec Assign cons Subscript") => `(tactic| ((with_reducible show wpAny _ _ (exec (Stmt.Assign [Expr.Name (Str.ofString "version") _] _ _) _) _ _ _); (fail_if_success (with_reducible rename MarkT 2 => mm)); refine Hold.out ?_))
local macro_rules | `(tactic| walk_at "exec Assign cons Subscript") => `(tactic| ((with_reducible show wpAny _ _ (exec (Stmt.Assign [Expr.Name (Str.ofString "size") _] _ _) _) _ _ _); (fail_if_success (with_reducible rename MarkT 3 => mm)); refine Hold.out ?_))
local macro_rules | `(tactic| walk_at "exec Assign cons BoolOp") => `(tactic| ((with_reducible show wpAny _ _ (exec (Stmt.Assign [Expr.Name (Str.ofString "rows") _] _ _) _) _ _ _); (fail_if_success (with_reducible rename MarkT 4 => mm)); refine Hold.out ?_))
local macro_rules | `(tactic| walk_at "exec Assign cons Tuple") => `(tactic| ((fail_if_success (with_reducible rename MarkT 5 => mm)); refine Hold.out ?_))
local macro_rules | `(tactic| walk_at "exec Assign cons Subscript") => `(tactic| ((with_reducible show wpAny _ _ (exec (Stmt.Assign [Expr.Name (Str.ofString "other") _] _ _) _) _ _ _); (fail_if_success (with_reducible rename MarkT 6 => mm)); refine Hold.out ?_))
local macro_rules | `(tactic| walk_at "exec If BoolOp cons cons") => `(tactic| ((fail_if_success (with_reducible rename MarkT 7 => mm)); refine Hold.out ?_))
local macro_rules | `(tactic| walk_at "compareOp NotEq ref ref") => `(tactic| refine HoldN.out (n := 1) ?_)
local macro_rules | `(tactic| walk_at "binaryOp FloorDiv int int") => `(tactic| ((with_reducible show wpAny _ _ (binaryOp _ _ (Value.int (HPow.hPow _ _) _)) _ _ _); refine Hold.out ?_))
local macro_rules | `(tactic| walk_at "execs cons") => `(tactic| ((with_reducible show wpAny _ _ (execs (Stmt.Assign [Expr.Name (Str.ofString "text") _] _ _ :: _) _) _ _ _); refine Hold.out ?_))
local macro_rules | `(tactic| walk_at "call ref") => `(tactic| refine Hold.out ?_)
local macro_rules | `(tactic| walk_at "storeName") => `(tactic| ((with_reducible show wpAny _ _ (storeName _ (Str.ofString "told") _) _ _ _); (fail_if_success (with_reducible rename MarkT 1 => mm)); refine Hold.out ?_))
local macro_rules | `(tactic| walk_at "exec Assign cons ListComp") => `(tactic| refine HoldN.out (n := 3) ?_)
local macro_rules | `(tactic| walk_at "eval Name") => `(tactic| (k_here; k_dflt (first
  | refine nm_global (by k_asm) (by k_asm) (by k_asm) (by k_is) ?_ (by rfl) (by rfl) (by rfl) (by decide)
  | refine nm_built (by k_asm) (by k_asm) (by k_asm) (by k_is) (by boot_by_name) (by decide) ?_ (by rfl) (by rfl) (by rfl) (by rfl) (by decide))))
theorem any_2032 {n : Nat} (h : n = 20 ∨ n = 32) : ([20, 32] : List Int).any (fun x => x == (n : Int)) = true := by
  rcases h with rfl | rfl <;> decide
theorem any_not2032 {n : Nat} (h : ¬ (n = 20 ∨ n = 32)) : ([20, 32] : List Int).any (fun x => x == (n : Int)) = false := by
  simp only [List.any_cons, List.any_nil, Bool.or_false, Bool.or_eq_false_iff, beq_eq_false_iff_ne]
  (first | lia | omega)
theorem progI_length {gs ps : List Int} (h : progI gs = some ps) (hg : gs.length ≤ 68) : ps.length ≤ 100 := by
  unfold progI at h
  split at h
  · cases h
  · cases h
    rw [List.length_map, List.length_range, bits5_length]
    (first | lia | omega)
/-- program, may -/
theorem law_D {w : World} {s : Shared} {Q E : Value → Shared → Prop} {l : Addr} {gs : List Int}
    {name qual : Str} {params : Arguments} {body : List Stmt} {scope : Scope} {dV kV doc pm cdv ct oc : Value} {an od : Option Addr} {osl : Array (Option Value)}
    {L' r a1 a2 a3 a4 : Addr} {h : Heap} {tk : Nat} {deed rest ver : Int} {ix jx size k k2 : Nat} {vs us ys : List Value} {oT : Obj} {x1 x2 x3 x4 x5 x6 : Tok}
    (ho : (hd.heap_39 w.params).lookup 92 = some ⟨oc, od, .func (fnOf name qual params body scope dV kV doc pm an cdv ct), osl⟩)
    (C : Cx w (1 + claimMargin) 4 (some []) [] s.heap 10) (ig : IntsAre vs gs) (hgl : gs.length ≤ 68)
    (F : Fr s.heap L' h (kstB (fB l a1 a2 a3 a4 deed rest ver ix jx size x1 x2 x3 x4 x5 x6) [(Str.ofString "groups", .ref r)]))
    (N : News s.heap L' h [(r, listOf vs.toArray k), (a2, listOf us.toArray k2), (a3, LCg.lst ys), (a4, oT)])
    (done0 : (∀ h' tk' pv, Fr s.heap L' h' (fE (.bool false) pv r (fB l a1 a2 a3 a4 deed rest ver ix jx size x1 x2 x3 x4 x5 x6)) → News s.heap L' h' [(r, listOf vs.toArray k), (a2, listOf us.toArray k2), (a3, LCg.lst ys), (a4, oT)] → mayP ver gs = none →
      wpAny (model PySem.Challenge.rw_jy0014_01.row.prog w) ((mA (1 + claimMargin) 4 (some []) []).deeper (envOfC qual scope L' 92 cdv)) (execs (body.drop 12) (envOfC qual scope L' 92 cdv)) (fun fl s' => Q (match fl with | .ret v => v | _ => .none) s') E { s with heap := h', toks := tk' }))
    (done1 : (∀ h' tk' rp pvs pk ps, Fr s.heap L' h' (fE (.bool true) (.ref rp) r (fB l a1 a2 a3 a4 deed rest ver ix jx size x1 x2 x3 x4 x5 x6)) → News s.heap L' h' [(rp, listOf (List.toArray pvs) pk), (r, listOf vs.toArray k), (a2, listOf us.toArray k2), (a3, LCg.lst ys), (a4, oT)] → IntsAre pvs ps → mayP ver gs = some ps →
      wpAny (model PySem.Challenge.rw_jy0014_01.row.prog w) ((mA (1 + claimMargin) 4 (some []) []).deeper (envOfC qual scope L' 92 cdv)) (execs (body.drop 12) (envOfC qual scope L' 92 cdv)) (fun fl s' => Q (match fl with | .ret v => v | _ => .none) s') E { s with heap := h', toks := tk' })) :
    wpAny (model PySem.Challenge.rw_jy0014_01.row.prog w) ((mA (1 + claimMargin) 4 (some []) []).deeper (envOfC qual scope L' 92 cdv)) (execs (body.drop 10) (envOfC qual scope L' 92 cdv)) (fun fl s' => Q (match fl with | .ret v => v | _ => .none) s') E { s with heap := h, toks := tk } := by
  revert done0 done1
  refine' cut_use (motive := fun qual body scope cdv => (∀ h' tk' pv, Fr s.heap L' h' (fE (.bool false) pv r (fB l a1 a2 a3 a4 deed rest ver ix jx size x1 x2 x3 x4 x5 x6)) → News s.heap L' h' [(r, listOf vs.toArray k), (a2, listOf us.toArray k2), (a3, LCg.lst ys), (a4, oT)] → mayP ver gs = none →
      wpAny (model PySem.Challenge.rw_jy0014_01.row.prog w) ((mA (1 + claimMargin) 4 (some []) []).deeper (envOfC qual scope L' 92 cdv)) (execs (body.drop 12) (envOfC qual scope L' 92 cdv)) (fun fl s' => Q (match fl with | .ret v => v | _ => .none) s') E { s with heap := h', toks := tk' }) → (∀ h' tk' rp pvs pk ps, Fr s.heap L' h' (fE (.bool true) (.ref rp) r (fB l a1 a2 a3 a4 deed rest ver ix jx size x1 x2 x3 x4 x5 x6)) → News s.heap L' h' [(rp, listOf (List.toArray pvs) pk), (r, listOf vs.toArray k), (a2, listOf us.toArray k2), (a3, LCg.lst ys), (a4, oT)] → IntsAre pvs ps → mayP ver gs = some ps →
      wpAny (model PySem.Challenge.rw_jy0014_01.row.prog w) ((mA (1 + claimMargin) 4 (some []) []).deeper (envOfC qual scope L' 92 cdv)) (execs (body.drop 12) (envOfC qual scope L' 92 cdv)) (fun fl s' => Q (match fl with | .ret v => v | _ => .none) s') E { s with heap := h', toks := tk' }) →
      wpAny (model PySem.Challenge.rw_jy0014_01.row.prog w) ((mA (1 + claimMargin) 4 (some []) []).deeper (envOfC qual scope L' 92 cdv)) (execs (body.drop 10) (envOfC qual scope L' 92 cdv)) (fun fl s' => Q (match fl with | .ret v => v | _ => .none) s') E { s with heap := h, toks := tk }) ho ?h2 ?_
  case h2 => k_is
  dsimp only [List.drop]
  intro done0 done1
  have hun : 4 + 100 < cLine := C.units
  have hgv := ig.length
  obtain ⟨base, loose, mg, mb, B, X, T, _, _⟩ := Cx.opens C
  (try k_fold)
  (repeat' (first | (with_reducible refine HoldN.mk (n := 1) ?_; ((with_reducible show wpAny _ _ (compareOp CmpOp.NotEq (Value.ref _) (Value.ref _)) _ _ _); (with_unfolding_all refine' ne_intsK ?k1 ?k2 ?k3 ?k4 ?k5 ?_; (case k1 => is_list); (case k2 => l_intsC); (case k3 => is_list); (case k4 => l_intsC); (case k5 => (change _ + 3 + 64 < cLine; (first | lia | omega))); k_whole); (try simp only [filter_tt]))) | (with_reducible refine HoldN.mk (n := 3) ?_; (k_dflt (refine' Assign_ListComp_G (by k_asm) ?c0 ?cs ?c1 ?c2 ?c3 ?c4 ?c5 ?c7 ?c8 ?_ ?c6; (case c0 => rfl); (case cs => with_unfolding_all rfl); (case c1 => with_unfolding_all rfl); (case c2 => decide); (case c3 => rfl); (case c4 => decide); (case c5 => rfl); (case c7 => rfl); (case c8 => rfl); (case c6 => intro _; rfl)))) | (k_unfold; (try dsimp only)) | (k_end; kc_close) | walk1 | (dsimp only; walk1) | (leave1; walk_say "STEP leave1"; (try dsimp only)) | fail "no step"))
  refine Hold.mk ?_
  rename News _ _ _ _ => N1
  rename Fr _ _ _ _ => F1
  with_unfolding_all refine' pr_tells (Cx.push C F1 rfl ?hu) (by is_list) ig (by (first | lia | omega)) ?_ ?_
  case hu => (first | exact Nat.add_le_add_left (by decide) _ | (dsimp only; (first | lia | omega)))
  · intro h2 tk2 st hno
    have F2 := fr_stays F1 st
    have N2 := news_stays N1 st
    have hm : mayP ver gs = none := by unfold mayP; rw [hno]
    clear F1 N1
    (try dsimp only)
    (repeat' (first | (with_reducible refine HoldN.mk (n := 1) ?_; ((with_reducible show wpAny _ _ (compareOp CmpOp.NotEq (Value.ref _) (Value.ref _)) _ _ _); (with_unfolding_all refine' ne_intsK ?k1 ?k2 ?k3 ?k4 ?k5 ?_; (case k1 => is_list); (case k2 => l_intsC); (case k3 => is_list); (case k4 => l_intsC); (case k5 => (change _ + 3 + 64 < cLine; (first | lia | omega))); k_whole); (try simp only [filter_tt]))) | (with_reducible refine HoldN.mk (n := 3) ?_; (k_dflt (refine' Assign_ListComp_G (by k_asm) ?c0 ?cs ?c1 ?c2 ?c3 ?c4 ?c5 ?c7 ?c8 ?_ ?c6; (case c0 => rfl); (case cs => with_unfolding_all rfl); (case c1 => with_unfolding_all rfl); (case c2 => decide); (case c3 => rfl); (case c4 => decide); (case c5 => rfl); (case c7 => rfl); (case c8 => rfl); (case c6 => intro _; rfl)))) | (k_unfold; (try dsimp only)) | (k_end; kc_close) | walk1 | (dsimp only; walk1) | (leave1; walk_say "STEP leave1"; (try dsimp only)) | fail "no step"))
    refine Hold.mk ?_
    rename News _ _ _ _ => N9
    rename Fr _ _ _ _ => F9
    exact done0 _ _ _ F9 N9 hm
  · intro h2 tk2 rp pvs pk ps st hr fresh ip hps
    have F2 := fr_stays F1 st
    have N2 := news_new F1 N1 st hr fresh
    have l2 := allNe_of N1 fresh
    simp only [AllNe, and_true] at l2
    have hpl := ip.length
    have hpb : ps.length ≤ 100 := progI_length hps hgl
    clear F1 N1
    (try dsimp only)
    (repeat' (first | (with_reducible refine HoldN.mk (n := 1) ?_; ((with_reducible show wpAny _ _ (compareOp CmpOp.NotEq (Value.ref _) (Value.ref _)) _ _ _); (with_unfolding_all refine' ne_intsK ?k1 ?k2 ?k3 ?k4 ?k5 ?_; (case k1 => is_list); (case k2 => l_intsC); (case k3 => is_list); (case k4 => l_intsC); (case k5 => (change _ + 3 + 64 < cLine; (first | lia | omega))); k_whole); (try simp only [filter_tt]))) | (with_reducible refine HoldN.mk (n := 3) ?_; (k_dflt (refine' Assign_ListComp_G (by k_asm) ?c0 ?cs ?c1 ?c2 ?c3 ?c4 ?c5 ?c7 ?c8 ?_ ?c6; (case c0 => rfl); (case cs => with_unfolding_all rfl); (case c1 => with_unfolding_all rfl); (case c2 => decide); (case c3 => rfl); (case c4 => decide); (case c5 => rfl); (case c7 => rfl); (case c8 => rfl); (case c6 => intro _; rfl)))) | (k_unfold; (try dsimp only)) | (k_end; kc_close) | walk1 | (dsimp only; walk1) | (leave1; walk_say "STEP leave1"; (try dsimp only)) | fail "no step"))
    all_goals (
      refine Hold.mk ?_
      rename News _ _ _ _ => N9
      rename Fr _ _ _ _ => F9
      try simp only [*, decide_true, decide_false, decide_not, Bool.not_true] at F9)
    all_goals try exact done0 _ _ _ F9 (news_tail N9) (by unfold mayP; rw [hps]; dsimp only; rw [if_neg (by (first | lia | omega))])
    all_goals try exact done1 _ _ _ _ _ _ F9 N9 ip (by unfold mayP; rw [hps]; dsimp only; rw [if_pos (by (first | lia | omega))])
    by_cases h20 : ps.length = 20 ∨ ps.length = 32
    · rw [any_2032 h20] at F9
      exact done1 _ _ _ _ _ _ F9 (news_sub N9 (by kcf_all)) ip (by unfold mayP; rw [hps]; dsimp only; rw [if_pos (by (first | lia | omega))])
    · rw [any_not2032 h20] at F9
      exact done0 _ _ _ F9 (news_sub N9 (by kcf_all)) (by unfold mayP; rw [hps]; dsimp only; rw [if_neg (by (first | lia | omega))])
end
end Mine
end
section
open PySem PySem.W PySem.Calls PyProof.Rows
set_option maxHeartbeats 2000000
namespace Mine
section
local macro_rules | `(tactic| walk_at "eval IfExp") => `(tactic| ((fail_if_success (with_reducible rename MarkT 40 => mm)); refine Hold.out ?_))
local macro_rules | `(tactic| walk_at "call ref") => `(tactic| refine Hold.out ?_)
local macro_rules | `(tactic| walk_at "exec Assign cons ListComp") => `(tactic| refine HoldN.out (n := 3) ?_)
local macro_rules | `(tactic| walk_at "eval Name") => `(tactic| (k_here; k_dflt (first
  | refine nm_global (by k_asm) (by k_asm) (by k_asm) (by k_is) ?_ (by rfl) (by rfl) (by rfl) (by decide)
  | refine nm_built (by k_asm) (by k_asm) (by k_asm) (by k_is) (by boot_by_name) (by decide) ?_ (by rfl) (by rfl) (by rfl) (by rfl) (by decide))))
local macro_rules | `(tactic| walk_at "binaryOp Add ref ref") => `(tactic| refine HoldN.out (n := 4) ?_)
local macro_rules | `(tactic| walk_at "call builtin:str.upper") => `(tactic| (refine SCL.upper (by (first | lia | omega)) ?_; intro _))
local macro_rules | `(tactic| walk_at "execs cons") => `(tactic| ((with_reducible show wpAny _ _ (execs (Stmt.Assign [Expr.Name (Str.ofString "way") _] _ _ :: _) _) _ _ _); refine Hold.out ?_))
theorem ne_pair_same {prog : Program} {w : World} {A : Around} {E : Value → Shared → Prop} {s : Shared} {D D' r r' : Addr} {o o' : Obj} {a : Int} {t t' : Tok} {m m' : Nat} {vs us : List Value} {ns : List Int} {Q : Value → Shared → Prop}
    (h1 : s.heap.get? D = some o) (c1 : o.cls = .type "tuple") (d1 : o.data = .seq #[.int a t, .ref r] m)
    (h2 : s.heap.get? D' = some o') (c2 : o'.cls = .type "tuple") (d2 : o'.data = .seq #[.int a t', .ref r'] m')
    (hl : s.heap.IsList r vs.toArray) (hi : IntsAre vs ns) (hl' : s.heap.IsList r' us.toArray) (hi' : IntsAre us ns) (hu : A.units + 64 < cLine)
    (h : Q (.bool false) s) : wpAny (model prog w) A (compareOp .NotEq (.ref D) (.ref D')) Q E s := by
  have sh : SeqAt.shaped (.tuple [.int a, .list (ns.map PyData.int)]) = true := by
    have h1 := PySem.W.depthAll_ints ns
    have h2 := PySem.W.canLayAll0_ints ns
    show (PyData.canLay0 (.tuple [.int a, .list (ns.map PyData.int)]) && decide (PyData.depth (.tuple [.int a, .list (ns.map PyData.int)]) ≤ 64)) = true
    rw [Bool.and_eq_true]
    refine ⟨?_, decide_eq_true ?_⟩
    · simp only [PyData.canLay0, PyData.canLayAll0, h2, Bool.and_true, Bool.true_and]
    · simp only [PyData.depth, PyData.depthAll]
      (first | lia | omega)
  have mx : SeqAt.noMix (.tuple [.int a, .list (ns.map PyData.int)]) (.tuple [.int a, .list (ns.map PyData.int)]) = true := by
    simp [SeqAt.noMix, SeqAt.noMixAll, PySem.W.noMix_ints]
  have sm : PySem.Spec.same (.tuple [.int a, .list (ns.map PyData.int)]) (.tuple [.int a, .list (ns.map PyData.int)]) = true := by
    simp [PySem.Spec.same, PySem.Spec.sameAll, PySem.W.same_ints]
  have R : ∀ {D r : Addr} {o : Obj} {t : Tok} {m : Nat} {vs : List Value}, s.heap.get? D = some o → o.cls = .type "tuple" → o.data = .seq #[.int a t, .ref r] m → s.heap.IsList r vs.toArray → IntsAre vs ns → ∃ as, Reads s.heap (.ref D) (.tuple [.int a, .list (ns.map PyData.int)]) as := fun h c d hl hi =>
    ⟨_, Reads.tuple h c d (.cons (.int _ _) (.cons (PySem.W.reads_of_ints hl hi) .nil))⟩
  obtain ⟨as, R1⟩ := R h1 c1 d1 hl hi
  obtain ⟨bs, R2⟩ := R h2 c2 d2 hl' hi'
  refine ne_dataH_same R1 R2 sh sh hu mx ?_
  rw [sm]
  exact h
/-- text and its answer, where the groups may not be an address -/
theorem law_E0 {w : World} {s : Shared} {Q E : Value → Shared → Prop} {l : Addr} {gs : List Int}
    {name qual : Str} {params : Arguments} {body : List Stmt} {scope : Scope} {dV kV doc pm cdv ct oc : Value} {an od : Option Addr} {osl : Array (Option Value)}
    {L' r a1 a2 a3 a4 P : Addr} {pz : Array Value} {h : Heap} {tk : Nat} {deed rest ver : Int} {ix jx size k k2 : Nat} {vs us ys : List Value} {oT : Obj} {x1 x2 x3 x4 x5 x6 : Tok} {pv : Value}
    (ho : (hd.heap_39 w.params).lookup 92 = some ⟨oc, od, .func (fnOf name qual params body scope dV kV doc pm an cdv ct), osl⟩)
    (C : Cx w (1 + claimMargin) 4 (some []) [] s.heap 10) (Z : Based s.heap s.heap 47 P pz) (G0 : AllBare s.gens) (ig : IntsAre vs gs) (hgl : gs.length ≤ 68)
    (hver : 0 ≤ ver ∧ ver < 32) (hgs : ∀ n ∈ gs, 0 ≤ n ∧ n < 32)
    (hsm : ∀ tx h ds, decB tx = some (h, ds) → tx.cps.size ≤ 200 → ds.length ≤ 1000 ∧ ∀ n ∈ ds, 0 ≤ n ∧ n < 32)
    (hUs : (Txt.upper (encS (nmS ix) (ver :: gs))).cps.size ≤ 200)
    (hE : decD (nmS ix) (encS (nmS ix) (ver :: gs)) = none) (hU : decD (nmS ix) (Txt.upper (encS (nmS ix) (ver :: gs))) = none)
    (F : Fr s.heap L' h (fE (.bool false) pv r (fB l a1 a2 a3 a4 deed rest ver ix jx size x1 x2 x3 x4 x5 x6)))
    (N : News s.heap L' h [(r, listOf vs.toArray k), (a2, listOf us.toArray k2), (a3, LCg.lst ys), (a4, oT)])
    (done : (∀ hG psg s2 tt, Based s.heap hG 47 P psg → Cx w (1 + claimMargin) 4 (some []) [] hG 10 → Fr hG L' s2.heap (kstB (fE (.bool false) pv r (fB l a1 a2 a3 a4 deed rest ver ix jx size x1 x2 x3 x4 x5 x6)) [(Str.ofString "text", .str (encS (nmS ix) (ver :: gs)) tt)]) → News hG L' s2.heap [(r, listOf vs.toArray k), (a2, listOf us.toArray k2), (a3, LCg.lst ys), (a4, oT)] → AllBare s2.gens → s2.os = s.os →
      wpAny (model PySem.Challenge.rw_jy0014_01.row.prog w) ((mA (1 + claimMargin) 4 (some []) []).deeper (envOfC qual scope L' 92 cdv)) (execs (body.drop 14) (envOfC qual scope L' 92 cdv)) (fun fl s' => Q (match fl with | .ret v => v | _ => .none) s') E s2)) :
    wpAny (model PySem.Challenge.rw_jy0014_01.row.prog w) ((mA (1 + claimMargin) 4 (some []) []).deeper (envOfC qual scope L' 92 cdv)) (execs (body.drop 12) (envOfC qual scope L' 92 cdv)) (fun fl s' => Q (match fl with | .ret v => v | _ => .none) s') E { s with heap := h, toks := tk } := by
  revert done
  refine' cut_use (motive := fun qual body scope cdv => (∀ hG psg s2 tt, Based s.heap hG 47 P psg → Cx w (1 + claimMargin) 4 (some []) [] hG 10 → Fr hG L' s2.heap (kstB (fE (.bool false) pv r (fB l a1 a2 a3 a4 deed rest ver ix jx size x1 x2 x3 x4 x5 x6)) [(Str.ofString "text", .str (encS (nmS ix) (ver :: gs)) tt)]) → News hG L' s2.heap [(r, listOf vs.toArray k), (a2, listOf us.toArray k2), (a3, LCg.lst ys), (a4, oT)] → AllBare s2.gens → s2.os = s.os →
      wpAny (model PySem.Challenge.rw_jy0014_01.row.prog w) ((mA (1 + claimMargin) 4 (some []) []).deeper (envOfC qual scope L' 92 cdv)) (execs (body.drop 14) (envOfC qual scope L' 92 cdv)) (fun fl s' => Q (match fl with | .ret v => v | _ => .none) s') E s2) → wpAny (model PySem.Challenge.rw_jy0014_01.row.prog w) ((mA (1 + claimMargin) 4 (some []) []).deeper (envOfC qual scope L' 92 cdv)) (execs (body.drop 12) (envOfC qual scope L' 92 cdv)) (fun fl s' => Q (match fl with | .ret v => v | _ => .none) s') E { s with heap := h, toks := tk }) ho ?h2 ?_
  case h2 => k_is
  dsimp only [List.drop]
  intro done
  have hun : 4 + 100 < cLine := C.units
  have hgv := ig.length
  have hnl := nmS_size ix
  have hes := encS_size (nmS ix) (ver :: gs)
  rw [List.length_cons] at hes
  obtain ⟨base, loose, mg, mb, B, X, T, _, _⟩ := Cx.opens C
  (try k_fold)
  (repeat' (first | (with_reducible refine HoldN.mk (n := 3) ?_; (k_dflt (refine' Assign_ListComp_G (by k_asm) ?c0 ?cs ?c1 ?c2 ?c3 ?c4 ?c5 ?c7 ?c8 ?_ ?c6; (case c0 => rfl); (case cs => with_unfolding_all rfl); (case c1 => with_unfolding_all rfl); (case c2 => decide); (case c3 => rfl); (case c4 => decide); (case c5 => rfl); (case c7 => rfl); (case c8 => rfl); (case c6 => intro _; rfl)))) | (with_reducible refine HoldN.mk (n := 4) ?_; ((with_unfolding_all refine' add_J ?F ?N ?a ?b ?z ?_; (case F => k_asm); (case N => k_asm); (case a => is_list); (case b => is_list); (case z => (((rw [PySem.sizeLine_eq]; (try simp only [List.length_append, List.length_cons, List.length_nil]); (try kcf_lens); (first | lia | omega))))); k_whole); intro D' h' F' N' l1; (try k_lt l1); (try k_sweep))) | (k_unfold; (try dsimp only)) | (k_end; kc_close) | walk1 | (dsimp only; walk1) | (leave1; walk_say "STEP leave1"; (try dsimp only)) | fail "no step"))
  refine Hold.mk ?_
  rename News _ _ _ _ => N1
  rename Fr _ _ _ _ => F1
  have ic : IntsAre ([Value.int ver x6] ++ vs) (ver :: gs) := .cons _ _ ig
  have hb2 : ∀ n ∈ ver :: gs, 0 ≤ n ∧ n < 32 := fun n hn => by
    rcases List.mem_cons.mp hn with rfl | hn
    · exact hver
    · exact hgs n hn
  with_unfolding_all refine' enc_tells (Cx.push C F1 rfl ?hu) (Nat.le_trans hnl (by decide)) (by is_list) ic (by rw [List.length_cons]; (first | lia | omega)) hb2 ?_
  case hu => (first | exact Nat.add_le_add_left (by decide) _ | (dsimp only; (first | lia | omega)))
  intro h3 tk3 t3 st3
  have F3 := fr_stays F1 st3
  have N3 := news_stays N1 st3
  clear F1 N1
  have hTl : (encS (nmS ix) (ver :: gs)).length ≤ 200 := by
    show (encS (nmS ix) (ver :: gs)).cps.size ≤ 200
    (first | lia | omega)
  generalize hTX : encS (nmS ix) (ver :: gs) = TX at *
  generalize hUX : Txt.upper TX = UX at *
  (try dsimp only)
  (repeat' (first | (with_reducible refine HoldN.mk (n := 3) ?_; (k_dflt (refine' Assign_ListComp_G (by k_asm) ?c0 ?cs ?c1 ?c2 ?c3 ?c4 ?c5 ?c7 ?c8 ?_ ?c6; (case c0 => rfl); (case cs => with_unfolding_all rfl); (case c1 => with_unfolding_all rfl); (case c2 => decide); (case c3 => rfl); (case c4 => decide); (case c5 => rfl); (case c7 => rfl); (case c8 => rfl); (case c6 => intro _; rfl)))) | (with_reducible refine HoldN.mk (n := 4) ?_; ((with_unfolding_all refine' add_J ?F ?N ?a ?b ?z ?_; (case F => k_asm); (case N => k_asm); (case a => is_list); (case b => is_list); (case z => (((rw [PySem.sizeLine_eq]; (try simp only [List.length_append, List.length_cons, List.length_nil]); (try kcf_lens); (first | lia | omega))))); k_whole); intro D' h' F' N' l1; (try k_lt l1); (try k_sweep))) | (k_unfold; (try dsimp only)) | (k_end; kc_close) | walk1 | (dsimp only; walk1) | (leave1; walk_say "STEP leave1"; (try dsimp only)) | fail "no step"))
  refine Hold.mk ?_
  refine join_str (fun Y => decD (nmS ix) Y = none ∧ Y.cps.size ≤ 200) ?_ ?_
  · have m40 := MarkT.mk 40
    (repeat' (first | (with_reducible refine HoldN.mk (n := 3) ?_; (k_dflt (refine' Assign_ListComp_G (by k_asm) ?c0 ?cs ?c1 ?c2 ?c3 ?c4 ?c5 ?c7 ?c8 ?_ ?c6; (case c0 => rfl); (case cs => with_unfolding_all rfl); (case c1 => with_unfolding_all rfl); (case c2 => decide); (case c3 => rfl); (case c4 => decide); (case c5 => rfl); (case c7 => rfl); (case c8 => rfl); (case c6 => intro _; rfl)))) | (with_reducible refine HoldN.mk (n := 4) ?_; ((with_unfolding_all refine' add_J ?F ?N ?a ?b ?z ?_; (case F => k_asm); (case N => k_asm); (case a => is_list); (case b => is_list); (case z => (((rw [PySem.sizeLine_eq]; (try simp only [List.length_append, List.length_cons, List.length_nil]); (try kcf_lens); (first | lia | omega))))); k_whole); intro D' h' F' N' l1; (try k_lt l1); (try k_sweep))) | (k_unfold; (try dsimp only)) | (k_end; kc_close) | walk1 | (dsimp only; walk1) | (leave1; walk_say "STEP leave1"; (try dsimp only)) | fail "no step"))
    all_goals (((repeat (first | k_unfold | dsimp only | dsimp only [LPost]))); refine Hid.mk ⟨_, _, _, rfl, ?_, rfl⟩; (try rw [hUX]); first | exact ⟨hE, hTl⟩ | exact ⟨hU, hUs⟩)
  have m40 := MarkT.mk 40
  intro Y uY tkY pY
  (try dsimp only)
  (repeat' (first | (with_reducible refine HoldN.mk (n := 3) ?_; (k_dflt (refine' Assign_ListComp_G (by k_asm) ?c0 ?cs ?c1 ?c2 ?c3 ?c4 ?c5 ?c7 ?c8 ?_ ?c6; (case c0 => rfl); (case cs => with_unfolding_all rfl); (case c1 => with_unfolding_all rfl); (case c2 => decide); (case c3 => rfl); (case c4 => decide); (case c5 => rfl); (case c7 => rfl); (case c8 => rfl); (case c6 => intro _; rfl)))) | (with_reducible refine HoldN.mk (n := 4) ?_; ((with_unfolding_all refine' add_J ?F ?N ?a ?b ?z ?_; (case F => k_asm); (case N => k_asm); (case a => is_list); (case b => is_list); (case z => (((rw [PySem.sizeLine_eq]; (try simp only [List.length_append, List.length_cons, List.length_nil]); (try kcf_lens); (first | lia | omega))))); k_whole); intro D' h' F' N' l1; (try k_lt l1); (try k_sweep))) | (k_unfold; (try dsimp only)) | (k_end; kc_close) | walk1 | (dsimp only; walk1) | (leave1; walk_say "STEP leave1"; (try dsimp only)) | fail "no step"))
  refine Hold.mk ?_
  rename News _ _ _ _ => N1
  rename Fr _ _ _ _ => F1
  with_unfolding_all refine' dc_none C Z F1 N1 G0 rfl ?hu (by decide) hsm pY.2 pY.1 ?_
  case hu => (first | exact Nat.add_le_add_left (by decide) _ | (dsimp only; (first | lia | omega)))
  intro g psg s2 D Zg Cg F2 N2 Ga hos bs l3 mg3 mb3 Bg Xg Tg
  clear F1 N1 T X B
  (try dsimp only)
  (repeat' (first | (with_reducible refine HoldN.mk (n := 3) ?_; (k_dflt (refine' Assign_ListComp_G (by k_asm) ?c0 ?cs ?c1 ?c2 ?c3 ?c4 ?c5 ?c7 ?c8 ?_ ?c6; (case c0 => rfl); (case cs => with_unfolding_all rfl); (case c1 => with_unfolding_all rfl); (case c2 => decide); (case c3 => rfl); (case c4 => decide); (case c5 => rfl); (case c7 => rfl); (case c8 => rfl); (case c6 => intro _; rfl)))) | (with_reducible refine HoldN.mk (n := 4) ?_; ((with_unfolding_all refine' add_J ?F ?N ?a ?b ?z ?_; (case F => k_asm); (case N => k_asm); (case a => is_list); (case b => is_list); (case z => (((rw [PySem.sizeLine_eq]; (try simp only [List.length_append, List.length_cons, List.length_nil]); (try kcf_lens); (first | lia | omega))))); k_whole); intro D' h' F' N' l1; (try k_lt l1); (try k_sweep))) | (k_unfold; (try dsimp only)) | (k_end; kc_close) | walk1 | (dsimp only; walk1) | (leave1; walk_say "STEP leave1"; (try dsimp only)) | fail "no step"))
  refine Hold.mk ?_
  rename News _ _ _ _ => N9
  rename Fr _ _ _ _ => F9
  exact done _ _ _ _ Zg Cg F9 (news_sub N9 (by kcf_all)) Ga hos
end
end Mine
end
section
open PySem PySem.W PySem.Calls PyProof.Rows
set_option maxHeartbeats 2000000
namespace Mine
section
local macro_rules | `(tactic| walk_at "eval IfExp") => `(tactic| ((fail_if_success (with_reducible rename MarkT 40 => mm)); refine Hold.out ?_))
local macro_rules | `(tactic| walk_at "compareOp NotEq ref ref") => `(tactic| refine Hold.out ?_)
local macro_rules | `(tactic| walk_at "call ref") => `(tactic| refine Hold.out ?_)
local macro_rules | `(tactic| walk_at "exec Assign cons ListComp") => `(tactic| refine HoldN.out (n := 3) ?_)
local macro_rules | `(tactic| walk_at "eval Name") => `(tactic| (k_here; k_dflt (first
  | refine nm_global (by k_asm) (by k_asm) (by k_asm) (by k_is) ?_ (by rfl) (by rfl) (by rfl) (by decide)
  | refine nm_built (by k_asm) (by k_asm) (by k_asm) (by k_is) (by boot_by_name) (by decide) ?_ (by rfl) (by rfl) (by rfl) (by rfl) (by decide))))
local macro_rules | `(tactic| walk_at "binaryOp Add ref ref") => `(tactic| refine HoldN.out (n := 4) ?_)
local macro_rules | `(tactic| walk_at "call builtin:str.upper") => `(tactic| (refine SCL.upper (by (first | lia | omega)) ?_; intro _))
local macro_rules | `(tactic| walk_at "execs cons") => `(tactic| ((with_reducible show wpAny _ _ (execs (Stmt.Assign [Expr.Name (Str.ofString "way") _] _ _ :: _) _) _ _ _); refine Hold.out ?_))
/-- text and its answer, where the groups may be an address -/
theorem law_E1 {w : World} {s : Shared} {Q E : Value → Shared → Prop} {l : Addr} {gs : List Int}
    {name qual : Str} {params : Arguments} {body : List Stmt} {scope : Scope} {dV kV doc pm cdv ct oc : Value} {an od : Option Addr} {osl : Array (Option Value)}
    {L' r a1 a2 a3 a4 P : Addr} {pz : Array Value} {h : Heap} {tk : Nat} {deed rest ver : Int} {ix jx size k k2 : Nat} {vs us ys : List Value} {oT : Obj} {x1 x2 x3 x4 x5 x6 : Tok} {rp : Addr} {pvs : List Value} {pk : Nat} {ps : List Int}
    (ho : (hd.heap_39 w.params).lookup 92 = some ⟨oc, od, .func (fnOf name qual params body scope dV kV doc pm an cdv ct), osl⟩)
    (C : Cx w (1 + claimMargin) 4 (some []) [] s.heap 10) (Z : Based s.heap s.heap 47 P pz) (G0 : AllBare s.gens) (ig : IntsAre vs gs) (ip : IntsAre pvs ps) (hgl : gs.length ≤ 68)
    (hver : 0 ≤ ver ∧ ver < 32) (hgs : ∀ n ∈ gs, 0 ≤ n ∧ n < 32)
    (hsm : ∀ tx h ds, decB tx = some (h, ds) → tx.cps.size ≤ 200 → ds.length ≤ 1000 ∧ ∀ n ∈ ds, 0 ≤ n ∧ n < 32)
    (hUs : (Txt.upper (encS (nmS ix) (ver :: gs))).cps.size ≤ 200)
    (hE : decD (nmS ix) (encS (nmS ix) (ver :: gs)) = some (ver, ps)) (hU : decD (nmS ix) (Txt.upper (encS (nmS ix) (ver :: gs))) = some (ver, ps))
    (F : Fr s.heap L' h (fE (.bool true) (.ref rp) r (fB l a1 a2 a3 a4 deed rest ver ix jx size x1 x2 x3 x4 x5 x6)))
    (N : News s.heap L' h [(rp, listOf (List.toArray pvs) pk), (r, listOf vs.toArray k), (a2, listOf us.toArray k2), (a3, LCg.lst ys), (a4, oT)])
    (done : (∀ hG psg s2 tt, Based s.heap hG 47 P psg → Cx w (1 + claimMargin) 4 (some []) [] hG 10 → Fr hG L' s2.heap (kstB (fE (.bool true) (.ref rp) r (fB l a1 a2 a3 a4 deed rest ver ix jx size x1 x2 x3 x4 x5 x6)) [(Str.ofString "text", .str (encS (nmS ix) (ver :: gs)) tt)]) → News hG L' s2.heap [(r, listOf vs.toArray k), (a2, listOf us.toArray k2), (a3, LCg.lst ys), (a4, oT)] → AllBare s2.gens → s2.os = s.os →
      wpAny (model PySem.Challenge.rw_jy0014_01.row.prog w) ((mA (1 + claimMargin) 4 (some []) []).deeper (envOfC qual scope L' 92 cdv)) (execs (body.drop 14) (envOfC qual scope L' 92 cdv)) (fun fl s' => Q (match fl with | .ret v => v | _ => .none) s') E s2)) :
    wpAny (model PySem.Challenge.rw_jy0014_01.row.prog w) ((mA (1 + claimMargin) 4 (some []) []).deeper (envOfC qual scope L' 92 cdv)) (execs (body.drop 12) (envOfC qual scope L' 92 cdv)) (fun fl s' => Q (match fl with | .ret v => v | _ => .none) s') E { s with heap := h, toks := tk } := by
  revert done
  refine' cut_use (motive := fun qual body scope cdv => (∀ hG psg s2 tt, Based s.heap hG 47 P psg → Cx w (1 + claimMargin) 4 (some []) [] hG 10 → Fr hG L' s2.heap (kstB (fE (.bool true) (.ref rp) r (fB l a1 a2 a3 a4 deed rest ver ix jx size x1 x2 x3 x4 x5 x6)) [(Str.ofString "text", .str (encS (nmS ix) (ver :: gs)) tt)]) → News hG L' s2.heap [(r, listOf vs.toArray k), (a2, listOf us.toArray k2), (a3, LCg.lst ys), (a4, oT)] → AllBare s2.gens → s2.os = s.os →
      wpAny (model PySem.Challenge.rw_jy0014_01.row.prog w) ((mA (1 + claimMargin) 4 (some []) []).deeper (envOfC qual scope L' 92 cdv)) (execs (body.drop 14) (envOfC qual scope L' 92 cdv)) (fun fl s' => Q (match fl with | .ret v => v | _ => .none) s') E s2) → wpAny (model PySem.Challenge.rw_jy0014_01.row.prog w) ((mA (1 + claimMargin) 4 (some []) []).deeper (envOfC qual scope L' 92 cdv)) (execs (body.drop 12) (envOfC qual scope L' 92 cdv)) (fun fl s' => Q (match fl with | .ret v => v | _ => .none) s') E { s with heap := h, toks := tk }) ho ?h2 ?_
  case h2 => k_is
  dsimp only [List.drop]
  intro done
  have hun : 4 + 100 < cLine := C.units
  have hgv := ig.length
  have hnl := nmS_size ix
  have hes := encS_size (nmS ix) (ver :: gs)
  rw [List.length_cons] at hes
  obtain ⟨base, loose, mg, mb, B, X, T, _, _⟩ := Cx.opens C
  (try k_fold)
  (repeat' (first | (with_reducible refine HoldN.mk (n := 3) ?_; (k_dflt (refine' Assign_ListComp_G (by k_asm) ?c0 ?cs ?c1 ?c2 ?c3 ?c4 ?c5 ?c7 ?c8 ?_ ?c6; (case c0 => rfl); (case cs => with_unfolding_all rfl); (case c1 => with_unfolding_all rfl); (case c2 => decide); (case c3 => rfl); (case c4 => decide); (case c5 => rfl); (case c7 => rfl); (case c8 => rfl); (case c6 => intro _; rfl)))) | (with_reducible refine HoldN.mk (n := 4) ?_; ((with_unfolding_all refine' add_J ?F ?N ?a ?b ?z ?_; (case F => k_asm); (case N => k_asm); (case a => is_list); (case b => is_list); (case z => (((rw [PySem.sizeLine_eq]; (try simp only [List.length_append, List.length_cons, List.length_nil]); (try kcf_lens); (first | lia | omega))))); k_whole); intro D' h' F' N' l1; (try k_lt l1); (try k_sweep))) | (k_unfold; (try dsimp only)) | (k_end; kc_close) | walk1 | (dsimp only; walk1) | (leave1; walk_say "STEP leave1"; (try dsimp only)) | fail "no step"))
  refine Hold.mk ?_
  rename News _ _ _ _ => N1
  rename Fr _ _ _ _ => F1
  have ic : IntsAre ([Value.int ver x6] ++ vs) (ver :: gs) := .cons _ _ ig
  have hb2 : ∀ n ∈ ver :: gs, 0 ≤ n ∧ n < 32 := fun n hn => by
    rcases List.mem_cons.mp hn with rfl | hn
    · exact hver
    · exact hgs n hn
  with_unfolding_all refine' enc_tells (Cx.push C F1 rfl ?hu) (Nat.le_trans hnl (by decide)) (by is_list) ic (by rw [List.length_cons]; (first | lia | omega)) hb2 ?_
  case hu => (first | exact Nat.add_le_add_left (by decide) _ | (dsimp only; (first | lia | omega)))
  intro h3 tk3 t3 st3
  have F3 := fr_stays F1 st3
  have N3 := news_stays N1 st3
  clear F1 N1
  have hTl : (encS (nmS ix) (ver :: gs)).length ≤ 200 := by
    show (encS (nmS ix) (ver :: gs)).cps.size ≤ 200
    (first | lia | omega)
  generalize hTX : encS (nmS ix) (ver :: gs) = TX at *
  generalize hUX : Txt.upper TX = UX at *
  (try dsimp only)
  (repeat' (first | (with_reducible refine HoldN.mk (n := 3) ?_; (k_dflt (refine' Assign_ListComp_G (by k_asm) ?c0 ?cs ?c1 ?c2 ?c3 ?c4 ?c5 ?c7 ?c8 ?_ ?c6; (case c0 => rfl); (case cs => with_unfolding_all rfl); (case c1 => with_unfolding_all rfl); (case c2 => decide); (case c3 => rfl); (case c4 => decide); (case c5 => rfl); (case c7 => rfl); (case c8 => rfl); (case c6 => intro _; rfl)))) | (with_reducible refine HoldN.mk (n := 4) ?_; ((with_unfolding_all refine' add_J ?F ?N ?a ?b ?z ?_; (case F => k_asm); (case N => k_asm); (case a => is_list); (case b => is_list); (case z => (((rw [PySem.sizeLine_eq]; (try simp only [List.length_append, List.length_cons, List.length_nil]); (try kcf_lens); (first | lia | omega))))); k_whole); intro D' h' F' N' l1; (try k_lt l1); (try k_sweep))) | (k_unfold; (try dsimp only)) | (k_end; kc_close) | walk1 | (dsimp only; walk1) | (leave1; walk_say "STEP leave1"; (try dsimp only)) | fail "no step"))
  refine Hold.mk ?_
  refine join_str (fun Y => decD (nmS ix) Y = some (ver, ps) ∧ Y.cps.size ≤ 200) ?_ ?_
  · have m40 := MarkT.mk 40
    (repeat' (first | (with_reducible refine HoldN.mk (n := 3) ?_; (k_dflt (refine' Assign_ListComp_G (by k_asm) ?c0 ?cs ?c1 ?c2 ?c3 ?c4 ?c5 ?c7 ?c8 ?_ ?c6; (case c0 => rfl); (case cs => with_unfolding_all rfl); (case c1 => with_unfolding_all rfl); (case c2 => decide); (case c3 => rfl); (case c4 => decide); (case c5 => rfl); (case c7 => rfl); (case c8 => rfl); (case c6 => intro _; rfl)))) | (with_reducible refine HoldN.mk (n := 4) ?_; ((with_unfolding_all refine' add_J ?F ?N ?a ?b ?z ?_; (case F => k_asm); (case N => k_asm); (case a => is_list); (case b => is_list); (case z => (((rw [PySem.sizeLine_eq]; (try simp only [List.length_append, List.length_cons, List.length_nil]); (try kcf_lens); (first | lia | omega))))); k_whole); intro D' h' F' N' l1; (try k_lt l1); (try k_sweep))) | (k_unfold; (try dsimp only)) | (k_end; kc_close) | walk1 | (dsimp only; walk1) | (leave1; walk_say "STEP leave1"; (try dsimp only)) | fail "no step"))
    all_goals (((repeat (first | k_unfold | dsimp only | dsimp only [LPost]))); refine Hid.mk ⟨_, _, _, rfl, ?_, rfl⟩; (try rw [hUX]); first | exact ⟨hE, hTl⟩ | exact ⟨hU, hUs⟩)
  have m40 := MarkT.mk 40
  intro Y uY tkY pY
  (try dsimp only)
  (repeat' (first | (with_reducible refine HoldN.mk (n := 3) ?_; (k_dflt (refine' Assign_ListComp_G (by k_asm) ?c0 ?cs ?c1 ?c2 ?c3 ?c4 ?c5 ?c7 ?c8 ?_ ?c6; (case c0 => rfl); (case cs => with_unfolding_all rfl); (case c1 => with_unfolding_all rfl); (case c2 => decide); (case c3 => rfl); (case c4 => decide); (case c5 => rfl); (case c7 => rfl); (case c8 => rfl); (case c6 => intro _; rfl)))) | (with_reducible refine HoldN.mk (n := 4) ?_; ((with_unfolding_all refine' add_J ?F ?N ?a ?b ?z ?_; (case F => k_asm); (case N => k_asm); (case a => is_list); (case b => is_list); (case z => (((rw [PySem.sizeLine_eq]; (try simp only [List.length_append, List.length_cons, List.length_nil]); (try kcf_lens); (first | lia | omega))))); k_whole); intro D' h' F' N' l1; (try k_lt l1); (try k_sweep))) | (k_unfold; (try dsimp only)) | (k_end; kc_close) | walk1 | (dsimp only; walk1) | (leave1; walk_say "STEP leave1"; (try dsimp only)) | fail "no step"))
  refine Hold.mk ?_
  rename News _ _ _ _ => N1
  rename Fr _ _ _ _ => F1
  with_unfolding_all refine' dc_some C Z F1 N1 G0 rfl ?hu (by decide) hsm pY.2 pY.1 ?_
  case hu => (first | exact Nat.add_le_add_left (by decide) _ | (dsimp only; (first | lia | omega)))
  intro g psg s2 D r3 vs3 va3 n3 Zg Cg F2 N2 iv Ga hos bs l3 mg3 mb3 Bg Xg Tg
  clear F1 N1 T X B
  (try dsimp only)
  (repeat' (first | (with_reducible refine HoldN.mk (n := 3) ?_; (k_dflt (refine' Assign_ListComp_G (by k_asm) ?c0 ?cs ?c1 ?c2 ?c3 ?c4 ?c5 ?c7 ?c8 ?_ ?c6; (case c0 => rfl); (case cs => with_unfolding_all rfl); (case c1 => with_unfolding_all rfl); (case c2 => decide); (case c3 => rfl); (case c4 => decide); (case c5 => rfl); (case c7 => rfl); (case c8 => rfl); (case c6 => intro _; rfl)))) | (with_reducible refine HoldN.mk (n := 4) ?_; ((with_unfolding_all refine' add_J ?F ?N ?a ?b ?z ?_; (case F => k_asm); (case N => k_asm); (case a => is_list); (case b => is_list); (case z => (((rw [PySem.sizeLine_eq]; (try simp only [List.length_append, List.length_cons, List.length_nil]); (try kcf_lens); (first | lia | omega))))); k_whole); intro D' h' F' N' l1; (try k_lt l1); (try k_sweep))) | (k_unfold; (try dsimp only)) | (k_end; kc_close) | walk1 | (dsimp only; walk1) | (leave1; walk_say "STEP leave1"; (try dsimp only)) | fail "no step"))
  refine Hold.mk ?_
  refine ne_pair_same (News.get (by k_asm) (by k_mem)) rfl rfl (News.get (by k_asm) (by k_mem)) rfl rfl (by is_list) iv (by is_list) ip ?hz ?_
  case hz => (unfold Around.deeper; dsimp only; omega)
  (repeat' (first | (with_reducible refine HoldN.mk (n := 3) ?_; (k_dflt (refine' Assign_ListComp_G (by k_asm) ?c0 ?cs ?c1 ?c2 ?c3 ?c4 ?c5 ?c7 ?c8 ?_ ?c6; (case c0 => rfl); (case cs => with_unfolding_all rfl); (case c1 => with_unfolding_all rfl); (case c2 => decide); (case c3 => rfl); (case c4 => decide); (case c5 => rfl); (case c7 => rfl); (case c8 => rfl); (case c6 => intro _; rfl)))) | (with_reducible refine HoldN.mk (n := 4) ?_; ((with_unfolding_all refine' add_J ?F ?N ?a ?b ?z ?_; (case F => k_asm); (case N => k_asm); (case a => is_list); (case b => is_list); (case z => (((rw [PySem.sizeLine_eq]; (try simp only [List.length_append, List.length_cons, List.length_nil]); (try kcf_lens); (first | lia | omega))))); k_whole); intro D' h' F' N' l1; (try k_lt l1); (try k_sweep))) | (k_unfold; (try dsimp only)) | (k_end; kc_close) | walk1 | (dsimp only; walk1) | (leave1; walk_say "STEP leave1"; (try dsimp only)) | fail "no step"))
  refine Hold.mk ?_
  rename News _ _ _ _ => N9
  rename Fr _ _ _ _ => F9
  exact done _ _ _ _ Zg Cg F9 (news_sub N9 (by kcf_all)) Ga hos
end
end Mine
end
section
open PySem PySem.W PySem.Calls PyProof.Rows
namespace Mine
/-- a text with one sign laid anew -/
def touchS (tx sgn : Str) (p : Int) : Str := Txt.slice tx none (some p) ++ sgn ++ Txt.slice tx (some (p + 1)) none
def signA (tx : Str) (p k : Int) : Str := ⟨#[cs.cps.getD (Int.fmod (Txt.find cs ⟨#[tx.cps.getD p.toNat 0]⟩ + 1 + k) 32).toNat 0]⟩
def signB (tx : Str) (p : Int) : Str := Txt.upper ⟨#[tx.cps.getD p.toNat 0]⟩
/-- what is nothing: under another name, or touched -/
structure Spoilt (nm other tx : Str) : Prop where
  o : decD other tx = none
  ou : decD other (Txt.upper tx) = none
  t1 : ∀ p k : Int, (nm.length : Int) + 1 ≤ p → p < (tx.length : Int) → 0 ≤ k → k < 31 → decD nm (touchS tx (signA tx p k) p) = none
  t2 : ∀ p : Int, (nm.length : Int) + 1 ≤ p → p < (tx.length : Int) → touchS tx (signB tx p) p ≠ tx → decD nm (touchS tx (signB tx p) p) = none
  t3 : decD nm (tx ++ Str.ofString " ") = none
  us : (Txt.upper tx).cps.size ≤ 200
end Mine
end
section
open PySem PySem.W PySem.Calls PyProof.Rows
set_option maxHeartbeats 2000000
namespace Mine
section
local macro_rules | `(tactic| walk_at "eval IfExp") => `(tactic| ((fail_if_success (with_reducible rename MarkT 40 => mm)); refine Hold.out ?_))
local macro_rules | `(tactic| walk_at "execs cons") => `(tactic| ((with_reducible show wpAny _ _ (execs (Stmt.If _ [Stmt.Assign [Expr.Name (Str.ofString "wrong") _] _ _] _ _ :: _) _) _ _ _); refine Hold.out ?_))
local macro_rules | `(tactic| walk_at "call ref") => `(tactic| refine Hold.out ?_)
local macro_rules | `(tactic| walk_at "exec Assign cons ListComp") => `(tactic| refine HoldN.out (n := 3) ?_)
local macro_rules | `(tactic| walk_at "eval Name") => `(tactic| (k_here; k_dflt (first
  | refine nm_global (by k_asm) (by k_asm) (by k_asm) (by k_is) ?_ (by rfl) (by rfl) (by rfl) (by decide)
  | refine nm_built (by k_asm) (by k_asm) (by k_asm) (by k_is) (by boot_by_name) (by decide) ?_ (by rfl) (by rfl) (by rfl) (by rfl) (by decide))))
local macro_rules | `(tactic| walk_at "binaryOp Add ref ref") => `(tactic| refine HoldN.out (n := 4) ?_)
local macro_rules | `(tactic| walk_at "call builtin:str.upper") => `(tactic| (refine SCL.upper (by first | omega | exact Nat.le_of_ble_eq_true rfl) ?_; intro _))
local macro_rules | `(tactic| walk_at "call builtin:str.find") => `(tactic| refine Hold.out ?_)
local macro_rules | `(tactic| walk_at "subscriptTail Name Name str int") => `(tactic| refine Hold.out ?_)
local macro_rules | `(tactic| walk_at "execs cons") => `(tactic| ((with_reducible show wpAny _ _ (execs (Stmt.If _ [Stmt.Assign [Expr.Tuple _ _ _] _ _, _] _ _ :: _) _) _ _ _); refine Hold.out ?_))
local macro_rules | `(tactic| walk_at "subscriptTail Name BinOp str int") => `(tactic| refine Hold.out ?_)
theorem sub_strG {prog : Program} {w : World} {A : Around} {E : Value → Shared → Prop} {s : Shared} {value slice : Expr} {x : Str} {t : Tok} {Q : Value → Shared → Prop} {i : Int} {u : Tok} (h0 : 0 ≤ i) (h1 : i < x.length) (hsz : x.length ≤ 1000000)
    (h : ∀ sgn : Str, sgn = ⟨#[x.cps.getD i.toNat 0]⟩ → sgn.length = 1 → Q (.str sgn s.toks) { s with toks := s.toks + 1 })
    (hs : subscripted slice false (.str x t) (.int i u) = operate [.str x t, .int i u] (getItem (.str x t) (.int i u)) := by with_unfolding_all rfl)
    (ht : ∀ r, letTemporaryGo value (.str x t) r = pure () := by intro _; with_unfolding_all rfl) :
    wpAny (model prog w) A (subscriptTail value slice (.str x t) (.int i u)) Q E s := sub_str h0 h1 hsz (h _ rfl rfl) hs ht
theorem touch_size {tx sgn : Str} {p q : Int} (h : tx.length ≤ 80) (h2 : sgn.length ≤ 3) : (Txt.slice tx none (some p) ++ sgn ++ Txt.slice tx (some q) none).cps.size ≤ 200 := by
  have h1 := PyProof.Txt.length_slice_le tx none (some p)
  have h3 := PyProof.Txt.length_slice_le tx (some q) none
  simp only [Str.cps_append, Array.size_append]
  simp only [PySem.Str.length] at h h2 h1 h3
  omega
theorem fr_nones {h₀ h : Heap} {L : Addr} {m : Str → Option Value} {x : Str} {v : Value} (a b c : Str) (F : Fr h₀ L h (fun y => if y = x then some v else m y)) (ha : m a = none) (hb : m b = none) (hc : m c = none) :
    Fr h₀ L h (fun y => if y = x then some v else if y = a then none else if y = b then none else if y = c then none else m y) := by
  have e : (fun y => if y = x then some v else if y = a then none else if y = b then none else if y = c then none else m y) = (fun y => if y = x then some v else m y) := by
    funext y
    split
    · rfl
    · split
      · rename_i h; rw [h, ha]
      · split
        · rename_i h; rw [h, hb]
        · split
          · rename_i h; rw [h, hc]
          · rfl
  rw [e]
  exact F
/-- way, wrong: under another name, or touched, nothing -/
theorem law_G {w : World} {s : Shared} {Q E : Value → Shared → Prop} {l : Addr} {hS h₀ : Heap} {gs : List Int} {TX : Str} {tt : Tok} {mv pv : Value}
    {name qual : Str} {params : Arguments} {body : List Stmt} {scope : Scope} {dV kV doc pm cdv ct oc : Value} {an od : Option Addr} {osl : Array (Option Value)}
    {L' r a1 a2 a3 a4 P : Addr} {pz : Array Value} {deed rest ver t0 t1 t2 : Int} {ix jx size k k2 : Nat} {vs us ys : List Value} {x1 x2 x3 x4 x5 x6 b0 b1 b2 : Tok}
    (ho : (hd.heap_39 w.params).lookup 92 = some ⟨oc, od, .func (fnOf name qual params body scope dV kV doc pm an cdv ct), osl⟩)
    (C : Cx w (1 + claimMargin) 4 (some []) [] h₀ 10) (Z : Based hS h₀ 47 P pz) (G0 : AllBare s.gens) (ig : IntsAre vs gs) (hgl : gs.length ≤ 68) (hTX : TX.cps.size = (nmS ix).cps.size + gs.length + 8) (hr0 : 0 ≤ rest)
    (hsm : ∀ tx h ds, decB tx = some (h, ds) → tx.cps.size ≤ 200 → ds.length ≤ 1000 ∧ ∀ n ∈ ds, 0 ≤ n ∧ n < 32)
    (K : Spoilt (nmS ix) (nmS jx) TX)
    (F : Fr h₀ L' s.heap (kstB (fE mv pv r (fB l a1 a2 a3 a4 deed rest ver ix jx size x1 x2 x3 x4 x5 x6)) [(Str.ofString "text", .str TX tt)]))
    (N : News h₀ L' s.heap [(r, listOf vs.toArray k), (a2, listOf us.toArray k2), (a3, LCg.lst ys), (a4, listOf #[.int t0 b0, .int t1 b1, .int t2 b2] 0)])
    (done : (∀ hG psg s2 wv oA oB oC way xw, Based hS hG 47 P psg → Cx w (1 + claimMargin) 4 (some []) [] hG 10 → Fr hG L' s2.heap (fW wv oA oB oC way xw TX tt mv pv r (fB l a1 a2 a3 a4 deed rest ver ix jx size x1 x2 x3 x4 x5 x6)) → News hG L' s2.heap [(r, listOf vs.toArray k), (a2, listOf us.toArray k2), (a3, LCg.lst ys), (a4, listOf #[.int t0 b0, .int t1 b1, .int t2 b2] 0)] → AllBare s2.gens → s2.os = s.os →
      wpAny (model PySem.Challenge.rw_jy0014_01.row.prog w) ((mA (1 + claimMargin) 4 (some []) []).deeper (envOfC qual scope L' 92 cdv)) (execs (body.drop 17) (envOfC qual scope L' 92 cdv)) (fun fl s' => Q (match fl with | .ret v => v | _ => .none) s') E s2)) :
    wpAny (model PySem.Challenge.rw_jy0014_01.row.prog w) ((mA (1 + claimMargin) 4 (some []) []).deeper (envOfC qual scope L' 92 cdv)) (execs (body.drop 14) (envOfC qual scope L' 92 cdv)) (fun fl s' => Q (match fl with | .ret v => v | _ => .none) s') E s := by
  revert done
  refine' cut_use (motive := fun qual body scope cdv => (∀ hG psg s2 wv oA oB oC way xw, Based hS hG 47 P psg → Cx w (1 + claimMargin) 4 (some []) [] hG 10 → Fr hG L' s2.heap (fW wv oA oB oC way xw TX tt mv pv r (fB l a1 a2 a3 a4 deed rest ver ix jx size x1 x2 x3 x4 x5 x6)) → News hG L' s2.heap [(r, listOf vs.toArray k), (a2, listOf us.toArray k2), (a3, LCg.lst ys), (a4, listOf #[.int t0 b0, .int t1 b1, .int t2 b2] 0)] → AllBare s2.gens → s2.os = s.os →
      wpAny (model PySem.Challenge.rw_jy0014_01.row.prog w) ((mA (1 + claimMargin) 4 (some []) []).deeper (envOfC qual scope L' 92 cdv)) (execs (body.drop 17) (envOfC qual scope L' 92 cdv)) (fun fl s' => Q (match fl with | .ret v => v | _ => .none) s') E s2) → wpAny (model PySem.Challenge.rw_jy0014_01.row.prog w) ((mA (1 + claimMargin) 4 (some []) []).deeper (envOfC qual scope L' 92 cdv)) (execs (body.drop 14) (envOfC qual scope L' 92 cdv)) (fun fl s' => Q (match fl with | .ret v => v | _ => .none) s') E s) ho ?h2 ?_
  case h2 => k_is
  dsimp only [List.drop]
  intro done
  have hun : 4 + 100 < cLine := C.units
  have hnl := nmS_size ix
  have hTl : TX.length ≤ 80 := by
    show TX.cps.size ≤ 80
    omega
  have hTL : TX.length = (nmS ix).length + gs.length + 8 := hTX
  have hgv := ig.length
  have hnL : (nmS ix).length ≤ 4 := hnl
  have hUs := K.us
  have hsp : (TX ++ Str.ofString " ").cps.size ≤ 200 := by
    simp only [Str.cps_append, Array.size_append]
    rw [show (Str.ofString " ").cps.size = 1 by decide +kernel]
    have : TX.cps.size ≤ 80 := hTl
    omega
  have hTz : TX.cps.size ≤ 200 := Nat.le_trans hTl (by decide)
  have hf := fm_bound (rest.fdiv 4) ((gs.length : Int) + 7) (by omega)
  have hk := fm_bound (rest.fdiv 512) 31 (by decide)
  obtain ⟨base, loose, mg, mb, B, X, T, _, _⟩ := Cx.opens C
  (try k_fold)
  (repeat' (first | (with_reducible refine HoldN.mk (n := 3) ?_; (k_dflt (refine' Assign_ListComp_G (by k_asm) ?c0 ?cs ?c1 ?c2 ?c3 ?c4 ?c5 ?c7 ?c8 ?_ ?c6; (case c0 => rfl); (case cs => with_unfolding_all rfl); (case c1 => with_unfolding_all rfl); (case c2 => decide); (case c3 => rfl); (case c4 => decide); (case c5 => rfl); (case c7 => rfl); (case c8 => rfl); (case c6 => intro _; rfl)))) | (with_reducible refine HoldN.mk (n := 4) ?_; ((with_unfolding_all refine' add_J ?F ?N ?a ?b ?z ?_; (case F => k_asm); (case N => k_asm); (case a => is_list); (case b => is_list); (case z => (((rw [PySem.sizeLine_eq]; (try simp only [List.length_append, List.length_cons, List.length_nil]); (try kcf_lens); omega)))); k_whole); intro D' h' F' N' l1; (try k_lt l1); (try k_sweep))) | (k_unfold; (try dsimp only)) | (k_end; kc_close) | walk1 | (dsimp only; walk1) | (leave1; walk_say "STEP leave1"; (try dsimp only)) | fail "no step"))
  refine Hold.mk ?_
  rename News _ _ _ _ => N0
  rename Fr _ _ _ _ => F0
  refine wpAny_execs_cons ?_
  (try dsimp only)
  (try k_gentoks)
  refine join_hid (fun fl s' => fl = .next ∧ ∃ (g : Heap) (psg : Array Value) (D : Addr) (way : Int) (xw : Tok) (oA oB oC : Option Value), Based hS g 47 P psg ∧ Cx w (1 + claimMargin) 4 (some []) [] g 10 ∧
    Fr g L' s'.heap (fW (.ref D) oA oB oC way xw TX tt mv pv r (fB l a1 a2 a3 a4 deed rest ver ix jx size x1 x2 x3 x4 x5 x6)) ∧ News g L' s'.heap ((D, { cls := .type "tuple", data := .seq #[.none, .none] }) :: [(r, listOf vs.toArray k), (a2, listOf us.toArray k2), (a3, LCg.lst ys), (a4, listOf #[.int t0 b0, .int t1 b1, .int t2 b2] 0)]) ∧ AllBare s'.gens ∧ s'.os = s.os) ?_ ?_
  · refine wpAny_If ?_
    (try dsimp only)
    (repeat' (first | (with_reducible refine HoldN.mk (n := 3) ?_; (k_dflt (refine' Assign_ListComp_G (by k_asm) ?c0 ?cs ?c1 ?c2 ?c3 ?c4 ?c5 ?c7 ?c8 ?_ ?c6; (case c0 => rfl); (case cs => with_unfolding_all rfl); (case c1 => with_unfolding_all rfl); (case c2 => decide); (case c3 => rfl); (case c4 => decide); (case c5 => rfl); (case c7 => rfl); (case c8 => rfl); (case c6 => intro _; rfl)))) | (with_reducible refine HoldN.mk (n := 4) ?_; ((with_unfolding_all refine' add_J ?F ?N ?a ?b ?z ?_; (case F => k_asm); (case N => k_asm); (case a => is_list); (case b => is_list); (case z => (((rw [PySem.sizeLine_eq]; (try simp only [List.length_append, List.length_cons, List.length_nil]); (try kcf_lens); omega)))); k_whole); intro D' h' F' N' l1; (try k_lt l1); (try k_sweep))) | (k_unfold; (try dsimp only)) | (k_end; kc_close) | walk1 | (dsimp only; walk1) | (leave1; walk_say "STEP leave1"; (try dsimp only)) | fail "no step"))
    · refine Hold.mk ?_
      refine join_str (fun Y => decD (nmS jx) Y = none ∧ Y.cps.size ≤ 200) ?_ ?_
      · have m40 := MarkT.mk 40
        (repeat' (first | (with_reducible refine HoldN.mk (n := 3) ?_; (k_dflt (refine' Assign_ListComp_G (by k_asm) ?c0 ?cs ?c1 ?c2 ?c3 ?c4 ?c5 ?c7 ?c8 ?_ ?c6; (case c0 => rfl); (case cs => with_unfolding_all rfl); (case c1 => with_unfolding_all rfl); (case c2 => decide); (case c3 => rfl); (case c4 => decide); (case c5 => rfl); (case c7 => rfl); (case c8 => rfl); (case c6 => intro _; rfl)))) | (with_reducible refine HoldN.mk (n := 4) ?_; ((with_unfolding_all refine' add_J ?F ?N ?a ?b ?z ?_; (case F => k_asm); (case N => k_asm); (case a => is_list); (case b => is_list); (case z => (((rw [PySem.sizeLine_eq]; (try simp only [List.length_append, List.length_cons, List.length_nil]); (try kcf_lens); omega)))); k_whole); intro D' h' F' N' l1; (try k_lt l1); (try k_sweep))) | (k_unfold; (try dsimp only)) | (k_end; kc_close) | walk1 | (dsimp only; walk1) | (leave1; walk_say "STEP leave1"; (try dsimp only)) | fail "no step"))
        all_goals (((repeat (first | k_unfold | dsimp only | dsimp only [LPost]))); refine Hid.mk ⟨_, _, _, rfl, ?_, rfl⟩; first | exact ⟨K.o, hTz⟩ | exact ⟨K.ou, hUs⟩)
      intro Y uY tkY pY
      (try dsimp only)
      (repeat' (first | (with_reducible refine HoldN.mk (n := 3) ?_; (k_dflt (refine' Assign_ListComp_G (by k_asm) ?c0 ?cs ?c1 ?c2 ?c3 ?c4 ?c5 ?c7 ?c8 ?_ ?c6; (case c0 => rfl); (case cs => with_unfolding_all rfl); (case c1 => with_unfolding_all rfl); (case c2 => decide); (case c3 => rfl); (case c4 => decide); (case c5 => rfl); (case c7 => rfl); (case c8 => rfl); (case c6 => intro _; rfl)))) | (with_reducible refine HoldN.mk (n := 4) ?_; ((with_unfolding_all refine' add_J ?F ?N ?a ?b ?z ?_; (case F => k_asm); (case N => k_asm); (case a => is_list); (case b => is_list); (case z => (((rw [PySem.sizeLine_eq]; (try simp only [List.length_append, List.length_cons, List.length_nil]); (try kcf_lens); omega)))); k_whole); intro D' h' F' N' l1; (try k_lt l1); (try k_sweep))) | (k_unfold; (try dsimp only)) | (k_end; kc_close) | walk1 | (dsimp only; walk1) | (leave1; walk_say "STEP leave1"; (try dsimp only)) | fail "no step"))
      refine Hold.mk ?_
      rename News _ _ _ _ => N1
      rename Fr _ _ _ _ => F1
      with_unfolding_all refine' dc_none C Z F1 N1 G0 rfl ?hu (by decide) hsm pY.2 pY.1 ?_
      case hu => (first | exact Nat.add_le_add_left (by decide) _ | (dsimp only; omega))
      intro g psg s2 D Zg Cg F2 N2 Ga hos bs l3 mg3 mb3 Bg Xg Tg
      clear F1 N1 T X B
      (try dsimp only)
      (repeat' (first | (with_reducible refine HoldN.mk (n := 3) ?_; (k_dflt (refine' Assign_ListComp_G (by k_asm) ?c0 ?cs ?c1 ?c2 ?c3 ?c4 ?c5 ?c7 ?c8 ?_ ?c6; (case c0 => rfl); (case cs => with_unfolding_all rfl); (case c1 => with_unfolding_all rfl); (case c2 => decide); (case c3 => rfl); (case c4 => decide); (case c5 => rfl); (case c7 => rfl); (case c8 => rfl); (case c6 => intro _; rfl)))) | (with_reducible refine HoldN.mk (n := 4) ?_; ((with_unfolding_all refine' add_J ?F ?N ?a ?b ?z ?_; (case F => k_asm); (case N => k_asm); (case a => is_list); (case b => is_list); (case z => (((rw [PySem.sizeLine_eq]; (try simp only [List.length_append, List.length_cons, List.length_nil]); (try kcf_lens); omega)))); k_whole); intro D' h' F' N' l1; (try k_lt l1); (try k_sweep))) | (k_unfold; (try dsimp only)) | (k_end; kc_close) | walk1 | (dsimp only; walk1) | (leave1; walk_say "STEP leave1"; (try dsimp only)) | fail "no step"))
      ((repeat (first | k_unfold | dsimp only | dsimp only [LPost])))
      rename News _ _ _ _ => N9
      rename Fr _ _ _ _ => F9
      exact Hid.mk ⟨rfl, _, _, _, _, _, _, _, _, Zg, Cg, fr_nones (Str.ofString "touched") (Str.ofString "sign") (Str.ofString "place") F9 rfl rfl rfl, news_sub N9 (by kcf_all), Ga, hos⟩
    · refine Hold.mk ?_
      refine join_str (fun SG => SG.length ≤ 3 ∧ (touchS TX SG (((nmS ix).length : Int) + 1 + (rest.fdiv 4).fmod ((gs.length : Int) + 7)) = TX ∨ decD (nmS ix) (touchS TX SG (((nmS ix).length : Int) + 1 + (rest.fdiv 4).fmod ((gs.length : Int) + 7))) = none)) ?_ ?_
      · have m40 := MarkT.mk 40
        (repeat' (first | (with_reducible refine HoldN.mk (n := 3) ?_; (k_dflt (refine' Assign_ListComp_G (by k_asm) ?c0 ?cs ?c1 ?c2 ?c3 ?c4 ?c5 ?c7 ?c8 ?_ ?c6; (case c0 => rfl); (case cs => with_unfolding_all rfl); (case c1 => with_unfolding_all rfl); (case c2 => decide); (case c3 => rfl); (case c4 => decide); (case c5 => rfl); (case c7 => rfl); (case c8 => rfl); (case c6 => intro _; rfl)))) | (with_reducible refine HoldN.mk (n := 4) ?_; ((with_unfolding_all refine' add_J ?F ?N ?a ?b ?z ?_; (case F => k_asm); (case N => k_asm); (case a => is_list); (case b => is_list); (case z => (((rw [PySem.sizeLine_eq]; (try simp only [List.length_append, List.length_cons, List.length_nil]); (try kcf_lens); omega)))); k_whole); intro D' h' F' N' l1; (try k_lt l1); (try k_sweep))) | (k_unfold; (try dsimp only)) | (k_end; kc_close) | walk1 | (dsimp only; walk1) | (leave1; walk_say "STEP leave1"; (try dsimp only)) | fail "no step"))
        · refine Hold.mk ?_
          refine sub_strG (by omega) (by omega) (by omega) fun S1 e1 l1 => ?_
          dsimp only
          (repeat' (first | (with_reducible refine HoldN.mk (n := 3) ?_; (k_dflt (refine' Assign_ListComp_G (by k_asm) ?c0 ?cs ?c1 ?c2 ?c3 ?c4 ?c5 ?c7 ?c8 ?_ ?c6; (case c0 => rfl); (case cs => with_unfolding_all rfl); (case c1 => with_unfolding_all rfl); (case c2 => decide); (case c3 => rfl); (case c4 => decide); (case c5 => rfl); (case c7 => rfl); (case c8 => rfl); (case c6 => intro _; rfl)))) | (with_reducible refine HoldN.mk (n := 4) ?_; ((with_unfolding_all refine' add_J ?F ?N ?a ?b ?z ?_; (case F => k_asm); (case N => k_asm); (case a => is_list); (case b => is_list); (case z => (((rw [PySem.sizeLine_eq]; (try simp only [List.length_append, List.length_cons, List.length_nil]); (try kcf_lens); omega)))); k_whole); intro D' h' F' N' l1; (try k_lt l1); (try k_sweep))) | (k_unfold; (try dsimp only)) | (k_end; kc_close) | walk1 | (dsimp only; walk1) | (leave1; walk_say "STEP leave1"; (try dsimp only)) | fail "no step"))
          refine Hold.mk ?_
          refine SC.find ?_
          dsimp only
          (repeat' (first | (with_reducible refine HoldN.mk (n := 3) ?_; (k_dflt (refine' Assign_ListComp_G (by k_asm) ?c0 ?cs ?c1 ?c2 ?c3 ?c4 ?c5 ?c7 ?c8 ?_ ?c6; (case c0 => rfl); (case cs => with_unfolding_all rfl); (case c1 => with_unfolding_all rfl); (case c2 => decide); (case c3 => rfl); (case c4 => decide); (case c5 => rfl); (case c7 => rfl); (case c8 => rfl); (case c6 => intro _; rfl)))) | (with_reducible refine HoldN.mk (n := 4) ?_; ((with_unfolding_all refine' add_J ?F ?N ?a ?b ?z ?_; (case F => k_asm); (case N => k_asm); (case a => is_list); (case b => is_list); (case z => (((rw [PySem.sizeLine_eq]; (try simp only [List.length_append, List.length_cons, List.length_nil]); (try kcf_lens); omega)))); k_whole); intro D' h' F' N' l1; (try k_lt l1); (try k_sweep))) | (k_unfold; (try dsimp only)) | (k_end; kc_close) | walk1 | (dsimp only; walk1) | (leave1; walk_say "STEP leave1"; (try dsimp only)) | fail "no step"))
          refine Hold.mk ?_
          have hfb := fm_bound (Txt.find (Str.ofString "qpzry9x8gf2tvdw0s3jn54khce6mua7l") S1 + 1 + (rest.fdiv 512).fmod 31) 32 (by decide)
          refine sub_strG hfb.1 (by rw [show (Str.ofString "qpzry9x8gf2tvdw0s3jn54khce6mua7l").length = 32 by decide +kernel]; exact hfb.2) (by decide +kernel) fun SG e2 l2 => ?_
          dsimp only
          have hDt := K.t1 (((nmS ix).length : Int) + 1 + (rest.fdiv 4).fmod ((gs.length : Int) + 7)) ((rest.fdiv 512).fmod 31) (by omega) (by omega) hk.1 hk.2
          unfold signA cs at hDt
          rw [← e1, ← e2] at hDt
          ((repeat (first | k_unfold | dsimp only | dsimp only [LPost])))
          exact Hid.mk ⟨_, _, _, rfl, ⟨by omega, .inr hDt⟩, rfl⟩
        · refine Hold.mk ?_
          refine sub_strG (by omega) (by omega) (by omega) fun S1 e1 l1 => ?_
          dsimp only
          have hul := PyProof.Rows.len_upper S1
          have hDt := K.t2 (((nmS ix).length : Int) + 1 + (rest.fdiv 4).fmod ((gs.length : Int) + 7)) (by omega) (by omega)
          unfold signB at hDt
          rw [← e1] at hDt
          (repeat' (first | (with_reducible refine HoldN.mk (n := 3) ?_; (k_dflt (refine' Assign_ListComp_G (by k_asm) ?c0 ?cs ?c1 ?c2 ?c3 ?c4 ?c5 ?c7 ?c8 ?_ ?c6; (case c0 => rfl); (case cs => with_unfolding_all rfl); (case c1 => with_unfolding_all rfl); (case c2 => decide); (case c3 => rfl); (case c4 => decide); (case c5 => rfl); (case c7 => rfl); (case c8 => rfl); (case c6 => intro _; rfl)))) | (with_reducible refine HoldN.mk (n := 4) ?_; ((with_unfolding_all refine' add_J ?F ?N ?a ?b ?z ?_; (case F => k_asm); (case N => k_asm); (case a => is_list); (case b => is_list); (case z => (((rw [PySem.sizeLine_eq]; (try simp only [List.length_append, List.length_cons, List.length_nil]); (try kcf_lens); omega)))); k_whole); intro D' h' F' N' l1; (try k_lt l1); (try k_sweep))) | (k_unfold; (try dsimp only)) | (k_end; kc_close) | walk1 | (dsimp only; walk1) | (leave1; walk_say "STEP leave1"; (try dsimp only)) | fail "no step"))
          ((repeat (first | k_unfold | dsimp only | dsimp only [LPost])))
          exact Hid.mk ⟨_, _, _, rfl, ⟨by omega, (Classical.em _).imp_right hDt⟩, rfl⟩
      intro SG uG tkG pG
      have hsz := touch_size (p := (((nmS ix).length : Int) + 1 + (rest.fdiv 4).fmod ((gs.length : Int) + 7))) (q := (((nmS ix).length : Int) + 1 + (rest.fdiv 4).fmod ((gs.length : Int) + 7)) + 1) hTl pG.1
      have hGl := pG.1
      (try dsimp only)
      (repeat' (first | (with_reducible refine HoldN.mk (n := 3) ?_; (k_dflt (refine' Assign_ListComp_G (by k_asm) ?c0 ?cs ?c1 ?c2 ?c3 ?c4 ?c5 ?c7 ?c8 ?_ ?c6; (case c0 => rfl); (case cs => with_unfolding_all rfl); (case c1 => with_unfolding_all rfl); (case c2 => decide); (case c3 => rfl); (case c4 => decide); (case c5 => rfl); (case c7 => rfl); (case c8 => rfl); (case c6 => intro _; rfl)))) | (with_reducible refine HoldN.mk (n := 4) ?_; ((with_unfolding_all refine' add_J ?F ?N ?a ?b ?z ?_; (case F => k_asm); (case N => k_asm); (case a => is_list); (case b => is_list); (case z => (((rw [PySem.sizeLine_eq]; (try simp only [List.length_append, List.length_cons, List.length_nil]); (try kcf_lens); omega)))); k_whole); intro D' h' F' N' l1; (try k_lt l1); (try k_sweep))) | (k_unfold; (try dsimp only)) | (k_end; kc_close) | walk1 | (dsimp only; walk1) | (leave1; walk_say "STEP leave1"; (try dsimp only)) | fail "no step"))
      refine Hold.mk ?_
      refine join_str (fun Y => decD (nmS ix) Y = none ∧ Y.cps.size ≤ 200) ?_ ?_
      · have m40 := MarkT.mk 40
        (repeat' (first | (with_reducible refine HoldN.mk (n := 3) ?_; (k_dflt (refine' Assign_ListComp_G (by k_asm) ?c0 ?cs ?c1 ?c2 ?c3 ?c4 ?c5 ?c7 ?c8 ?_ ?c6; (case c0 => rfl); (case cs => with_unfolding_all rfl); (case c1 => with_unfolding_all rfl); (case c2 => decide); (case c3 => rfl); (case c4 => decide); (case c5 => rfl); (case c7 => rfl); (case c8 => rfl); (case c6 => intro _; rfl)))) | (with_reducible refine HoldN.mk (n := 4) ?_; ((with_unfolding_all refine' add_J ?F ?N ?a ?b ?z ?_; (case F => k_asm); (case N => k_asm); (case a => is_list); (case b => is_list); (case z => (((rw [PySem.sizeLine_eq]; (try simp only [List.length_append, List.length_cons, List.length_nil]); (try kcf_lens); omega)))); k_whole); intro D' h' F' N' l1; (try k_lt l1); (try k_sweep))) | (k_unfold; (try dsimp only)) | (k_end; kc_close) | walk1 | (dsimp only; walk1) | (leave1; walk_say "STEP leave1"; (try dsimp only)) | fail "no step"))
        · ((repeat (first | k_unfold | dsimp only | dsimp only [LPost])))
          refine Hid.mk ⟨_, _, _, rfl, ⟨pG.2.resolve_left ?_, hsz⟩, rfl⟩
          rename (_ != _) = true => hne
          exact bne_iff_ne.mp hne
        · ((repeat (first | k_unfold | dsimp only | dsimp only [LPost])))
          exact Hid.mk ⟨_, _, _, rfl, ⟨K.t3, hsp⟩, rfl⟩
      intro Y uY tkY pY
      (try dsimp only)
      (repeat' (first | (with_reducible refine HoldN.mk (n := 3) ?_; (k_dflt (refine' Assign_ListComp_G (by k_asm) ?c0 ?cs ?c1 ?c2 ?c3 ?c4 ?c5 ?c7 ?c8 ?_ ?c6; (case c0 => rfl); (case cs => with_unfolding_all rfl); (case c1 => with_unfolding_all rfl); (case c2 => decide); (case c3 => rfl); (case c4 => decide); (case c5 => rfl); (case c7 => rfl); (case c8 => rfl); (case c6 => intro _; rfl)))) | (with_reducible refine HoldN.mk (n := 4) ?_; ((with_unfolding_all refine' add_J ?F ?N ?a ?b ?z ?_; (case F => k_asm); (case N => k_asm); (case a => is_list); (case b => is_list); (case z => (((rw [PySem.sizeLine_eq]; (try simp only [List.length_append, List.length_cons, List.length_nil]); (try kcf_lens); omega)))); k_whole); intro D' h' F' N' l1; (try k_lt l1); (try k_sweep))) | (k_unfold; (try dsimp only)) | (k_end; kc_close) | walk1 | (dsimp only; walk1) | (leave1; walk_say "STEP leave1"; (try dsimp only)) | fail "no step"))
      refine Hold.mk ?_
      rename News _ _ _ _ => N1
      rename Fr _ _ _ _ => F1
      with_unfolding_all refine' dc_none C Z F1 N1 G0 rfl ?hu (by decide) hsm pY.2 pY.1 ?_
      case hu => (first | exact Nat.add_le_add_left (by decide) _ | (dsimp only; omega))
      intro g psg s2 D Zg Cg F2 N2 Ga hos bs l3 mg3 mb3 Bg Xg Tg
      clear F1 N1 T X B
      (try dsimp only)
      (repeat' (first | (with_reducible refine HoldN.mk (n := 3) ?_; (k_dflt (refine' Assign_ListComp_G (by k_asm) ?c0 ?cs ?c1 ?c2 ?c3 ?c4 ?c5 ?c7 ?c8 ?_ ?c6; (case c0 => rfl); (case cs => with_unfolding_all rfl); (case c1 => with_unfolding_all rfl); (case c2 => decide); (case c3 => rfl); (case c4 => decide); (case c5 => rfl); (case c7 => rfl); (case c8 => rfl); (case c6 => intro _; rfl)))) | (with_reducible refine HoldN.mk (n := 4) ?_; ((with_unfolding_all refine' add_J ?F ?N ?a ?b ?z ?_; (case F => k_asm); (case N => k_asm); (case a => is_list); (case b => is_list); (case z => (((rw [PySem.sizeLine_eq]; (try simp only [List.length_append, List.length_cons, List.length_nil]); (try kcf_lens); omega)))); k_whole); intro D' h' F' N' l1; (try k_lt l1); (try k_sweep))) | (k_unfold; (try dsimp only)) | (k_end; kc_close) | walk1 | (dsimp only; walk1) | (leave1; walk_say "STEP leave1"; (try dsimp only)) | fail "no step"))
      ((repeat (first | k_unfold | dsimp only | dsimp only [LPost])))
      rename News _ _ _ _ => N9
      rename Fr _ _ _ _ => F9
      exact Hid.mk ⟨rfl, _, _, _, _, _, _, _, _, Zg, Cg, F9, news_sub N9 (by kcf_all), Ga, hos⟩
  · rintro _ s2 ⟨rfl, g, psg, D, way, xw, oA, oB, oC, Zg, Cg, F2, N2, Ga, hos⟩
    refine Cg.use fun bs l3 mg3 mb3 Bg Xg Tg => ?_
    clear F0 N0 T X B
    dsimp only
    (repeat' (first | (with_reducible refine HoldN.mk (n := 3) ?_; (k_dflt (refine' Assign_ListComp_G (by k_asm) ?c0 ?cs ?c1 ?c2 ?c3 ?c4 ?c5 ?c7 ?c8 ?_ ?c6; (case c0 => rfl); (case cs => with_unfolding_all rfl); (case c1 => with_unfolding_all rfl); (case c2 => decide); (case c3 => rfl); (case c4 => decide); (case c5 => rfl); (case c7 => rfl); (case c8 => rfl); (case c6 => intro _; rfl)))) | (with_reducible refine HoldN.mk (n := 4) ?_; ((with_unfolding_all refine' add_J ?F ?N ?a ?b ?z ?_; (case F => k_asm); (case N => k_asm); (case a => is_list); (case b => is_list); (case z => (((rw [PySem.sizeLine_eq]; (try simp only [List.length_append, List.length_cons, List.length_nil]); (try kcf_lens); omega)))); k_whole); intro D' h' F' N' l1; (try k_lt l1); (try k_sweep))) | (k_unfold; (try dsimp only)) | (k_end; kc_close) | walk1 | (dsimp only; walk1) | (leave1; walk_say "STEP leave1"; (try dsimp only)) | fail "no step"))
    refine Hold.mk ?_
    rename News _ _ _ _ => N9
    rename Fr _ _ _ _ => F9
    exact done _ _ _ _ _ _ _ _ _ Zg Cg F9 (news_sub N9 (by kcf_all)) Ga hos
end
end Mine
end
section
open PySem PySem.W PySem.Calls PyProof.Rows
set_option maxHeartbeats 2000000
namespace Mine
section
local macro_rules | `(tactic| walk_at "call ref") => `(tactic| refine Hold.out ?_)
local macro_rules | `(tactic| walk_at "exec Assign cons ListComp") => `(tactic| refine HoldN.out (n := 3) ?_)
local macro_rules | `(tactic| walk_at "eval Name") => `(tactic| (k_here; k_dflt (first
  | refine nm_global (by k_asm) (by k_asm) (by k_asm) (by k_is) ?_ (by rfl) (by rfl) (by rfl) (by decide)
  | refine nm_built (by k_asm) (by k_asm) (by k_asm) (by k_is) (by boot_by_name) (by decide) ?_ (by rfl) (by rfl) (by rfl) (by rfl) (by decide))))
local macro_rules | `(tactic| walk_at "binaryOp Add ref ref") => `(tactic| refine HoldN.out (n := 4) ?_)
local macro_rules | `(tactic| walk_at "execs cons") => `(tactic| ((with_reducible show wpAny _ _ (execs (Stmt.Return (some (Expr.BoolOp _ (Expr.Compare (Expr.Call _ _ _ _) _ _ _ :: _) _)) _ :: _) _) _ _ _); (fail_if_success (with_reducible rename MarkT 30 => mm)); refine Hold.out ?_))
local macro_rules | `(tactic| walk_at "execs cons") => `(tactic| ((with_reducible show wpAny _ _ (execs (Stmt.Assign [Expr.Name (Str.ofString "made") _] _ _ :: _) _) _ _ _); (fail_if_success (with_reducible rename MarkT 31 => mm)); refine Hold.out ?_))
local macro_rules | `(tactic| walk_at "subscriptTail Name Slice ref ref") => `(tactic| refine Hold.out ?_)
/-- a number that is no octet makes none -/
theorem law_F {w : World} {s : Shared} {Q E : Value → Shared → Prop} {l : Addr} {hS h₀ : Heap} {os : List Int} {TX : Str} {tt xw : Tok} {mv pv wv : Value} {oA oB oC : Option Value} {way : Int}
    {name qual : Str} {params : Arguments} {body : List Stmt} {scope : Scope} {dV kV doc pm cdv ct oc : Value} {an od : Option Addr} {osl : Array (Option Value)}
    {L' r a1 a2 a3 a4 P : Addr} {pz pz0 : Array Value} {deed rest ver t0 t1 t2 : Int} {ix jx size k k2 : Nat} {vs us ys : List Value} {x1 x2 x3 x4 x5 x6 b0 b1 b2 : Tok}
    (ho : (hd.heap_39 w.params).lookup 92 = some ⟨oc, od, .func (fnOf name qual params body scope dV kV doc pm an cdv ct), osl⟩)
    (C : Cx w (1 + claimMargin) 4 (some []) [] h₀ 10) (Z0 : Based hS hS 47 P pz0) (Z : Based hS h₀ 47 P pz) (G0 : AllBare s.gens) (io : IntsAre ys os) (hol : size = os.length) (hsl : size ≤ 41) (hos8 : ∀ n ∈ os, 0 ≤ n ∧ n < 256) (hr0 : 0 ≤ rest) (hver : 0 ≤ ver ∧ ver < 32)
    (hsm : ∀ tx h ds, decB tx = some (h, ds) → tx.cps.size ≤ 200 → ds.length ≤ 1000 ∧ ∀ n ∈ ds, 0 ≤ n ∧ n < 32)
    (F : Fr h₀ L' s.heap (fW wv oA oB oC way xw TX tt mv pv r (fB l a1 a2 a3 a4 deed rest ver ix jx size x1 x2 x3 x4 x5 x6)))
    (N : News h₀ L' s.heap [(r, listOf vs.toArray k), (a2, listOf us.toArray k2), (a3, LCg.lst ys), (a4, listOf #[.int t0 b0, .int t1 b1, .int t2 b2] 0)])
    (done : (∀ s', Grew hS s'.heap → AllBare s'.gens → s'.os = s.os → Q (.bool true) s'))
    (made : (∀ h' tk', Fr h₀ L' h' (fW wv oA oB oC way xw TX tt mv pv r (fB l a1 a2 a3 a4 deed rest ver ix jx size x1 x2 x3 x4 x5 x6)) → News h₀ L' h' [(r, listOf vs.toArray k), (a2, listOf us.toArray k2), (a3, LCg.lst ys), (a4, listOf #[.int t0 b0, .int t1 b1, .int t2 b2] 0)] →
      wpAny (model PySem.Challenge.rw_jy0014_01.row.prog w) ((mA (1 + claimMargin) 4 (some []) []).deeper (envOfC qual scope L' 92 cdv)) (execs (body.drop 18) (envOfC qual scope L' 92 cdv)) (fun fl s' => Q (match fl with | .ret v => v | _ => .none) s') E { s with heap := h', toks := tk' })) :
    wpAny (model PySem.Challenge.rw_jy0014_01.row.prog w) ((mA (1 + claimMargin) 4 (some []) []).deeper (envOfC qual scope L' 92 cdv)) (execs (body.drop 17) (envOfC qual scope L' 92 cdv)) (fun fl s' => Q (match fl with | .ret v => v | _ => .none) s') E s := by
  revert done made
  refine' cut_use (motive := fun qual body scope cdv => (∀ s', Grew hS s'.heap → AllBare s'.gens → s'.os = s.os → Q (.bool true) s') → (∀ h' tk', Fr h₀ L' h' (fW wv oA oB oC way xw TX tt mv pv r (fB l a1 a2 a3 a4 deed rest ver ix jx size x1 x2 x3 x4 x5 x6)) → News h₀ L' h' [(r, listOf vs.toArray k), (a2, listOf us.toArray k2), (a3, LCg.lst ys), (a4, listOf #[.int t0 b0, .int t1 b1, .int t2 b2] 0)] →
      wpAny (model PySem.Challenge.rw_jy0014_01.row.prog w) ((mA (1 + claimMargin) 4 (some []) []).deeper (envOfC qual scope L' 92 cdv)) (execs (body.drop 18) (envOfC qual scope L' 92 cdv)) (fun fl s' => Q (match fl with | .ret v => v | _ => .none) s') E { s with heap := h', toks := tk' }) → wpAny (model PySem.Challenge.rw_jy0014_01.row.prog w) ((mA (1 + claimMargin) 4 (some []) []).deeper (envOfC qual scope L' 92 cdv)) (execs (body.drop 17) (envOfC qual scope L' 92 cdv)) (fun fl s' => Q (match fl with | .ret v => v | _ => .none) s') E s) ho ?h2 ?_
  case h2 => k_is
  dsimp only [List.drop]
  intro done made
  have hun : 4 + 100 < cLine := C.units
  have hnl := nmS_size ix
  have hnL : (nmS ix).length ≤ 4 := hnl
  have hyl := io.length
  have hgL := groupsI_length os
  obtain ⟨base, loose, mg, mb, B, X, T, _, _⟩ := Cx.opens C
  (try k_fold)
  (repeat' (first | (with_reducible refine HoldN.mk (n := 3) ?_; (k_dflt (refine' Assign_ListComp_G (by k_asm) ?c0 ?cs ?c1 ?c2 ?c3 ?c4 ?c5 ?c7 ?c8 ?_ ?c6; (case c0 => rfl); (case cs => with_unfolding_all rfl); (case c1 => with_unfolding_all rfl); (case c2 => decide); (case c3 => rfl); (case c4 => decide); (case c5 => rfl); (case c7 => rfl); (case c8 => rfl); (case c6 => intro _; rfl)))) | (with_reducible refine HoldN.mk (n := 4) ?_; ((with_unfolding_all refine' add_J ?F ?N ?a ?b ?z ?_; (case F => k_asm); (case N => k_asm); (case a => is_list); (case b => is_list); (case z => (((rw [PySem.sizeLine_eq]; (try simp only [List.length_append, List.length_cons, List.length_nil]); (try kcf_lens); (first | lia | omega))))); k_whole); intro D' h' F' N' l1; (try k_lt l1); (try k_sweep))) | (k_unfold; (try dsimp only)) | (k_end; kc_close) | walk1 | (dsimp only; walk1) | (leave1; walk_say "STEP leave1"; (try dsimp only)) | fail "no step"))
  · refine Hold.mk ?_
    rename News _ _ _ _ => N1
    rename Fr _ _ _ _ => F1
    exact made _ _ F1 (news_sub N1 (by kcf_all))
  · exfalso
    rename (decide (os = []) = false) => q
    exact of_decide_eq_false q (List.length_eq_zero_iff.mp (by (first | lia | omega)))
  · refine Hold.mk ?_
    have m30 := MarkT.mk 30
    have hs0 : (size : Int) ≠ 0 := by assumption
    have hf := fm_bound rest (size : Int) (by (first | lia | omega))
    have hg := fd_bound rest 41 hr0 (by decide)
    generalize hgr : 256 * (1 + rest.fdiv 41) = gr at *
    have hgr1 : 256 ≤ gr := by (first | lia | omega)
    generalize hpl : rest.fmod (size : Int) = pl at *
    have hpl2 : pl < (os.length : Int) := by (first | lia | omega)
    have hx : 0 ≤ os.getD pl.toNat 0 ∧ os.getD pl.toNat 0 < 256 := by
      have hlt : pl.toNat < os.length := by (first | lia | omega)
      rw [List.getD_eq_getElem?_getD, List.getElem?_eq_getElem hlt]
      exact hos8 _ (List.getElem_mem hlt)
    (repeat' (first | (with_reducible refine HoldN.mk (n := 3) ?_; (k_dflt (refine' Assign_ListComp_G (by k_asm) ?c0 ?cs ?c1 ?c2 ?c3 ?c4 ?c5 ?c7 ?c8 ?_ ?c6; (case c0 => rfl); (case cs => with_unfolding_all rfl); (case c1 => with_unfolding_all rfl); (case c2 => decide); (case c3 => rfl); (case c4 => decide); (case c5 => rfl); (case c7 => rfl); (case c8 => rfl); (case c6 => intro _; rfl)))) | (with_reducible refine HoldN.mk (n := 4) ?_; ((with_unfolding_all refine' add_J ?F ?N ?a ?b ?z ?_; (case F => k_asm); (case N => k_asm); (case a => is_list); (case b => is_list); (case z => (((rw [PySem.sizeLine_eq]; (try simp only [List.length_append, List.length_cons, List.length_nil]); (try kcf_lens); (first | lia | omega))))); k_whole); intro D' h' F' N' l1; (try k_lt l1); (try k_sweep))) | (k_unfold; (try dsimp only)) | (k_end; kc_close) | walk1 | (dsimp only; walk1) | (leave1; walk_say "STEP leave1"; (try dsimp only)) | fail "no step"))
    refine Hold.mk ?_
    with_unfolding_all refine' kmk_slice_ints ?zF ?zN ?zl ?zp ?zq ?zi ?zm ?zc ?_ ?zs ?zt ?zz
    case zF => k_asm
    case zN => k_asm
    case zp => exact IsPart.none
    case zq => exact IsPart.int _ _
    case zi => exact io
    case zm => exact kmk_upto io (by (first | lia | omega))
    case zc => exact rfl
    case zl => kmk_list
    case zs => with_unfolding_all rfl
    case zt => kmk_pure
    case zz => rw [List.size_toArray, hyl, PySem.sizeLine_eq]; (first | lia | omega)
    intro Da wa h' F' N' l1 ia hC' hL'
    k_lt l1
    (repeat' (first | (with_reducible refine HoldN.mk (n := 3) ?_; (k_dflt (refine' Assign_ListComp_G (by k_asm) ?c0 ?cs ?c1 ?c2 ?c3 ?c4 ?c5 ?c7 ?c8 ?_ ?c6; (case c0 => rfl); (case cs => with_unfolding_all rfl); (case c1 => with_unfolding_all rfl); (case c2 => decide); (case c3 => rfl); (case c4 => decide); (case c5 => rfl); (case c7 => rfl); (case c8 => rfl); (case c6 => intro _; rfl)))) | (with_reducible refine HoldN.mk (n := 4) ?_; ((with_unfolding_all refine' add_J ?F ?N ?a ?b ?z ?_; (case F => k_asm); (case N => k_asm); (case a => is_list); (case b => is_list); (case z => (((rw [PySem.sizeLine_eq]; (try simp only [List.length_append, List.length_cons, List.length_nil]); (try kcf_lens); (first | lia | omega))))); k_whole); intro D' h' F' N' l1; (try k_lt l1); (try k_sweep))) | (k_unfold; (try dsimp only)) | (k_end; kc_close) | walk1 | (dsimp only; walk1) | (leave1; walk_say "STEP leave1"; (try dsimp only)) | fail "no step"))
    refine Hold.mk ?_
    with_unfolding_all refine' kmk_slice_ints ?zF ?zN ?zl ?zp ?zq ?zi ?zm ?zc ?_ ?zs ?zt ?zz
    case zF => k_asm
    case zN => k_asm
    case zp => exact IsPart.int _ _
    case zq => exact IsPart.none
    case zi => exact io
    case zm => exact kmk_from io (by (first | lia | omega))
    case zc => exact rfl
    case zl => kmk_list
    case zs => with_unfolding_all rfl
    case zt => kmk_pure
    case zz => rw [List.size_toArray, hyl, PySem.sizeLine_eq]; (first | lia | omega)
    intro Db wb h' F' N' l1 ib hC' hL'
    k_lt l1
    (repeat' (first | (with_reducible refine HoldN.mk (n := 3) ?_; (k_dflt (refine' Assign_ListComp_G (by k_asm) ?c0 ?cs ?c1 ?c2 ?c3 ?c4 ?c5 ?c7 ?c8 ?_ ?c6; (case c0 => rfl); (case cs => with_unfolding_all rfl); (case c1 => with_unfolding_all rfl); (case c2 => decide); (case c3 => rfl); (case c4 => decide); (case c5 => rfl); (case c7 => rfl); (case c8 => rfl); (case c6 => intro _; rfl)))) | (with_reducible refine HoldN.mk (n := 4) ?_; ((with_unfolding_all refine' add_J ?F ?N ?a ?b ?z ?_; (case F => k_asm); (case N => k_asm); (case a => is_list); (case b => is_list); (case z => (((rw [PySem.sizeLine_eq]; (try simp only [List.length_append, List.length_cons, List.length_nil]); (try kcf_lens); (first | lia | omega))))); k_whole); intro D' h' F' N' l1; (try k_lt l1); (try k_sweep))) | (k_unfold; (try dsimp only)) | (k_end; kc_close) | walk1 | (dsimp only; walk1) | (leave1; walk_say "STEP leave1"; (try dsimp only)) | fail "no step"))
    refine Hold.mk ?_
    rename News _ _ _ _ => N1
    rename Fr _ _ _ _ => F1
    have iwl := ia.length
    have iwl2 := ib.length
    have hld := List.length_drop (l := os) (i := (pl + 1).toNat)
    with_unfolding_all refine' ed_tells (ns := List.take pl.toNat os ++ [gr + os.getD pl.toNat 0] ++ List.drop (pl + 1).toNat os) (Cx.push C F1 rfl ?hu) G0 (Nat.le_trans hnl (by decide)) (by is_list) (by l_ints) (by simp only [List.length_append, List.length_singleton, List.length_take, List.length_drop]; (first | lia | omega)) hver hsm ?_ ?_
    case hu => (first | exact Nat.add_le_add_left (by decide) _ | (dsimp only; (first | lia | omega)))
    rotate_left
    · intro s2 t2 Gr Ga hos hall hdn
      have := hall (gr + os.getD pl.toNat 0) (List.mem_append.mpr (.inl (List.mem_append.mpr (.inr (.head _)))))
      (first | lia | omega)
    intro s2 Gr Ga hos _
    obtain ⟨g, psg, Zg, Cg, F2, Nup, Lup, Fup⟩ := C.grow Z F1 Gr
    have N2 := Nup _ N1
    obtain ⟨bs, l3, mg3, mb3, Bg, Xg, Tg, _, _⟩ := Cx.opens Cg
    clear F1 N1 T X B ia ib
    (try dsimp only)
    (repeat' (first | (with_reducible refine HoldN.mk (n := 3) ?_; (k_dflt (refine' Assign_ListComp_G (by k_asm) ?c0 ?cs ?c1 ?c2 ?c3 ?c4 ?c5 ?c7 ?c8 ?_ ?c6; (case c0 => rfl); (case cs => with_unfolding_all rfl); (case c1 => with_unfolding_all rfl); (case c2 => decide); (case c3 => rfl); (case c4 => decide); (case c5 => rfl); (case c7 => rfl); (case c8 => rfl); (case c6 => intro _; rfl)))) | (with_reducible refine HoldN.mk (n := 4) ?_; ((with_unfolding_all refine' add_J ?F ?N ?a ?b ?z ?_; (case F => k_asm); (case N => k_asm); (case a => is_list); (case b => is_list); (case z => (((rw [PySem.sizeLine_eq]; (try simp only [List.length_append, List.length_cons, List.length_nil]); (try kcf_lens); (first | lia | omega))))); k_whole); intro D' h' F' N' l1; (try k_lt l1); (try k_sweep))) | (k_unfold; (try dsimp only)) | (k_end; kc_close) | walk1 | (dsimp only; walk1) | (leave1; walk_say "STEP leave1"; (try dsimp only)) | fail "no step"))
    refine Hold.mk ?_
    with_unfolding_all refine' kmk_slice_ints ?zF ?zN ?zl ?zp ?zq ?zi ?zm ?zc ?_ ?zs ?zt ?zz
    case zF => k_asm
    case zN => k_asm
    case zp => exact IsPart.none
    case zq => exact IsPart.int _ _
    case zi => exact io
    case zm => exact kmk_upto io (by (first | lia | omega))
    case zc => exact rfl
    case zl => kmk_list
    case zs => with_unfolding_all rfl
    case zt => kmk_pure
    case zz => rw [List.size_toArray, hyl, PySem.sizeLine_eq]; (first | lia | omega)
    intro Dc wc h' F' N' l1 ia hC' hL'
    k_lt l1
    (repeat' (first | (with_reducible refine HoldN.mk (n := 3) ?_; (k_dflt (refine' Assign_ListComp_G (by k_asm) ?c0 ?cs ?c1 ?c2 ?c3 ?c4 ?c5 ?c7 ?c8 ?_ ?c6; (case c0 => rfl); (case cs => with_unfolding_all rfl); (case c1 => with_unfolding_all rfl); (case c2 => decide); (case c3 => rfl); (case c4 => decide); (case c5 => rfl); (case c7 => rfl); (case c8 => rfl); (case c6 => intro _; rfl)))) | (with_reducible refine HoldN.mk (n := 4) ?_; ((with_unfolding_all refine' add_J ?F ?N ?a ?b ?z ?_; (case F => k_asm); (case N => k_asm); (case a => is_list); (case b => is_list); (case z => (((rw [PySem.sizeLine_eq]; (try simp only [List.length_append, List.length_cons, List.length_nil]); (try kcf_lens); (first | lia | omega))))); k_whole); intro D' h' F' N' l1; (try k_lt l1); (try k_sweep))) | (k_unfold; (try dsimp only)) | (k_end; kc_close) | walk1 | (dsimp only; walk1) | (leave1; walk_say "STEP leave1"; (try dsimp only)) | fail "no step"))
    refine Hold.mk ?_
    with_unfolding_all refine' kmk_slice_ints ?zF ?zN ?zl ?zp ?zq ?zi ?zm ?zc ?_ ?zs ?zt ?zz
    case zF => k_asm
    case zN => k_asm
    case zp => exact IsPart.int _ _
    case zq => exact IsPart.none
    case zi => exact io
    case zm => exact kmk_from io (by (first | lia | omega))
    case zc => exact rfl
    case zl => kmk_list
    case zs => with_unfolding_all rfl
    case zt => kmk_pure
    case zz => rw [List.size_toArray, hyl, PySem.sizeLine_eq]; (first | lia | omega)
    intro Dd wd h' F' N' l1 ib hC' hL'
    k_lt l1
    (repeat' (first | (with_reducible refine HoldN.mk (n := 3) ?_; (k_dflt (refine' Assign_ListComp_G (by k_asm) ?c0 ?cs ?c1 ?c2 ?c3 ?c4 ?c5 ?c7 ?c8 ?_ ?c6; (case c0 => rfl); (case cs => with_unfolding_all rfl); (case c1 => with_unfolding_all rfl); (case c2 => decide); (case c3 => rfl); (case c4 => decide); (case c5 => rfl); (case c7 => rfl); (case c8 => rfl); (case c6 => intro _; rfl)))) | (with_reducible refine HoldN.mk (n := 4) ?_; ((with_unfolding_all refine' add_J ?F ?N ?a ?b ?z ?_; (case F => k_asm); (case N => k_asm); (case a => is_list); (case b => is_list); (case z => (((rw [PySem.sizeLine_eq]; (try simp only [List.length_append, List.length_cons, List.length_nil]); (try kcf_lens); (first | lia | omega))))); k_whole); intro D' h' F' N' l1; (try k_lt l1); (try k_sweep))) | (k_unfold; (try dsimp only)) | (k_end; kc_close) | walk1 | (dsimp only; walk1) | (leave1; walk_say "STEP leave1"; (try dsimp only)) | fail "no step"))
    refine Hold.mk ?_
    rename News _ _ _ _ => N1
    rename Fr _ _ _ _ => F1
    have iwl := ia.length
    have iwl2 := ib.length
    with_unfolding_all refine' ed_tells (ns := List.take pl.toNat os ++ [os.getD pl.toNat 0 - gr] ++ List.drop (pl + 1).toNat os) (Cx.push Cg F1 rfl ?hu) Ga (Nat.le_trans hnl (by decide)) (by is_list) (by l_ints) (by simp only [List.length_append, List.length_singleton, List.length_take, List.length_drop]; (first | lia | omega)) hver hsm ?_ ?_
    case hu => (first | exact Nat.add_le_add_left (by decide) _ | (dsimp only; (first | lia | omega)))
    rotate_left
    · intro s3 t3 Gr3 Ga3 hos3 hall hdn
      have := hall (os.getD pl.toNat 0 - gr) (List.mem_append.mpr (.inl (List.mem_append.mpr (.inr (.head _)))))
      (first | lia | omega)
    intro s3 Gr3 Ga3 hos3 _
    obtain ⟨g3, psg3, Zg3, Cg3, F3, Nup3, Lup3, Fup3⟩ := Cg.grow Zg F1 Gr3
    have N3 := Nup3 _ N1
    obtain ⟨bs3, l4, mg4, mb4, Bg3, Xg3, Tg4, _, _⟩ := Cx.opens Cg3
    clear F1 N1 Tg Xg Bg ia ib
    (try dsimp only)
    (repeat' (first | (with_reducible refine HoldN.mk (n := 3) ?_; (k_dflt (refine' Assign_ListComp_G (by k_asm) ?c0 ?cs ?c1 ?c2 ?c3 ?c4 ?c5 ?c7 ?c8 ?_ ?c6; (case c0 => rfl); (case cs => with_unfolding_all rfl); (case c1 => with_unfolding_all rfl); (case c2 => decide); (case c3 => rfl); (case c4 => decide); (case c5 => rfl); (case c7 => rfl); (case c8 => rfl); (case c6 => intro _; rfl)))) | (with_reducible refine HoldN.mk (n := 4) ?_; ((with_unfolding_all refine' add_J ?F ?N ?a ?b ?z ?_; (case F => k_asm); (case N => k_asm); (case a => is_list); (case b => is_list); (case z => (((rw [PySem.sizeLine_eq]; (try simp only [List.length_append, List.length_cons, List.length_nil]); (try kcf_lens); (first | lia | omega))))); k_whole); intro D' h' F' N' l1; (try k_lt l1); (try k_sweep))) | (k_unfold; (try dsimp only)) | (k_end; kc_close) | walk1 | (dsimp only; walk1) | (leave1; walk_say "STEP leave1"; (try dsimp only)) | fail "no step"))
    ((repeat (first | k_unfold | dsimp only | dsimp only [LPost])))
    rename Fr _ _ _ _ => F9
    exact done _ (Grew.of Z0 Zg3 F9) Ga3 (hos3.trans hos)
  · refine Hold.mk ?_
    rename News _ _ _ _ => N1
    rename Fr _ _ _ _ => F1
    exact made _ _ F1 (news_sub N1 (by kcf_all))
end
end Mine
end
section
open PySem PySem.W PySem.Calls PyProof.Rows
set_option maxHeartbeats 2000000
namespace Mine
section
local macro_rules | `(tactic| walk_at "isTrue BoolOp") => `(tactic| ((with_reducible show wpAny _ _ (isTrue (Expr.BoolOp BoolOp.And _ _) _ _) _ _ _); (fail_if_success (with_reducible rename MarkT 41 => mm)); refine Hold.out ?_))
local macro_rules | `(tactic| walk_at "call ref") => `(tactic| refine Hold.out ?_)
local macro_rules | `(tactic| walk_at "exec Assign cons ListComp") => `(tactic| refine HoldN.out (n := 3) ?_)
local macro_rules | `(tactic| walk_at "eval Name") => `(tactic| (k_here; k_dflt (first
  | refine nm_global (by k_asm) (by k_asm) (by k_asm) (by k_is) ?_ (by rfl) (by rfl) (by rfl) (by decide)
  | refine nm_built (by k_asm) (by k_asm) (by k_asm) (by k_is) (by boot_by_name) (by decide) ?_ (by rfl) (by rfl) (by rfl) (by rfl) (by decide))))
local macro_rules | `(tactic| walk_at "binaryOp Add ref ref") => `(tactic| refine HoldN.out (n := 4) ?_)
local macro_rules | `(tactic| walk_at "eval ListComp") => `(tactic| refine HoldN.out (n := 2) ?_)
local macro_rules | `(tactic| walk_at "subscriptTail Name Name str int") => `(tactic| refine Hold.out ?_)
local macro_rules | `(tactic| walk_at "binaryOp Add str str") => `(tactic| refine HoldN.out (n := 6) ?_)
theorem any_2032b {n : Nat} (h : ([20, 32] : List Int).any (fun x => x == (n : Int)) = true) : n = 20 ∨ n = 32 := by
  simp only [List.any_cons, List.any_nil, Bool.or_false, Bool.or_eq_true, beq_iff_eq] at h
  (first | lia | omega)
theorem any_2032c {n : Nat} (h : ([20, 32] : List Int).any (fun x => x == (n : Int)) = false) : ¬ (n = 20 ∨ n = 32) := by
  simp only [List.any_cons, List.any_nil, Bool.or_false, Bool.or_eq_false_iff, beq_eq_false_iff_ne] at h
  (first | lia | omega)
theorem any_0567 {n : Int} (h : ([0, 5, 6, 7] : List Int).any (fun x => x == n) = true) : n = 0 ∨ n = 5 ∨ n = 6 ∨ n = 7 := by
  simp only [List.any_cons, List.any_nil, Bool.or_false, Bool.or_eq_true, beq_iff_eq] at h
  (first | lia | omega)
/-- the address made of the octets -/
theorem law_H {w : World} {s : Shared} {Q E : Value → Shared → Prop} {l : Addr} {hS h₀ : Heap} {os : List Int} {TX : Str} {tt xw : Tok} {mv pv wv : Value} {oA oB oC : Option Value} {way : Int}
    {name qual : Str} {params : Arguments} {body : List Stmt} {scope : Scope} {dV kV doc pm cdv ct oc : Value} {an od : Option Addr} {osl : Array (Option Value)}
    {L' r a1 a2 a3 a4 P : Addr} {pz pz0 : Array Value} {deed rest ver t0 t1 t2 : Int} {ix jx size k k2 : Nat} {vs us ys : List Value} {x1 x2 x3 x4 x5 x6 b0 b1 b2 : Tok}
    (ho : (hd.heap_39 w.params).lookup 92 = some ⟨oc, od, .func (fnOf name qual params body scope dV kV doc pm an cdv ct), osl⟩)
    (C : Cx w (1 + claimMargin) 4 (some []) [] h₀ 10) (Z0 : Based hS hS 47 P pz0) (Z : Based hS h₀ 47 P pz) (G0 : AllBare s.gens) (io : IntsAre ys os) (iu : IntsAre us (groupsI os)) (hol : size = os.length) (hsl : size ≤ 41) (hos8 : ∀ n ∈ os, 0 ≤ n ∧ n < 256) (hver : 0 ≤ ver ∧ ver < 32) (hgI : ∀ n ∈ groupsI os, 0 ≤ n ∧ n < 32)
    (hsm : ∀ tx h ds, decB tx = some (h, ds) → tx.cps.size ≤ 200 → ds.length ≤ 1000 ∧ ∀ n ∈ ds, 0 ≤ n ∧ n < 32)
    (hM1 : (ver < 17 ∧ 1 < size ∧ size < 41 ∧ (0 < ver ∨ size = 20 ∨ size = 32)) → ∃ z, decD (nmS ix) (encS (nmS ix) (ver :: cv85 os)) = some z)
    (hM0 : ¬ (ver < 17 ∧ 1 < size ∧ size < 41 ∧ (0 < ver ∨ size = 20 ∨ size = 32)) → decD (nmS ix) (encS (nmS ix) (ver :: cv85 os)) = none)
    (hX : (deed = 0 ∨ deed = 5 ∨ deed = 6 ∨ deed = 7) → encS (nmS ix) (ver :: cv85 os) = TX)
    (hS6 : Txt.slice (encS (nmS ix) (ver :: cv85 os)) none (some (-6)) = nmS ix ++ Str.ofString "1" ++ ⟨((ver :: groupsI os).map sg).toArray⟩)
    (F : Fr h₀ L' s.heap (fW wv oA oB oC way xw TX tt mv pv r (fB l a1 a2 a3 a4 deed rest ver ix jx size x1 x2 x3 x4 x5 x6)))
    (N : News h₀ L' s.heap [(r, listOf vs.toArray k), (a2, listOf us.toArray k2), (a3, LCg.lst ys), (a4, listOf #[.int t0 b0, .int t1 b1, .int t2 b2] 0)])
    (done : (∀ s', Grew hS s'.heap → AllBare s'.gens → s'.os = s.os → Q (.bool true) s')) :
    wpAny (model PySem.Challenge.rw_jy0014_01.row.prog w) ((mA (1 + claimMargin) 4 (some []) []).deeper (envOfC qual scope L' 92 cdv)) (execs (body.drop 18) (envOfC qual scope L' 92 cdv)) (fun fl s' => Q (match fl with | .ret v => v | _ => .none) s') E s := by
  revert done
  refine' cut_use (motive := fun qual body scope cdv => (∀ s', Grew hS s'.heap → AllBare s'.gens → s'.os = s.os → Q (.bool true) s') → wpAny (model PySem.Challenge.rw_jy0014_01.row.prog w) ((mA (1 + claimMargin) 4 (some []) []).deeper (envOfC qual scope L' 92 cdv)) (execs (body.drop 18) (envOfC qual scope L' 92 cdv)) (fun fl s' => Q (match fl with | .ret v => v | _ => .none) s') E s) ho ?h2 ?_
  case h2 => k_is
  dsimp only [List.drop]
  intro done
  have hun : 4 + 100 < cLine := C.units
  have hnl := nmS_size ix
  have hnL : (nmS ix).length ≤ 4 := hnl
  have hyl := io.length
  have hul := iu.length
  have hgL := groupsI_length os
  have hcl := cv85_length os
  obtain ⟨base, loose, mg, mb, B, X, T, _, _⟩ := Cx.opens C
  (try k_fold)
  (repeat' (first | (with_reducible refine HoldN.mk (n := 3) ?_; (k_dflt (refine' Assign_ListComp_G (by k_asm) ?c0 ?cs ?c1 ?c2 ?c3 ?c4 ?c5 ?c7 ?c8 ?_ ?c6; (case c0 => rfl); (case cs => with_unfolding_all rfl); (case c1 => with_unfolding_all rfl); (case c2 => decide); (case c3 => rfl); (case c4 => decide); (case c5 => rfl); (case c7 => rfl); (case c8 => rfl); (case c6 => intro _; rfl)))) | (with_reducible refine HoldN.mk (n := 4) ?_; ((with_unfolding_all refine' add_J ?F ?N ?a ?b ?z ?_; (case F => k_asm); (case N => k_asm); (case a => is_list); (case b => is_list); (case z => (((rw [PySem.sizeLine_eq]; (try simp only [List.length_append, List.length_cons, List.length_nil]); (try kcf_lens); (first | lia | omega))))); k_whole); intro D' h' F' N' l1; (try k_lt l1); (try k_sweep))) | (with_reducible refine HoldN.mk (n := 2) ?_; (k_dflt (refine' ListComp_G (by k_asm) ?c1 ?c2 ?c3 ?c4 ?c5 ?_ ?c6; (case c1 => with_unfolding_all rfl); (case c2 => decide); (case c3 => rfl); (case c4 => decide); (case c5 => rfl); (case c6 => intro _; rfl)))) | (with_reducible refine HoldN.mk (n := 6) ?_; ((try dsimp only); (refine' PyProof.Rows.add_str ?_ ?z; (case z => (((rw [PySem.sizeLine_eq]; (try simp only [Str.length_append]); (try simp only [PySem.Str.length]); (try simp only [PySem.Str.cps_append, Array.size_append, List.size_toArray, List.length_map, List.length_append, List.length_cons]); first | (first | lia | omega) | (simp only [show (Str.ofString "1").cps.size = 1 by decide +kernel]; (first | lia | omega)))))); k_whole); intro t' tk')) | (k_unfold; (try dsimp only)) | (k_end; kc_close) | walk1 | (dsimp only; walk1) | (leave1; walk_say "STEP leave1"; (try dsimp only)) | fail "no step"))
  refine Hold.mk ?_
  rename News _ _ _ _ => N1
  rename Fr _ _ _ _ => F1
  with_unfolding_all refine' ed_tells (Cx.push C F1 rfl ?hu) G0 (Nat.le_trans hnl (by decide)) (by is_list) io (by (first | lia | omega)) hver hsm ?_ ?_
  case hu => (first | exact Nat.add_le_add_left (by decide) _ | (dsimp only; (first | lia | omega)))
  · intro s2 Gr Ga hos hn
    have hEN := hn.resolve_left (fun ⟨n, hm, hx⟩ => hx (hos8 n hm))
    have hcond : ¬ (ver < 17 ∧ 1 < size ∧ size < 41 ∧ (0 < ver ∨ size = 20 ∨ size = 32)) := fun c => by
      obtain ⟨z, hz⟩ := hM1 c
      rw [hEN] at hz
      cases hz
    obtain ⟨g, psg, Zg, Cg, F2, Nup, Lup, Fup⟩ := C.grow Z F1 Gr
    have N2 := Nup _ N1
    refine Cg.use fun bs l3 mg3 mb3 Bg Xg Tg => ?_
    clear F1 N1 T X B hM1 hM0 hX hS6
    (try dsimp only)
    (repeat' (first | (with_reducible refine HoldN.mk (n := 3) ?_; (k_dflt (refine' Assign_ListComp_G (by k_asm) ?c0 ?cs ?c1 ?c2 ?c3 ?c4 ?c5 ?c7 ?c8 ?_ ?c6; (case c0 => rfl); (case cs => with_unfolding_all rfl); (case c1 => with_unfolding_all rfl); (case c2 => decide); (case c3 => rfl); (case c4 => decide); (case c5 => rfl); (case c7 => rfl); (case c8 => rfl); (case c6 => intro _; rfl)))) | (with_reducible refine HoldN.mk (n := 4) ?_; ((with_unfolding_all refine' add_J ?F ?N ?a ?b ?z ?_; (case F => k_asm); (case N => k_asm); (case a => is_list); (case b => is_list); (case z => (((rw [PySem.sizeLine_eq]; (try simp only [List.length_append, List.length_cons, List.length_nil]); (try kcf_lens); (first | lia | omega))))); k_whole); intro D' h' F' N' l1; (try k_lt l1); (try k_sweep))) | (with_reducible refine HoldN.mk (n := 2) ?_; (k_dflt (refine' ListComp_G (by k_asm) ?c1 ?c2 ?c3 ?c4 ?c5 ?_ ?c6; (case c1 => with_unfolding_all rfl); (case c2 => decide); (case c3 => rfl); (case c4 => decide); (case c5 => rfl); (case c6 => intro _; rfl)))) | (with_reducible refine HoldN.mk (n := 6) ?_; ((try dsimp only); (refine' PyProof.Rows.add_str ?_ ?z; (case z => (((rw [PySem.sizeLine_eq]; (try simp only [Str.length_append]); (try simp only [PySem.Str.length]); (try simp only [PySem.Str.cps_append, Array.size_append, List.size_toArray, List.length_map, List.length_append, List.length_cons]); first | (first | lia | omega) | (simp only [show (Str.ofString "1").cps.size = 1 by decide +kernel]; (first | lia | omega)))))); k_whole); intro t' tk')) | (k_unfold; (try dsimp only)) | (k_end; kc_close) | walk1 | (dsimp only; walk1) | (leave1; walk_say "STEP leave1"; (try dsimp only)) | fail "no step"))
    refine Hold.mk ?_
    rename News _ _ _ _ => N5
    rename Fr _ _ _ _ => F5
    refine join_bool false F5 N5 ?_ ?_
    · have m41 := MarkT.mk 41
      (repeat' (first | (with_reducible refine HoldN.mk (n := 3) ?_; (k_dflt (refine' Assign_ListComp_G (by k_asm) ?c0 ?cs ?c1 ?c2 ?c3 ?c4 ?c5 ?c7 ?c8 ?_ ?c6; (case c0 => rfl); (case cs => with_unfolding_all rfl); (case c1 => with_unfolding_all rfl); (case c2 => decide); (case c3 => rfl); (case c4 => decide); (case c5 => rfl); (case c7 => rfl); (case c8 => rfl); (case c6 => intro _; rfl)))) | (with_reducible refine HoldN.mk (n := 4) ?_; ((with_unfolding_all refine' add_J ?F ?N ?a ?b ?z ?_; (case F => k_asm); (case N => k_asm); (case a => is_list); (case b => is_list); (case z => (((rw [PySem.sizeLine_eq]; (try simp only [List.length_append, List.length_cons, List.length_nil]); (try kcf_lens); (first | lia | omega))))); k_whole); intro D' h' F' N' l1; (try k_lt l1); (try k_sweep))) | (with_reducible refine HoldN.mk (n := 2) ?_; (k_dflt (refine' ListComp_G (by k_asm) ?c1 ?c2 ?c3 ?c4 ?c5 ?_ ?c6; (case c1 => with_unfolding_all rfl); (case c2 => decide); (case c3 => rfl); (case c4 => decide); (case c5 => rfl); (case c6 => intro _; rfl)))) | (with_reducible refine HoldN.mk (n := 6) ?_; ((try dsimp only); (refine' PyProof.Rows.add_str ?_ ?z; (case z => (((rw [PySem.sizeLine_eq]; (try simp only [Str.length_append]); (try simp only [PySem.Str.length]); (try simp only [PySem.Str.cps_append, Array.size_append, List.size_toArray, List.length_map, List.length_append, List.length_cons]); first | (first | lia | omega) | (simp only [show (Str.ofString "1").cps.size = 1 by decide +kernel]; (first | lia | omega)))))); k_whole); intro t' tk')) | (k_unfold; (try dsimp only)) | (k_end; kc_close) | walk1 | (dsimp only; walk1) | (leave1; walk_say "STEP leave1"; (try dsimp only)) | fail "no step"))
      all_goals first
        | (exfalso; exact hcond ⟨by omega, by omega, by omega, .inr (any_2032b (by assumption))⟩)
        | ((first | ((repeat (first | k_unfold | dsimp only | dsimp only [LPost]))) | ((repeat (first | k_unfold | dsimp only | dsimp only [LPost])))); rename News _ _ _ _ => N9; rename Fr _ _ _ _ => F9; exact Hid.mk ⟨rfl, _, _, rfl, F9, news_sub N9 (by kcf_all)⟩)
    have m41 := MarkT.mk 41
    intro h6 tk6 F6 N6
    clear F5 N5
    (try dsimp only)
    (repeat' (first | (with_reducible refine HoldN.mk (n := 3) ?_; (k_dflt (refine' Assign_ListComp_G (by k_asm) ?c0 ?cs ?c1 ?c2 ?c3 ?c4 ?c5 ?c7 ?c8 ?_ ?c6; (case c0 => rfl); (case cs => with_unfolding_all rfl); (case c1 => with_unfolding_all rfl); (case c2 => decide); (case c3 => rfl); (case c4 => decide); (case c5 => rfl); (case c7 => rfl); (case c8 => rfl); (case c6 => intro _; rfl)))) | (with_reducible refine HoldN.mk (n := 4) ?_; ((with_unfolding_all refine' add_J ?F ?N ?a ?b ?z ?_; (case F => k_asm); (case N => k_asm); (case a => is_list); (case b => is_list); (case z => (((rw [PySem.sizeLine_eq]; (try simp only [List.length_append, List.length_cons, List.length_nil]); (try kcf_lens); (first | lia | omega))))); k_whole); intro D' h' F' N' l1; (try k_lt l1); (try k_sweep))) | (with_reducible refine HoldN.mk (n := 2) ?_; (k_dflt (refine' ListComp_G (by k_asm) ?c1 ?c2 ?c3 ?c4 ?c5 ?_ ?c6; (case c1 => with_unfolding_all rfl); (case c2 => decide); (case c3 => rfl); (case c4 => decide); (case c5 => rfl); (case c6 => intro _; rfl)))) | (with_reducible refine HoldN.mk (n := 6) ?_; ((try dsimp only); (refine' PyProof.Rows.add_str ?_ ?z; (case z => (((rw [PySem.sizeLine_eq]; (try simp only [Str.length_append]); (try simp only [PySem.Str.length]); (try simp only [PySem.Str.cps_append, Array.size_append, List.size_toArray, List.length_map, List.length_append, List.length_cons]); first | (first | lia | omega) | (simp only [show (Str.ofString "1").cps.size = 1 by decide +kernel]; (first | lia | omega)))))); k_whole); intro t' tk')) | (k_unfold; (try dsimp only)) | (k_end; kc_close) | walk1 | (dsimp only; walk1) | (leave1; walk_say "STEP leave1"; (try dsimp only)) | fail "no step"))
    all_goals ((first | ((repeat (first | k_unfold | dsimp only | dsimp only [LPost]))) | ((repeat (first | k_unfold | dsimp only | dsimp only [LPost])))); rename Fr _ _ _ _ => F9; exact done _ (Grew.of Z0 Zg F9) Ga hos)
  · intro s2 t2 Gr Ga hos _ hz
    have hcond : (ver < 17 ∧ 1 < size ∧ size < 41 ∧ (0 < ver ∨ size = 20 ∨ size = 32)) := Decidable.byContradiction fun c => by
      obtain ⟨z, hz⟩ := hz
      rw [hM0 c] at hz
      cases hz
    clear hM1 hM0
    have hes := encS_size (nmS ix) (ver :: cv85 os)
    rw [List.length_cons] at hes
    generalize encS (nmS ix) (ver :: cv85 os) = MX at *
    obtain ⟨g, psg, Zg, Cg, F2, Nup, Lup, Fup⟩ := C.grow Z F1 Gr
    have N2 := Nup _ N1
    refine Cg.use fun bs l3 mg3 mb3 Bg Xg Tg => ?_
    clear F1 N1 T X B
    have ic : IntsAre ([Value.int ver x6] ++ us) (ver :: groupsI os) := .cons _ _ iu
    have hb2 : ∀ n ∈ ver :: groupsI os, 0 ≤ n ∧ n < 32 := fun n hn => by
      rcases List.mem_cons.mp hn with rfl | hn
      · exact hver
      · exact hgI n hn
    have fin : ∀ s' (b : Bool), Grew hS s'.heap → AllBare s'.gens → s'.os = s.os → b = true → Q (.bool b) s' := fun s' d a b c e => by
      rw [e]
      exact done s' a b c
    (try dsimp only)
    (repeat' (first | (with_reducible refine HoldN.mk (n := 3) ?_; (k_dflt (refine' Assign_ListComp_G (by k_asm) ?c0 ?cs ?c1 ?c2 ?c3 ?c4 ?c5 ?c7 ?c8 ?_ ?c6; (case c0 => rfl); (case cs => with_unfolding_all rfl); (case c1 => with_unfolding_all rfl); (case c2 => decide); (case c3 => rfl); (case c4 => decide); (case c5 => rfl); (case c7 => rfl); (case c8 => rfl); (case c6 => intro _; rfl)))) | (with_reducible refine HoldN.mk (n := 4) ?_; ((with_unfolding_all refine' add_J ?F ?N ?a ?b ?z ?_; (case F => k_asm); (case N => k_asm); (case a => is_list); (case b => is_list); (case z => (((rw [PySem.sizeLine_eq]; (try simp only [List.length_append, List.length_cons, List.length_nil]); (try kcf_lens); (first | lia | omega))))); k_whole); intro D' h' F' N' l1; (try k_lt l1); (try k_sweep))) | (with_reducible refine HoldN.mk (n := 2) ?_; (k_dflt (refine' ListComp_G (by k_asm) ?c1 ?c2 ?c3 ?c4 ?c5 ?_ ?c6; (case c1 => with_unfolding_all rfl); (case c2 => decide); (case c3 => rfl); (case c4 => decide); (case c5 => rfl); (case c6 => intro _; rfl)))) | (with_reducible refine HoldN.mk (n := 6) ?_; ((try dsimp only); (refine' PyProof.Rows.add_str ?_ ?z; (case z => (((rw [PySem.sizeLine_eq]; (try simp only [Str.length_append]); (try simp only [PySem.Str.length]); (try simp only [PySem.Str.cps_append, Array.size_append, List.size_toArray, List.length_map, List.length_append, List.length_cons]); first | (first | lia | omega) | (simp only [show (Str.ofString "1").cps.size = 1 by decide +kernel]; (first | lia | omega)))))); k_whole); intro t' tk')) | (k_unfold; (try dsimp only)) | (k_end; kc_close) | walk1 | (dsimp only; walk1) | (leave1; walk_say "STEP leave1"; (try dsimp only)) | fail "no step"))
    refine Hold.mk ?_
    rename News _ _ _ _ => N5
    rename Fr _ _ _ _ => F5
    refine join_bool true F5 N5 ?_ ?_
    · have m41 := MarkT.mk 41
      (repeat' (first | (with_reducible refine HoldN.mk (n := 3) ?_; (k_dflt (refine' Assign_ListComp_G (by k_asm) ?c0 ?cs ?c1 ?c2 ?c3 ?c4 ?c5 ?c7 ?c8 ?_ ?c6; (case c0 => rfl); (case cs => with_unfolding_all rfl); (case c1 => with_unfolding_all rfl); (case c2 => decide); (case c3 => rfl); (case c4 => decide); (case c5 => rfl); (case c7 => rfl); (case c8 => rfl); (case c6 => intro _; rfl)))) | (with_reducible refine HoldN.mk (n := 4) ?_; ((with_unfolding_all refine' add_J ?F ?N ?a ?b ?z ?_; (case F => k_asm); (case N => k_asm); (case a => is_list); (case b => is_list); (case z => (((rw [PySem.sizeLine_eq]; (try simp only [List.length_append, List.length_cons, List.length_nil]); (try kcf_lens); (first | lia | omega))))); k_whole); intro D' h' F' N' l1; (try k_lt l1); (try k_sweep))) | (with_reducible refine HoldN.mk (n := 2) ?_; (k_dflt (refine' ListComp_G (by k_asm) ?c1 ?c2 ?c3 ?c4 ?c5 ?_ ?c6; (case c1 => with_unfolding_all rfl); (case c2 => decide); (case c3 => rfl); (case c4 => decide); (case c5 => rfl); (case c6 => intro _; rfl)))) | (with_reducible refine HoldN.mk (n := 6) ?_; ((try dsimp only); (refine' PyProof.Rows.add_str ?_ ?z; (case z => (((rw [PySem.sizeLine_eq]; (try simp only [Str.length_append]); (try simp only [PySem.Str.length]); (try simp only [PySem.Str.cps_append, Array.size_append, List.size_toArray, List.length_map, List.length_append, List.length_cons]); first | (first | lia | omega) | (simp only [show (Str.ofString "1").cps.size = 1 by decide +kernel]; (first | lia | omega)))))); k_whole); intro t' tk')) | (k_unfold; (try dsimp only)) | (k_end; kc_close) | walk1 | (dsimp only; walk1) | (leave1; walk_say "STEP leave1"; (try dsimp only)) | fail "no step"))
      all_goals first
        | (exfalso; first | (have h2032 := any_2032c (by assumption); omega) | omega)
        | ((first | ((repeat (first | k_unfold | dsimp only | dsimp only [LPost]))) | ((repeat (first | k_unfold | dsimp only | dsimp only [LPost])))); rename News _ _ _ _ => N9; rename Fr _ _ _ _ => F9; exact Hid.mk ⟨rfl, _, _, rfl, F9, news_sub N9 (by kcf_all)⟩)
    have m41 := MarkT.mk 41
    intro h6 tk6 F6 N6
    clear F5 N5
    (try dsimp only)
    (repeat' (first | (with_reducible refine HoldN.mk (n := 3) ?_; (k_dflt (refine' Assign_ListComp_G (by k_asm) ?c0 ?cs ?c1 ?c2 ?c3 ?c4 ?c5 ?c7 ?c8 ?_ ?c6; (case c0 => rfl); (case cs => with_unfolding_all rfl); (case c1 => with_unfolding_all rfl); (case c2 => decide); (case c3 => rfl); (case c4 => decide); (case c5 => rfl); (case c7 => rfl); (case c8 => rfl); (case c6 => intro _; rfl)))) | (with_reducible refine HoldN.mk (n := 4) ?_; ((with_unfolding_all refine' add_J ?F ?N ?a ?b ?z ?_; (case F => k_asm); (case N => k_asm); (case a => is_list); (case b => is_list); (case z => (((rw [PySem.sizeLine_eq]; (try simp only [List.length_append, List.length_cons, List.length_nil]); (try kcf_lens); (first | lia | omega))))); k_whole); intro D' h' F' N' l1; (try k_lt l1); (try k_sweep))) | (with_reducible refine HoldN.mk (n := 2) ?_; (k_dflt (refine' ListComp_G (by k_asm) ?c1 ?c2 ?c3 ?c4 ?c5 ?_ ?c6; (case c1 => with_unfolding_all rfl); (case c2 => decide); (case c3 => rfl); (case c4 => decide); (case c5 => rfl); (case c6 => intro _; rfl)))) | (with_reducible refine HoldN.mk (n := 6) ?_; ((try dsimp only); (refine' PyProof.Rows.add_str ?_ ?z; (case z => (((rw [PySem.sizeLine_eq]; (try simp only [Str.length_append]); (try simp only [PySem.Str.length]); (try simp only [PySem.Str.cps_append, Array.size_append, List.size_toArray, List.length_map, List.length_append, List.length_cons]); first | (first | lia | omega) | (simp only [show (Str.ofString "1").cps.size = 1 by decide +kernel]; (first | lia | omega)))))); k_whole); intro t' tk')) | (k_unfold; (try dsimp only)) | (k_end; kc_close) | walk1 | (dsimp only; walk1) | (leave1; walk_say "STEP leave1"; (try dsimp only)) | fail "no step"))
    all_goals first
      | ((first | ((repeat (first | k_unfold | dsimp only | dsimp only [LPost]))) | ((repeat (first | k_unfold | dsimp only | dsimp only [LPost])))); rename Fr _ _ _ _ => F9; exact fin _ _ (Grew.of Z0 Zg F9) Ga hos (beq_iff_eq.mpr (hX (any_0567 (by assumption)))))
      | skip
    all_goals (
      rename News _ _ _ _ => N1
      rename Fr _ _ _ _ => F1
      refine comp_led (fun i y => ∃ a, (ver :: groupsI os)[i]? = some a ∧ ∃ t : Tok, y = Value.str (sgS a) t) rfl F1 N1 (by k_memK) ic (by (((rw [PySem.sizeLine_eq]; simp only [List.length_append, List.length_cons, List.length_nil]; (first | lia | omega))))) ?_ ?_)
    all_goals first
      | (intro i n u hi' hn I oI C oC D m₂ ys h tk E' hC hx F N
         have hn2 := hb2 n (List.mem_of_getElem? hn)
         (try k_fold)
         (repeat' (first | (with_reducible refine HoldN.mk (n := 3) ?_; (k_dflt (refine' Assign_ListComp_G (by k_asm) ?c0 ?cs ?c1 ?c2 ?c3 ?c4 ?c5 ?c7 ?c8 ?_ ?c6; (case c0 => rfl); (case cs => with_unfolding_all rfl); (case c1 => with_unfolding_all rfl); (case c2 => decide); (case c3 => rfl); (case c4 => decide); (case c5 => rfl); (case c7 => rfl); (case c8 => rfl); (case c6 => intro _; rfl)))) | (with_reducible refine HoldN.mk (n := 4) ?_; ((with_unfolding_all refine' add_J ?F ?N ?a ?b ?z ?_; (case F => k_asm); (case N => k_asm); (case a => is_list); (case b => is_list); (case z => (((rw [PySem.sizeLine_eq]; (try simp only [List.length_append, List.length_cons, List.length_nil]); (try kcf_lens); (first | lia | omega))))); k_whole); intro D' h' F' N' l1; (try k_lt l1); (try k_sweep))) | (with_reducible refine HoldN.mk (n := 2) ?_; (k_dflt (refine' ListComp_G (by k_asm) ?c1 ?c2 ?c3 ?c4 ?c5 ?_ ?c6; (case c1 => with_unfolding_all rfl); (case c2 => decide); (case c3 => rfl); (case c4 => decide); (case c5 => rfl); (case c6 => intro _; rfl)))) | (with_reducible refine HoldN.mk (n := 6) ?_; ((try dsimp only); (refine' PyProof.Rows.add_str ?_ ?z; (case z => (((rw [PySem.sizeLine_eq]; (try simp only [Str.length_append]); (try simp only [PySem.Str.length]); (try simp only [PySem.Str.cps_append, Array.size_append, List.size_toArray, List.length_map, List.length_append, List.length_cons]); first | (first | lia | omega) | (simp only [show (Str.ofString "1").cps.size = 1 by decide +kernel]; (first | lia | omega)))))); k_whole); intro t' tk')) | (k_unfold; (try dsimp only)) | (k_end; kc_close) | walk1 | (dsimp only; walk1) | (leave1; walk_say "STEP leave1"; (try dsimp only)) | fail "no step"))
         refine Hold.mk ?_
         refine' sub_str hn2.1 ?b ?c ?_ ?d ?e
         case b => show n < ((cs.length : Nat) : Int); rw [cs_length]; exact hn2.2
         case c => show cs.length ≤ _; rw [cs_length]; decide
         case d => with_unfolding_all rfl
         case e => intro _; with_unfolding_all rfl
         (repeat' (first | (with_reducible refine HoldN.mk (n := 3) ?_; (k_dflt (refine' Assign_ListComp_G (by k_asm) ?c0 ?cs ?c1 ?c2 ?c3 ?c4 ?c5 ?c7 ?c8 ?_ ?c6; (case c0 => rfl); (case cs => with_unfolding_all rfl); (case c1 => with_unfolding_all rfl); (case c2 => decide); (case c3 => rfl); (case c4 => decide); (case c5 => rfl); (case c7 => rfl); (case c8 => rfl); (case c6 => intro _; rfl)))) | (with_reducible refine HoldN.mk (n := 4) ?_; ((with_unfolding_all refine' add_J ?F ?N ?a ?b ?z ?_; (case F => k_asm); (case N => k_asm); (case a => is_list); (case b => is_list); (case z => (((rw [PySem.sizeLine_eq]; (try simp only [List.length_append, List.length_cons, List.length_nil]); (try kcf_lens); (first | lia | omega))))); k_whole); intro D' h' F' N' l1; (try k_lt l1); (try k_sweep))) | (with_reducible refine HoldN.mk (n := 2) ?_; (k_dflt (refine' ListComp_G (by k_asm) ?c1 ?c2 ?c3 ?c4 ?c5 ?_ ?c6; (case c1 => with_unfolding_all rfl); (case c2 => decide); (case c3 => rfl); (case c4 => decide); (case c5 => rfl); (case c6 => intro _; rfl)))) | (with_reducible refine HoldN.mk (n := 6) ?_; ((try dsimp only); (refine' PyProof.Rows.add_str ?_ ?z; (case z => (((rw [PySem.sizeLine_eq]; (try simp only [Str.length_append]); (try simp only [PySem.Str.length]); (try simp only [PySem.Str.cps_append, Array.size_append, List.size_toArray, List.length_map, List.length_append, List.length_cons]); first | (first | lia | omega) | (simp only [show (Str.ofString "1").cps.size = 1 by decide +kernel]; (first | lia | omega)))))); k_whole); intro t' tk')) | (k_unfold; (try dsimp only)) | (k_end; kc_close) | walk1 | (dsimp only; walk1) | (leave1; walk_say "STEP leave1"; (try dsimp only)) | fail "no step"))
         rename News _ _ _ _ => N2
         rename Fr _ _ _ _ => F2
         exact EEnd.intro F2 N2 (fun _ h => h) ⟨n, hn, _, rfl⟩)
      | (intro g2 ys2 hl hy
         have iy := strs_map hl hy
         intro D h tk F N o1
         (try dsimp only)
         (repeat' (first | (with_reducible refine HoldN.mk (n := 3) ?_; (k_dflt (refine' Assign_ListComp_G (by k_asm) ?c0 ?cs ?c1 ?c2 ?c3 ?c4 ?c5 ?c7 ?c8 ?_ ?c6; (case c0 => rfl); (case cs => with_unfolding_all rfl); (case c1 => with_unfolding_all rfl); (case c2 => decide); (case c3 => rfl); (case c4 => decide); (case c5 => rfl); (case c7 => rfl); (case c8 => rfl); (case c6 => intro _; rfl)))) | (with_reducible refine HoldN.mk (n := 4) ?_; ((with_unfolding_all refine' add_J ?F ?N ?a ?b ?z ?_; (case F => k_asm); (case N => k_asm); (case a => is_list); (case b => is_list); (case z => (((rw [PySem.sizeLine_eq]; (try simp only [List.length_append, List.length_cons, List.length_nil]); (try kcf_lens); (first | lia | omega))))); k_whole); intro D' h' F' N' l1; (try k_lt l1); (try k_sweep))) | (with_reducible refine HoldN.mk (n := 2) ?_; (k_dflt (refine' ListComp_G (by k_asm) ?c1 ?c2 ?c3 ?c4 ?c5 ?_ ?c6; (case c1 => with_unfolding_all rfl); (case c2 => decide); (case c3 => rfl); (case c4 => decide); (case c5 => rfl); (case c6 => intro _; rfl)))) | (with_reducible refine HoldN.mk (n := 6) ?_; ((try dsimp only); (refine' PyProof.Rows.add_str ?_ ?z; (case z => (((rw [PySem.sizeLine_eq]; (try simp only [Str.length_append]); (try simp only [PySem.Str.length]); (try simp only [PySem.Str.cps_append, Array.size_append, List.size_toArray, List.length_map, List.length_append, List.length_cons]); first | (first | lia | omega) | (simp only [show (Str.ofString "1").cps.size = 1 by decide +kernel]; (first | lia | omega)))))); k_whole); intro t' tk')) | (k_unfold; (try dsimp only)) | (k_end; kc_close) | walk1 | (dsimp only; walk1) | (leave1; walk_say "STEP leave1"; (try dsimp only)) | fail "no step"))
         refine join_listC (by is_list) iy (by decide) ?_ ?_
         · simp only [sg_total, List.length_map, List.length_cons]
           (first | lia | omega)
         intro t' k
         rw [join_signs]
         (try dsimp only)
         (repeat' (first | (with_reducible refine HoldN.mk (n := 3) ?_; (k_dflt (refine' Assign_ListComp_G (by k_asm) ?c0 ?cs ?c1 ?c2 ?c3 ?c4 ?c5 ?c7 ?c8 ?_ ?c6; (case c0 => rfl); (case cs => with_unfolding_all rfl); (case c1 => with_unfolding_all rfl); (case c2 => decide); (case c3 => rfl); (case c4 => decide); (case c5 => rfl); (case c7 => rfl); (case c8 => rfl); (case c6 => intro _; rfl)))) | (with_reducible refine HoldN.mk (n := 4) ?_; ((with_unfolding_all refine' add_J ?F ?N ?a ?b ?z ?_; (case F => k_asm); (case N => k_asm); (case a => is_list); (case b => is_list); (case z => (((rw [PySem.sizeLine_eq]; (try simp only [List.length_append, List.length_cons, List.length_nil]); (try kcf_lens); (first | lia | omega))))); k_whole); intro D' h' F' N' l1; (try k_lt l1); (try k_sweep))) | (with_reducible refine HoldN.mk (n := 2) ?_; (k_dflt (refine' ListComp_G (by k_asm) ?c1 ?c2 ?c3 ?c4 ?c5 ?_ ?c6; (case c1 => with_unfolding_all rfl); (case c2 => decide); (case c3 => rfl); (case c4 => decide); (case c5 => rfl); (case c6 => intro _; rfl)))) | (with_reducible refine HoldN.mk (n := 6) ?_; ((try dsimp only); (refine' PyProof.Rows.add_str ?_ ?z; (case z => (((rw [PySem.sizeLine_eq]; (try simp only [Str.length_append]); (try simp only [PySem.Str.length]); (try simp only [PySem.Str.cps_append, Array.size_append, List.size_toArray, List.length_map, List.length_append, List.length_cons]); first | (first | lia | omega) | (simp only [show (Str.ofString "1").cps.size = 1 by decide +kernel]; (first | lia | omega)))))); k_whole); intro t' tk')) | (k_unfold; (try dsimp only)) | (k_end; kc_close) | walk1 | (dsimp only; walk1) | (leave1; walk_say "STEP leave1"; (try dsimp only)) | fail "no step"))
         (first | ((repeat (first | k_unfold | dsimp only | dsimp only [LPost]))) | ((repeat (first | k_unfold | dsimp only | dsimp only [LPost]))))
         rename Fr _ _ _ _ => F9
         exact fin _ _ (Grew.of Z0 Zg F9) Ga hos (beq_iff_eq.mpr hS6))
end
end Mine
end
section
open PySem PySem.W PySem.Calls PyProof.Rows
namespace Mine
theorem snoc_ind {α : Type} {P : List α → Prop} (h0 : P []) (hs : ∀ l a, P l → P (l ++ [a])) (l : List α) : P l := by
  have k : ∀ r : List α, P r.reverse := fun r => by
    induction r with
    | nil => exact h0
    | cons a r ih => rw [List.reverse_cons]; exact hs _ _ ih
  have := k l.reverse
  rwa [List.reverse_reverse] at this
theorem ar1 {a b c : Nat} (h : c ≤ a) : a + b - c = b + (a - c) := by rw [Nat.add_comm, Nat.add_sub_assoc h]
theorem ar2 {N f i : Nat} (h : i < N) : N + f - 1 - i = f + (N - 1 - i) := by (first | grind | omega)
theorem ar3 (N f j : Nat) : N + f - 1 - (N + j) = f - 1 - j := by (first | grind | omega)
theorem ar4 {N p : Nat} (hp : p = (5 - N % 5) % 5) : N + p = 5 * ((N + p) / 5) := by (first | grind | omega)
theorem ar5 {n p : Nat} (h : p < 5) : (8 * n + p) % 8 = p := by (first | grind | omega)
theorem ar6 {n p : Nat} (h : p < 5) : (8 * n + p) / 8 = 8 * n / 8 := by (first | grind | omega)
theorem ar7 {N i k : Nat} (h : k < 8) : N - (8 * i + k) - (7 - k) - 1 = N - 8 * (i + 1) := by (first | grind | omega)
theorem ar8 {N i r d : Nat} (h : r + d = 4) : N - (5 * i + r) - d - 1 = N - 5 * (i + 1) := by (first | grind | omega)
theorem ar9 (n k : Nat) : n + 1 - 1 - (k + 1) = n - 1 - k := by (first | grind | omega)
theorem ar10 {N i : Nat} (h : i < N / 8) : 8 * (i + 1) ≤ N := by (first | grind | omega)
theorem ar11 (N : Nat) : ((-(N : Int)) % 5).toNat = (5 - N % 5) % 5 := by (first | grind | omega)
/-- the number that a row of digits tells -/
def VN (f : Nat) (ms : List Nat) : Nat := ms.foldl (fun a m => a * 2 ^ f + m) 0
theorem VN_snoc (f : Nat) (ms : List Nat) (m : Nat) : VN f (ms ++ [m]) = VN f ms * 2 ^ f + m := by
  unfold VN
  rw [List.foldl_append]
  rfl
theorem land_low {a m f : Nat} (h : m < 2 ^ f) : (a * 2 ^ f) &&& m = 0 := by
  apply Nat.eq_of_testBit_eq
  intro i
  rw [Nat.testBit_and, Nat.testBit_mul_two_pow, Nat.zero_testBit]
  by_cases hi : f ≤ i
  · rw [Nat.testBit_lt_two_pow (Nat.lt_of_lt_of_le h (Nat.pow_le_pow_right (by decide) hi)), Bool.and_false]
  · simp [hi]
theorem bitAnd_nat (a b : Nat) : Builtin.bitAnd (a : Int) (b : Int) = ((a &&& b : Nat) : Int) := by
  unfold Builtin.bitAnd
  rw [decide_eq_true (by (first | grind | omega)), decide_eq_true (by (first | grind | omega))]
  rfl
theorem bitOr_low (a m f : Nat) (h : m < 2 ^ f) : Builtin.bitOr ((a : Int) * 2 ^ f) (m : Int) = ((a * 2 ^ f + m : Nat) : Int) := by
  have e : (a : Int) * 2 ^ f = ((a * 2 ^ f : Nat) : Int) := by rw [Int.natCast_mul, kbt_cast]
  rw [e, bitOr_and, bitAnd_nat, land_low h]
  (first | grind | omega)
theorem mask_nat (x k : Nat) : Builtin.bitAnd (x : Int) (2 ^ k - 1) = ((x % 2 ^ k : Nat) : Int) := by
  rw [kbt_mask, ← kbt_cast]
  rfl
theorem fdiv_nat (x k : Nat) : Int.fdiv (x : Int) (2 ^ k) = ((x / 2 ^ k : Nat) : Int) := by
  rw [Int.fdiv_eq_ediv_of_nonneg _ (Int.le_of_lt (kbt_pos k)), ← kbt_cast, ← Int.natCast_ediv]
theorem cvStep_nat (f t A b m : Nat) (out : List Nat) (h : m < 2 ^ f) : cvStep f t ((A : Int), b, castL out) (m : Int) = ((((A * 2 ^ f + m) % 2 ^ (f + t - 1) : Nat) : Int), (b + f) % t, castL (out ++ (List.range ((b + f) / t)).map fun j => (A * 2 ^ f + m) % 2 ^ (f + t - 1) / 2 ^ (b + f - t * (j + 1)) % 2 ^ t)) := by
  unfold cvStep
  dsimp only
  rw [bitOr_low _ _ _ h, mask_nat, castL_append]
  congr 3
  unfold castL
  rw [List.map_map]
  refine List.map_congr_left fun j _ => ?_
  rw [fdiv_nat, mask_nat]
  rfl
/-- the digits, from the top -/
def digs (t V N : Nat) : List Nat := (List.range (N / t)).map fun i => V / 2 ^ (N - t * (i + 1)) % 2 ^ t
theorem mod_div_mod {X M k t : Nat} (h : k + t ≤ M) : X % 2 ^ M / 2 ^ k % 2 ^ t = X / 2 ^ k % 2 ^ t := by
  have e : 2 ^ M = 2 ^ k * 2 ^ (M - k) := by rw [← Nat.pow_add]; congr 1; (first | grind | omega)
  rw [e, Nat.mod_mul_right_div_self, Nat.mod_mod_of_dvd _ (Nat.pow_dvd_pow 2 (by (first | grind | omega)))]
theorem div_up {V m f k : Nat} (h : m < 2 ^ f) : (V * 2 ^ f + m) / 2 ^ (f + k) = V / 2 ^ k := by
  rw [Nat.pow_add, ← Nat.div_div_eq_div_mul, Nat.add_comm, Nat.add_mul_div_right _ _ (Nat.two_pow_pos f), Nat.div_eq_of_lt h, Nat.zero_add]
theorem digs_grow {f t V m N : Nat} (ht : 0 < t) (h : m < 2 ^ f) : digs t V N ++ ((List.range ((N % t + f) / t)).map fun j => (V * 2 ^ f + m) % 2 ^ (f + t - 1) / 2 ^ (N % t + f - t * (j + 1)) % 2 ^ t) = digs t (V * 2 ^ f + m) (N + f) := by
  have hN := Nat.div_add_mod N t
  have hm := Nat.mod_lt N ht
  have e : (N + f) / t = N / t + (N % t + f) / t := by
    have : N + f = N % t + f + t * (N / t) := by (first | grind | omega)
    rw [this, Nat.add_mul_div_left _ _ ht, Nat.add_comm]
  unfold digs
  rw [e, List.range_add, List.map_append, List.map_map]
  congr 1
  · refine List.map_congr_left fun i hi => ?_
    have hi2 : i + 1 ≤ N / t := List.mem_range.mp hi
    have hi3 := Nat.mul_le_mul_left t hi2
    have e2 : N + f - t * (i + 1) = f + (N - t * (i + 1)) := ar1 (Nat.le_trans hi3 (Nat.mul_div_le N t))
    rw [e2, div_up h]
  · refine List.map_congr_left fun j hj => ?_
    have hj2 : j + 1 ≤ (N % t + f) / t := List.mem_range.mp hj
    have hj3 := Nat.mul_le_mul_left t hj2
    have hj4 := Nat.mul_div_le (N % t + f) t
    have hj5 : t * (j + 1) = t * j + t := by rw [Nat.mul_add, Nat.mul_one]
    have e3 : t * (N / t + j + 1) = t * (N / t) + t * (j + 1) := by rw [Nat.add_assoc, Nat.mul_add]
    have e2 : N + f - t * (N / t + j + 1) = N % t + f - t * (j + 1) := by (first | grind | omega)
    show _ = (V * 2 ^ f + m) / 2 ^ (N + f - t * (N / t + j + 1)) % 2 ^ t
    rw [e2, mod_div_mod (by (first | grind | omega))]
theorem cv_nat (f t : Nat) (ht : 0 < t) (ms : List Nat) : (∀ m ∈ ms, m < 2 ^ f) → cv f t (castL ms) = (((VN f ms % 2 ^ (f + t - 1) : Nat) : Int), f * ms.length % t, castL (digs t (VN f ms) (f * ms.length))) := by
  refine snoc_ind (P := fun ms => (∀ m ∈ ms, m < 2 ^ f) → cv f t (castL ms) = (((VN f ms % 2 ^ (f + t - 1) : Nat) : Int), f * ms.length % t, castL (digs t (VN f ms) (f * ms.length)))) ?_ ?_ ms
  · intro _
    have e : VN f [] = 0 := rfl
    have e2 : f * ([] : List Nat).length = 0 := rfl
    rw [e, e2, Nat.zero_mod, Nat.zero_mod]
    unfold digs
    rw [Nat.zero_div]
    rfl
  · intro l a ih h
    have ha : a < 2 ^ f := h a (List.mem_append.mpr (.inr (.head _)))
    have ih := ih fun m hm => h m (List.mem_append.mpr (.inl hm))
    have e : castL (l ++ [a]) = castL l ++ [(a : Int)] := castL_append l [a]
    rw [e, cv_snoc, ih, cvStep_nat _ _ _ _ _ _ ha, VN_snoc, List.length_append, List.length_singleton, Nat.mul_add, Nat.mul_one]
    have e1 : (VN f l % 2 ^ (f + t - 1) * 2 ^ f + a) % 2 ^ (f + t - 1) = (VN f l * 2 ^ f + a) % 2 ^ (f + t - 1) := by
      rw [Nat.add_mod, Nat.mul_mod, Nat.mod_mod, ← Nat.mul_mod, ← Nat.add_mod]
    rw [e1, Nat.mod_add_mod, digs_grow ht ha]
theorem VN_lt (f : Nat) (ms : List Nat) : (∀ m ∈ ms, m < 2 ^ f) → VN f ms < 2 ^ (f * ms.length) := by
  refine snoc_ind (P := fun ms => (∀ m ∈ ms, m < 2 ^ f) → VN f ms < 2 ^ (f * ms.length)) ?_ ?_ ms
  · intro _; exact Nat.one_pos
  · intro l a ih h
    have ha : a < 2 ^ f := h a (List.mem_append.mpr (.inr (.head _)))
    have ih := ih fun m hm => h m (List.mem_append.mpr (.inl hm))
    rw [VN_snoc, List.length_append, List.length_singleton, Nat.mul_add, Nat.mul_one, Nat.pow_add]
    have := Nat.mul_le_mul_right (2 ^ f) (show VN f l + 1 ≤ 2 ^ (f * l.length) from ih)
    rw [Nat.add_mul, Nat.one_mul] at this
    (first | grind | omega)
theorem digs_succ {f V G : Nat} (hf : 0 < f) : digs f V (f * (G + 1)) = digs f (V / 2 ^ f) (f * G) ++ [V % 2 ^ f] := by
  unfold digs
  rw [Nat.mul_div_cancel_left _ hf, Nat.mul_div_cancel_left _ hf, List.range_succ, List.map_append, List.map_singleton, Nat.sub_self, Nat.pow_zero, Nat.div_one]
  congr 1
  refine List.map_congr_left fun i hi => ?_
  have hi2 : i + 1 ≤ G := List.mem_range.mp hi
  have hi3 := Nat.mul_le_mul_left f hi2
  rw [Nat.div_div_eq_div_mul, ← Nat.pow_add]
  have e : f * (G + 1) - f * (i + 1) = f + (f * G - f * (i + 1)) := by rw [Nat.mul_add f G 1, Nat.mul_one]; (first | grind | omega)
  rw [e]
theorem VN_digs {f : Nat} (hf : 0 < f) : ∀ (G V : Nat), V < 2 ^ (f * G) → VN f (digs f V (f * G)) = V
  | 0, V, h => by
    have : V = 0 := by rw [Nat.mul_zero, Nat.pow_zero] at h; (first | grind | omega)
    subst this
    unfold digs
    rw [Nat.mul_zero, Nat.zero_div]
    rfl
  | G + 1, V, h => by
    rw [digs_succ hf, VN_snoc, VN_digs hf G]
    · have := Nat.div_add_mod V (2 ^ f)
      rw [Nat.mul_comm]
      exact this
    · rw [Nat.mul_add, Nat.mul_one, Nat.pow_add] at h
      exact Nat.div_lt_of_lt_mul (by rw [Nat.mul_comm]; exact h)
theorem digs_VN {f : Nat} (hf : 0 < f) (ms : List Nat) : (∀ m ∈ ms, m < 2 ^ f) → digs f (VN f ms) (f * ms.length) = ms := by
  refine snoc_ind (P := fun ms => (∀ m ∈ ms, m < 2 ^ f) → digs f (VN f ms) (f * ms.length) = ms) ?_ ?_ ms
  · intro _
    unfold digs
    rw [List.length_nil, Nat.mul_zero, Nat.zero_div]
    rfl
  · intro l a ih h
    have ha : a < 2 ^ f := h a (List.mem_append.mpr (.inr (.head _)))
    have ih := ih fun m hm => h m (List.mem_append.mpr (.inl hm))
    have e1 : (VN f l * 2 ^ f + a) / 2 ^ f = VN f l := div_up (k := 0) ha |>.trans (by rw [Nat.pow_zero, Nat.div_one])
    rw [List.length_append, List.length_singleton, digs_succ hf, VN_snoc, e1, ih, Nat.mul_add_mod_self_right, Nat.mod_eq_of_lt ha]
/-- the bits of a number of N bits -/
def bitsV (V N : Nat) : List Nat := (List.range N).map fun i => V / 2 ^ (N - 1 - i) % 2
def bitsN (f : Nat) (ms : List Nat) : List Nat := ms.flatMap fun m => (List.range f).map fun j => m / 2 ^ (f - 1 - j) % 2
theorem even_up (V m f k : Nat) (h : k < f) : (V * 2 ^ f + m) / 2 ^ k % 2 = m / 2 ^ k % 2 := by
  have e : 2 ^ f = 2 ^ (f - k - 1) * 2 * 2 ^ k := by rw [← Nat.pow_succ, ← Nat.pow_add]; congr 1; (first | grind | omega)
  rw [e, ← Nat.mul_assoc, Nat.add_comm, Nat.add_mul_div_right _ _ (Nat.two_pow_pos k), ← Nat.mul_assoc, Nat.add_mul_mod_self_right]
theorem bitsN_V (f : Nat) (ms : List Nat) : (∀ m ∈ ms, m < 2 ^ f) → bitsN f ms = bitsV (VN f ms) (f * ms.length) := by
  refine snoc_ind (P := fun ms => (∀ m ∈ ms, m < 2 ^ f) → bitsN f ms = bitsV (VN f ms) (f * ms.length)) ?_ ?_ ms
  · intro _; rfl
  · intro l a ih h
    have ha : a < 2 ^ f := h a (List.mem_append.mpr (.inr (.head _)))
    have ih := ih fun m hm => h m (List.mem_append.mpr (.inl hm))
    have e : bitsN f (l ++ [a]) = bitsN f l ++ (List.range f).map fun j => a / 2 ^ (f - 1 - j) % 2 := by
      unfold bitsN
      rw [List.flatMap_append]
      congr 1
      simp only [List.flatMap_cons, List.flatMap_nil, List.append_nil]
    rw [e, ih, VN_snoc, List.length_append, List.length_singleton, Nat.mul_add, Nat.mul_one]
    generalize f * l.length = N
    unfold bitsV
    rw [List.range_add, List.map_append, List.map_map]
    congr 1
    · refine List.map_congr_left fun i hi => ?_
      have hi2 := List.mem_range.mp hi
      have e2 : N + f - 1 - i = f + (N - 1 - i) := ar2 hi2
      rw [e2, div_up ha]
    · refine List.map_congr_left fun j hj => ?_
      have hj2 := List.mem_range.mp hj
      show _ = (VN f l * 2 ^ f + a) / 2 ^ (N + f - 1 - (N + j)) % 2
      have e2 : N + f - 1 - (N + j) = f - 1 - j := ar3 _ _ _
      rw [e2, even_up _ _ _ _ (by (first | grind | omega))]
theorem bit_nat (m k : Nat) : Int.fmod (Int.fdiv (m : Int) (2 ^ k)) 2 = ((m / 2 ^ k % 2 : Nat) : Int) := by
  rw [fdiv_nat, Int.fmod_eq_emod_of_nonneg _ (by decide)]
  rfl
theorem castL_flat {g : Int → List Int} {g' : Nat → List Nat} (h : ∀ m, g ((m : Nat) : Int) = castL (g' m)) : ∀ ms : List Nat, (castL ms).flatMap g = castL (ms.flatMap g')
  | [] => rfl
  | m :: r => by
    show (((m : Int) :: castL r)).flatMap g = _
    rw [List.flatMap_cons, List.flatMap_cons, castL_append, castL_flat h r, h]
theorem bits5_nat (ms : List Nat) : bits5 (castL ms) = castL (bitsN 5 ms) := by
  refine castL_flat (fun m => ?_) ms
  unfold castL
  rw [List.map_map]
  exact List.map_congr_left fun j _ => bit_nat m (4 - j)
theorem bitsOf_nat (ms : List Nat) : bitsOf (castL ms) = castL (bitsN 8 ms) := by
  refine castL_flat (fun m => ?_) ms
  unfold castL
  rw [List.map_map]
  exact List.map_congr_left fun j _ => bit_nat m (7 - j)
theorem bitsV_length (V N : Nat) : (bitsV V N).length = N := by
  unfold bitsV
  rw [List.length_map, List.length_range]
theorem castL_length (l : List Nat) : (castL l).length = l.length := List.length_map ..
theorem castL_getD (l : List Nat) (k : Nat) : (castL l).getD k 0 = ((l.getD k 0 : Nat) : Int) := by
  unfold castL
  rw [List.getD_eq_getElem?_getD, List.getD_eq_getElem?_getD, List.getElem?_map]
  cases l[k]? <;> rfl
theorem bitsV_getD {V N k : Nat} (h : k < N) : (bitsV V N).getD k 0 = V / 2 ^ (N - 1 - k) % 2 := by
  unfold bitsV
  rw [List.getD_eq_getElem?_getD, List.getElem?_map, List.getElem?_range h]
  rfl
theorem bitsV_pad (V N : Nat) : ∀ p, bitsV V N ++ List.replicate p 0 = bitsV (V * 2 ^ p) (N + p)
  | p => by
    unfold bitsV
    rw [List.range_add, List.map_append, List.map_map]
    congr 1
    · refine List.map_congr_left fun i hi => ?_
      have hi2 := List.mem_range.mp hi
      have e2 : N + p - 1 - i = p + (N - 1 - i) := ar2 hi2
      have := div_up (V := V) (m := 0) (f := p) (k := N - 1 - i) (Nat.two_pow_pos p)
      rw [e2, ← this, Nat.add_zero]
    · symm
      rw [List.eq_replicate_iff]
      refine ⟨by rw [List.length_map, List.length_range], fun b hb => ?_⟩
      obtain ⟨j, hj, rfl⟩ := List.mem_map.mp hb
      have hj2 := List.mem_range.mp hj
      show V * 2 ^ p / 2 ^ (N + p - 1 - (N + j)) % 2 = 0
      have := even_up V 0 p (N + p - 1 - (N + j)) (by rw [ar3]; (first | grind | omega))
      rw [Nat.add_zero, Nat.zero_div] at this
      exact this
theorem bitsV_at {V N k d : Nat} (h : k + d + 1 ≤ N) : (castL (bitsV V N)).getD k 0 = ((V / 2 ^ (N - k - d - 1) / 2 ^ d % 2 : Nat) : Int) := by
  rw [castL_getD, bitsV_getD (by (first | grind | omega)), Nat.div_div_eq_div_mul, ← Nat.pow_add]
  congr 4
  (first | grind | omega)
theorem grp_nat {V N i : Nat} (h : 5 * (i + 1) ≤ N) : grpI (castL (bitsV V N)) i = ((V / 2 ^ (N - 5 * (i + 1)) % 2 ^ 5 : Nat) : Int) := by
  unfold grpI
  rw [bitsV_at (d := 4) (by (first | grind | omega)), bitsV_at (d := 3) (by (first | grind | omega)), bitsV_at (d := 2) (by (first | grind | omega)), bitsV_at (d := 1) (by (first | grind | omega)), bitsV_at (d := 0) (by (first | grind | omega))]
  have e0 : N - 5 * i - 4 - 1 = N - 5 * (i + 1) := ar8 (r := 0) rfl
  have e1 : N - (5 * i + 1) - 3 - 1 = N - 5 * (i + 1) := ar8 (r := 1) rfl
  have e2 : N - (5 * i + 2) - 2 - 1 = N - 5 * (i + 1) := ar8 (r := 2) rfl
  have e3 : N - (5 * i + 3) - 1 - 1 = N - 5 * (i + 1) := ar8 (r := 3) rfl
  have e4 : N - (5 * i + 4) - 0 - 1 = N - 5 * (i + 1) := ar8 (r := 4) rfl
  rw [e0, e1, e2, e3, e4]
  generalize V / 2 ^ (N - 5 * (i + 1)) = X
  (first | grind | omega)
theorem sum_bits (X : Nat) : ∀ n, ((List.range n).map fun k => X / 2 ^ (n - 1 - k) % 2 * 2 ^ (n - 1 - k)).sum = X % 2 ^ n
  | 0 => (Nat.mod_one X).symm
  | n + 1 => by
    have e : ((List.range n).map ((fun k => X / 2 ^ (n + 1 - 1 - k) % 2 * 2 ^ (n + 1 - 1 - k)) ∘ Nat.succ)) = (List.range n).map fun k => X / 2 ^ (n - 1 - k) % 2 * 2 ^ (n - 1 - k) := List.map_congr_left fun k _ => by
      show X / 2 ^ (n + 1 - 1 - (k + 1)) % 2 * 2 ^ (n + 1 - 1 - (k + 1)) = _
      rw [ar9]
    rw [List.range_succ_eq_map, List.map_cons, List.map_map, e, List.sum_cons, sum_bits X n, Nat.pow_succ, Nat.mod_mul, Nat.add_comm, Nat.mul_comm]
    rfl
theorem sum_cast (f : Nat → Nat) : ∀ l : List Nat, (l.map fun k => ((f k : Nat) : Int)).sum = ((l.map f).sum : Nat)
  | [] => rfl
  | a :: r => by
    rw [List.map_cons, List.map_cons, List.sum_cons, List.sum_cons, sum_cast f r]
    rfl
theorem oct_nat {V N i : Nat} (h : 8 * (i + 1) ≤ N) : octI (castL (bitsV V N)) i = ((V / 2 ^ (N - 8 * (i + 1)) % 2 ^ 8 : Nat) : Int) := by
  unfold octI
  rw [← sum_bits _ 8, ← sum_cast]
  congr 1
  refine List.map_congr_left fun k hk => ?_
  have hk2 := List.mem_range.mp hk
  rw [bitsV_at (d := 7 - k) (by omega), Int.natCast_mul, kbt_cast]
  rw [ar7 hk2]
theorem mod_bits (V : Nat) : ∀ r, (V % 2 ^ r = 0 ↔ ∀ j, j < r → V / 2 ^ j % 2 = 0)
  | 0 => by simp [Nat.mod_one]
  | r + 1 => by
    rw [Nat.pow_succ, Nat.mod_mul]
    have ih := mod_bits V r
    constructor
    · intro h j hj
      by_cases e : j = r
      · subst e
        have hp := Nat.two_pow_pos j
        by_cases z : V / 2 ^ j % 2 = 0
        · exact z
        · have : V / 2 ^ j % 2 = 1 := by (first | grind | omega)
          rw [this] at h
          (first | grind | omega)
      · exact ih.mp (by (first | grind | omega)) j (by (first | grind | omega))
    · intro h
      rw [ih.mpr fun j hj => h j (by (first | grind | omega)), h r (by (first | grind | omega)), Nat.mul_zero]
theorem prog_nat (ms : List Nat) (h : ∀ m ∈ ms, m < 2 ^ 5) : progI (castL ms) = if 4 < 5 * ms.length % 8 ∨ VN 5 ms % 2 ^ (5 * ms.length % 8) ≠ 0 then none else some (castL (digs 8 (VN 5 ms) (5 * ms.length))) := by
  unfold progI
  rw [bits5_nat, bitsN_V 5 ms h, castL_length, bitsV_length]
  generalize VN 5 ms = V
  generalize 5 * ms.length = N
  have e1 : N - 8 * (N / 8) = N % 8 := by (first | grind | omega)
  have e2 : (List.drop (8 * (N / 8)) (castL (bitsV V N))).any (fun x => x == 1) = true ↔ V % 2 ^ (N % 8) ≠ 0 := by
    rw [List.any_eq_true]
    constructor
    · rintro ⟨x, hx, h1⟩ hz
      have hx1 : x = 1 := by simpa using h1
      obtain ⟨k, hk⟩ := List.mem_iff_getElem?.mp hx
      rw [List.getElem?_drop] at hk
      have hlt : 8 * (N / 8) + k < N := by
        have := (List.getElem?_eq_some_iff.mp hk).1
        rwa [castL_length, bitsV_length] at this
      have hv : (castL (bitsV V N)).getD (8 * (N / 8) + k) 0 = x := by rw [List.getD_eq_getElem?_getD, hk]; rfl
      rw [castL_getD, bitsV_getD hlt] at hv
      have := (mod_bits V (N % 8)).mp hz (N - 1 - (8 * (N / 8) + k)) (by (first | grind | omega))
      (first | grind | omega)
    · intro hz
      have : ¬ ∀ j, j < N % 8 → V / 2 ^ j % 2 = 0 := fun q => hz ((mod_bits V (N % 8)).mpr q)
      have ⟨j, hj⟩ : ∃ j, ¬ (j < N % 8 → V / 2 ^ j % 2 = 0) := Classical.not_forall.mp this
      have hj1 : j < N % 8 := Classical.byContradiction fun q => hj fun p => absurd p q
      have hj2 : ¬ V / 2 ^ j % 2 = 0 := fun q => hj fun _ => q
      refine ⟨1, ?_, by rfl⟩
      have hk : (castL (bitsV V N))[8 * (N / 8) + (N % 8 - 1 - j)]? = some 1 := by
        have hlt : 8 * (N / 8) + (N % 8 - 1 - j) < N := by (first | grind | omega)
        have hg := castL_getD (bitsV V N) (8 * (N / 8) + (N % 8 - 1 - j))
        have hl : 8 * (N / 8) + (N % 8 - 1 - j) < (castL (bitsV V N)).length := by rw [castL_length, bitsV_length]; exact hlt
        rw [bitsV_getD hlt, List.getD_eq_getElem?_getD, List.getElem?_eq_getElem hl] at hg
        rw [List.getElem?_eq_getElem hl]
        have e3 : N - 1 - (8 * (N / 8) + (N % 8 - 1 - j)) = j := by (first | grind | omega)
        rw [e3] at hg
        have e4 : V / 2 ^ j % 2 = 1 := by (first | grind | omega)
        rw [e4] at hg
        exact congrArg some hg
      exact List.mem_iff_getElem?.mpr ⟨N % 8 - 1 - j, by rw [List.getElem?_drop]; exact hk⟩
  rw [e1]
  by_cases c : 4 < N % 8 ∨ V % 2 ^ (N % 8) ≠ 0
  · rw [if_pos c, if_pos (c.imp id e2.mpr)]
  · rw [if_neg c, if_neg (fun q => c (q.imp id e2.mp))]
    congr 1
    unfold digs castL
    rw [List.map_map]
    refine List.map_congr_left fun i hi => ?_
    have hi2 := List.mem_range.mp hi
    exact oct_nat (ar10 hi2)
theorem five_nat (ms : List Nat) (h : ∀ m ∈ ms, m < 2 ^ 5) : fiveOk (castL ms) ↔ ¬ (4 < 5 * ms.length % 8 ∨ VN 5 ms % 2 ^ (5 * ms.length % 8) ≠ 0) := by
  unfold fiveOk
  rw [cv_nat 5 8 (by decide) ms h]
  dsimp only
  have hb : 5 * ms.length % 8 < 8 := Nat.mod_lt _ (by decide)
  generalize 5 * ms.length % 8 = b at hb ⊢
  generalize VN 5 ms = V
  have e : ((V % 2 ^ (5 + 8 - 1) : Nat) : Int) * 2 ^ (8 - b) = ((V % 2 ^ 12 * 2 ^ (8 - b) : Nat) : Int) := by rw [Int.natCast_mul, kbt_cast]
  have m := mask_nat (V % 2 ^ 12 * 2 ^ (8 - b)) 8
  rw [show ((2 : Int) ^ 8 - 1) = 255 by decide] at m
  rw [e, m]
  have k : (V % 2 ^ 12 * 2 ^ (8 - b)) % 2 ^ 8 = 0 ↔ V % 2 ^ b = 0 := by
    have e8 : 2 ^ 8 = 2 ^ b * 2 ^ (8 - b) := by rw [← Nat.pow_add]; congr 1; omega
    rw [e8, Nat.mul_mod_mul_right, Nat.mod_mod_of_dvd _ (Nat.pow_dvd_pow 2 (by omega)), Nat.mul_eq_zero]
    exact or_iff_left (Nat.ne_of_gt (Nat.two_pow_pos _))
  have k2 : ¬ (((V % 2 ^ 12 * 2 ^ (8 - b)) % 2 ^ 8 : Nat) : Int) = 0 ↔ ¬ V % 2 ^ b = 0 := by rw [← k]; (first | grind | omega)
  exact not_congr (or_congr (by (first | grind | omega)) k2)
theorem five_prog (gs : List Int) (h : ∀ n ∈ gs, 0 ≤ n ∧ n < 32) : progI gs = if fiveOk gs then some (cv 5 8 gs).2.2 else none := by
  obtain ⟨ms, rfl, hm⟩ := cast_ex h
  have h2 : (cv 5 8 (castL ms)).2.2 = castL (digs 8 (VN 5 ms) (5 * ms.length)) := by rw [cv_nat 5 8 (by decide) ms hm]
  rw [prog_nat ms hm, h2]
  have := five_nat ms hm
  by_cases c : 4 < 5 * ms.length % 8 ∨ VN 5 ms % 2 ^ (5 * ms.length % 8) ≠ 0
  · rw [if_pos c, if_neg (fun q => this.mp q c)]
  · rw [if_neg c, if_pos (this.mpr c)]
theorem decP_may {ver : Int} {gs : List Int} (hv : 0 ≤ ver) (h : ∀ n ∈ gs, 0 ≤ n ∧ n < 32) : decP (ver :: gs) = (mayP ver gs).map fun ps => (ver, ps) := by
  have k := five_prog gs h
  unfold decP mayP
  rw [k]
  simp only [List.drop_succ_cons, List.drop_zero, List.headD_cons]
  by_cases c : fiveOk gs
  · rw [if_neg (fun q => q c), if_pos c]
    dsimp only
    generalize (cv 5 8 gs).2.2 = ps
    by_cases d : ver < 17 ∧ 1 < ps.length ∧ ps.length < 41 ∧ (0 < ver ∨ ps.length = 20 ∨ ps.length = 32)
    · rw [if_pos d, if_neg (by (first | grind | omega)), if_neg (by (first | grind | omega)), if_neg (by (first | grind | omega))]
      rfl
    · rw [if_neg d]
      split
      · rfl
      · split
        · rfl
        · split
          · rfl
          · exfalso; (first | grind | omega)
  · rw [if_pos c, if_neg c]
    rfl
theorem cast_exB : ∀ {ns : List Int}, (∀ n ∈ ns, 0 ≤ n ∧ n < 256) → ∃ ms : List Nat, ns = castL ms ∧ ∀ m ∈ ms, m < 2 ^ 8
  | [], _ => ⟨[], rfl, fun _ h => by cases h⟩
  | n :: r, h => by
    obtain ⟨ms, e, hm⟩ := cast_exB (ns := r) fun x hx => h x (.tail _ hx)
    obtain ⟨h1, h2⟩ := h n (.head _)
    refine ⟨n.toNat :: ms, ?_, fun m hx => ?_⟩
    · show _ = ((n.toNat : Nat) : Int) :: castL ms
      rw [← e, Int.toNat_of_nonneg h1]
    · rcases List.mem_cons.mp hx with rfl | hx
      · (first | grind | omega)
      · exact hm m hx
theorem castL_rep : ∀ p, castL (List.replicate p 0) = List.replicate p 0
  | 0 => rfl
  | p + 1 => by
    show ((0 : Nat) : Int) :: castL (List.replicate p 0) = _
    rw [castL_rep p]
    rfl
theorem pad_nat (ms : List Nat) (h : ∀ m ∈ ms, m < 2 ^ 8) : ∃ p, p = (5 - 8 * ms.length % 5) % 5 ∧ padI (castL ms) = castL (bitsV (VN 8 ms * 2 ^ p) (8 * ms.length + p)) := by
  refine ⟨_, rfl, ?_⟩
  unfold padI
  rw [bitsOf_nat, bitsN_V 8 ms h, castL_length, bitsV_length, ← bitsV_pad, castL_append, castL_rep]
  congr 2
  rw [Int.fmod_eq_emod_of_nonneg _ (by decide)]
  exact ar11 _
theorem groups_nat (ms : List Nat) (h : ∀ m ∈ ms, m < 2 ^ 8) : ∃ p, p = (5 - 8 * ms.length % 5) % 5 ∧ groupsI (castL ms) = castL (digs 5 (VN 8 ms * 2 ^ p) (8 * ms.length + p)) := by
  obtain ⟨p, hp, e⟩ := pad_nat ms h
  refine ⟨p, hp, ?_⟩
  unfold groupsI
  rw [e, castL_length, bitsV_length]
  unfold digs castL
  rw [List.map_map]
  refine List.map_congr_left fun i hi => ?_
  have hi2 := List.mem_range.mp hi
  exact grp_nat (by (first | grind | omega))
theorem cv85_groups {os : List Int} (h : ∀ n ∈ os, 0 ≤ n ∧ n < 256) : cv85 os = groupsI os := by
  obtain ⟨ms, rfl, hm⟩ := cast_exB h
  obtain ⟨p, hp, e⟩ := groups_nat ms hm
  rw [e]
  unfold cv85
  rw [cv_nat 8 5 (by decide) ms hm]
  dsimp only
  generalize VN 8 ms = V
  generalize 8 * ms.length = N at hp ⊢
  by_cases c : N % 5 = 0
  · have : p = 0 := by (first | grind | omega)
    subst this
    rw [if_pos c, List.append_nil, Nat.pow_zero, Nat.mul_one, Nat.add_zero]
  · have hp2 : p = 5 - N % 5 := by (first | grind | omega)
    rw [if_neg c]
    have e1 : digs 5 (V * 2 ^ p) (N + p) = digs 5 V N ++ [V * 2 ^ p % 2 ^ 5] := by
      unfold digs
      have e2 : (N + p) / 5 = N / 5 + 1 := by (first | grind | omega)
      rw [e2, List.range_succ, List.map_append, List.map_singleton]
      congr 1
      · refine List.map_congr_left fun i hi => ?_
        have hi2 := List.mem_range.mp hi
        have e3 : N + p - 5 * (i + 1) = p + (N - 5 * (i + 1)) := ar1 (by omega)
        have := div_up (V := V) (m := 0) (f := p) (k := N - 5 * (i + 1)) (Nat.two_pow_pos p)
        rw [Nat.add_zero] at this; rw [e3, this]
      · have e3 : N + p - 5 * (N / 5 + 1) = 0 := by (first | grind | omega)
        rw [e3, Nat.pow_zero, Nat.div_one]
    rw [e1, castL_append]
    congr 1
    have e : ((V % 2 ^ (8 + 5 - 1) : Nat) : Int) * 2 ^ (5 - N % 5) = ((V % 2 ^ 12 * 2 ^ (5 - N % 5) : Nat) : Int) := by rw [Int.natCast_mul, kbt_cast]
    have m := mask_nat (V % 2 ^ 12 * 2 ^ (5 - N % 5)) 5
    rw [show ((2 : Int) ^ 5 - 1) = 31 by decide] at m
    rw [e, m, ← hp2]
    have e5 : 2 ^ 5 = 2 ^ (5 - p) * 2 ^ p := by rw [← Nat.pow_add]; congr 1; omega
    show [_] = [_]
    rw [e5, Nat.mul_mod_mul_right, Nat.mul_mod_mul_right, Nat.mod_mod_of_dvd _ (Nat.pow_dvd_pow 2 (by omega))]
theorem groups_small {os : List Int} (h : ∀ n ∈ os, 0 ≤ n ∧ n < 256) : ∀ n ∈ groupsI os, 0 ≤ n ∧ n < 32 := by
  obtain ⟨ms, rfl, hm⟩ := cast_exB h
  obtain ⟨p, hp, e⟩ := groups_nat ms hm
  rw [e]
  intro n hn
  obtain ⟨m, hm2, rfl⟩ := List.mem_map.mp hn
  obtain ⟨i, _, rfl⟩ := List.mem_map.mp hm2
  have := Nat.mod_lt (VN 8 ms * 2 ^ p / 2 ^ (8 * ms.length + p - 5 * (i + 1))) (show 0 < 2 ^ 5 by decide)
  (first | grind | omega)
theorem prog_groups {os : List Int} (h : ∀ n ∈ os, 0 ≤ n ∧ n < 256) : progI (groupsI os) = some os := by
  obtain ⟨ms, rfl, hm⟩ := cast_exB h
  obtain ⟨p, hp, e⟩ := groups_nat ms hm
  rw [e]
  have hV := VN_lt 8 ms hm
  have hG : 8 * ms.length + p = 5 * ((8 * ms.length + p) / 5) := ar4 hp
  have hp5 : p < 5 := by rw [hp]; exact Nat.mod_lt _ (by decide)
  have hV' : VN 8 ms * 2 ^ p < 2 ^ (5 * ((8 * ms.length + p) / 5)) := by
    rw [← hG, Nat.pow_add]
    exact Nat.mul_lt_mul_of_pos_right hV (Nat.two_pow_pos p)
  have hd : ∀ m ∈ digs 5 (VN 8 ms * 2 ^ p) (8 * ms.length + p), m < 2 ^ 5 := by
    intro m hm2
    obtain ⟨i, _, rfl⟩ := List.mem_map.mp hm2
    exact Nat.mod_lt _ (by decide)
  have hl : (digs 5 (VN 8 ms * 2 ^ p) (8 * ms.length + p)).length = (8 * ms.length + p) / 5 := by
    unfold digs
    rw [List.length_map, List.length_range]
  have hVN : VN 5 (digs 5 (VN 8 ms * 2 ^ p) (8 * ms.length + p)) = VN 8 ms * 2 ^ p := by
    rw [hG]
    exact VN_digs (by decide) _ _ hV'
  rw [prog_nat _ hd, hl, hVN, ← hG]
  have hp8 : (8 * ms.length + p) % 8 = p := ar5 hp5
  rw [hp8, Nat.mul_mod_left, if_neg (fun q => q.elim (fun a => absurd hp5 (by omega)) (fun a => a rfl))]
  congr 2
  have k := digs_VN (f := 8) (by decide) ms hm
  conv => rhs; rw [← k]
  unfold digs
  have e1 : (8 * ms.length + p) / 8 = 8 * ms.length / 8 := ar6 hp5
  rw [e1]
  refine List.map_congr_left fun i hi => ?_
  have hi2 := List.mem_range.mp hi
  have e3 : 8 * ms.length + p - 8 * (i + 1) = p + (8 * ms.length - 8 * (i + 1)) := ar1 (ar10 hi2)
  have := div_up (V := VN 8 ms) (m := 0) (f := p) (k := 8 * ms.length - 8 * (i + 1)) (Nat.two_pow_pos p)
  rw [Nat.add_zero] at this; rw [e3, this]
end Mine
end
section
open PySem PySem.W PySem.Calls PyProof.Rows
namespace Mine
theorem slice_to {x : Str} {k : Nat} (h : k ≤ x.cps.size) : Txt.slice x none (some (k : Int)) = ⟨(x.cps.toList.take k).toArray⟩ := by
  have := beq_iff_eq.mp (slice_closes_toL (x := x) (j := (k : Int)) (by (first | lia | omega)) (by show (k : Int) ≤ ((x.cps.size : Nat) : Int); (first | lia | omega)))
  rw [this]
  have e : ((k : Int) - 0).toNat = k := by (first | lia | omega)
  rw [e]
  rfl
theorem slice_from {x : Str} {k : Nat} (h : k ≤ x.cps.size) : Txt.slice x (some (k : Int)) none = ⟨(x.cps.toList.drop k).toArray⟩ := by
  rw [slice_from_eq (b := (x.length : Int)) (by (first | lia | omega)) (by show (k : Int) ≤ ((x.cps.size : Nat) : Int); (first | lia | omega)) rfl]
  rw [List.take_of_length_le]
  · rfl
  · rw [List.length_drop, Array.length_toList]
    show _ ≤ (((x.cps.size : Nat) : Int) - k).toNat
    (first | lia | omega)
theorem rfind_one {l t : List Nat} {c : Nat} (h : c ∉ t) : Txt.rfind ⟨(l ++ c :: t).toArray⟩ ⟨#[c]⟩ = (l.length : Int) := by
  have hat : (l ++ c :: t)[l.length]? = some c := by
    rw [List.getElem?_append_right (Nat.le_refl _), Nat.sub_self]
    rfl
  have hat2 := (StrLaws.subAt_one ⟨(l ++ c :: t).toArray⟩ c l.length).mpr hat
  unfold Txt.rfind
  rcases StrLaws.last_spec ⟨(l ++ c :: t).toArray⟩ ⟨#[c]⟩ with ⟨_, hn⟩ | ⟨i, e, hi, hn⟩
  · exact absurd hat2 (hn _)
  · rw [e]
    have h1 : (l ++ c :: t)[i]? = some c := (StrLaws.subAt_one ⟨(l ++ c :: t).toArray⟩ c i).mp hi
    have h2 : ¬ i < l.length := fun q => hn _ q hat2
    have h3 : ¬ l.length < i := fun q => by
      rw [List.getElem?_append_right (by (first | lia | omega)), show i - l.length = (i - l.length - 1) + 1 by (first | lia | omega), List.getElem?_cons_succ] at h1
      exact h (List.mem_of_getElem? h1)
    show (i : Int) = _
    (first | lia | omega)
theorem one_eq : Str.ofString "1" = ⟨#[49]⟩ := by decide +kernel
theorem contains_one (x : Str) (c : Nat) : Txt.contains x ⟨#[c]⟩ = decide (c ∈ x.cps.toList) := StrLaws.found_one x c
theorem lower_list {x : Str} (hA : ∀ c ∈ x.cps.toList, c < 128) : Txt.lower x = ⟨(x.cps.toList.map lo1).toArray⟩ := by
  rw [lower_ascii hA]
  congr 1
  apply Array.toList_inj.mp
  rw [Array.toList_map]
theorem upper_list {x : Str} (hA : ∀ c ∈ x.cps.toList, c < 128) : Txt.upper x = ⟨(x.cps.toList.map up1).toArray⟩ := by
  rw [upper_ascii hA]
  congr 1
  apply Array.toList_inj.mp
  rw [Array.toList_map]
theorem str_eta (x : Str) : (⟨x.cps.toList.toArray⟩ : Str) = x := by cases x; simp
theorem badC_false {c : Nat} (h : badC c = false) : 33 ≤ c ∧ c ≤ 126 := by
  unfold badC at h
  rw [Bool.or_eq_false_iff, decide_eq_false_iff_not, decide_eq_false_iff_not] at h
  (first | lia | omega)
theorem badC_of {c : Nat} (h : 33 ≤ c ∧ c ≤ 126) : badC c = false := by
  unfold badC
  rw [Bool.or_eq_false_iff, decide_eq_false_iff_not, decide_eq_false_iff_not]
  (first | lia | omega)
theorem any_bad {tx : Str} (h : ¬ tx.cps.toList.any badC = true) : ∀ c ∈ tx.cps.toList, 33 ≤ c ∧ c ≤ 126 := fun c hc => by
  refine badC_false ?_
  rw [Bool.not_eq_true, List.any_eq_false] at h
  simpa using h c hc
theorem str_ne {x : Str} {l : List Nat} (h : l ≠ x.cps.toList) : ((⟨l.toArray⟩ : Str) != x) = true := by
  rw [bne_iff_ne]
  intro e
  apply h
  rw [← e]
theorem str_same {x : Str} {l : List Nat} (h : l = x.cps.toList) : ((⟨l.toArray⟩ : Str) != x) = false := by
  rw [h, str_eta, bne_self_eq_false]
/-- what a plain text of one case tells -/
theorem decB_form {tx : Str} {hp tl : List Nat} (hA : ∀ c ∈ tx.cps.toList, 33 ≤ c ∧ c ≤ 126) (hlo : tx.cps.toList.map lo1 = hp ++ 49 :: tl) (hmix : tx.cps.toList.map lo1 = tx.cps.toList ∨ tx.cps.toList.map up1 = tx.cps.toList) (h1 : 49 ∉ tl)
    (hp1 : 1 ≤ hp.length ∧ hp.length ≤ 83) (ht : 6 ≤ tl.length) (hcs : ∀ c ∈ tl, c ∈ csS.cps.toList) {ds : List Int} (hds : tl.map (fun c => Txt.find csS ⟨#[c]⟩) = ds) :
    decB tx = if polyI (hrpX ⟨hp.toArray⟩ ++ ds) = 1 then some (⟨hp.toArray⟩, ds.take (ds.length - 6)) else none := by
  have hA2 : ∀ c ∈ tx.cps.toList, c < 128 := fun c hc => by have := hA c hc; (first | lia | omega)
  have el := lower_list hA2
  rw [hlo] at el
  have er : Txt.rfind (Txt.lower tx) (Str.ofString "1") = (hp.length : Int) := by rw [el, one_eq]; exact rfind_one h1
  have hsz : (Txt.lower tx).cps.size = hp.length + tl.length + 1 := by
    rw [el, List.size_toArray, List.length_append, List.length_cons]
    (first | lia | omega)
  have eh : headB tx = ⟨hp.toArray⟩ := by
    unfold headB
    rw [er, slice_to (by (first | lia | omega)), el]
    simp
  have et : tailB tx = ⟨tl.toArray⟩ := by
    unfold tailB
    rw [er, show (hp.length : Int) + 1 = ((hp.length + 1 : Nat) : Int) by (first | lia | omega), slice_from (by (first | lia | omega)), el]
    simp
  have ed : dataB tx = ds := by
    unfold dataB
    rw [et, ← hds]
  unfold decB
  rw [if_neg, if_neg, if_neg, if_neg, eh, ed]
  · simp only [beq_iff_eq]
  · rw [et]
    intro q
    have : (tl.all fun c => Txt.contains csS ⟨#[c]⟩) = true := List.all_eq_true.mpr fun c hc => by rw [contains_one, decide_eq_true (hcs c hc)]
    have q2 : (tl.all fun c => Txt.contains csS ⟨#[c]⟩) = false := q
    rw [this] at q2
    cases q2
  · rw [er]
    show ¬ (_ ∨ _ ∨ (((Txt.lower tx).cps.size : Nat) : Int) < _)
    (first | lia | omega)
  · rintro ⟨q1, q2⟩
    rcases hmix with m | m
    · rw [lower_list hA2, str_same m] at q1
      cases q1
    · rw [upper_list hA2, str_same m] at q2
      cases q2
  · intro q
    obtain ⟨c, hc, hb⟩ := List.any_eq_true.mp q
    rw [badC_of (hA c hc)] at hb
    cases hb
theorem decB_bad {tx : Str} {c : Nat} (hc : c ∈ tx.cps.toList) (h : badC c = true) : decB tx = none := by
  unfold decB
  rw [if_pos (List.any_eq_true.mpr ⟨c, hc, h⟩)]
theorem map_ne {l : List Nat} {f : Nat → Nat} {a : Nat} (ha : a ∈ l) (h : f a ≠ a) : l.map f ≠ l := fun e => by
  obtain ⟨i, hi⟩ := List.mem_iff_getElem?.mp ha
  have : (l.map f)[i]? = some (f a) := by rw [List.getElem?_map, hi]; rfl
  rw [e, hi] at this
  exact h (Option.some.inj this).symm
theorem decB_mixed {tx : Str} {a b : Nat} (ha : a ∈ tx.cps.toList) (hb : b ∈ tx.cps.toList) (ha2 : 97 ≤ a ∧ a ≤ 122) (hb2 : 65 ≤ b ∧ b ≤ 90) : decB tx = none := by
  unfold decB
  split
  · rfl
  · rename_i q
    have hA2 : ∀ c ∈ tx.cps.toList, c < 128 := fun c hc => by have := any_bad q c hc; (first | lia | omega)
    rw [if_pos]
    rw [lower_list hA2, upper_list hA2]
    refine ⟨str_ne (map_ne hb ?_), str_ne (map_ne ha ?_)⟩
    · unfold lo1; rw [if_pos hb2]; (first | lia | omega)
    · unfold up1; rw [if_pos ha2]; (first | lia | omega)
theorem decB_small : ∀ tx h ds, decB tx = some (h, ds) → tx.cps.size ≤ 200 → ds.length ≤ 1000 ∧ ∀ n ∈ ds, 0 ≤ n ∧ n < 32 := by
  intro tx h ds e hs
  unfold decB at e
  split at e
  · cases e
  · rename_i q
    have hA2 : ∀ c ∈ tx.cps.toList, c < 128 := fun c hc => by have := any_bad q c hc; (first | lia | omega)
    split at e
    · cases e
    · split at e
      · cases e
      · split at e
        · cases e
        · rename_i hall
          split at e
          · cases e
            have hl : (dataB tx).length ≤ 200 := by
              unfold dataB
              rw [List.length_map, Array.length_toList]
              have h1 := PyProof.Txt.length_slice_le (Txt.lower tx) (some (Txt.rfind (Txt.lower tx) (Str.ofString "1") + 1)) none
              have h2 : (Txt.lower tx).cps.size = tx.cps.size := by rw [lower_list hA2]; simp
              have h3 : (tailB tx).cps.size ≤ (Txt.lower tx).cps.size := h1
              (first | lia | omega)
            refine ⟨?_, fun n hn => ?_⟩
            · rw [List.length_take]
              (first | lia | omega)
            · obtain ⟨c, hc, rfl⟩ := List.mem_map.mp (List.mem_of_mem_take hn)
              have hall2 : ((tailB tx).cps.toList.all fun c => Txt.contains csS ⟨#[c]⟩) = true := by simpa using hall
              have hin := List.all_eq_true.mp hall2 c hc
              rw [contains_one, decide_eq_true_eq] at hin
              rcases find_whole csS ⟨#[c]⟩ with ⟨_, hno⟩ | ⟨i, hi, hat, _⟩
              · obtain ⟨i, hi⟩ := List.mem_iff_getElem?.mp hin
                exact absurd ((StrLaws.subAt_one csS c i).mpr hi) (hno i)
              · have h1 := hat.1
                have h2 : csS.length = 32 := by decide +kernel
                have h3 : (⟨#[c]⟩ : Str).length = 1 := rfl
                rw [hi]
                (first | lia | omega)
          · cases e
theorem cs_facts : ∀ n : Nat, n < 32 → csS.cps.getD n 0 ≠ 49 ∧ 33 ≤ csS.cps.getD n 0 ∧ csS.cps.getD n 0 ≤ 126 ∧ (csS.cps.getD n 0 < 65 ∨ 90 < csS.cps.getD n 0) ∧ csS.cps.getD n 0 ∈ csS.cps.toList ∧ Txt.find csS ⟨#[csS.cps.getD n 0]⟩ = (n : Int) := by decide +kernel
theorem sg_facts {d : Int} (h : 0 ≤ d ∧ d < 32) : sg d ≠ 49 ∧ 33 ≤ sg d ∧ sg d ≤ 126 ∧ (sg d < 65 ∨ 90 < sg d) ∧ sg d ∈ csS.cps.toList ∧ Txt.find csS ⟨#[sg d]⟩ = d := by
  have := cs_facts d.toNat (by (first | lia | omega))
  rw [Int.toNat_of_nonneg h.1] at this
  exact this
structure NameOk (nm : Str) : Prop where
  low : ∀ c ∈ nm.cps.toList, 97 ≤ c ∧ c ≤ 122
  pos : 1 ≤ nm.cps.size
  few : nm.cps.size ≤ 4
theorem nmS_ok (i : Nat) : NameOk (nmS i) := by
  have k : ∀ nm : Str, (nm.cps.toList.all (fun c => decide (97 ≤ c ∧ c ≤ 122)) && decide (1 ≤ nm.cps.size ∧ nm.cps.size ≤ 4)) = true → NameOk nm := fun nm h => by
    rw [Bool.and_eq_true, decide_eq_true_eq] at h
    exact ⟨fun c hc => of_decide_eq_true (List.all_eq_true.mp h.1 c hc), h.2.1, h.2.2⟩
  unfold nmS
  split <;> exact k _ (by decide +kernel)
def rowS (nm : Str) (ds : List Int) : Str := nm ++ Str.ofString "1" ++ ⟨(ds.map sg).toArray⟩
theorem rowS_list (nm : Str) (ds : List Int) : (rowS nm ds).cps.toList = nm.cps.toList ++ 49 :: ds.map sg := by
  unfold rowS
  rw [one_eq]
  simp [Str.cps_append]
theorem rowS_size (nm : Str) (ds : List Int) : (rowS nm ds).cps.size = nm.cps.size + 1 + ds.length := by
  rw [← Array.length_toList, rowS_list]
  simp
  (first | lia | omega)
theorem encS_row (nm : Str) (ns : List Int) : encS nm ns = rowS nm (ns ++ chkI (hrpX nm ++ ns)) := rfl
theorem row_chars {nm : Str} (hn : NameOk nm) {ds : List Int} (hd : ∀ d ∈ ds, 0 ≤ d ∧ d < 32) : ∀ c ∈ (rowS nm ds).cps.toList, 33 ≤ c ∧ c ≤ 126 ∧ (c < 65 ∨ 90 < c) := by
  intro c hc
  rw [rowS_list] at hc
  rcases List.mem_append.mp hc with h | h
  · have := hn.low c h
    (first | lia | omega)
  · rcases List.mem_cons.mp h with rfl | h
    · (first | lia | omega)
    · obtain ⟨d, hd2, rfl⟩ := List.mem_map.mp h
      have := sg_facts (hd d hd2)
      exact ⟨this.2.1, this.2.2.1, this.2.2.2.1⟩
theorem map_same {l : List Nat} {f : Nat → Nat} (h : ∀ c ∈ l, f c = c) : l.map f = l := by
  have : l.map f = l.map _root_.id := List.map_congr_left h
  rw [this, List.map_id]
theorem find_map {ds : List Int} (hd : ∀ d ∈ ds, 0 ≤ d ∧ d < 32) : (ds.map sg).map (fun c => Txt.find csS ⟨#[c]⟩) = ds := by
  rw [List.map_map]
  have : ds.map ((fun c => Txt.find csS ⟨#[c]⟩) ∘ sg) = ds.map _root_.id := List.map_congr_left fun d hd2 => (sg_facts (hd d hd2)).2.2.2.2.2
  rw [this, List.map_id]
theorem up_lo (c : Nat) (h : c < 65 ∨ 90 < c) : lo1 (up1 c) = c := by
  unfold lo1 up1
  split <;> split <;> (first | lia | omega)
theorem up_up (c : Nat) : up1 (up1 c) = up1 c := by
  unfold up1
  repeat' split
  all_goals (first | lia | omega)
theorem decB_row_any {tx nm : Str} (hn : NameOk nm) {ds : List Int} (hd : ∀ d ∈ ds, 0 ≤ d ∧ d < 32) (h6 : 6 ≤ ds.length) (hA : ∀ c ∈ tx.cps.toList, 33 ≤ c ∧ c ≤ 126) (hlo : tx.cps.toList.map lo1 = (rowS nm ds).cps.toList) (hmix : tx.cps.toList.map lo1 = tx.cps.toList ∨ tx.cps.toList.map up1 = tx.cps.toList) :
    decB tx = if polyI (hrpX nm ++ ds) = 1 then some (nm, ds.take (ds.length - 6)) else none := by
  have := decB_form (hp := nm.cps.toList) (tl := ds.map sg) hA (hlo.trans (rowS_list nm ds)) hmix ?_ ?_ ?_ ?_ (find_map hd)
  · rw [str_eta] at this
    exact this
  · intro q
    obtain ⟨d, hd2, e⟩ := List.mem_map.mp q
    exact (sg_facts (hd d hd2)).1 e
  · have := hn.pos
    have := hn.few
    rw [Array.length_toList]
    (first | lia | omega)
  · rw [List.length_map]; exact h6
  · intro c hc
    obtain ⟨d, hd2, rfl⟩ := List.mem_map.mp hc
    exact (sg_facts (hd d hd2)).2.2.2.2.1
theorem decB_row {nm : Str} (hn : NameOk nm) {ds : List Int} (hd : ∀ d ∈ ds, 0 ≤ d ∧ d < 32) (h6 : 6 ≤ ds.length) : decB (rowS nm ds) = if polyI (hrpX nm ++ ds) = 1 then some (nm, ds.take (ds.length - 6)) else none := by
  have hc := row_chars hn hd
  have e : (rowS nm ds).cps.toList.map lo1 = (rowS nm ds).cps.toList := map_same fun c h => by
    have := hc c h
    unfold lo1
    rw [if_neg (by (first | lia | omega))]
  exact decB_row_any hn hd h6 (fun c h => ⟨(hc c h).1, (hc c h).2.1⟩) e (.inl e)
theorem upper_row {nm : Str} (hn : NameOk nm) {ds : List Int} (hd : ∀ d ∈ ds, 0 ≤ d ∧ d < 32) : (Txt.upper (rowS nm ds)).cps.toList = (rowS nm ds).cps.toList.map up1 := by
  rw [upper_list fun c h => by have := row_chars hn hd c h; (first | lia | omega)]
theorem decB_row_up {nm : Str} (hn : NameOk nm) {ds : List Int} (hd : ∀ d ∈ ds, 0 ≤ d ∧ d < 32) (h6 : 6 ≤ ds.length) : decB (Txt.upper (rowS nm ds)) = if polyI (hrpX nm ++ ds) = 1 then some (nm, ds.take (ds.length - 6)) else none := by
  have hc := row_chars hn hd
  have e := upper_row hn hd
  refine decB_row_any hn hd h6 ?_ ?_ (.inr ?_)
  · intro c h
    rw [e] at h
    obtain ⟨d, hd2, rfl⟩ := List.mem_map.mp h
    have := hc d hd2
    unfold up1
    split <;> (first | lia | omega)
  · rw [e, List.map_map]
    exact map_same fun c h => up_lo c (hc c h).2.2
  · rw [e, List.map_map]
    exact List.map_congr_left fun c _ => up_up c
theorem hrpX_small {nm : Str} (hn : NameOk nm) : ∀ n ∈ hrpX nm, 0 ≤ n ∧ n < 32 := by
  intro n h
  unfold hrpX at h
  rcases List.mem_append.mp h with h | h
  · rcases List.mem_append.mp h with h | h
    · obtain ⟨c, hc, rfl⟩ := List.mem_map.mp h
      have := hn.low c hc
      rw [Int.fdiv_eq_ediv_of_nonneg _ (by decide)]
      (first | lia | omega)
    · rw [List.mem_singleton.mp h]
      decide
  · obtain ⟨c, hc, rfl⟩ := List.mem_map.mp h
    exact bitAnd_31 _
section
variable {nm : Str} {ns : List Int}
theorem all_small (hs : ∀ d ∈ ns, 0 ≤ d ∧ d < 32) : ∀ d ∈ ns ++ chkI (hrpX nm ++ ns), 0 ≤ d ∧ d < 32 := fun d hd => by
  rcases List.mem_append.mp hd with h | h
  · exact hs d h
  · exact chkI_small _ d h
theorem all_long : 6 ≤ (ns ++ chkI (hrpX nm ++ ns)).length := by
  rw [List.length_append, chkI_length]
  (first | lia | omega)
theorem all_poly (hn : NameOk nm) (hs : ∀ d ∈ ns, 0 ≤ d ∧ d < 32) : polyI (hrpX nm ++ (ns ++ chkI (hrpX nm ++ ns))) = 1 := by
  rw [← List.append_assoc]
  exact chk_holds fun n h => by
    rcases List.mem_append.mp h with h | h
    · exact hrpX_small hn n h
    · exact hs n h
theorem all_take : (ns ++ chkI (hrpX nm ++ ns)).take ((ns ++ chkI (hrpX nm ++ ns)).length - 6) = ns := by
  rw [List.length_append, chkI_length, Nat.add_sub_cancel, List.take_left]
theorem decB_enc (hn : NameOk nm) (hs : ∀ d ∈ ns, 0 ≤ d ∧ d < 32) : decB (encS nm ns) = some (nm, ns) := by
  rw [encS_row, decB_row hn (all_small hs) all_long, if_pos (all_poly hn hs), all_take]
theorem decB_enc_up (hn : NameOk nm) (hs : ∀ d ∈ ns, 0 ≤ d ∧ d < 32) : decB (Txt.upper (encS nm ns)) = some (nm, ns) := by
  rw [encS_row, decB_row_up hn (all_small hs) all_long, if_pos (all_poly hn hs), all_take]
end
theorem decD_same {nm tx : Str} {ns : List Int} (h : decB tx = some (nm, ns)) : decD nm tx = decP ns := by
  unfold decD
  rw [h]
  dsimp only
  rw [if_neg (fun q => q rfl)]
theorem decD_other {nm other tx : Str} {ns : List Int} (h : decB tx = some (nm, ns)) (ho : other ≠ nm) : decD other tx = none := by
  unfold decD
  rw [h]
  dsimp only
  rw [if_pos (Ne.symm ho)]
theorem decD_none {nm tx : Str} (h : decB tx = none) : decD nm tx = none := by
  unfold decD
  rw [h]
/-- one sign of a row laid anew -/
theorem touch_list {x : Str} {c p : Nat} (h : p < x.cps.size) : (touchS x ⟨#[c]⟩ (p : Int)) = ⟨(x.cps.toList.take p ++ c :: x.cps.toList.drop (p + 1)).toArray⟩ := by
  unfold touchS
  rw [show (p : Int) + 1 = ((p + 1 : Nat) : Int) by (first | lia | omega), slice_to (by (first | lia | omega)), slice_from (by (first | lia | omega))]
  refine Str.ext' ?_
  apply Array.toList_inj.mp
  simp [Str.cps_append]
theorem touch_row {nm : Str} {ds : List Int} {q : Nat} {d : Int} (h : q < ds.length) : touchS (rowS nm ds) ⟨#[sg d]⟩ ((nm.cps.size + 1 + q : Nat) : Int) = rowS nm (ds.take q ++ d :: ds.drop (q + 1)) := by
  rw [touch_list (by rw [rowS_size]; (first | lia | omega))]
  refine Str.ext' ?_
  apply Array.toList_inj.mp
  rw [rowS_list, rowS_list]
  have e1 : nm.cps.size + 1 + q = nm.cps.toList.length + (q + 1) := by rw [Array.length_toList]; (first | lia | omega)
  have e2 : nm.cps.toList.length + (q + 1) + 1 = nm.cps.toList.length + (q + 1 + 1) := by (first | lia | omega)
  rw [e1, e2, List.take_length_add_append, List.drop_length_add_append, List.take_succ_cons, List.drop_succ_cons]
  simp [List.map_take, List.map_drop]
theorem sign_at {nm : Str} {ds : List Int} {q : Nat} (h : q < ds.length) : (rowS nm ds).cps.getD (nm.cps.size + 1 + q) 0 = sg (ds.getD q 0) := by
  rw [← getD_list, rowS_list]
  have e1 : nm.cps.size + 1 + q = nm.cps.toList.length + (q + 1) := by rw [Array.length_toList]; (first | lia | omega)
  rw [e1, List.getD_eq_getElem?_getD, List.getElem?_append_right (by (first | lia | omega)), Nat.add_sub_cancel_left, List.getElem?_cons_succ, List.getElem?_map, List.getD_eq_getElem?_getD, List.getElem?_eq_getElem h]
  rfl
theorem parts_at {ds : List Int} {q : Nat} (h : q < ds.length) : ds.take q ++ ds.getD q 0 :: ds.drop (q + 1) = ds := by
  rw [List.getD_eq_getElem?_getD, List.getElem?_eq_getElem h]
  show ds.take q ++ ds[q] :: ds.drop (q + 1) = ds
  rw [← List.drop_eq_getElem_cons h, List.take_append_drop]
theorem spoilt {nm other : Str} {ns : List Int} (hn : NameOk nm) (ho : other ≠ nm) (hs : ∀ d ∈ ns, 0 ≤ d ∧ d < 32) (hl : ns.length ≤ 100) : Spoilt nm other (encS nm ns) := by
  have hsm := all_small (nm := nm) hs
  have hlo : 6 ≤ (ns ++ chkI (hrpX nm ++ ns)).length := all_long
  have hpo := all_poly hn hs
  have place : ∀ p : Int, (nm.length : Int) + 1 ≤ p → p < ((encS nm ns).length : Int) → ∃ q : Nat, q < (ns ++ chkI (hrpX nm ++ ns)).length ∧ p = ((nm.cps.size + 1 + q : Nat) : Int) := fun p h1 h2 => by
    have h3 : p < (((rowS nm (ns ++ chkI (hrpX nm ++ ns))).cps.size : Nat) : Int) := h2
    have h4 : ((nm.cps.size : Nat) : Int) + 1 ≤ p := h1
    rw [rowS_size] at h3
    refine ⟨p.toNat - nm.cps.size - 1, ?_, ?_⟩ <;> (first | lia | omega)
  refine ⟨?_, ?_, ?_, ?_, ?_, ?_⟩
  · exact decD_other (decB_enc hn hs) ho
  · exact decD_other (decB_enc_up hn hs) ho
  · intro p k h1 h2 hk0 hk1
    obtain ⟨q, hq, rfl⟩ := place p h1 h2
    apply decD_none
    have hb := hsm _ (List.getElem_mem hq)
    rw [encS_row]
    generalize ns ++ chkI (hrpX nm ++ ns) = ds at *
    have hgd : ds.getD q 0 = ds[q] := by rw [List.getD_eq_getElem?_getD, List.getElem?_eq_getElem hq]; rfl
    have es : signA (rowS nm ds) ((nm.cps.size + 1 + q : Nat) : Int) k = ⟨#[sg (Int.fmod (ds.getD q 0 + 1 + k) 32)]⟩ := by
      unfold signA
      rw [Int.toNat_natCast, sign_at hq]
      have := (sg_facts (hgd ▸ hb : 0 ≤ ds.getD q 0 ∧ ds.getD q 0 < 32)).2.2.2.2.2
      rw [show cs = csS from rfl, this]
      rfl
    rw [es, touch_row hq]
    have hpa := parts_at hq
    rw [Int.fmod_eq_emod_of_nonneg _ (by decide)]
    rw [hgd] at hpa ⊢
    generalize ds[q] = a at *
    have hpo2 : polyI ((hrpX nm ++ ds.take q) ++ a :: ds.drop (q + 1)) = 1 := by
      rw [List.append_assoc, hpa]
      exact hpo
    have hpre : ∀ n ∈ hrpX nm ++ ds.take q, 0 ≤ n ∧ n < 32 := fun n h => by
      rcases List.mem_append.mp h with h | h
      · exact hrpX_small hn n h
      · exact hsm n (List.mem_of_mem_take h)
    have hpost : ∀ n ∈ ds.drop (q + 1), 0 ≤ n ∧ n < 32 := fun n h => hsm n (List.mem_of_mem_drop h)
    have hbb : 0 ≤ (a + 1 + k) % 32 ∧ (a + 1 + k) % 32 < 32 := by (first | lia | omega)
    have hne := chk_turned hpre hpost hb hbb (by (first | lia | omega)) hpo2
    rw [List.append_assoc] at hne
    rw [decB_row hn, if_neg hne]
    · intro d h
      rcases List.mem_append.mp h with h | h
      · exact hsm d (List.mem_of_mem_take h)
      · rcases List.mem_cons.mp h with rfl | h
        · exact hbb
        · exact hpost d h
    · rw [List.length_append, List.length_cons, List.length_take, List.length_drop]
      (first | lia | omega)
  · intro p h1 h2 hne
    obtain ⟨q, hq, rfl⟩ := place p h1 h2
    apply decD_none
    have hb := hsm _ (List.getElem_mem hq)
    rw [encS_row] at hne ⊢
    generalize ns ++ chkI (hrpX nm ++ ns) = ds at *
    have hgd : ds.getD q 0 = ds[q] := by rw [List.getD_eq_getElem?_getD, List.getElem?_eq_getElem hq]; rfl
    have hsgf := sg_facts hb
    have es : signB (rowS nm ds) ((nm.cps.size + 1 + q : Nat) : Int) = ⟨#[up1 (sg (ds.getD q 0))]⟩ := by
      unfold signB
      rw [Int.toNat_natCast, sign_at hq, upper_list]
      · rfl
      · intro c hc
        have : c = sg (ds.getD q 0) := by simpa using hc
        rw [this, hgd]
        (first | lia | omega)
    rw [es] at hne ⊢
    have hup : up1 (sg (ds.getD q 0)) ≠ sg (ds.getD q 0) := fun e => by
      apply hne
      rw [e, touch_row hq, parts_at hq]
    rw [touch_list (by rw [rowS_size]; (first | lia | omega))]
    rw [hgd] at hup ⊢
    have hr : 65 ≤ up1 (sg ds[q]) ∧ up1 (sg ds[q]) ≤ 90 := by
      unfold up1 at hup ⊢
      split at hup
      · rename_i h; rw [if_pos h]; (first | lia | omega)
      · exact absurd rfl hup
    have h0 : 0 < nm.cps.toList.length := by rw [Array.length_toList]; exact hn.pos
    refine decB_mixed (a := nm.cps.toList[0]) (b := up1 (sg ds[q])) ?_ ?_ (hn.low _ (List.getElem_mem h0)) hr
    · show _ ∈ (_ ++ _ :: _)
      refine List.mem_append.mpr (.inl ?_)
      rw [rowS_list]
      refine List.mem_iff_getElem?.mpr ⟨0, ?_⟩
      rw [List.getElem?_take_of_lt (by (first | lia | omega)), List.getElem?_append_left h0, List.getElem?_eq_getElem h0]
    · exact List.mem_append.mpr (.inr (.head _))
  · apply decD_none
    refine decB_bad (c := 32) ?_ (by decide)
    rw [Str.cps_append, Array.toList_append]
    refine List.mem_append.mpr (.inr ?_)
    decide +kernel
  · rw [encS_row, ← Array.length_toList, upper_row hn hsm, List.length_map, Array.length_toList, rowS_size, List.length_append, chkI_length]
    have := hn.few
    (first | lia | omega)
theorem nmS_ne {i j : Nat} (hi : i < 4) (hj : j < 4) (h : j ≠ i) : nmS j ≠ nmS i := by
  have k : ∀ i, i < 4 → ∀ j, j < 4 → j ≠ i → nmS j ≠ nmS i := by decide +kernel
  exact k i hi j hj h
theorem encS_cut (nm : Str) (ns : List Int) : Txt.slice (encS nm ns) none (some (-6)) = nm ++ Str.ofString "1" ++ ⟨(ns.map sg).toArray⟩ := by
  have hz := rowS_size nm (ns ++ chkI (hrpX nm ++ ns))
  rw [List.length_append, chkI_length] at hz
  have e := beq_iff_eq.mp (slice_closes_to_neg (x := encS nm ns) (j := -6) (k := (nm.cps.size + 1 + ns.length : Nat)) (by decide) (by rw [encS_row]; show -(((rowS nm (ns ++ chkI (hrpX nm ++ ns))).cps.size : Nat) : Int) ≤ _; (first | lia | omega)) (by rw [encS_row]; show _ = _ + (((rowS nm (ns ++ chkI (hrpX nm ++ ns))).cps.size : Nat) : Int); (first | lia | omega)))
  rw [e]
  refine Str.ext' ?_
  apply Array.toList_inj.mp
  have e2 : (nm ++ Str.ofString "1" ++ ⟨(ns.map sg).toArray⟩ : Str).cps.toList = nm.cps.toList ++ 49 :: ns.map sg := rowS_list nm ns
  rw [e2, encS_row]
  show List.take _ (List.drop 0 _) = _
  rw [List.drop_zero, rowS_list]
  have e3 : (((nm.cps.size + 1 + ns.length : Nat) : Int) - 0).toNat = nm.cps.toList.length + (ns.length + 1) := by
    have h0 : nm.cps.toList.length = nm.cps.size := Array.length_toList
    rw [h0]
    (first | lia | omega)
  rw [e3, List.take_length_add_append, List.take_succ_cons, List.map_append]
  rw [← List.length_map (f := sg) (as := ns), List.take_left]
end Mine
end
section
open PySem PySem.W PySem.Calls PyProof.Rows
set_option maxHeartbeats 2000000
namespace Mine
section
inductive LawOpen (w : World) : Prop
  | mk (oc : Value) (od : Option Addr) (osl : Array (Option Value)) (name qual : Str) (params : Arguments) (body : List Stmt) (scope : Scope) (dV kV doc pm : Value) (an : Option Addr) (cdv ct : Value)
    (ho : (hd.heap_39 w.params).lookup 92 = some ⟨oc, od, .func (fnOf name qual params body scope dV kV doc pm an cdv ct), osl⟩)
    (h : ∀ {s : Shared} {Q E : Value → Shared → Prop} {l : Addr}, Cx w (1 + claimMargin) 4 (some []) [] s.heap 10 →
      (∀ (L' : Addr) (h₁ : Heap) (tk₁ : Nat) (oP : Obj) (E' : Value → Shared → Prop), Fr s.heap L' h₁ (kstB (fun _ => none) [(Str.ofString "script", .ref l)]) → oP.data = Data.cell none → News s.heap L' h₁ [(L' + 1, oP)] →
        wpAny (model PySem.Challenge.rw_jy0014_01.row.prog w) ((mA (1 + claimMargin) 4 (some []) []).deeper (envOfC qual scope L' 92 cdv)) (execs (body.drop 0) (envOfC qual scope L' 92 cdv)) (fun fl s' => Q (match fl with | .ret v => v | _ => .none) s') E' { s with heap := h₁, toks := tk₁ }) →
      wpAny (model PySem.Challenge.rw_jy0014_01.row.prog w) (mA (1 + claimMargin) 4 (some []) []) (call (.ref 92) [.ref l]) Q E s) : LawOpen w
theorem open_of {w : World} {oc : Value} {od : Option Addr} {osl : Array (Option Value)} {name qual : Str} {params : Arguments} {body : List Stmt} {scope : Scope} {dV kV doc pm : Value} {an : Option Addr} {cdv ct : Value}
    (ho : (hd.heap_39 w.params).lookup 92 = some ⟨oc, od, .func (fnOf name qual params body scope dV kV doc pm an cdv ct), osl⟩)
    (h : ∀ {s : Shared} {Q E : Value → Shared → Prop} {l : Addr}, Cx w (1 + claimMargin) 4 (some []) [] s.heap 10 →
      (∀ (L' : Addr) (h₁ : Heap) (tk₁ : Nat) (oP : Obj) (E' : Value → Shared → Prop), Fr s.heap L' h₁ (kstB (fun _ => none) [(Str.ofString "script", .ref l)]) → oP.data = Data.cell none → News s.heap L' h₁ [(L' + 1, oP)] →
        wpAny (model PySem.Challenge.rw_jy0014_01.row.prog w) ((mA (1 + claimMargin) 4 (some []) []).deeper (envOfC qual scope L' 92 cdv)) (execs (body.drop 0) (envOfC qual scope L' 92 cdv)) (fun fl s' => Q (match fl with | .ret v => v | _ => .none) s') E' { s with heap := h₁, toks := tk₁ }) →
      wpAny (model PySem.Challenge.rw_jy0014_01.row.prog w) (mA (1 + claimMargin) 4 (some []) []) (call (.ref 92) [.ref l]) Q E s) : LawOpen w := ⟨oc, od, osl, name, qual, params, body, scope, dV, kV, doc, pm, an, cdv, ct, ho, h⟩
theorem law_open (w : World) : LawOpen w := by
  refine' open_of ?ho ?_
  case ho => k_is
  intro s Q E l C h
  refine' enterC [(Str.ofString "script", .ref l)] C ?ho ?hcd ?bind ?kind ?nd ?c2 ?c3 ?c4 ?_
  (((case ho => k_is); (case hcd => k_is); (case bind => exact BindsTo.of_eq rfl); (case kind => exact rfl); (case nd => decide +kernel); (case c2 => exact rfl); (case c3 => exact rfl); (case c4 => exact rfl)))
  intro L' h₁ tk₁ cells base loose mean mg mb B X T F' N' Y
  k_cells Y
  rename _ = Data.cell _ => dY
  replace F' : Fr s.heap L' h₁ (kstB (fun _ => none) [(Str.ofString "script", .ref l)]) := F'
  replace dY : _ = Data.cell none := dY
  simp only [List.append_nil] at N'
  exact h L' h₁ tk₁ _ _ F' dY N'
end
theorem law_tells {w : World} {s : Shared} {Q E : Value → Shared → Prop} {l : Addr} {vs : List Value} {ns : List Int}
    (C : Cx w (1 + claimMargin) 4 (some []) [] s.heap 10) (G0 : AllBare s.gens) (hl : s.heap.IsList l vs.toArray) (hi : IntsAre vs ns) (hlen : ns.length ≤ 63)
    (ret : ∀ s', Grew s.heap s'.heap → AllBare s'.gens → s'.os = s.os → Q (.bool true) s') :
    wpAny (model PySem.Challenge.rw_jy0014_01.row.prog w) (mA (1 + claimMargin) 4 (some []) []) (call (.ref 92) [.ref l]) Q E s := by
  obtain ⟨P, pz, Z0⟩ := id C.tab
  obtain ⟨oc, od, osl, name, qual, params, body, scope, dV, kV, doc, pm, an, cdv, ct, ho, enter⟩ := law_open w
  refine enter C fun L' h₁ tk₁ oP E' F dY N => ?_
  refine law_A ho C hl hi hlen F dY N ?_
  clear F N
  intro h2 tk2 a3 a4 ys os size ver t0 t1 t2 b0 b1 b2 x5 x6 F N io hol hsl hos8 hv0 hv1
  refine law_B ho C io hol hsl F N ?_
  clear F N
  intro h3 tk3 a1 a2 k1 k2 us ix jx deed rest x1 x2 x3 x4 F N iu hul hd0 hd1 hr0 hix hjx hij d12 d13 d14
  refine law_C (ns := []) ho C iu hul hol.symm hsl hd0 hd1 hr0 d12 d13 d14 F N ?_
  clear F N
  intro h4 tk4 r ws k gs F N ig hgs hgl hgX
  have hver : 0 ≤ ver ∧ ver < 32 := ⟨hv0, hv1⟩
  have cons_small : ∀ {g : List Int}, (∀ n ∈ g, 0 ≤ n ∧ n < 32) → ∀ n ∈ ver :: g, 0 ≤ n ∧ n < 32 := fun hg n hn => by
    rcases List.mem_cons.mp hn with rfl | hn
    · exact hver
    · exact hg n hn
  have hb2 := cons_small hgs
  have hn := nmS_ok ix
  have hdE : decD (nmS ix) (encS (nmS ix) (ver :: gs)) = (mayP ver gs).map fun ps => (ver, ps) := (decD_same (decB_enc hn hb2)).trans (decP_may hv0 hgs)
  have hdU : decD (nmS ix) (Txt.upper (encS (nmS ix) (ver :: gs))) = (mayP ver gs).map fun ps => (ver, ps) := (decD_same (decB_enc_up hn hb2)).trans (decP_may hv0 hgs)
  have K := spoilt (ns := ver :: gs) hn (nmS_ne hix hjx hij) hb2 (by rw [List.length_cons]; omega)
  have hTX : (encS (nmS ix) (ver :: gs)).cps.size = (nmS ix).cps.size + gs.length + 8 := by
    rw [encS_size, List.length_cons]
    omega
  have hgI := groups_small hos8
  have hcv := cv85_groups hos8
  have hdM : decD (nmS ix) (encS (nmS ix) (ver :: cv85 os)) = if ver < 17 ∧ 1 < size ∧ size < 41 ∧ (0 < ver ∨ size = 20 ∨ size = 32) then some (ver, os) else none := by
    rw [hcv, decD_same (decB_enc hn (cons_small hgI)), decP_may hv0 hgI]
    unfold mayP
    rw [prog_groups hos8, hol]
    dsimp only
    split <;> rfl
  have tail : ∀ (hG : Heap) (psg : Array Value) (s2 : Shared) (tt : Tok) (mv pv : Value), Based s.heap hG 47 P psg → Cx w (1 + claimMargin) 4 (some []) [] hG 10 →
      Fr hG L' s2.heap (kstB (fE mv pv r (fB l a1 a2 a3 a4 deed rest ver ix jx size x1 x2 x3 x4 x5 x6)) [(Str.ofString "text", .str (encS (nmS ix) (ver :: gs)) tt)]) →
      News hG L' s2.heap [(r, listOf ws.toArray k), (a2, listOf us.toArray k2), (a3, LCg.lst ys), (a4, listOf #[.int t0 b0, .int t1 b1, .int t2 b2] 0)] → AllBare s2.gens → s2.os = s.os →
      wpAny (model PySem.Challenge.rw_jy0014_01.row.prog w) ((mA (1 + claimMargin) 4 (some []) []).deeper (envOfC qual scope L' 92 cdv)) (execs (body.drop 14) (envOfC qual scope L' 92 cdv)) (fun fl s' => Q (match fl with | .ret v => v | _ => .none) s') E' s2 := by
    intro hG psg s2 tt mv pv Zg Cg Fg Ng Gg og
    refine law_G ho Cg Zg Gg ig hgl hTX hr0 decB_small K Fg Ng ?_
    intro hG2 psg2 s3 wv oA oB oC way xw Z3 C3 F3 N3 G3 o3
    refine law_F ho C3 Z0 Z3 G3 io hol hsl hos8 hr0 hver decB_small F3 N3 ?_ ?_
    · intro s' a b c
      exact ret s' a b (c.trans (o3.trans og))
    · intro h' tk' F4 N4
      refine law_H ho C3 Z0 Z3 G3 io iu hol hsl hos8 hver hgI decB_small ?_ ?_ ?_ ?_ F4 N4 ?_
      · intro c
        exact ⟨_, hdM.trans (if_pos c)⟩
      · intro c
        exact hdM.trans (if_neg c)
      · intro c
        rw [hcv, hgX c]
      · rw [hcv]
        exact encS_cut _ _
      · intro s' a b c
        exact ret s' a b (c.trans (o3.trans og))
  refine law_D ho C ig hgl F N ?_ ?_
  · intro h5 tk5 pv F5 N5 hm
    refine law_E0 ho C Z0 G0 ig hgl hver hgs decB_small K.us (by rw [hdE, hm]; rfl) (by rw [hdU, hm]; rfl) F5 N5 ?_
    intro hG psg s2 tt Zg Cg Fg Ng Gg og
    exact tail hG psg s2 tt _ _ Zg Cg Fg Ng Gg og
  · intro h5 tk5 rp pvs pk ps F5 N5 ip hm
    refine law_E1 ho C Z0 G0 ig ip hgl hver hgs decB_small K.us (by rw [hdE, hm]; rfl) (by rw [hdU, hm]; rfl) F5 N5 ?_
    intro hG psg s2 tt Zg Cg Fg Ng Gg og
    exact tail hG psg s2 tt _ _ Zg Cg Fg Ng Gg og
end Mine
end
section
open PySem PySem.W PySem.Calls PyProof.Rows
set_option maxHeartbeats 2000000
namespace Mine
theorem key_of {w : World} {h : Heap} {a c : Addr} {oc : Value} {od : Option Addr} {osl : Array (Option Value)} {name qual : Str} {params : Arguments} {body : List Stmt} {scope : Scope} {dV kV doc pm : Value} {an : Option Addr} {cdv ct : Value}
    (KX : (hd.heap_39 w.params).In h) (hk : (hd.heap_39 w.params).lookup a = some ⟨oc, od, .func (fnOf name qual params body scope dV kV doc pm an cdv ct), osl⟩) (hc : cdv = .ref c) : ∃ o fd, h.get? a = some o ∧ o.data = .func fd ∧ fd.code = .ref c :=
  ⟨_, _, KX _ _ hk, rfl, hc⟩
theorem cx_top {w : World} {loose : List Str} {mean : ExcName → Option Value} {mg mb : Str → Option Value} {h : Heap} (T : Top hd.view_39 loose mean mg mb h) (KX : (hd.heap_39 w.params).In h) : Cx w (1 + claimMargin) 4 (some []) [] h 10 := by
  have tab : ∃ P ps, Based h h 47 P ps := by
    have hm : mg (Str.ofString "bech32_decode") = some (.ref 48) := mg_of KX T.g (by k_is)
    have key : ∃ o fd, h.get? 48 = some o ∧ o.data = .func fd ∧ fd.code = .ref 47 := by
      refine' key_of KX ?hk ?hc
      case hk => k_is
      case hc => exact rfl
    obtain ⟨o, fd, h1, h2, h3⟩ := key
    obtain ⟨c, P, he, hB⟩ := based_of_top T rfl hm h1 h2
    rw [h3] at he
    cases he
    exact ⟨P, _, hB⟩
  exact ⟨⟨h, below_caller h⟩, KX, ⟨_, _, _, topRead_of T, bmod_of_top T⟩, tab, by decide, by decide⟩
theorem Grew.oldK {h h' : Heap} (g : Grew h h') : OldK h h' := by
  obtain ⟨P, ps, more, _, h2, h3, _, h5, h6⟩ := g
  exact (OldK.refl h).step_table h2 h2 h5 h6 h3
theorem law_92 {w : World} {h : Heap} {mg : Str → Option Value} {fa : Addr} (KX : (hd.heap_39 w.params).In h) (G : h.Ns mainGlobals mg) (hm : mg (Str.ofString "law") = some (.ref fa)) : fa = 92 := by
  have e : mg (Str.ofString "law") = some (.ref 92) := mg_of KX G (by k_is)
  rw [hm] at e
  cases e
  rfl
end Mine
theorem PySem.Challenge.cw_jy0014_01_holds : PySem.Challenge.rw_jy0014_01.Holds := by
  refine Mine.hd ?_
  k_fill
  intro w s₀ s₁ mg mb G Y fa o pm cd doc dV kV ho hdd hcd hD hmg hg args vals as hpre hlay hrd hwl hlo
  have KX := kIn_of Y
  refine Ground.open G ?_
  intro T B D TE TW
  have C := Mine.cx_top T KX
  have hfa := Mine.law_92 KX T.g hmg
  clear ho hdd hcd hD hmg B TE TW
  subst hfa
  wrow_args hpre hlay hrd hwl hlo
  rename Heap.IsList _ _ _ => hL
  rename IntsAre _ _ => hI
  refine Mine.law_tells (Q := fun v s' => GoodWG _ _ _ _ _ (.ok (.ret v)) s') C (.of_eq hg) hL hI (by omega) ?_
  intro s' g bare os
  exact ⟨.inl ⟨_, _, _, rfl, fun _ => rfl, ReadsW.bool true, by wrow_post, fun _ => ⟨List.nodup_nil, fun _ hx => by cases hx⟩⟩, g.oldK, os, bare⟩
end
