import PyProof.Rows.All
import Wide.All
import OpenK.AllK
import Wide.FinOn
import PySem.Challenge.RW_pm0063_01
set_option Elab.async false
set_option maxRecDepth 100000
set_option rowWalk.seconds 0

/-! ## Hd -/
section
open PySem PySem.W PyProof.Rows
set_option Elab.async false
namespace Mine
set_option maxRecDepth 100000
set_option maxHeartbeats 8000000
open_top hd for PySem.Challenge.rw_pm0063_01
end Mine
end

/-! ## Base -/
section
theorem Mine.offBase : True := by w_top off; trivial
open PySem PySem.W PySem.Calls PyProof.Rows PyProof.V
set_option Elab.async false
set_option maxRecDepth 100000
namespace Mine
noncomputable abbrev PR : Program := PySem.Challenge.rw_pm0063_01.row.prog
noncomputable abbrev LO : List Str := looseW Mine.hd.view_39 [Str.ofString "bisect_right", Str.ofString "insort_left", Str.ofString "bisect_left", Str.ofString "_name_disallowed_re", Str.ofString "_value_disallowed_re"]

/-- what stands of the top in a heap -/
structure Wd (w : World) (mean : ExcName → Option Value) (mg mb : Str → Option Value) (h : Heap) : Prop where
  K : (Mine.hd.heap_39 w.params).In h
  T : Top Mine.hd.view_39 LO mean mg mb h

/-- all that stood stands -/
noncomputable def Kept (h h' : Heap) : Prop := ∀ b o, h.get? b = some o → h'.get? b = some o
theorem Kept.refl (h : Heap) : Kept h h := fun _ _ e => e
theorem Kept.trans {h h' h'' : Heap} (a : Kept h h') (b : Kept h' h'') : Kept h h'' := fun x o e => b x o (a x o e)

section
variable {w : World} {mean : ExcName → Option Value} {mg mb : Str → Option Value} {A : Around} {E : Value → Shared → Prop} {s : Shared}
theorem Wd.keeps {h h' : Heap} (W : Wd w mean mg mb h) (k : Kept h h') : Wd w mean mg mb h' := ⟨W.K.keeps k, W.T.keeps k⟩

theorem enter_def {name qual : Str} {params : Arguments} {body : List Stmt} {scope : Scope} {dV kV doc pm cdv ct oc : Value} {an od : Option Addr} {osl : Array (Option Value)} {f : Addr} {pos : List Value} {kw : List (Str × Value)} {binds : List (Str × Value)} {Q : Value → Shared → Prop}
    (W : Wd w mean mg mb s.heap) (ho : (Mine.hd.heap_39 w.params).lookup f = some ⟨oc, od, .func (fnOf name qual params body scope dV kV doc pm an cdv ct), osl⟩) (hcd : codeIn (Mine.hd.heap_39 w.params) cdv qual = true) (hroom : A.depth < recursionLimit)
    (hbind : BindsTo s (fnOf name qual params body scope dV kV doc pm an cdv ct) ⟨pos, kw⟩ binds) (hloc : ∀ y ∈ binds, scope.names.lookup y.1 = some .local)
    (hcell : ∀ x ∈ scope.names, x.2 ≠ .cell) (hco : scope.isCoroutine = false) (hgen : scope.isGenerator = false) (hk : scope.kind = .function)
    (h : ∀ h₁ tk, Fr s.heap s.heap.objs.size h₁ (fun y => binds.reverse.lookup y) →
      wpAny (model PR w) (A.deeper (envOf qual scope s.heap.objs.size f cdv)) (execs body (envOf qual scope s.heap.objs.size f cdv))
        (fun fl s' => Q (match fl with | .ret v => v | _ => .none) s') (fun _ _ => False) { s with heap := h₁, toks := tk }) :
    wpAny (model PR w) A (call (.ref f) pos kw) Q E s := by
  refine wpAny_call (codeAny_call_def (fd := fnOf name qual params body scope dV kV doc pm an cdv ct) (body := body) (binds := binds) hroom (W.K _ _ ho) rfl W.T.nolimit (codeRec_of W.K hcd) rfl hbind hcell hloc (fun h₁ hns hk₁ => ?_) hco hgen hk)
  exact wpAny_mono (h h₁ _ ⟨hns, hk₁, Nat.le_refl _⟩) (fun _ _ x => x) (fun _ _ x => x.elim)
end

/-- a table of ints under texts -/
noncomputable def tb (D : List (Str × Int)) : List (PyData × PyData) := D.map fun p => (.str p.1, .int p.2)
end Mine
namespace Mine
section
variable {w : World} {h : Heap} {d : Addr} {D : List (Str × Int)}
theorem tab_obj (T : StrTab PR w h d (tb D)) : ∃ o, h.get? d = some o ∧ ∀ h' : Heap, h'.get? d = some o → StrTab PR w h' d (tb D) := by
  obtain ⟨lo, kvs, hd, hf⟩ := T
  obtain ⟨o, ho, hk⟩ := Heap.dictOf_iff.mp hd
  exact ⟨o, ho, fun h' e => TabAt.ofObj lo e hk hf⟩
theorem tb_get {i : Nat} {k : PyData} {dv : PyData} (e : (tb D)[i]? = some (k, dv)) : ∃ x c, D[i]? = some (x, c) ∧ k = .str x ∧ dv = .int c := by
  unfold tb at e
  rw [List.getElem?_map] at e
  cases hq : D[i]? with
  | none => rw [hq] at e; cases e
  | some p => rw [hq] at e; cases e; exact ⟨p.1, p.2, rfl, rfl, rfl⟩
theorem tb_length : (tb D).length = D.length := by simp [tb]
end
theorem sum_take_succ (l : List Int) (i : Nat) (c : Int) (h : l[i]? = some c) : (l.take (i + 1)).sum = (l.take i).sum + c := by
  rw [List.take_add_one, h]; simp
end Mine
namespace Mine
section
variable {w : World} {mean : ExcName → Option Value} {mg mb : Str → Option Value} {A : Around} {E : Value → Shared → Prop} {s : Shared}
/-- the same, where some objects are the call's to turn -/
theorem enter_defN {g : Heap} {news : List (Addr × Obj)} {name qual : Str} {params : Arguments} {body : List Stmt} {scope : Scope} {dV kV doc pm cdv ct oc : Value} {an od : Option Addr} {osl : Array (Option Value)} {f : Addr} {pos : List Value} {kw : List (Str × Value)} {binds : List (Str × Value)} {Q : Value → Shared → Prop}
    (W : Wd w mean mg mb g) (hg : Kept g s.heap) (hsz : g.objs.size ≤ s.heap.objs.size) (hnew : ∀ p ∈ news, s.heap.get? p.1 = some p.2 ∧ g.get? p.1 = none)
    (ho : (Mine.hd.heap_39 w.params).lookup f = some ⟨oc, od, .func (fnOf name qual params body scope dV kV doc pm an cdv ct), osl⟩) (hcd : codeIn (Mine.hd.heap_39 w.params) cdv qual = true) (hroom : A.depth < recursionLimit)
    (hbind : BindsTo s (fnOf name qual params body scope dV kV doc pm an cdv ct) ⟨pos, kw⟩ binds) (hloc : ∀ y ∈ binds, scope.names.lookup y.1 = some .local)
    (hcell : ∀ x ∈ scope.names, x.2 ≠ .cell) (hco : scope.isCoroutine = false) (hgen : scope.isGenerator = false) (hk : scope.kind = .function)
    (h : ∀ h₁ tk, Fr g s.heap.objs.size h₁ (fun y => binds.reverse.lookup y) → News g s.heap.objs.size h₁ news → Kept s.heap h₁ →
      wpAny (model PR w) (A.deeper (envOf qual scope s.heap.objs.size f cdv)) (execs body (envOf qual scope s.heap.objs.size f cdv))
        (fun fl s' => Q (match fl with | .ret v => v | _ => .none) s') (fun _ _ => False) { s with heap := h₁, toks := tk }) :
    wpAny (model PR w) A (call (.ref f) pos kw) Q E s := by
  have W' := W.keeps hg
  refine wpAny_call (codeAny_call_def (fd := fnOf name qual params body scope dV kV doc pm an cdv ct) (body := body) (binds := binds) hroom (W'.K _ _ ho) rfl W'.T.nolimit (codeRec_of W'.K hcd) rfl hbind hcell hloc (fun h₁ hns hk₁ => ?_) hco hgen hk)
  refine wpAny_mono (h h₁ _ ⟨hns, fun b o e => hk₁ b o (hg b o e), hsz⟩ (fun p hp => ⟨hk₁ _ _ (hnew p hp).1, Nat.ne_of_lt (Heap.lt_size (hnew p hp).1), (hnew p hp).2⟩) hk₁) (fun _ _ x => x) (fun _ _ x => x.elim)
theorem fr_ext {h₀ h h' : Heap} {L : Addr} {m : Str → Option Value} (F : Fr h₀ L h m) (k : Kept h h') : Fr h₀ L h' m := ⟨F.ns.keeps k, fun b o e => k b o (F.keep b o e), F.above⟩
theorem news_ext {h₀ h h' : Heap} {L : Addr} {news : List (Addr × Obj)} (N : News h₀ L h news) (k : Kept h h') : News h₀ L h' news := fun p hp => ⟨k _ _ (N p hp).1, (N p hp).2⟩
/-- a thing that a call has made enters the ledger -/
theorem news_in {h₀ h h' : Heap} {L r : Addr} {o : Obj} {m : Str → Option Value} {news : List (Addr × Obj)} (F : Fr h₀ L h m) (N : News h₀ L h news) (k : Kept h h') (hn : h.get? r = none) (hr : h'.get? r = some o) : News h₀ L h' ((r, o) :: news) := by
  intro p hp
  rcases List.mem_cons.mp hp with rfl | hp
  · refine ⟨hr, fun e => ?_, ?_⟩
    · obtain ⟨oL, _, _, hL, _⟩ := F.ns
      rw [← e] at hL
      rw [hn] at hL; cases hL
    · cases q : h₀.get? r with
      | none => rfl
      | some o' => rw [F.keep _ _ q] at hn; cases hn
  · exact news_ext N k p hp
theorem kept_hide {h₀ h : Heap} {L l : Addr} {o : Obj} {m : Str → Option Value} {news : List (Addr × Obj)} (F : Fr h₀ L h m) (N : News h₀ L h news) (hm : (l, o) ∈ news) : Kept h₀ (h.hide l) := fun b ob e => by
  have hb : b ≠ l := fun q => by rw [q, (N _ hm).2.2] at e; cases e
  rw [Heap.hide_ne h hb]; exact F.keep b ob e
end
end Mine
namespace Mine
section
variable {w : World} {mean : ExcName → Option Value} {mg mb : Str → Option Value} {A : Around} {E : Value → Shared → Prop} {s : Shared}
/-- the same, for a def whose locals are captured -/
theorem enter_defC {g : Heap} {news : List (Addr × Obj)} {name qual : Str} {params : Arguments} {body : List Stmt} {scope : Scope} {dV kV doc pm cdv ct oc : Value} {an od : Option Addr} {osl : Array (Option Value)} {f : Addr} {pos : List Value} {kw : List (Str × Value)} {binds : List (Str × Value)} {Q : Value → Shared → Prop}
    (W : Wd w mean mg mb g) (hg : Kept g s.heap) (hsz : g.objs.size ≤ s.heap.objs.size) (hnew : ∀ p ∈ news, s.heap.get? p.1 = some p.2 ∧ g.get? p.1 = none)
    (ho : (Mine.hd.heap_39 w.params).lookup f = some ⟨oc, od, .func (fnOf name qual params body scope dV kV doc pm an cdv ct), osl⟩) (hcd : codeIn (Mine.hd.heap_39 w.params) cdv qual = true) (hroom : A.depth < recursionLimit)
    (hbind : BindsTo s (fnOf name qual params body scope dV kV doc pm an cdv ct) ⟨pos, kw⟩ binds)
    (hkind : (binds.all fun y => scope.names.lookup y.1 == some .local || scope.names.lookup y.1 == some .cell) = true) (hnd : ((cellsFrom 0 scope.names []).map (·.1)).Nodup)
    (hco : scope.isCoroutine = false) (hgen : scope.isGenerator = false) (hk : scope.kind = .function)
    (h : ∀ h₁ tk cells, Fr g s.heap.objs.size h₁ (bindL (envOfC qual scope s.heap.objs.size f cdv).kindOf binds fun _ => none) → News g s.heap.objs.size h₁ (cells ++ news) →
      CellsAre (bindC (envOfC qual scope s.heap.objs.size f cdv).kindOf binds fun _ => none) (cellsFrom (s.heap.objs.size + 1) scope.names []) cells → Kept s.heap h₁ →
      wpAny (model PR w) (A.deeper (envOfC qual scope s.heap.objs.size f cdv)) (execs body (envOfC qual scope s.heap.objs.size f cdv))
        (fun fl s' => Q (match fl with | .ret v => v | _ => .none) s') (fun _ _ => False) { s with heap := h₁, toks := tk }) :
    wpAny (model PR w) A (call (.ref f) pos kw) Q E s := by
  have W' := W.keeps hg
  refine wpAny_call (codeAny_call_function hroom (W'.K _ _ ho) rfl hco hgen rfl (codeRec_of W'.K hcd) (hbind _ _ _ _ ?_))
  refine wpAny_newFunctionEnv_cells hk (kindsX hkind _) fun env' he s' x => ?_
  subst he
  refine ⟨W'.T.nolimit.keeps x.toInCall.keep, codeAny_func ?_⟩
  obtain ⟨h₁, tk, rfl, _⟩ := x.done
  have hk₁ := x.toInCall.keep
  obtain ⟨cells, NC, Y⟩ := Cl.news (h₀ := s.heap) (Nat.le_refl _) fun n c hm => ⟨x.cell n c (lookup_of_mem_nodup (cellsFrom_names scope.names 0 (s.heap.objs.size + 1) [] [] rfl ▸ hnd) hm), x.above n c hm⟩
  refine wpAny_mono (h h₁ tk cells ⟨x.toInCall.ns, fun b o e => hk₁ b o (hg b o e), hsz⟩ (fun p hp => ?_) Y hk₁) (fun _ _ x => x) (fun _ _ x => x.elim)
  rcases List.mem_append.mp hp with hp | hp
  · refine ⟨(NC p hp).1, (NC p hp).2.1, ?_⟩
    cases q : g.get? p.1 with
    | none => rfl
    | some o => have := hg _ _ q; rw [(NC p hp).2.2] at this; cases this
  · exact ⟨hk₁ _ _ (hnew p hp).1, Nat.ne_of_lt (Heap.lt_size (hnew p hp).1), (hnew p hp).2⟩
end
end Mine
end

/-! ## Tabs -/
section
theorem Mine.offTabs : True := by w_top off; trivial
open PySem PySem.W PySem.Calls PyProof.Rows PyProof.V PySem.Spec
set_option Elab.async false
set_option maxRecDepth 100000
namespace Mine
/-! tables of ints under texts, as plain lists -/
noncomputable def look (D : List (Str × Int)) (k : Str) : Option Int := match D with
  | [] => none
  | p :: r => if p.1 = k then some p.2 else look r k
noncomputable def put (D : List (Str × Int)) (k : Str) (c : Int) : List (Str × Int) :=
  if D.any (fun p => decide (p.1 = k)) then D.map (fun p => if p.1 = k then (p.1, c) else p) else D ++ [(k, c)]
theorem lookup_tb (D : List (Str × Int)) (k : Str) : lookup (.str k) (tb D) = (look D k).map PyData.int := by
  induction D with
  | nil => rfl
  | cons p r ih =>
    obtain ⟨a, c⟩ := p
    show (if Spec.same (.str a) (.str k) then some (PyData.int c) else lookup (.str k) (tb r)) = (if a = k then some c else look r k).map PyData.int
    rw [same_str a k, ih]
    by_cases h : a = k <;> simp [h]
theorem putD_tb (D : List (Str × Int)) (k : Str) (c : Int) : putD (.str k) (.int c) (tb D) = tb (put D k c) := by
  have e1 : (tb D).any (fun p => Spec.same p.1 (.str k)) = D.any (fun p => decide (p.1 = k)) := by
    unfold tb; rw [List.any_map]
    exact congrArg (D.any ·) (funext fun p => same_str p.1 k)
  unfold putD put
  rw [e1]
  by_cases h : (D.any fun p => decide (p.1 = k)) = true
  · rw [if_pos h, if_pos h]
    unfold tb
    rw [List.map_map, List.map_map]
    congr 1; funext p
    show (if Spec.same (.str p.1) (.str k) = true then (PyData.str p.1, PyData.int c) else (PyData.str p.1, PyData.int p.2)) = (PyData.str (if p.1 = k then (p.1, c) else p).1, PyData.int (if p.1 = k then (p.1, c) else p).2)
    rw [same_str p.1 k]
    by_cases q : p.1 = k <;> simp [q]
  · rw [if_neg h, if_neg h]
    simp [tb]
theorem put_length (D : List (Str × Int)) (k : Str) (c : Int) : (put D k c).length ≤ D.length + 1 := by
  unfold put; split <;> simp

/-- what a turn of add_callers does -/
noncomputable def addTo (D : List (Str × Int)) (p : Str × Int) : List (Str × Int) := put D p.1 (match look D p.1 with | some u => u + p.2 | none => p.2)
theorem addTo_some {D : List (Str × Int)} {k : Str} {c u : Int} (h : look D k = some u) : addTo D (k, c) = put D k (u + c) := by unfold addTo; rw [h]
theorem addTo_none {D : List (Str × Int)} {k : Str} {c : Int} (h : look D k = none) : addTo D (k, c) = put D k c := by unfold addTo; rw [h]
noncomputable def putTo (D : List (Str × Int)) (p : Str × Int) : List (Str × Int) := put D p.1 p.2
noncomputable def merge (D1 D2 : List (Str × Int)) : List (Str × Int) := D2.foldl addTo (D1.foldl putTo [])
theorem foldl_len {f : List (Str × Int) → Str × Int → List (Str × Int)} (hf : ∀ D p, (f D p).length ≤ D.length + 1) (l : List (Str × Int)) : ∀ D, (l.foldl f D).length ≤ D.length + l.length := by
  induction l with
  | nil => intro D; simp
  | cons p r ih => intro D; have := ih (f D p); have := hf D p; simp only [List.foldl_cons, List.length_cons]; omega

/-- the object is such a table -/
noncomputable def OD (w : World) (o : Obj) (D : List (Str × Int)) : Prop := ∃ kvs, o.IsDictOf (strKind PR w) kvs ∧ FlatPairs PyData.str kvs (tb D)
section
variable {w : World} {h : Heap} {d : Addr} {o : Obj} {D : List (Str × Int)}
theorem OD.tab (O : OD w o D) (e : h.get? d = some o) (lo : (d == sysModules) = false) : StrTab PR w h d (tb D) := let ⟨_, hk, hf⟩ := O; TabAt.ofObj lo e hk hf
theorem od_of (T : StrTab PR w h d (tb D)) : ∃ o, h.get? d = some o ∧ OD w o D := by
  obtain ⟨lo, kvs, hd, hf⟩ := T
  obtain ⟨o, ho, hk⟩ := Heap.dictOf_iff.mp hd
  exact ⟨o, ho, kvs, hk, hf⟩
theorem OD.nodup (O : OD w o D) : (D.map (·.1)).Nodup := by
  obtain ⟨kvs, ⟨es, ep, _, _, _, _, hn⟩, hf⟩ := O
  have e : kvs.map (·.1) = D.map (·.1) := by
    clear hn
    have : ∀ (kvs : List (Str × Value)) (X : List (PyData × PyData)), FlatPairs PyData.str kvs X → ∀ D, X = tb D → kvs.map (·.1) = D.map (·.1) := by
      intro kvs X p
      induction p with
      | nil => intro D e; cases D with | nil => rfl | cons _ _ => cases e
      | cons hv _ ih => intro D e; cases D with
        | nil => cases e
        | cons q r =>
          have e1 := List.cons.inj e
          have e2 := congrArg Prod.fst e1.1
          have e3 : _ = q.1 := PyData.str.inj e2
          simp only [List.map_cons, e3, ih r e1.2]
    exact this _ _ hf D rfl
  rw [← e]; exact hn
theorem OD.new : OD w { cls := .type "dict", data := .dict #[] } [] := by
  obtain ⟨o, ho, hd⟩ := Heap.dictOf_iff.mp (Heap.DictOf.new (knd := strKind PR w) default)
  rw [Heap.get?_push_size _ rfl] at ho
  exact ⟨[], Option.some.inj ho ▸ hd, .nil⟩
end

section
variable {w : World} {A : Around} {E : Value → Shared → Prop} {s : Shared} {h₀ : Heap} {L d : Addr} {m : Str → Option Value} {own rest : List (Addr × Obj)} {D : List (Str × Int)} {o : Obj}
theorem set_od {k : Str} {t tc : Tok} {c : Int} {Q : Unit → Shared → Prop} (F : Fr h₀ L s.heap m) (N : News h₀ L s.heap (own ++ (d, o) :: rest)) (h1 : ∀ p ∈ own, p.1 ≠ d) (h2 : ∀ p ∈ rest, p.1 ≠ d) (O : OD w o D)
    (hsz : D.length ≤ 1000) (h : ∀ h' o', Fr h₀ L h' m → News h₀ L h' (own ++ (d, o') :: rest) → OD w o' (put D k c) → Q () { s with heap := h', toks := s.toks + 1 }) :
    wpAny (model PR w) A (setItem (.ref d) (.str k t) (.int c tc)) Q E s := by
  obtain ⟨kvs, hk, hf⟩ := O
  refine setItem_madeIn same_str (strKind_is PR w k t) (Flat.int c tc) F N h1 h2 hk hf (fun h' o' F' N' hk' hf' => h h' o' F' N' ⟨_, hk', ?_⟩) (by rw [tb_length]; exact Nat.le_trans hsz (by decide))
  rw [← putD_tb]; exact hf'
end

section
variable {w : World} {A : Around} {E : Value → Shared → Prop} {s : Shared} {env : Env} {h₀ : Heap} {m₀ : Str → Option Value} {news : List (Addr × Obj)} {d vw : Addr} {D : List (Str × Int)} {xk xv : Str} {body : List Stmt} {Q : Flow → Shared → Prop}
theorem Iter_items (hh : A.handled = none) (hxk : env.kindOf xk = some .local) (hxv : env.kindOf xv = some .local)
    (hp : (env.scope.kind == .class || (env.scope.kind == .module && env.locals != env.globals)) = false)
    (hvw : ∃ ov, s.heap.get? vw = some ov ∧ ov.cls = .type "dict_items" ∧ ov.data = .fields #[.ref d]) (T : StrTab PR w s.heap d (tb D))
    (F : Fr h₀ env.locals s.heap m₀) (N : News h₀ env.locals s.heap news) (hd : (∃ o, h₀.get? d = some o) ∨ ∃ o, (d, o) ∈ news)
    (J : Nat → (Str → Option Value) → List (Addr × Obj) → Prop) (h0 : J 0 m₀ news)
    (turn : ∀ i k c tk t m₁ news₁ s₁ own, D[i]? = some (k, c) → J i m₁ news₁ → (∀ p ∈ news₁, p.1 ∉ [s.heap.objs.size]) → (∀ p ∈ own, p.1 ∈ [s.heap.objs.size, d]) →
      Fr h₀ env.locals s₁.heap (fun y => if y = xv then some (.int c t) else if y = xk then some (.str k tk) else m₁ y) → News h₀ env.locals s₁.heap (own ++ news₁) →
      wpAny (model PR w) A (execs body env) (LoopStepU h₀ env.locals [s.heap.objs.size] own (J (i + 1)) s₁) E s₁)
    (done : ∀ h' tk m' news', Fr h₀ env.locals h' m' → News h₀ env.locals h' news' → J D.length m' news' → Q .next { s with heap := h', toks := tk })
    (hE : PassesOwn (model PR w) A env E := by passes_own) :
    wpAny (model PR w) A (pyIter (.ref vw)) (fun it s₂ => PairLoopAt PR w A h₀ env xk xv body Q E it s₂) E s := by
  obtain ⟨lo, kvs, hdo, hf⟩ := id T
  obtain ⟨ep, hat⟩ := hdo.dictAt
  refine wpAny_pyIter_items (knd := strKind PR w) (d := d) (kvs := kvs) (ep := ep) hvw hat ?_
  intro pk pv pt x1
  have hne : d ≠ s.heap.objs.size := Nat.ne_of_lt hat.lt_size
  have hlen : D.length = kvs.length := by rw [← hf.length, tb_length]
  refine codeAny_forLoop_items_frU (knd := strKind PR w) (h₀ := h₀) (news := news) hh hxk hxv hp (Nat.ne_of_gt F.ns.lt) (fun e => tab_not_locals F N hd e) hne (next_is_new F)
    (fun p hp hI => absurd (Heap.lt_size (N p hp).1) ((List.mem_singleton.mp hI) ▸ Nat.lt_irrefl _)) (Heap.get?_push_size _ rfl) (hat.push _) (F.push _)
    (fun p hp => ⟨Heap.get?_push_of_some _ (N p hp).1, (N p hp).2⟩) J h0 ?_ ?_
  · intro i k v key m₁ news₁ s₁ own hx hkey hJ hoff hsub hat₁ F₁ N₁
    obtain ⟨dv, hDi, _, hfl⟩ := hf.lookup_at same_str hat.nodup hx
    obtain ⟨x, c, hxi, hk, rfl⟩ := tb_get hDi
    cases hk
    obtain ⟨t, rfl⟩ := Flat.int_inv hfl
    obtain ⟨tk, rfl⟩ := Value.isStrOf_shape hkey
    exact wpAny_passesOwn hE (turn i k c tk t m₁ news₁ s₁ own hxi hJ hoff hsub F₁ N₁)
  · intro h' tk m' news' F' N' _ hJ
    exact done h' tk m' news' F' N' (hlen ▸ hJ)
end
end Mine
end

/-! ## C1 -/
section
theorem Mine.offC1 : True := by w_top off; trivial
open PySem PySem.W PySem.Calls PyProof.Rows PyProof.V
set_option Elab.async false
set_option maxRecDepth 100000
namespace Mine
set_option maxHeartbeats 4000000
theorem reg1 : PySem.Challenge.rw_pm0063_01.prog = PySem.Challenge.rw_pm0063_01.prog ∧ Mine.hd.heap_39 = Mine.hd.heap_39 := by
  k_fill; exact ⟨rfl, rfl⟩

theorem count_spec {w : World} {mean : ExcName → Option Value} {mg mb : Str → Option Value} {A : Around} {E : Value → Shared → Prop} {s : Shared} {d : Addr} {D : List (Str × Int)} {Q : Value → Shared → Prop}
    (W : Wd w mean mg mb s.heap) (hA : A.handled = none) (hroom : A.depth < recursionLimit) (hD : StrTab PR w s.heap d (tb D))
    (hQ : ∀ h' tk t, Kept s.heap h' → Q (.int (D.map (·.2)).sum t) { s with heap := h', toks := tk }) :
    wpAny (model PR w) A (call (.ref 52) [.ref d]) Q E s := by
  obtain ⟨K, T⟩ := id W
  refine' enter_def (binds := [(Str.ofString "callers", .ref d)]) W ?ho ?hcd hroom ?hb ?hl ?hc ?hco ?hg ?hk ?_
  case ho => k_is
  case hcd => k_is
  case hb => exact BindsTo.of_eq rfl
  case hl => exact locs rfl
  case hc => decide
  case hco => rfl
  case hg => rfl
  case hk => rfl
  intro h₁ tk F
  have N : News s.heap s.heap.objs.size h₁ [] := News.nil
  try dsimp only
  iterate 5 walk1
  refine For_inv s.heap rfl rfl ?_
  walk1
  walk1
  refine getMethod_tab_any (knd := strKind _ _) (enc := PyData.str) rfl (hD.keep (Fr.keep (by assumption))) ?_
  walk1
  refine call_values_tab (hD.keep (Fr.keep (by assumption))) (by assumption) (by assumption) ?_
  intro h2 o hv F2 N2
  refine Iter_tabValues (D := tb D) hA hv (hD.keep F2.keep) F2 N2 (.inl (let ⟨o, ho, _⟩ := tab_obj hD; ⟨o, ho⟩)) (fun i m => ∃ t, m (Str.ofString "nc") = some (.int ((D.map (·.2)).take i).sum t)) ⟨_, rfl⟩ ?_ ?_
  · intro i k dv v m₁ s₁ own hi hfl hJ T₁ F₁ N₁
    obtain ⟨t, ht⟩ := hJ
    obtain ⟨x, c, hx, hk, rfl⟩ := tb_get hi
    obtain ⟨t', rfl⟩ := Flat.int_inv hfl
    walk1
    refine wpAny_AugAssign_Name ?_
    refine ldn F₁ (v := .int ((D.map (·.2)).take i).sum t) ((if_neg (by decide)).trans ht) ?_
    refine ld F₁ (v := .int c t') rfl ?_
    refine iadd_int ?_
    refine stN F₁ N₁ ?_
    intro h' F' N'
    refine wpAny_execs_nil ?_
    refine LoopStep.intro F' N' ⟨s₁.toks, (if_pos rfl).trans ?_⟩
    rw [sum_take_succ _ i c (by rw [List.getElem?_map, hx]; rfl)]
  intro h3 tk3 m3 F3 N3 ⟨t3, ht3⟩
  refine wpAny_execs_cons (wpAny_Return_some (ld F3 ht3 ?_))
  rw [tb_length, ← List.length_map (f := (·.2)), List.take_length]
  exact hQ _ _ _ F3.keep
end Mine
end

/-! ## C2 -/
section
theorem Mine.offC2 : True := by w_top off; trivial
open PySem PySem.W PySem.Calls PyProof.Rows PyProof.V
set_option Elab.async false
set_option maxRecDepth 100000
namespace Mine
set_option maxHeartbeats 4000000
theorem upd2 {m : Str → Option Value} {x a b : Str} {v : Value} {va vb : Option Value} (h : m x = some v) (ha : x ≠ a) (hb : x ≠ b) : (fun y => if y = a then va else if y = b then vb else m y) x = some v := by
  show (if x = a then va else if x = b then vb else m x) = some v
  rw [if_neg ha, if_neg hb]; exact h
theorem upd1 {m : Str → Option Value} {x a : Str} {v : Value} {va : Option Value} (h : m x = some v) (ha : x ≠ a) : (fun y => if y = a then va else m y) x = some v := by
  show (if x = a then va else m x) = some v
  rw [if_neg ha]; exact h

theorem own_off {h₀ h : Heap} {L it t nd : Addr} {own : List (Addr × Obj)} {o o1 : Obj} (hoff : ∀ p ∈ [(nd, o)], p.1 ∉ [it]) (hown : ∀ p ∈ own, p.1 ∈ [it, t]) (N : News h₀ L h (own ++ [(nd, o)])) (ho : h₀.get? t = some o1) : ∀ p ∈ own, p.1 ≠ nd := by
  intro p hp e
  rcases List.mem_cons.mp (hown p hp) with e1 | e1
  · exact hoff (nd, o) (by first | ((repeat (first | exact .head _ | refine .tail _ ?_)); done) | simp) (by simp [← e, e1])
  · have := (N p (by first | ((repeat (first | exact hp | refine .tail _ ?_)); done) | simp [hp])).2.2
    rw [List.mem_singleton.mp e1, ho] at this; cases this

theorem add_spec {w : World} {mean : ExcName → Option Value} {mg mb : Str → Option Value} {A : Around} {E : Value → Shared → Prop} {s : Shared} {t d : Addr} {D1 D2 : List (Str × Int)} {Q : Value → Shared → Prop}
    (W : Wd w mean mg mb s.heap) (hA : A.handled = none) (hroom : A.depth < recursionLimit) (hD1 : StrTab PR w s.heap t (tb D1)) (hD2 : StrTab PR w s.heap d (tb D2)) (hsz : D1.length + D2.length ≤ 900)
    (hQ : ∀ h' tk r, Kept s.heap h' → s.heap.get? r = none → StrTab PR w h' r (tb (merge D1 D2)) → Q (.ref r) { s with heap := h', toks := tk }) :
    wpAny (model PR w) A (call (.ref 45) [.ref t, .ref d]) Q E s := by
  obtain ⟨K, T⟩ := id W
  refine' enter_def (binds := [(Str.ofString "target", .ref t), (Str.ofString "source", .ref d)]) W ?ho ?hcd hroom ?hb ?hl ?hc ?hco ?hg ?hk ?_
  case ho => k_is
  case hcd => k_is
  case hb => exact BindsTo.of_eq rfl
  case hl => exact locs rfl
  case hc => decide
  case hco => rfl
  case hg => rfl
  case hk => rfl
  intro h₁ tk F
  have N : News s.heap s.heap.objs.size h₁ [] := News.nil
  obtain ⟨o1, ho1, _⟩ := tab_obj hD1
  obtain ⟨o2, ho2, _⟩ := tab_obj hD2
  walk1
  refine wpAny_Assign_Name ?_
  refine Dict_empty_made (strKind PR w) PyData.str F N (modules_low T.nolimit) ?_
  intro h2 o F2 N2 lo hk hf _
  have O : OD w o [] := ⟨_, hk, hf⟩
  refine stN F2 N2 ?_
  intro h3 F3 N3
  walk1
  refine For_pair_inv s.heap ?_
  walk1
  walk1
  refine getMethod_tab_any (knd := strKind _ _) (enc := PyData.str) rfl (hD1.keep F3.keep) ?_
  walk1
  refine call_items_tab (hD1.keep F3.keep) F3 N3 ?_
  intro h4 ov hv F4 N4
  have N4' : News s.heap s.heap.objs.size h4 [(h₁.objs.size, o)] := fun p hp => N4 p (.tail _ hp)
  refine Iter_items (D := D1) hA rfl rfl rfl hv (hD1.keep F4.keep) F4 N4' (.inl ⟨_, ho1⟩) (fun i m news => m (Str.ofString "new_callers") = some (.ref h₁.objs.size) ∧ m (Str.ofString "source") = some (.ref d) ∧ ∃ o, news = [(h₁.objs.size, o)] ∧ OD w o ((D1.take i).foldl putTo [])) ⟨rfl, rfl, o, rfl, O⟩ ?_ ?_
  · rintro i k c tk t m₁ news₁ s₁ own hi ⟨hm1, hm2, o', rfl, O'⟩ hoff hown F₁ N₁
    have hlen : ((D1.take i).foldl putTo []).length ≤ 0 + (D1.take i).length := foldl_len (fun D p => put_length D p.1 p.2) _ []
    have hlen2 : (D1.take i).length ≤ D1.length := by rw [List.length_take]; exact Nat.min_le_right _ _
    refine wpAny_execs_cons (wpAny_Assign_Subscript ?_)
    refine ld F₁ rfl ?_
    refine ld F₁ (upd2 hm1 (by decide) (by decide)) ?_
    refine ld F₁ (v := .str k tk) rfl ?_
    refine set_od F₁ N₁ (own_off hoff hown N₁ ho1) (by first | ((repeat (first | exact .head _ | refine .tail _ ?_)); done) | simp) O' (by omega) ?_
    intro h5 o5 F5 N5 O5
    refine wpAny_execs_nil ?_
    refine LoopStepU.intro F5 N5 (fun p hp => hoff (p.1, o') (by simp at hp ⊢; simp [hp])) ⟨upd2 hm1 (by decide) (by decide), upd2 hm2 (by decide) (by decide), o5, rfl, ?_⟩
    rw [List.take_add_one, hi, List.foldl_append]
    exact O5
  rintro h5 tk5 m5 news5 F5 N5 ⟨hm1, hm2, o5, rfl, O5⟩
  rw [List.take_length] at O5
  refine wpAny_execs_cons ?_
  refine For_pair_inv s.heap ?_
  walk1
  refine ld F5 hm2 ?_
  refine getMethod_tab_any (knd := strKind _ _) (enc := PyData.str) rfl (hD2.keep F5.keep) ?_
  walk1
  refine call_items_tab (hD2.keep F5.keep) F5 N5 ?_
  intro h6 ov6 hv6 F6 N6
  have N6' : News s.heap s.heap.objs.size h6 [(h₁.objs.size, o5)] := fun p hp => N6 p (.tail _ hp)
  refine Iter_items (D := D2) hA rfl rfl rfl hv6 (hD2.keep F6.keep) F6 N6' (.inl ⟨_, ho2⟩) (fun i m news => m (Str.ofString "new_callers") = some (.ref h₁.objs.size) ∧ ∃ o, news = [(h₁.objs.size, o)] ∧ OD w o ((D2.take i).foldl addTo (D1.foldl putTo []))) ⟨hm1, o5, rfl, O5⟩ ?_ ?_
  · rintro i k c tk t m₁ news₁ s₁ own hi ⟨hm1, o', rfl, O'⟩ hoff hown F₁ N₁
    have hlen : ((D2.take i).foldl addTo (D1.foldl putTo [])).length ≤ (D1.foldl putTo []).length + (D2.take i).length := foldl_len (fun D p => put_length D p.1 _) _ _
    have hlen1 : (D1.foldl putTo []).length ≤ 0 + D1.length := foldl_len (fun D p => put_length D p.1 p.2) _ []
    have hlen2 : (D2.take i).length ≤ D2.length := by rw [List.length_take]; exact Nat.min_le_right _ _
    have Tn : StrTab PR w s₁.heap h₁.objs.size (tb ((D2.take i).foldl addTo (D1.foldl putTo []))) := O'.tab (N₁.get (by first | ((repeat (first | exact .head _ | refine .tail _ ?_)); done) | simp)) lo
    have e2 : (D2.take (i + 1)).foldl addTo (D1.foldl putTo []) = addTo ((D2.take i).foldl addTo (D1.foldl putTo [])) (k, c) := by
      rw [List.take_add_one, hi, List.foldl_append]; rfl
    refine wpAny_execs_cons (wpAny_If (wpAny_isTrue_Compare1 ?_))
    refine ld F₁ (v := .str k tk) rfl ?_
    refine ld F₁ (upd2 hm1 (by decide) (by decide)) ?_
    refine in_strTab Tn ?_
    walk1
    rw [lookup_tb]
    cases hlk : look ((D2.take i).foldl addTo (D1.foldl putTo [])) k with
    | some u =>
      rw [if_pos (by rfl)]
      refine wpAny_execs_cons (wpAny_If ?_)
      iterate 11 walk1
      rw [if_neg (by decide)]
      refine wpAny_execs_cons (wpAny_AugAssign_Subscript ?_)
      refine ld F₁ (upd2 hm1 (by decide) (by decide)) ?_
      refine ld F₁ (v := .str k tk) rfl ?_
      refine getItem_tab same_str (strKind_is PR w k tk) Tn (dv := .int u) (by rw [lookup_tb, hlk]; rfl) ?_
      intro v hfl
      obtain ⟨tu, rfl⟩ := Flat.int_inv hfl
      refine ld F₁ (v := .int c t) rfl ?_
      refine iadd_int ?_
      refine set_od F₁ N₁ (own_off hoff hown N₁ ho2) (by first | ((repeat (first | exact .head _ | refine .tail _ ?_)); done) | simp) O' (by omega) ?_
      intro h7 o7 F7 N7 O7
      refine wpAny_execs_nil (wpAny_execs_nil (wpAny_execs_nil ?_))
      refine LoopStepU.intro F7 N7 (fun p hp => hoff (p.1, o') (by simp at hp ⊢; simp [hp])) ⟨upd2 hm1 (by decide) (by decide), o7, rfl, ?_⟩
      rw [e2, addTo_some hlk]; exact O7
    | none =>
      rw [if_neg (by first | ((repeat (first | exact .head _ | refine .tail _ ?_)); done) | simp)]
      refine wpAny_execs_cons (wpAny_Assign_Subscript ?_)
      refine ld F₁ (v := .int c t) rfl ?_
      refine ld F₁ (upd2 hm1 (by decide) (by decide)) ?_
      refine ld F₁ (v := .str k tk) rfl ?_
      refine set_od F₁ N₁ (own_off hoff hown N₁ ho2) (by first | ((repeat (first | exact .head _ | refine .tail _ ?_)); done) | simp) O' (by omega) ?_
      intro h7 o7 F7 N7 O7
      refine wpAny_execs_nil (wpAny_execs_nil ?_)
      refine LoopStepU.intro F7 N7 (fun p hp => hoff (p.1, o') (by simp at hp ⊢; simp [hp])) ⟨upd2 hm1 (by decide) (by decide), o7, rfl, ?_⟩
      rw [e2, addTo_none hlk]; exact O7
  rintro h7 tk7 m7 news7 F7 N7 ⟨hm7, o7, rfl, O7⟩
  rw [List.take_length] at O7
  refine wpAny_execs_cons (wpAny_Return_some (ld F7 hm7 ?_))
  exact hQ _ _ _ F7.keep (N7 _ (.head _)).2.2 (O7.tab (N7.get (.head _)) lo)
end Mine
end

/-! ## C3 -/
section
theorem Mine.offC3 : True := by w_top off; trivial
open PySem PySem.W PySem.Calls PyProof.Rows PyProof.V
set_option Elab.async false
set_option maxRecDepth 100000
namespace Mine
set_option maxHeartbeats 4000000

/-- where x goes, to the left, to the right -/
noncomputable def AtL (ns : List Int) (x : Int) (i : Nat) : Prop := i ≤ ns.length ∧ (∀ (j : Nat), j < i → ns.getD j 0 < x) ∧ (∀ (j : Nat), i ≤ j → j < ns.length → x ≤ ns.getD j 0)
noncomputable def AtR (ns : List Int) (x : Int) (i : Nat) : Prop := i ≤ ns.length ∧ (∀ (j : Nat), j < i → ns.getD j 0 ≤ x) ∧ (∀ (j : Nat), i ≤ j → j < ns.length → x < ns.getD j 0)
noncomputable def Sorted (ns : List Int) : Prop := ∀ (i j : Nat), i ≤ j → j < ns.length → ns.getD i 0 ≤ ns.getD j 0
theorem fdiv2 (a b : Nat) : Int.fdiv ((a : Int) + (b : Int)) 2 = (((a + b) / 2 : Nat) : Int) := by
  rw [Int.fdiv_eq_ediv_of_nonneg _ (by decide)]; omega
theorem upd3 {m : Str → Option Value} {x a b c : Str} {v : Value} {va vb vc : Option Value} (h : m x = some v) (ha : x ≠ a) (hb : x ≠ b) (hc : x ≠ c) : (fun y => if y = a then va else if y = b then vb else if y = c then vc else m y) x = some v := by
  show (if x = a then va else if x = b then vb else if x = c then vc else m x) = some v
  rw [if_neg ha, if_neg hb, if_neg hc]; exact h

theorem bisL_spec {w : World} {mean : ExcName → Option Value} {mg mb : Str → Option Value} {A : Around} {E : Value → Shared → Prop} {s : Shared} {l : Addr} {vs : List Value} {ns : List Int} {x : Int} {tx : Tok} {Q : Value → Shared → Prop}
    (W : Wd w mean mg mb s.heap) (hA : A.handled = none) (hroom : A.depth < recursionLimit) (hl : s.heap.IsList l vs.toArray) (hi : IntsAre vs ns) (hfit : ns.length < 100) (hs : Sorted ns)
    (hQ : ∀ h' tk t i, Kept s.heap h' → AtL ns x i → Q (.int (i : Nat) t) { s with heap := h', toks := tk }) :
    wpAny (model PR w) A (call (.ref 79) [.ref l, .int x tx]) Q E s := by
  obtain ⟨K, T⟩ := id W
  refine' enter_def (binds := [(Str.ofString "a", .ref l), (Str.ofString "x", .int x tx), (Str.ofString "lo", .int 0 340), (Str.ofString "hi", .none), (Str.ofString "key", .none)]) W ?ho ?hcd hroom ?hb ?hl ?hc ?hco ?hg ?hk ?_
  case ho => k_is
  case hcd => k_is
  case hb => exact kp_binds K fun _ => rfl
  case hl => exact locs rfl
  case hc => decide
  case hco => rfl
  case hg => rfl
  case hk => rfl
  intro h₁ tk F
  have N : News s.heap s.heap.objs.size h₁ [] := News.nil
  iterate 38 walk1
  rename Fr _ _ _ _ => F
  rename News _ _ _ _ => N
  refine wpAny_execs_cons ?_
  refine' While_inv (hE := PassesOwn.never) (fun n m news => ∃ (lo hi : Nat) (t1 t2 : Tok), lo ≤ hi ∧ hi ≤ ns.length ∧ n = hi - lo ∧ m (Str.ofString "lo") = some (.int lo t1) ∧ m (Str.ofString "hi") = some (.int hi t2) ∧ m (Str.ofString "a") = some (.ref l) ∧ m (Str.ofString "x") = some (.int x tx) ∧
    (∀ (j : Nat), j < lo → ns.getD j 0 < x) ∧ (∀ (j : Nat), hi ≤ j → j < ns.length → x ≤ ns.getD j 0) ∧ news = []) (n₀ := ns.length - 0) ?kF ?kN ?kJ ?_
  case kF => exact F
  case kN => exact N
  case kJ => exact ⟨0, ns.length, _, _, Nat.zero_le _, Nat.le_refl _, rfl, rfl, rfl, rfl, rfl, fun j h => absurd h (Nat.not_lt_zero _), fun j h1 h2 => absurd h2 (Nat.not_lt.mpr h1), rfl⟩
  rintro n m₁ news₁ h₂ tk₂ F₁ N₁ ⟨lo, hi', t1, t2, hlh, hhn, rfl, hlo, hhi, hma, hmx, hL, hH, rfl⟩
  refine wpAny_isTrue_Compare1 (ld F₁ hlo (ld F₁ hhi (lt_int (wpAny_truthy_bool ?_))))
  by_cases hlt : lo < hi'
  · rw [if_pos (by simpa using hlt)]
    refine wpAny_execs_cons (wpAny_Assign_Name (wpAny_BinOp (wpAny_BinOp (ld F₁ hlo (ld F₁ hhi (add_int ?_))))))
    walk1
    refine floordiv_int (by decide) ?_ (Or.inl (PyProof.noPylong_small (by omega)))
    rw [fdiv2]
    refine stN F₁ N₁ ?_
    intro h₃ F₃ N₃
    have hmid1 : lo ≤ (lo + hi') / 2 := by omega
    have hmid2 : (lo + hi') / 2 < hi' := by omega
    generalize (lo + hi') / 2 = mid at *
    have hl3 : h₃.IsList l vs.toArray := hl.at fun o e => F₃.keep l o e
    refine wpAny_execs_cons (wpAny_If (wpAny_isTrue_Compare1 ?_))
    walk1
    refine ld F₃ (upd1 hma (by decide)) ?_
    refine ld F₃ rfl ?_
    refine item_list_ints hl3 hi (by omega) (by omega) (by omega) ?_
    intro tv
    rw [Int.toNat_natCast]
    refine ld F₃ (upd1 hmx (by decide)) ?_
    refine lt_int (wpAny_truthy_bool ?_)
    by_cases hc : ns.getD mid 0 < x
    · rw [if_pos (by simpa using hc)]
      refine wpAny_execs_cons (wpAny_Assign_Name (wpAny_BinOp (ld F₃ rfl ?_)))
      walk1
      refine add_int ?_
      refine stN F₃ N₃ ?_
      intro h₄ F₄ N₄
      refine wpAny_execs_nil (wpAny_execs_nil ?_)
      refine WhileStep.intro F₄ N₄ (n' := hi' - (mid + 1)) (by omega) ⟨mid + 1, hi', _, t2, by omega, hhn, rfl, if_pos rfl, upd2 hhi (by decide) (by decide), upd2 hma (by decide) (by decide), upd2 hmx (by decide) (by decide), ?_, hH, rfl⟩
      intro j hj
      have := hs j mid (by omega) (by omega)
      omega
    · rw [if_neg (by simpa using hc)]
      refine wpAny_execs_cons (wpAny_Assign_Name (ld F₃ rfl ?_))
      refine stN F₃ N₃ ?_
      intro h₄ F₄ N₄
      refine wpAny_execs_nil (wpAny_execs_nil ?_)
      refine WhileStep.intro F₄ N₄ (n' := mid - lo) (by omega) ⟨lo, mid, t1, _, hmid1, by omega, rfl, upd2 hlo (by decide) (by decide), if_pos rfl, upd2 hma (by decide) (by decide), upd2 hmx (by decide) (by decide), hL, ?_, rfl⟩
      intro j hj1 hj2
      have := hs mid j hj1 hj2
      omega
  · rw [if_neg (by simpa using hlt)]
    have e : lo = hi' := by omega
    subst e
    refine wpAny_execs_nil (wpAny_execs_cons (wpAny_Return_some (ld F₁ hlo ?_)))
    exact hQ _ _ _ lo F₁.keep ⟨hhn, hL, hH⟩

theorem bisL4_spec {w : World} {mean : ExcName → Option Value} {mg mb : Str → Option Value} {A : Around} {E : Value → Shared → Prop} {s : Shared} {l : Addr} {vs : List Value} {ns : List Int} {x : Int} {tx tz : Tok} {Q : Value → Shared → Prop}
    (W : Wd w mean mg mb s.heap) (hA : A.handled = none) (hroom : A.depth < recursionLimit) (hl : s.heap.IsList l vs.toArray) (hi : IntsAre vs ns) (hfit : ns.length < 100) (hs : Sorted ns)
    (hQ : ∀ h' tk t i, Kept s.heap h' → AtL ns x i → Q (.int (i : Nat) t) { s with heap := h', toks := tk }) :
    wpAny (model PR w) A (call (.ref 79) [.ref l, .int x tx, .int 0 tz, .none]) Q E s := by
  obtain ⟨K, T⟩ := id W
  refine' enter_def (binds := [(Str.ofString "a", .ref l), (Str.ofString "x", .int x tx), (Str.ofString "lo", .int 0 tz), (Str.ofString "hi", .none), (Str.ofString "key", .none)]) W ?ho ?hcd hroom ?hb ?hl ?hc ?hco ?hg ?hk ?_
  case ho => k_is
  case hcd => k_is
  case hb => exact kp_binds K fun _ => rfl
  case hl => exact locs rfl
  case hc => decide
  case hco => rfl
  case hg => rfl
  case hk => rfl
  intro h₁ tk F
  have N : News s.heap s.heap.objs.size h₁ [] := News.nil
  iterate 38 walk1
  rename Fr _ _ _ _ => F
  rename News _ _ _ _ => N
  refine wpAny_execs_cons ?_
  refine' While_inv (hE := PassesOwn.never) (fun n m news => ∃ (lo hi : Nat) (t1 t2 : Tok), lo ≤ hi ∧ hi ≤ ns.length ∧ n = hi - lo ∧ m (Str.ofString "lo") = some (.int lo t1) ∧ m (Str.ofString "hi") = some (.int hi t2) ∧ m (Str.ofString "a") = some (.ref l) ∧ m (Str.ofString "x") = some (.int x tx) ∧
    (∀ (j : Nat), j < lo → ns.getD j 0 < x) ∧ (∀ (j : Nat), hi ≤ j → j < ns.length → x ≤ ns.getD j 0) ∧ news = []) (n₀ := ns.length - 0) ?kF ?kN ?kJ ?_
  case kF => exact F
  case kN => exact N
  case kJ => exact ⟨0, ns.length, _, _, Nat.zero_le _, Nat.le_refl _, rfl, rfl, rfl, rfl, rfl, fun j h => absurd h (Nat.not_lt_zero _), fun j h1 h2 => absurd h2 (Nat.not_lt.mpr h1), rfl⟩
  rintro n m₁ news₁ h₂ tk₂ F₁ N₁ ⟨lo, hi', t1, t2, hlh, hhn, rfl, hlo, hhi, hma, hmx, hL, hH, rfl⟩
  refine wpAny_isTrue_Compare1 (ld F₁ hlo (ld F₁ hhi (lt_int (wpAny_truthy_bool ?_))))
  by_cases hlt : lo < hi'
  · rw [if_pos (by simpa using hlt)]
    refine wpAny_execs_cons (wpAny_Assign_Name (wpAny_BinOp (wpAny_BinOp (ld F₁ hlo (ld F₁ hhi (add_int ?_))))))
    walk1
    refine floordiv_int (by decide) ?_ (Or.inl (PyProof.noPylong_small (by omega)))
    rw [fdiv2]
    refine stN F₁ N₁ ?_
    intro h₃ F₃ N₃
    have hmid1 : lo ≤ (lo + hi') / 2 := by omega
    have hmid2 : (lo + hi') / 2 < hi' := by omega
    generalize (lo + hi') / 2 = mid at *
    have hl3 : h₃.IsList l vs.toArray := hl.at fun o e => F₃.keep l o e
    refine wpAny_execs_cons (wpAny_If (wpAny_isTrue_Compare1 ?_))
    walk1
    refine ld F₃ (upd1 hma (by decide)) ?_
    refine ld F₃ rfl ?_
    refine item_list_ints hl3 hi (by omega) (by omega) (by omega) ?_
    intro tv
    rw [Int.toNat_natCast]
    refine ld F₃ (upd1 hmx (by decide)) ?_
    refine lt_int (wpAny_truthy_bool ?_)
    by_cases hc : ns.getD mid 0 < x
    · rw [if_pos (by simpa using hc)]
      refine wpAny_execs_cons (wpAny_Assign_Name (wpAny_BinOp (ld F₃ rfl ?_)))
      walk1
      refine add_int ?_
      refine stN F₃ N₃ ?_
      intro h₄ F₄ N₄
      refine wpAny_execs_nil (wpAny_execs_nil ?_)
      refine WhileStep.intro F₄ N₄ (n' := hi' - (mid + 1)) (by omega) ⟨mid + 1, hi', _, t2, by omega, hhn, rfl, if_pos rfl, upd2 hhi (by decide) (by decide), upd2 hma (by decide) (by decide), upd2 hmx (by decide) (by decide), ?_, hH, rfl⟩
      intro j hj
      have := hs j mid (by omega) (by omega)
      omega
    · rw [if_neg (by simpa using hc)]
      refine wpAny_execs_cons (wpAny_Assign_Name (ld F₃ rfl ?_))
      refine stN F₃ N₃ ?_
      intro h₄ F₄ N₄
      refine wpAny_execs_nil (wpAny_execs_nil ?_)
      refine WhileStep.intro F₄ N₄ (n' := mid - lo) (by omega) ⟨lo, mid, t1, _, hmid1, by omega, rfl, upd2 hlo (by decide) (by decide), if_pos rfl, upd2 hma (by decide) (by decide), upd2 hmx (by decide) (by decide), hL, ?_, rfl⟩
      intro j hj1 hj2
      have := hs mid j hj1 hj2
      omega
  · rw [if_neg (by simpa using hlt)]
    have e : lo = hi' := by omega
    subst e
    refine wpAny_execs_nil (wpAny_execs_cons (wpAny_Return_some (ld F₁ hlo ?_)))
    exact hQ _ _ _ lo F₁.keep ⟨hhn, hL, hH⟩

theorem bisR_spec {w : World} {mean : ExcName → Option Value} {mg mb : Str → Option Value} {A : Around} {E : Value → Shared → Prop} {s : Shared} {l : Addr} {vs : List Value} {ns : List Int} {x : Int} {tx : Tok} {Q : Value → Shared → Prop}
    (W : Wd w mean mg mb s.heap) (hA : A.handled = none) (hroom : A.depth < recursionLimit) (hl : s.heap.IsList l vs.toArray) (hi : IntsAre vs ns) (hfit : ns.length < 100) (hs : Sorted ns)
    (hQ : ∀ h' tk t i, Kept s.heap h' → AtR ns x i → Q (.int (i : Nat) t) { s with heap := h', toks := tk }) :
    wpAny (model PR w) A (call (.ref 61) [.ref l, .int x tx]) Q E s := by
  obtain ⟨K, T⟩ := id W
  refine' enter_def (binds := [(Str.ofString "a", .ref l), (Str.ofString "x", .int x tx), (Str.ofString "lo", .int 0 313), (Str.ofString "hi", .none), (Str.ofString "key", .none)]) W ?ho ?hcd hroom ?hb ?hl ?hc ?hco ?hg ?hk ?_
  case ho => k_is
  case hcd => k_is
  case hb => exact kp_binds K fun _ => rfl
  case hl => exact locs rfl
  case hc => decide
  case hco => rfl
  case hg => rfl
  case hk => rfl
  intro h₁ tk F
  have N : News s.heap s.heap.objs.size h₁ [] := News.nil
  iterate 38 walk1
  rename Fr _ _ _ _ => F
  rename News _ _ _ _ => N
  refine wpAny_execs_cons ?_
  refine' While_inv (hE := PassesOwn.never) (fun n m news => ∃ (lo hi : Nat) (t1 t2 : Tok), lo ≤ hi ∧ hi ≤ ns.length ∧ n = hi - lo ∧ m (Str.ofString "lo") = some (.int lo t1) ∧ m (Str.ofString "hi") = some (.int hi t2) ∧ m (Str.ofString "a") = some (.ref l) ∧ m (Str.ofString "x") = some (.int x tx) ∧
    (∀ (j : Nat), j < lo → ns.getD j 0 ≤ x) ∧ (∀ (j : Nat), hi ≤ j → j < ns.length → x < ns.getD j 0) ∧ news = []) (n₀ := ns.length - 0) ?kF ?kN ?kJ ?_
  case kF => exact F
  case kN => exact N
  case kJ => exact ⟨0, ns.length, _, _, Nat.zero_le _, Nat.le_refl _, rfl, rfl, rfl, rfl, rfl, fun j h => absurd h (Nat.not_lt_zero _), fun j h1 h2 => absurd h2 (Nat.not_lt.mpr h1), rfl⟩
  rintro n m₁ news₁ h₂ tk₂ F₁ N₁ ⟨lo, hi', t1, t2, hlh, hhn, rfl, hlo, hhi, hma, hmx, hL, hH, rfl⟩
  refine wpAny_isTrue_Compare1 (ld F₁ hlo (ld F₁ hhi (lt_int (wpAny_truthy_bool ?_))))
  by_cases hlt : lo < hi'
  · rw [if_pos (by simpa using hlt)]
    refine wpAny_execs_cons (wpAny_Assign_Name (wpAny_BinOp (wpAny_BinOp (ld F₁ hlo (ld F₁ hhi (add_int ?_))))))
    walk1
    refine floordiv_int (by decide) ?_ (Or.inl (PyProof.noPylong_small (by omega)))
    rw [fdiv2]
    refine stN F₁ N₁ ?_
    intro h₃ F₃ N₃
    have hmid1 : lo ≤ (lo + hi') / 2 := by omega
    have hmid2 : (lo + hi') / 2 < hi' := by omega
    generalize (lo + hi') / 2 = mid at *
    have hl3 : h₃.IsList l vs.toArray := hl.at fun o e => F₃.keep l o e
    refine wpAny_execs_cons (wpAny_If (wpAny_isTrue_Compare1 ?_))
    refine ld F₃ (upd1 hmx (by decide)) ?_
    walk1
    refine ld F₃ (upd1 hma (by decide)) ?_
    refine ld F₃ rfl ?_
    refine item_list_ints hl3 hi (by omega) (by omega) (by omega) ?_
    intro tv
    rw [Int.toNat_natCast]
    refine lt_int (wpAny_truthy_bool ?_)
    by_cases hc : x < ns.getD mid 0
    · rw [if_pos (by simpa using hc)]
      refine wpAny_execs_cons (wpAny_Assign_Name (ld F₃ rfl ?_))
      refine stN F₃ N₃ ?_
      intro h₄ F₄ N₄
      refine wpAny_execs_nil (wpAny_execs_nil ?_)
      refine WhileStep.intro F₄ N₄ (n' := mid - lo) (by omega) ⟨lo, mid, t1, _, hmid1, by omega, rfl, upd2 hlo (by decide) (by decide), if_pos rfl, upd2 hma (by decide) (by decide), upd2 hmx (by decide) (by decide), hL, ?_, rfl⟩
      intro j hj1 hj2
      have := hs mid j hj1 hj2
      omega
    · rw [if_neg (by simpa using hc)]
      refine wpAny_execs_cons (wpAny_Assign_Name (wpAny_BinOp (ld F₃ rfl ?_)))
      walk1
      refine add_int ?_
      refine stN F₃ N₃ ?_
      intro h₄ F₄ N₄
      refine wpAny_execs_nil (wpAny_execs_nil ?_)
      refine WhileStep.intro F₄ N₄ (n' := hi' - (mid + 1)) (by omega) ⟨mid + 1, hi', _, t2, by omega, hhn, rfl, if_pos rfl, upd2 hhi (by decide) (by decide), upd2 hma (by decide) (by decide), upd2 hmx (by decide) (by decide), ?_, hH, rfl⟩
      intro j hj
      have := hs j mid (by omega) (by omega)
      omega
  · rw [if_neg (by simpa using hlt)]
    have e : lo = hi' := by omega
    subst e
    refine wpAny_execs_nil (wpAny_execs_cons (wpAny_Return_some (ld F₁ hlo ?_)))
    exact hQ _ _ _ lo F₁.keep ⟨hhn, hL, hH⟩
end Mine
end

/-! ## C4 -/
section
theorem Mine.offC4 : True := by w_top off; trivial
open PySem PySem.W PySem.Calls PyProof.Rows PyProof.V
set_option Elab.async false
set_option maxRecDepth 100000
namespace Mine
set_option maxHeartbeats 4000000

theorem kl_ins_at (l : List Value) (i : Nat) (y : Value) (h : i ≤ l.length) : kl_ins l (i : Int) y = l.take i ++ y :: l.drop i := by
  unfold kl_ins
  rw [if_neg (by omega)]
  have : min (i : Int).toNat l.length = i := by rw [Int.toNat_natCast]; exact Nat.min_eq_left h
  rw [this]
theorem fits_nat (i : Nat) (h : i < 100) : Builtin.List.listFitsIndex (i : Int) = true := by
  unfold Builtin.List.listFitsIndex
  have h1 : (-(2 ^ 63) : Int) ≤ (i : Int) := by omega
  have h2 : (i : Int) < 2 ^ 63 := by omega
  simp only [h1, h2, decide_true, Bool.and_self]

theorem insort_spec {w : World} {mean : ExcName → Option Value} {mg mb : Str → Option Value} {A : Around} {E : Value → Shared → Prop} {s : Shared} {l : Addr} {n : Nat} {vs : List Value} {ns : List Int} {x : Int} {tx : Tok} {Q : Value → Shared → Prop}
    (W : Wd w mean mg mb (s.heap.hide l)) (hA : A.handled = none) (hroom : A.depth + 1 < recursionLimit) (hl : s.heap.get? l = some (PySem.W.listOf vs.toArray n)) (hi : IntsAre vs ns) (hfit : ns.length < 90) (hs : Sorted ns)
    (hQ : ∀ h' tk i, Kept (s.heap.hide l) h' → AtL ns x i → h'.get? l = some (PySem.W.listOf (vs.take i ++ .int x tx :: vs.drop i).toArray (n + 1)) → Q .none { s with heap := h', toks := tk }) :
    wpAny (model PR w) A (call (.ref 70) [.ref l, .int x tx]) Q E s := by
  obtain ⟨K, T⟩ := id W
  refine' enter_defN (g := s.heap.hide l) (news := [(l, PySem.W.listOf vs.toArray n)]) (binds := [(Str.ofString "a", .ref l), (Str.ofString "x", .int x tx), (Str.ofString "lo", .int 0 327), (Str.ofString "hi", .none), (Str.ofString "key", .none)]) W ?hk0 ?hs0 ?hn0 ?ho ?hcd ?hr ?hb ?hl ?hc ?hco ?hg ?hk ?_
  case hk0 => exact fun b o e => Heap.of_hide e
  case hs0 => rw [Heap.hide_size]; exact Nat.le_refl _
  case hn0 => exact fun p hp => by rw [List.mem_singleton.mp hp]; exact ⟨hl, Heap.hide_self _ _⟩
  case hr => omega
  case ho => k_is
  case hcd => k_is
  case hb => exact kp_binds (K.keeps fun b o e => Heap.of_hide e) fun _ => rfl
  case hl => exact locs rfl
  case hc => decide
  case hco => rfl
  case hg => rfl
  case hk => rfl
  intro h₁ tk F N hk
  iterate 22 walk1
  refine ⟨K.keeps F.keep, ?_⟩
  refine bisL4_spec (vs := vs) (W.keeps F.keep) hA hroom ⟨_, N.get (.head _), rfl, n, rfl⟩ hi (by omega) hs ?_
  intro h₂ tk₂ t i hk₂ hat
  have F₂ := fr_ext F hk₂
  have N₂ := news_ext N hk₂
  have hlen : vs.length = ns.length := hi.length
  have hi1 : i ≤ vs.length := by rw [hlen]; exact hat.1
  refine stN F₂ N₂ ?_
  intro h₃ F₃ N₃
  iterate 13 walk1
  refine kl_insert F₃ N₃ (fits_nat i (by omega)) rfl (.head (by first | ((repeat (first | exact .head _ | refine .tail _ ?_)); done) | simp)) (Nat.le_trans (Nat.le_of_lt (by show vs.length < 90; omega)) (by decide)) ?_
  intro h₄ F₄ N₄
  rw [kl_ins_at _ i _ hi1] at N₄
  iterate 2 walk1
  exact hQ h₄ _ i F₄.keep hat (N₄.get (.head _))
end Mine
end

/-! ## Comp -/
section
theorem Mine.offComp : True := by w_top off; trivial
open PySem PySem.W PySem.Calls PyProof.Rows PyProof.V
set_option Elab.async false
set_option maxRecDepth 100000
namespace Mine
section
variable {prog : Program} {w : World} {A : Around} {h₀ : Heap} {L : Addr} {m : Str → Option Value} {env : Env} {ct elt : Expr} {x : Str} {scope : Scope} {cl : List (Str × Addr)} {s : Shared} {S : List (Addr × Obj) → Prop} {P : Nat → Value → Prop} {Fin : List Value → List (Addr × Obj) → Prop} {news : List (Addr × Obj)}
theorem compEnd_mono {s₁ : Shared} {I C D : Addr} {oI oC oD : Obj} {r r' : Value → List (Addr × Obj) → Prop} {y : Value} {s₂ : Shared} (x : LCg.CompEnd h₀ L m s₁ I oI C oC D oD S r y s₂) (h : ∀ n, r y n → r' y n) : LCg.CompEnd h₀ L m s₁ I oI C oC D oD S r' y s₂ :=
  let ⟨h', tk, n, a, b, c, d, e, f⟩ := x; ⟨h', tk, n, a, b, c, d, e, h n f⟩
/-- a comprehension with a test, by what holds between its turns -/
theorem restT_ind (R : Nat → Nat → List Value → Prop) (fin : ∀ i ys, R 0 i ys → Fin ys news)
    (step : ∀ k i ys, R (k + 1) i ys → ∀ v I oI C oC D m₂ h tk (E' : Value → Shared → Prop), P i v → LCg.NsObj oC m₂ → m₂ x = some v → Fr h₀ L h m → News h₀ L h ((I, oI) :: (C, oC) :: (D, LCg.lst ys) :: news) → LCg.Off3 I C D news → ((@Ne Nat I C) ∧ (@Ne Nat I D) ∧ (@Ne Nat C D)) →
      wpAny (model prog w) A (isTrue ct (compEnvC scope cl C env) (eval ct (compEnvC scope cl C env))) (fun ok s' => if ok = true then
        wpAny (model prog w) A (eval elt (compEnvC scope cl C env)) (LCg.CompEnd h₀ L m { s with heap := h, toks := tk } I oI C oC D (LCg.lst ys) S (fun y news' => news' = news ∧ R k (i + 1) (ys ++ [y]))) E' s'
        else LCg.CompEnd h₀ L m { s with heap := h, toks := tk } I oI C oC D (LCg.lst ys) S (fun _ news' => news' = news ∧ R k (i + 1) ys) Value.none s') E' { s with heap := h, toks := tk }) :
    ∀ k i ys, R k i ys → LCt.CompRestT prog w A h₀ L m env ct elt x scope cl s S P Fin k i ys news := by
  intro k
  induction k with
  | zero => intro i ys r; exact LCt.CompRestT.zero (fin i ys r)
  | succ k ih =>
    intro i ys r
    refine LCt.CompRestT.succ fun v I oI C oC D m₂ h tk E' a b c d e f g => ?_
    refine wpAny_mono (step k i ys r v I oI C oC D m₂ h tk E' a b c d e f g) (fun ok s' h' => ?_) fun _ _ x => x
    cases ok with
    | true =>
      simp only [if_true] at h' ⊢
      exact wpAny_mono h' (fun y s'' z => compEnd_mono z fun n ⟨e1, r'⟩ => e1 ▸ ih _ _ r') fun _ _ x => x
    | false =>
      simp only [Bool.false_eq_true, if_false] at h' ⊢
      exact compEnd_mono h' fun n ⟨e1, r'⟩ => e1 ▸ ih _ _ r'
/-- one without -/
theorem rest_ind (R : Nat → Nat → List Value → Prop) (fin : ∀ i ys, R 0 i ys → Fin ys news)
    (step : ∀ k i ys, R (k + 1) i ys → ∀ v I oI C oC D m₂ h tk (E' : Value → Shared → Prop), P i v → LCg.NsObj oC m₂ → m₂ x = some v → Fr h₀ L h m → News h₀ L h ((I, oI) :: (C, oC) :: (D, LCg.lst ys) :: news) → LCg.Off3 I C D news → ((@Ne Nat I C) ∧ (@Ne Nat I D) ∧ (@Ne Nat C D)) →
      wpAny (model prog w) A (eval elt (compEnvC scope cl C env)) (LCg.CompEnd h₀ L m { s with heap := h, toks := tk } I oI C oC D (LCg.lst ys) S (fun y news' => news' = news ∧ R k (i + 1) (ys ++ [y]))) E' { s with heap := h, toks := tk }) :
    ∀ k i ys, R k i ys → LCg.CompRest prog w A h₀ L m env elt x scope cl s S P Fin k i ys news := by
  intro k
  induction k with
  | zero => intro i ys r; exact LCg.CompRest.zero (fin i ys r)
  | succ k ih =>
    intro i ys r
    refine LCg.CompRest.succ fun v I oI C oC D m₂ h tk E' a b c d e f g => ?_
    exact wpAny_mono (step k i ys r v I oI C oC D m₂ h tk E' a b c d e f g) (fun y s'' z => compEnd_mono z fun n ⟨e1, r'⟩ => e1 ▸ ih _ _ r') fun _ _ x => x
end
end Mine
end

/-! ## C5 -/
section
theorem Mine.offC5 : True := by w_top off; trivial
open PySem PySem.W PySem.Calls PyProof.Rows PyProof.V
set_option Elab.async false
set_option maxRecDepth 100000
namespace Mine
set_option maxHeartbeats 4000000

theorem slot_srch : Slot "re.Pattern" "search" "re.Pattern.search" :=
  .of (owner := "re.Pattern") (n := "search") (by rw [typeLookup_type, builtinLookup_eq_fast]; kernel_rfl) (by decide +kernel) (by decide +kernel) (by decide +kernel)
    (by first | exact .inl (by decide +kernel) | exact .inr (by decide +kernel)) (by rw [isSubtype_type]; kernel_rfl)
theorem entry_srch : entryFor table "re.Pattern.search" = some Builtin.«re.Pattern.search» := entryFor_of_tree (by kernel_rfl)
theorem args_srch (a b : Value) : argsOk "re.Pattern.search" ⟨[a, b], []⟩ := by unfold argsOk; kernel_rfl
/-- neither pattern is met in it -/
noncomputable def Ok (w : World) (v : Str) : Prop := ∀ S t, peek (Mine.hd.heap_39 w.params) S (Builtin.«re.Pattern.search» ⟨[.ref 84, .str v t], []⟩) = some (.done (.ret .none)) ∧ peek (Mine.hd.heap_39 w.params) S (Builtin.«re.Pattern.search» ⟨[.ref 89, .str v t], []⟩) = some (.done (.ret .none))

theorem conv_spec {w : World} {mean : ExcName → Option Value} {mg mb : Str → Option Value} {A : Around} {E : Value → Shared → Prop} {s : Shared} {x : Addr} {v : Str} {t : Tok} {b : Bool} {Q : Value → Shared → Prop}
    (W : Wd w mean mg mb s.heap) (hA : A.handled = none) (hroom : A.depth < recursionLimit) (hv : Ok w v)
    (hQ : ∀ h' tk, Kept s.heap h' → Q (.str v t) { s with heap := h', toks := tk }) :
    wpAny (model PR w) A (call (.ref 111) [.ref x, .str v t] [(Str.ofString "name", .bool b)]) Q E s := by
  obtain ⟨K, T⟩ := id W
  refine' enter_def (binds := [(Str.ofString "self", .ref x), (Str.ofString "value", .str v t), (Str.ofString "name", .bool b)]) W ?ho ?hcd hroom ?hb ?hl ?hc ?hco ?hg ?hk ?_
  case ho => k_is
  case hcd => k_is
  case hb => exact kp_binds K fun _ => rfl
  case hl => exact locs rfl
  case hc => decide
  case hco => rfl
  case hg => rfl
  case hk => rfl
  intro h₁ tk F
  have N : News s.heap s.heap.objs.size h₁ [] := News.nil
  iterate 14 walk1
  cases b
  · iterate 6 walk1
    rw [if_neg (by decide)]
    iterate 7 walk1
    rename Fr _ _ _ _ => F1
    refine Looks.here (Looks.of_peek (r := (.builtin "re.Pattern.search", [.ref 89])) (K.keeps F1.keep) (by kernel_rfl)) ?_
    iterate 4 walk1
    obtain ⟨ore, hore, hcre⟩ : ∃ o, s.heap.get? 89 = some o ∧ o.cls = .type "re.Pattern" := ⟨_, K 89 _ (by k_is), rfl⟩
    refine' wpAny_call_entry slot_srch ?hT entry_srch ?_ (args_srch _ _)
    case hT => exact ⟨ore, F1.keep _ _ hore, hcre⟩
    refine Looks.here (Looks.of_peek (K.keeps F1.keep) (hv _ t).2) ?_
    refine ⟨_, rfl, ?_⟩
    iterate 7 walk1
    exact hQ _ _ F1.keep
  · iterate 6 walk1
    rw [if_pos (by decide)]
    iterate 7 walk1
    rename Fr _ _ _ _ => F1
    refine Looks.here (Looks.of_peek (r := (.builtin "re.Pattern.search", [.ref 84])) (K.keeps F1.keep) (by kernel_rfl)) ?_
    iterate 4 walk1
    obtain ⟨ore, hore, hcre⟩ : ∃ o, s.heap.get? 84 = some o ∧ o.cls = .type "re.Pattern" := ⟨_, K 84 _ (by k_is), rfl⟩
    refine' wpAny_call_entry slot_srch ?hT entry_srch ?_ (args_srch _ _)
    case hT => exact ⟨ore, F1.keep _ _ hore, hcre⟩
    refine Looks.here (Looks.of_peek (K.keeps F1.keep) (hv _ t).1) ?_
    refine ⟨_, rfl, ?_⟩
    iterate 7 walk1
    exact hQ _ _ F1.keep
end Mine
end

/-! ## Slc -/
section
theorem Mine.offSlc : True := by w_top off; trivial
open PySem PySem.W PySem.Calls PyProof.Rows PyProof.V
set_option Elab.async false
set_option maxRecDepth 100000
namespace Mine
section
variable {prog : Program} {w : World} {A : Around} {E : Value → Shared → Prop} {s : Shared}
/-- xs[:] = ys -/
theorem set_all {l sl D : Addr} {items new : Array Value} {n n' : Nat} {Q : Unit → Shared → Prop} (ho : s.heap.get? l = some (PySem.W.listOf items n)) (hs : s.heap.IsSliceOf sl .none .none .none) (hD : s.heap.get? D = some (PySem.W.listOf new n')) (hne : l ≠ D)
    (h1 : items.size ≤ 1000) (h2 : new.size ≤ 1000)
    (h : ∀ h' k, h'.get? l = some (PySem.W.listOf new k) → Heap.SameBut l s.heap h' → Q () { s with heap := h' }) : wpAny (model prog w) A (setItem (.ref l) (.ref sl) (.ref D)) Q E s := by
  obtain ⟨os, hos, hcs, hds⟩ := id hs
  have hTs : s.TypeIs (.ref sl) "slice" := ⟨os, hos, hcs⟩
  have hTl : s.TypeIs (.ref l) "list" := ⟨_, ho, rfl⟩
  have hTD : s.TypeIs (.ref D) "list" := ⟨_, hD, rfl⟩
  unfold setItem
  try with_reducible refine wpAny_holding ?_
  first | refine wpAny_bind (wpAny_pure ?_) | skip
  refine wpAny_bind (wpAny_sequenceKey hTl (by decide) ?_)
  refine wpAny_bind (wpAny_callSpecial?_slot (name := Str.ofString "__setitem__") hTl slot_list_setitem
    (wpAny_call_entry slot_list_setitem hTl entry_list_setitem ?_ (args_list_setitem _ _ _)))
  show wpAny _ _ (Builtin.List.listSubscript? (.ref sl) >>= _) _ _ s
  refine wpAny_bind ?_
  unfold Builtin.List.listSubscript?
  refine wpAny_bind (wpAny_specialOf hTs slice_no_index ?_)
  simp only [Option.isNone_none, if_true]
  refine wpAny_pure ?_
  show wpAny _ _ (typeOf (.ref sl) >>= _) _ _ s
  refine wpAny_bind (wpAny_typeOf hTs ?_)
  rw [if_neg (by decide)]
  rw [listSliceParts_eq]
  refine wpAny_bind (wpAny_bind (wpAny_field hos hds (x := .none) rfl (wpAny_bind (wpAny_listPart .none ?_))))
  rw [if_neg (show ¬ ((rawPart none == rawInt 0) = true) from Bool.false_ne_true)]
  refine wpAny_bind (wpAny_field hos hds (x := .none) rfl (wpAny_bind (wpAny_listPart .none ?_)))
  refine wpAny_bind (wpAny_field hos hds (x := .none) rfl (wpAny_bind (wpAny_listPart .none (wpAny_pure ?_))))
  rw [if_neg (show ¬ (Builtin.List.listSameRef (.ref l) (.ref D) = true) by show ¬ ((l == D) = true); rw [beq_iff_eq]; exact hne)]
  refine wpAny_bind (m := Builtin.List.listAllItems (.ref D) _) ?_
  unfold Builtin.List.listAllItems
  refine wpAny_bind (wpAny_typeOf hTD ?_)
  rw [if_pos (by decide)]
  show wpAny _ _ (Builtin.List.listItems (.ref D)) _ _ _
  unfold Builtin.List.listItems
  refine wpAny_bind (wpAny_seqItems hD rfl (wpAny_pure ?_))
  refine wpAny_bind (m := Builtin.List.listItems (.ref l)) ?_
  unfold Builtin.List.listItems
  refine wpAny_bind (wpAny_seqItems ho rfl (wpAny_pure ?_))
  refine wpAny_bind (wpAny_of_eq (sliceIndices_raw none none none items.size (by first | ((repeat (first | exact .head _ | refine .tail _ ?_)); done) | simp)) ?_)
  have hb : sliceBounds none none none items.size = (0, (items.size : Int), 1) := rfl
  rw [hb]
  dsimp only
  rw [if_pos (by decide)]
  refine wpAny_bind (wpAny_rule ?_)
  have hlong : ¬ (Builtin.List.listTooLong (items.size + new.size) = true) := by
    unfold Builtin.List.listTooLong; rw [sizeLine_eq]; simp; omega
  rw [if_neg hlong]
  have hmax : (max 0 (items.size : Int)).toNat = items.size := by omega
  have hf : items.extract 0 (0 : Int).toNat ++ new ++ items.extract (max 0 (items.size : Int)).toNat items.size = new := by
    rw [hmax]
    simp
  refine wpAny_bind (m := Builtin.List.listUpdate (.ref l) _) ?_
  unfold Builtin.List.listUpdate
  refine wpAny_updateSeq ho rfl ?_ (Nat.le_trans h1 (by decide)) (by rw [hf]; exact Nat.le_trans h2 (by decide))
  refine wpAny_bind (wpAny_letGo ?_)
  have z := IsL.update (show IsL s.heap l items n from ho) (fun xs : Array Value => xs.extract 0 (0 : Int).toNat ++ new ++ xs.extract (max 0 (items.size : Int)).toNat xs.size)
  rw [hf] at z
  exact wpAny_bind (wpAny_pure (wpAny_pure ⟨.none, rfl, wpAny_pure (h _ _ z (Heap.SameBut.update ..))⟩))
end
end Mine
end

/-! ## C6 -/
section
theorem Mine.offC6 : True := by w_top off; trivial
open PySem PySem.W PySem.Calls PyProof.Rows PyProof.V
set_option Elab.async false
set_option maxRecDepth 100000
namespace Mine
set_option maxHeartbeats 1000000

/-- a list of pairs of texts -/
inductive Tups (h : Heap) : List Value → List (Str × Str) → Prop
  | nil : Tups h [] []
  | cons {q : Addr} {a b : Str} {ta tb : Tok} {vs : List Value} {L : List (Str × Str)} : h.IsTuple q #[.str a ta, .str b tb] → Tups h vs L → Tups h (.ref q :: vs) ((a, b) :: L)
theorem Tups.keep {h h' : Heap} {vs : List Value} {L : List (Str × Str)} (x : Tups h vs L) (k : Kept h h') : Tups h' vs L := by
  induction x with
  | nil => exact .nil
  | cons ht _ ih => exact .cons (let ⟨o, e, r⟩ := ht; ⟨o, k _ _ e, r⟩) ih
theorem Tups.length {h : Heap} {vs : List Value} {L : List (Str × Str)} (x : Tups h vs L) : vs.length = L.length := by
  induction x with
  | nil => rfl
  | cons _ _ ih => simp [ih]

theorem Tups.append {h : Heap} {vs us : List Value} {L M : List (Str × Str)} (x : Tups h vs L) (y : Tups h us M) : Tups h (vs ++ us) (L ++ M) := by
  induction x with
  | nil => exact y
  | cons ht _ ih => exact .cons ht ih

noncomputable abbrev hdKey : Str := Str.ofString "_headers"
theorem hideAll_in {h : Heap} {l : List Addr} {b : Addr} {o : Obj} (e : (hideAll h l).get? b = some o) : h.get? b = some o := of_hideAll l e

/-- it stays -/
noncomputable def keepP (nm : Str) (p : Str × Str) : Bool := Txt.lower p.1 != Txt.lower nm

theorem del_spec {w : World} {mean : ExcName → Option Value} {mg mb : Str → Option Value} {A : Around} {E : Value → Shared → Prop} {s : Shared} {x dx l : Addr} {n n' : Nat} {hh : Int} {tk0 t : Tok} {items : List Value} {L : List (Str × Str)} {nm : Str} {Q : Value → Shared → Prop}
    (W : Wd w mean mg mb (hideAll s.heap [x, dx, l])) (hA : A.handled = none) (hroom : A.depth + 1 < recursionLimit)
    (hx : s.heap.get? x = some (instObj 212 dx)) (hdx : s.heap.get? dx = some (dictOf [⟨hh, .str hdKey tk0, .ref l⟩] n)) (hl : s.heap.get? l = some (PySem.W.listOf items.toArray n'))
    {g₀ : Heap} (hg₀ : Kept g₀ (hideAll s.heap [x, dx, l])) (hT : Tups g₀ items L) (hsz : L.length ≤ 100) (hn1 : nm.length ≤ 100) (hn2 : Ok w (Txt.lower nm)) (hn3 : ∀ p ∈ L, p.1.length ≤ 100)
    (hQ : ∀ h' tk ys k, Kept (s.heap.hide l) h' → h'.get? l = some (PySem.W.listOf ys.toArray k) → Tups g₀ ys (L.filter (keepP nm)) → (∀ v ∈ ys, v ∈ items) → Q .none { s with heap := h', toks := tk }) :
    wpAny (model PR w) A (call (.ref 130) [.ref x, .str nm t]) Q E s := by
  obtain ⟨K, T⟩ := id W
  refine' enter_defC (g := hideAll s.heap [x, dx, l]) (news := [(x, instObj 212 dx), (dx, dictOf [⟨hh, .str hdKey tk0, .ref l⟩] n), (l, PySem.W.listOf items.toArray n')]) (binds := [(Str.ofString "self", .ref x), (Str.ofString "name", .str nm t)]) W ?hk0 ?hs0 ?hn0 ?ho ?hcd ?hr ?hb ?hl ?hc ?hco ?hg ?hk ?_
  case hk0 => exact fun b o e => hideAll_in e
  case hs0 => rw [hideAll_size]; exact Nat.le_refl _
  case hn0 =>
    intro p hp
    simp only [List.mem_cons, List.not_mem_nil, or_false] at hp
    rcases hp with rfl | rfl | rfl
    · exact ⟨hx, hideAll_none _ (by first | ((repeat (first | exact .head _ | refine .tail _ ?_)); done) | simp)⟩
    · exact ⟨hdx, hideAll_none _ (by first | ((repeat (first | exact .head _ | refine .tail _ ?_)); done) | simp)⟩
    · exact ⟨hl, hideAll_none _ (by first | ((repeat (first | exact .head _ | refine .tail _ ?_)); done) | simp)⟩
  case hr => omega
  case ho => k_is
  case hcd => k_is
  case hb => exact BindsTo.of_eq rfl
  case hl => exact rfl
  case hc => decide
  case hco => rfl
  case hg => rfl
  case hk => rfl
  intro h₁ tk cells F N Y hk₁
  k_cells Y
  simp only [List.cons_append, List.nil_append] at N
  iterate 11 walk1
  refine SCL.lower (Nat.le_trans hn1 (by decide)) ?_
  intro _
  iterate 5 walk1
  refine conv_spec (b := true) (W.keeps F.keep) hA hroom hn2 ?_
  intro h₂ tk₂ hk₂
  have F₂ := fr_ext F hk₂
  have N₂ := news_ext N hk₂
  walk1
  walk1
  walk1
  rename Fr _ _ _ _ => F3
  rename News _ _ _ _ => N3
  rename (Obj.data _ = Data.cell (some _)) => hc3
  simp only [List.nil_append] at N3
  refine wpAny_Assign_Subscript ?_
  refine LCt.ListComp_T (cl := [(Str.ofString "name", s.heap.objs.size + 1)]) F3 ?h1 ?h2 ?h3 ?h4 ?h5 ?_
  case h1 => with_unfolding_all rfl
  case h2 => decide
  case h3 => rfl
  case h4 => decide
  case h5 => rfl
  walk1
  walk1
  walk1
  have hlen : items.length = L.length := hT.length
  generalize hled : [(s.heap.objs.size + 1, _), (x, _), (dx, _), (l, _)] = led at N3
  refine LCt.CompSrcT.ledger hA F3 N3 (k := n') (its := items.toArray) (by rw [← hled]; simp) (Nat.le_trans (by rw [List.size_toArray, hlen]; exact hsz) (by decide)) ?_
  intro g5
  have hsz' : items.toArray.size = items.length := by simp
  refine restT_ind (fun k i ys => ∃ rest Lr Ly, k = rest.length ∧ Tups g₀ rest Lr ∧ (∀ j, items[i + j]? = rest[j]?) ∧ (∀ p ∈ Lr, p.1.length ≤ 100) ∧ Tups g₀ ys Ly ∧ Ly ++ Lr.filter (keepP nm) = L.filter (keepP nm) ∧ ∀ v ∈ ys, v ∈ items) ?_ ?_ _ _ _ ⟨items, L, [], hsz', hT, fun j => by rw [Nat.zero_add], hn3, .nil, rfl, fun v hv => by cases hv⟩
  · rintro i ys ⟨rest, Lr, Ly, hr, hTr, _, _, hTy, hLy, hmy⟩
    have : rest = [] := List.eq_nil_of_length_eq_zero hr.symm
    subst this
    cases hTr
    simp only [List.filter_nil, List.append_nil] at hLy
    subst hLy
    intro D h5 tk5 F5 N5 off5
    subst hled
    iterate 7 walk1
    have hDl : l ≠ D := off5.2.2.2.1
    have gl := N5.get (a := l) (o := PySem.W.listOf items.toArray n') (by first | ((repeat (first | exact .head _ | refine .tail _ ?_)); done) | simp)
    have gx := N5.get (a := x) (o := instObj 212 dx) (by first | ((repeat (first | exact .head _ | refine .tail _ ?_)); done) | simp)
    have gdx := N5.get (a := dx) (o := dictOf [⟨hh, .str hdKey tk0, .ref l⟩] n) (by first | ((repeat (first | exact .head _ | refine .tail _ ?_)); done) | simp)
    have gD := N5.get (a := D) (o := LCg.lst ys) (by first | ((repeat (first | exact .head _ | refine .tail _ ?_)); done) | simp)
    have hys : ys.length ≤ 100 := by rw [hTy.length]; exact Nat.le_trans (List.length_filter_le _ _) hsz
    refine set_all (Heap.get?_push_of_some _ gl) (Heap.IsSliceOf.new _ _ _ _) (Heap.get?_push_of_some _ gD) hDl (by rw [List.size_toArray]; omega) (by rw [List.size_toArray]; omega) ?_
    intro h6 k6 hl6 hs6
    walk1
    refine hQ h6 _ ys k6 (fun b o e => ?_) hl6 hTy hmy
    have hb : b ≠ l := fun q => by rw [q, Heap.hide_self] at e; cases e
    rw [Heap.hide_ne _ hb] at e
    refine (hs6.2 b hb).trans (Heap.get?_push_of_some _ ?_)
    by_cases hbx : b = x
    · subst hbx; rw [hx] at e; exact e ▸ gx
    · by_cases hbd : b = dx
      · subst hbd; rw [hdx] at e; exact e ▸ gdx
      · exact F5.keep b o (hideAll_get _ e (by simp [hb, hbx, hbd]))
  · rintro k i ys ⟨rest, Lr, Ly, hr, hTr, hit, hln, hTy, hLy, hmy⟩ v I oI C oC D m₂ h5 tk5 E' hP hC hm2 F5 N5 hoff hne
    cases hTr with
    | nil => cases hr
    | @cons q a b ta tb vs' L' hq hTr' =>
    have hv : v = .ref q := by
      have := hit 0
      simp only [Nat.add_zero, List.getElem?_cons_zero] at this
      have hP' : items[i]? = some v := by simpa using hP
      rw [this] at hP'; exact (Option.some.inj hP').symm
    subst hv
    have hmq : Value.ref q ∈ items := by
      have := hit 0
      simp only [Nat.add_zero, List.getElem?_cons_zero] at this
      exact List.mem_of_getElem? this
    refine wpAny_isTrue_Compare1 ?_
    have hq5 : IsTup h5 q #[.str a ta, .str b tb] := hq.at fun o e => F5.keep _ o (hg₀ _ _ e)
    iterate 5 walk1
    refine item_tuple (x := .str a ta) hq5 (by decide) (by decide) (j := 0) rfl rfl ?_
    iterate 2 walk1
    have hla : a.length ≤ 5592405 := Nat.le_trans (hln (a, b) (List.mem_cons_self ..)) (by decide)
    refine SCL.lower hla ?_
    intro _
    refine lcf_cell N5 (c := s.heap.objs.size + 1) rfl (by rw [← hled]; simp) hc3 ?_ rfl rfl
    walk1
    walk1
    have hS : LCg.SrcAt (hideAll s.heap [x, dx, l]) l items.toArray led := .inr ⟨PySem.W.listOf items.toArray n', by rw [← hled]; simp, rfl, n', rfl⟩
    have hit' : ∀ j, items[i + 1 + j]? = vs'[j]? := fun j => by
      have := hit (j + 1)
      rw [List.getElem?_cons_succ] at this
      rw [← this]; congr 1; omega
    have hln' : ∀ p ∈ L', p.1.length ≤ 100 := fun p hp => hln p (List.mem_cons_of_mem _ hp)
    have hr' : k = vs'.length := by simpa using hr
    have hLy0 := hLy
    rw [List.filter_cons] at hLy
    by_cases hc : (Txt.lower a != Txt.lower nm) = true
    · rw [if_pos hc]
      rw [if_pos (show keepP nm (a, b) = true from hc)] at hLy
      refine LCgL.ld_own N5 (by first | ((repeat (first | exact .head _ | refine .tail _ ?_)); done) | simp) hC hm2 ?_
      refine LCg.CompEnd.intro F5 N5 led (fun p hp => hp) hoff hS ⟨rfl, vs', L', Ly ++ [(a, b)], hr', hTr', hit', hln', ?_, ?_, ?_⟩
      · exact hTy.append (.cons hq .nil)
      · rw [List.append_assoc]; exact hLy
      · intro v hv
        rcases List.mem_append.mp hv with hv | hv
        · exact hmy v hv
        · rw [List.mem_singleton.mp hv]; exact hmq
    · rw [if_neg hc]
      rw [if_neg (show ¬ keepP nm (a, b) = true from hc)] at hLy
      exact LCg.CompEnd.intro F5 N5 led (fun p hp => hp) hoff hS ⟨rfl, vs', L', Ly, hr', hTr', hit', hln', hTy, hLy, hmy⟩
end Mine
end

/-! ## C7 -/
section
theorem Mine.offC7 : True := by w_top off; trivial
open PySem PySem.W PySem.Calls PyProof.Rows PyProof.V
set_option Elab.async false
set_option maxRecDepth 100000
namespace Mine
set_option maxHeartbeats 1000000

theorem delItem_K {M : Model} {A : Around} {E : Value → Shared → Prop} {s : Shared} {K : Frag} {x C L f : Addr} {h₀ : Heap} {m : Str → Option Value} {ox : Obj} {od : Option Obj} {v : Value} {Q : Unit → Shared → Prop} (F : Fr h₀ L s.heap m) (X₀ : K.In h₀) (I : InstAt s.heap x ox C od) (hq : noSeq K C = true) (hs : findIn K (.ref C) "__delitem__" = some (some (.ref f))) (hf : isFn K (.ref f) = true)
    (h : wpAny M A (call (.ref f) [.ref x, v]) (fun _ => Q ()) E s) : wpAny M A (delItem (.ref x) v) Q E s := by
  have X := X₀.keeps F.keep
  unfold delItem sequenceKey
  refine wpAny_holding (wpAny_bind (wpAny_bind (I.type.here ?_)))
  refine wpAny_bind ((anyM_none X hq).here ?_)
  rw [if_pos (show (!false) = true from rfl)]
  exact wpAny_pure (wpAny_bind (special_fn X I hs (beq_iff_eq.mp hf) (wpAny_mono h (fun _ _ z => wpAny_pure z) fun _ _ z => z)))

/-- a shelf: an object of the class, its dict, its list -/
structure Shelf (h : Heap) (x dx l : Addr) (items : List Value) : Prop where
  hx : h.get? x = some (instObj 212 dx)
  hdx : ∃ hh tk0 n, h.get? dx = some (dictOf [⟨hh, .str hdKey tk0, .ref l⟩] n)
  hl : ∃ n, h.get? l = some (PySem.W.listOf items.toArray n)
theorem Tups.hide {h : Heap} {x dx l : Addr} {items vs : List Value} {L : List (Str × Str)} (S : Shelf h x dx l items) (T : Tups h vs L) : Tups (hideAll h [x, dx, l]) vs L := by
  induction T with
  | nil => exact .nil
  | @cons q a b ta tb vs L ht _ ih =>
    refine .cons (ta := ta) (tb := tb) ?_ ih
    obtain ⟨o, e, hc, r⟩ := ht
    refine ⟨o, hideAll_get _ e ?_, hc, r⟩
    intro hm
    simp only [List.mem_cons, List.not_mem_nil, or_false] at hm
    rcases hm with rfl | rfl | rfl
    · rw [S.hx] at e; cases e; cases hc
    · obtain ⟨_, _, _, q⟩ := S.hdx; rw [q] at e; cases e; exact absurd (Value.type.inj hc) (by decide)
    · obtain ⟨_, q⟩ := S.hl; rw [q] at e; cases e; exact absurd (Value.type.inj hc) (by decide)
theorem kept_hideAll {h h' : Heap} (k : Kept h h') (ls : List Addr) : Kept (hideAll h ls) (hideAll h' ls) := by
  intro b o e
  have hb : b ∉ ls := fun m => by rw [hideAll_none _ m] at e; cases e
  exact hideAll_get _ (k _ _ (hideAll_in e)) hb
theorem kept_hideAll' {h h' : Heap} {l : Addr} (k : Kept (h.hide l) h') (ls : List Addr) (hl : l ∈ ls) : Kept (hideAll h ls) (hideAll h' ls) := by
  intro b o e
  have hb : b ∉ ls := fun m => by rw [hideAll_none _ m] at e; cases e
  refine hideAll_get _ (k _ _ ?_) hb
  have hbl : b ≠ l := fun q => hb (by rw [q]; exact hl)
  rw [Heap.hide_ne _ hbl]
  exact hideAll_in e
/-- a ledger object turned by a call -/
theorem fr_turn {h₀ h h' : Heap} {L l : Addr} {m : Str → Option Value} (F : Fr h₀ L h m) (hl : l ≠ L) (hn : h₀.get? l = none) (k : Kept (h.hide l) h') : Fr h₀ L h' m := by
  obtain ⟨oL, a1, a2, hoL, a3⟩ := F.ns
  refine ⟨⟨oL, a1, a2, k _ _ (by rw [Heap.hide_ne _ hl.symm]; exact hoL), a3⟩, fun b x e => k _ _ ?_, F.above⟩
  rw [Heap.hide_ne _ (by rintro rfl; rw [hn] at e; cases e)]
  exact F.keep _ _ e
theorem at_turn {h h' : Heap} {l b : Addr} {o : Obj} (k : Kept (h.hide l) h') (e : h.get? b = some o) (hb : b ≠ l) : h'.get? b = some o := k _ _ (by rw [Heap.hide_ne _ hb]; exact e)

theorem set_spec {w : World} {mean : ExcName → Option Value} {mg mb : Str → Option Value} {A : Around} {E : Value → Shared → Prop} {s : Shared} {x dx l : Addr} {t tv : Tok} {items : List Value} {L : List (Str × Str)} {nm vl : Str} {Q : Value → Shared → Prop}
    (W : Wd w mean mg mb (hideAll s.heap [x, dx, l])) (hA : A.handled = none) (hroom : A.depth + 2 < recursionLimit)
    (S : Shelf s.heap x dx l items) (hT : Tups s.heap items L) (hsz : L.length ≤ 90) (hn1 : nm.length ≤ 100) (hn2 : Ok w (Txt.lower nm)) (hn4 : Ok w nm) (hv : Ok w vl) (hn3 : ∀ p ∈ L, p.1.length ≤ 100)
    (hQ : ∀ h' tk ys, Kept (s.heap.hide l) h' → Shelf h' x dx l ys → Tups h' ys (L.filter (keepP nm) ++ [(nm, vl)]) → (∀ v ∈ ys, v ∈ items ∨ ∃ q, v = .ref q ∧ s.heap.get? q = none) → Q .none { s with heap := h', toks := tk }) :
    wpAny (model PR w) A (call (.ref 125) [.ref x, .str nm t, .str vl tv]) Q E s := by
  obtain ⟨K, T⟩ := id W
  have hTh := hT.hide S
  obtain ⟨hx, ⟨hh, tk0, n, hdx⟩, n', hl⟩ := id S
  have hxd : x ≠ dx := fun e => by rw [e, hdx] at hx; cases hx
  have hxl : x ≠ l := fun e => by rw [e, hl] at hx; cases hx
  have hdl : dx ≠ l := fun e => by rw [e, hl] at hdx; injection hdx with hdx; injection hdx with hc; exact absurd (Value.type.inj hc) (by decide)
  refine' enter_defN (g := hideAll s.heap [x, dx, l]) (news := [(x, instObj 212 dx), (dx, dictOf [⟨hh, .str hdKey tk0, .ref l⟩] n), (l, PySem.W.listOf items.toArray n')]) (binds := [(Str.ofString "self", .ref x), (Str.ofString "name", .str nm t), (Str.ofString "val", .str vl tv)]) W ?hk0 ?hs0 ?hn0 ?ho ?hcd ?hr ?hb ?hl ?hc ?hco ?hg ?hk ?_
  case hk0 => exact fun b o e => hideAll_in e
  case hs0 => rw [hideAll_size]; exact Nat.le_refl _
  case hn0 =>
    intro p hp
    simp only [List.mem_cons, List.not_mem_nil, or_false] at hp
    rcases hp with rfl | rfl | rfl
    · exact ⟨hx, hideAll_none _ (by first | ((repeat (first | exact .head _ | refine .tail _ ?_)); done) | simp)⟩
    · exact ⟨hdx, hideAll_none _ (by first | ((repeat (first | exact .head _ | refine .tail _ ?_)); done) | simp)⟩
    · exact ⟨hl, hideAll_none _ (by first | ((repeat (first | exact .head _ | refine .tail _ ?_)); done) | simp)⟩
  case hr => omega
  case ho => k_is
  case hcd => k_is
  case hb => exact BindsTo.of_eq rfl
  case hl => exact locs rfl
  case hc => decide
  case hco => rfl
  case hg => rfl
  case hk => rfl
  intro h₁ tk F N hk₁
  iterate 6 walk1
  refine' delItem_K F K ?hi ?h1 ?h2 ?h3 ?_
  case hi => k_inst
  case h1 => k_is
  case h2 => k_is
  case h3 => k_is
  have gx := hk₁ _ _ hx
  have gd := hk₁ _ _ hdx
  have gl := hk₁ _ _ hl
  refine del_spec (W.keeps (kept_hideAll hk₁ _)) hA ?_ gx gd gl (kept_hideAll hk₁ _) hTh (Nat.le_trans hsz (by decide)) hn1 hn2 hn3 ?_
  · show A.depth + 1 + 1 < _; omega
  intro h₂ tk₂ ys k hk₂ hl₂ hT₂ hmy
  have F₂ := fr_turn F (N (l, PySem.W.listOf items.toArray n') (by first | ((repeat (first | exact .head _ | refine .tail _ ?_)); done) | simp)).2.1 (hideAll_none _ (by first | ((repeat (first | exact .head _ | refine .tail _ ?_)); done) | simp)) hk₂
  have N₂ : News (hideAll s.heap [x, dx, l]) s.heap.objs.size h₂ [(x, instObj 212 dx), (dx, dictOf [⟨hh, .str hdKey tk0, .ref l⟩] n), (l, PySem.W.listOf ys.toArray k)] := by
    intro p hp
    simp only [List.mem_cons, List.not_mem_nil, or_false] at hp
    rcases hp with rfl | rfl | rfl
    · exact ⟨at_turn hk₂ gx hxl, (N (x, instObj 212 dx) (by first | ((repeat (first | exact .head _ | refine .tail _ ?_)); done) | simp)).2⟩
    · exact ⟨at_turn hk₂ gd hdl, (N (dx, dictOf [⟨hh, .str hdKey tk0, .ref l⟩] n) (by first | ((repeat (first | exact .head _ | refine .tail _ ?_)); done) | simp)).2⟩
    · exact ⟨hl₂, (N (l, PySem.W.listOf items.toArray n') (by first | ((repeat (first | exact .head _ | refine .tail _ ?_)); done) | simp)).2⟩
  clear F N
  iterate 23 walk1
  refine conv_spec (b := true) (W.keeps F₂.keep) hA ?_ hn4 ?_
  · show A.depth + 1 < _; omega
  intro h₃ tk₃ hk₃
  have F₃ := fr_ext F₂ hk₃
  have N₃ := news_ext N₂ hk₃
  iterate 12 walk1
  refine conv_spec (b := false) (W.keeps F₃.keep) hA ?_ hv ?_
  · show A.depth + 1 < _; omega
  intro h₄ tk₄ hk₄
  have F₄ := fr_ext F₃ hk₄
  have N₄ := news_ext N₃ hk₄
  clear F₂ N₂ F₃ N₃
  have hks : ys.toArray.size ≤ sizeLine := by rw [List.size_toArray, hT₂.length]; exact Nat.le_trans (List.length_filter_le _ _) (Nat.le_trans hsz (by decide))
  iterate 5 walk1
  rename Fr _ _ _ _ => F5
  rename News _ _ _ _ => N5
  walk1
  obtain ⟨q, N5⟩ : ∃ q, News (hideAll s.heap [x, dx, l]) s.heap.objs.size _ [(q, { cls := .type "tuple", data := .seq #[.str nm t, .str vl tv] }), (x, instObj 212 dx), (dx, dictOf [⟨hh, .str hdKey tk0, .ref l⟩] n), (l, PySem.W.listOf (ys.toArray.push (.ref q)) (k + 1))] := ⟨_, N5⟩
  have gq := N5.get (a := q) (o := { cls := .type "tuple", data := .seq #[.str nm t, .str vl tv] }) (by first | ((repeat (first | exact .head _ | refine .tail _ ?_)); done) | simp)
  have gx5 := N5.get (a := x) (o := instObj 212 dx) (by first | ((repeat (first | exact .head _ | refine .tail _ ?_)); done) | simp)
  have gd5 := N5.get (a := dx) (o := dictOf [⟨hh, .str hdKey tk0, .ref l⟩] n) (by first | ((repeat (first | exact .head _ | refine .tail _ ?_)); done) | simp)
  have gl5 := N5.get (a := l) (o := PySem.W.listOf (ys.toArray.push (.ref q)) (k + 1)) (by first | ((repeat (first | exact .head _ | refine .tail _ ?_)); done) | simp)
  refine hQ _ _ (ys ++ [.ref q]) (fun b o e => ?_) ⟨gx5, ⟨hh, tk0, n, gd5⟩, k + 1, ?_⟩ ?_ ?_
  · have hb : b ≠ l := fun q => by rw [q, Heap.hide_self] at e; cases e
    rw [Heap.hide_ne _ hb] at e
    by_cases hbx : b = x
    · subst hbx; rw [hx] at e; exact e ▸ gx5
    · by_cases hbd : b = dx
      · subst hbd; rw [hdx] at e; exact e ▸ gd5
      · exact F5.keep b o (hideAll_get _ e (by simp [hb, hbx, hbd]))
  · rw [gl5]; simp
  · exact Tups.append (hT₂.keep F5.keep) (.cons ⟨_, gq, rfl, _, rfl⟩ .nil)
  · intro v hv
    rcases List.mem_append.mp hv with hv | hv
    · exact .inl (hmy v hv)
    · refine .inr ⟨q, List.mem_singleton.mp hv, ?_⟩
      have z := (N5 (q, { cls := .type "tuple", data := .seq #[.str nm t, .str vl tv] }) (by first | ((repeat (first | exact .head _ | refine .tail _ ?_)); done) | simp)).2.2
      cases e : s.heap.get? q with
      | none => rfl
      | some o =>
        have hb : q ∉ [x, dx, l] := fun hm => by
          simp only [List.mem_cons, List.not_mem_nil, or_false] at hm
          rcases hm with h | h | h
          · rw [h, gx5] at gq; cases gq
          · rw [h, gd5] at gq; injection gq with gq; injection gq with hc; exact absurd (Value.type.inj hc) (by decide)
          · rw [h, gl5] at gq; injection gq with gq; injection gq with hc; exact absurd (Value.type.inj hc) (by decide)
        have := hideAll_get _ e hb
        rw [z] at this; cases this
end Mine
end

/-! ## Lt -/
section
theorem Mine.offLt : True := by w_top off; trivial
open PySem PySem.W PySem.Calls PyProof.Rows PyProof.V
set_option Elab.async false
set_option maxRecDepth 100000
namespace Mine
theorem Tups.at {h : Heap} {vs : List Value} {L : List (Str × Str)} (T : Tups h vs L) : ∀ j, j < vs.length → ∃ q a b ta tb, vs[j]? = some (.ref q) ∧ L[j]? = some (a, b) ∧ h.IsTuple q #[.str a ta, .str b tb] := by
  induction T with
  | nil => intro j hj; exact absurd hj (Nat.not_lt_zero _)
  | @cons q a b ta tb vs L ht _ ih =>
    intro j hj
    cases j with
    | zero => exact ⟨q, a, b, ta, tb, rfl, rfl, ht⟩
    | succ j =>
      obtain ⟨q', a', b', ta', tb', e1, e2, e3⟩ := ih j (Nat.lt_of_succ_lt_succ hj)
      exact ⟨q', a', b', ta', tb', e1, e2, e3⟩
section
variable {prog : Program} {w : World} {A : Around} {E : Value → Shared → Prop} {s : Shared} {env : Env} {h₀ : Heap} {m₀ : Str → Option Value} {news : List (Addr × Obj)} {l : Addr} {items : List Value} {L : List (Str × Str)} {xk xv : Str} {body : List Stmt} {pk pv tp : Pos} {kk : Nat} {Q : Flow → Shared → Prop}
theorem Iter_tups (hh : A.handled = none) (hxk : env.kindOf xk = some .local) (hxv : env.kindOf xv = some .local)
    (hp : (env.scope.kind == .class || (env.scope.kind == .module && env.locals != env.globals)) = false)
    {n : Nat} (hl : s.heap.get? l = some (PySem.W.listOf items.toArray n)) (hlL : l ≠ env.locals) (T : Tups s.heap items L)
    (F : Fr h₀ env.locals s.heap m₀) (N : News h₀ env.locals s.heap news)
    (J : Nat → (Str → Option Value) → Prop) (h0 : J 0 m₀)
    (turn : ∀ i a b ta tb m₁ h₁ tk₁, L[i]? = some (a, b) → J i m₁ →
      Fr h₀ env.locals h₁ (fun y => if y = xv then some (.str b tb) else if y = xk then some (.str a ta) else m₁ y) → News h₀ env.locals h₁ news →
      wpAny (model prog w) A (execs body env) (fun f s' => f = .next ∧ ∃ h' tk' m', s' = { s with heap := h', toks := tk' } ∧ Kept h₁ h' ∧ Fr h₀ env.locals h' m' ∧ J (i + 1) m') E { s with heap := h₁, toks := tk₁ })
    (done : ∀ h' tk m', Fr h₀ env.locals h' m' → News h₀ env.locals h' news → J L.length m' → Q .next { s with heap := h', toks := tk }) :
    wpAny (model prog w) A (pyIter (.ref l)) (fun it s₂ => TurnsAt prog w A h₀ env (.Tuple [.Name xk pk, .Name xv pv] kk tp) body Q E it s₂) E s := by
  have hlen := T.length
  have hc : ∀ j : Nat, ∃ q : Addr × Array Value, j < items.length → items[j]? = some (.ref q.1) ∧ s.heap.IsTuple q.1 q.2 ∧ ∃ a b ta tb, L[j]? = some (a, b) ∧ q.2 = #[.str a ta, .str b tb] := by
    intro j
    by_cases hj : j < items.length
    · obtain ⟨q, a, b, ta, tb, e1, e2, e3⟩ := T.at j hj
      exact ⟨(q, _), fun _ => ⟨e1, e3, a, b, ta, tb, e2, rfl⟩⟩
    · exact ⟨(0, #[]), fun h => absurd h hj⟩
  obtain ⟨f, hf⟩ := Classical.axiomOfChoice hc
  have hls : s.heap.IsList l items.toArray := ⟨_, hl, rfl, n, rfl⟩
  have hll := Heap.lt_size hl
  refine wpAny_pyIter_list hls ?_
  have hTlt : ∀ j, j < items.length → (f j).1 < s.heap.objs.size := fun j hj => by
    obtain ⟨o, ho, _⟩ := (hf j hj).2.1
    exact Heap.lt_size ho
  have W := WalksU.listOfTuples (prog := prog) (w := w) hh s.heap.objs.size l (Nat.ne_of_lt hll) items.toArray (fun j => (f j).1) (fun j => (f j).2)
    (fun j hj => by
      have := (hf j (by simpa using hj)).1
      rw [List.getElem?_toArray]; exact this)
    (fun j hj => Nat.ne_of_lt (hTlt j (by simpa using hj)))
  have hsz : items.toArray.size = L.length := by rw [List.size_toArray, hlen]
  have hTL : ∀ j, j < items.length → (f j).1 ≠ env.locals := fun j hj e => by
    obtain ⟨o, ho, hc, n', hd⟩ := (hf j hj).2.1
    obtain ⟨oL, es, ep, hL, hLd, _⟩ := F.ns
    rw [e, hL] at ho
    cases ho
    rw [hLd] at hd; cases hd
  have hLf : env.locals ∉ (s.heap.objs.size :: l :: (List.range items.toArray.size).map fun j => (f j).1) := by
    intro hm
    rcases List.mem_cons.mp hm with e | hm
    · exact absurd F.ns.lt (e ▸ Nat.lt_irrefl _)
    · rcases List.mem_cons.mp hm with e | hm
      · exact hlL e.symm
      · obtain ⟨j, hj, e⟩ := List.mem_map.mp hm
        rw [List.mem_range, List.size_toArray] at hj
        exact hTL j hj e
  have hI : s.heap.get? s.heap.objs.size = none := by
    cases q : s.heap.get? s.heap.objs.size with
    | none => rfl
    | some o => exact absurd (Heap.lt_size q) (Nat.lt_irrefl _)
  refine ⟨s.heap.objs.size, _, _, _, _, _, _, m₀, news, fun i m nw => nw = news ∧ J i m, rfl, KTurns.ofWalksU W, hLf, ?_, ?_, ?_, F.push _, fun p hp => ⟨Heap.get?_push_of_some _ (N p hp).1, (N p hp).2⟩, ⟨rfl, h0⟩, ?_, ?_⟩
  · intro b hb
    rw [List.mem_singleton.mp hb]
    cases q : h₀.get? s.heap.objs.size with
    | none => rfl
    | some o => rw [F.keep _ _ q] at hI; cases hI
  · intro p hp hm
    exact absurd (Heap.lt_size (N p hp).1) ((List.mem_singleton.mp hm) ▸ Nat.lt_irrefl _)
  · refine ⟨⟨_, Heap.get?_push_size _ rfl, rfl, rfl⟩, ⟨_, Heap.get?_push_of_some _ hl, rfl, n, rfl⟩, fun k hk => ?_⟩
    obtain ⟨o, ho, r⟩ := (hf k (by simpa using hk)).2.1
    exact ⟨o, Heap.get?_push_of_some _ ho, r⟩
  · rintro i v m₁ news₁ h₁ tk₁ own hi ⟨q, vals, rfl, hv, hq⟩ ⟨rfl, hJ⟩ hnw hown hat hall hst F₁ N₁
    have hi' : i < items.length := by simpa using hi
    obtain ⟨_, _, a, b, ta, tb, e2, e3⟩ := hf i hi'
    have hq' : h₁.IsTuple q #[.str a ta, .str b tb] := by
      have : vals = (f i).2 := hv
      rw [this, e3] at hq; exact hq
    refine kcp_assign hh hq' hxk hxv hp F₁.ns ?_
    intro h₂ tk₂ hn₂ hk₂
    have hL₀ : ∀ b o, h₀.get? b = some o → b ≠ env.locals := fun b o e q => absurd (Heap.lt_size e) (by rw [q]; exact Nat.not_lt.mpr F₁.above)
    have F₂ : Fr h₀ env.locals h₂ (fun y => if y = xv then some (.str b tb) else if y = xk then some (.str a ta) else m₁ y) := ⟨hn₂, fun b o e => hk₂ b o (hL₀ b o e) (F₁.keep b o e), F₁.above⟩
    have N₂ : News h₀ env.locals h₂ (own ++ news₁) := fun p hp => ⟨hk₂ _ _ (N₁ p hp).2.1 (N₁ p hp).1, (N₁ p hp).2⟩
    refine wpAny_mono (turn i a b ta tb m₁ h₂ tk₂ e2 hJ F₂ fun p hp => N₂ p (List.mem_append_right _ hp)) ?_ fun _ _ e => e
    rintro fl s' ⟨rfl, h', tk', m', rfl, hk', F', hJ'⟩
    exact LoopStepU.intro F' (news_ext N₂ hk') hnw ⟨rfl, hJ'⟩
  · rintro h' tk m' news' F' N' _ ⟨rfl, hJ⟩
    exact done h' tk m' F' N' (hsz ▸ hJ)
end
end Mine
end

/-! ## C8 -/
section
theorem Mine.offC8 : True := by w_top off; trivial
open PySem PySem.W PySem.Calls PyProof.Rows PyProof.V
set_option Elab.async false
set_option maxRecDepth 100000
namespace Mine
set_option maxHeartbeats 1000000

theorem make_enter {w : World} {mean : ExcName → Option Value} {mg mb : Str → Option Value} {A : Around} {E : Value → Shared → Prop} {s : Shared} {C f : Addr} {name qual : Str} {params : Arguments} {body : List Stmt} {scope : Scope} {dV kV doc pm cdv ct oc : Value} {an od : Option Addr} {osl : Array (Option Value)} {pos : List Value} {binds : Addr → List (Str × Value)} {Q : Value → Shared → Prop}
    (W : Wd w mean mg mb s.heap) (hm : makesIn (Mine.hd.heap_39 w.params) C = true) (hi : findIn (Mine.hd.heap_39 w.params) (.ref C) "__init__" = some (some (.ref f))) (hf : isFn (Mine.hd.heap_39 w.params) (.ref f) = true)
    (ho : (Mine.hd.heap_39 w.params).lookup f = some ⟨oc, od, .func (fnOf name qual params body scope dV kV doc pm an cdv ct), osl⟩) (hcd : codeIn (Mine.hd.heap_39 w.params) cdv qual = true) (hroom : A.depth + 1 < recursionLimit)
    (hbind : ∀ (s' : Shared) x, Kept s.heap s'.heap → BindsTo s' (fnOf name qual params body scope dV kV doc pm an cdv ct) ⟨.ref x :: pos, []⟩ (binds x)) (hloc : ∀ x, ∀ y ∈ binds x, scope.names.lookup y.1 = some .local)
    (hcell : ∀ x ∈ scope.names, x.2 ≠ .cell) (hco : scope.isCoroutine = false) (hgen : scope.isGenerator = false) (hk : scope.kind = .function)
    (h : ∀ x dx B L h₁ tk, s.heap.get? x = none → s.heap.get? dx = none → B = A.under (.builtin "type.__call__" ⟨.ref C :: pos, []⟩) → Fr s.heap L h₁ (fun y => (binds x).reverse.lookup y) → News s.heap L h₁ [(x, instObj C dx), (dx, dictOf [] 0)] → dx < x →
      wpAny (model PR w) (B.deeper (envOf qual scope L f cdv)) (execs body (envOf qual scope L f cdv))
        (fun fl s' => (match fl with | .ret v => v | _ => Value.none) = Value.none ∧ Q (.ref x) s') (fun _ _ => False) { s with heap := h₁, toks := tk }) :
    wpAny (model PR w) A (call (.ref C) pos) Q E s := by
  obtain ⟨hh, g, d, t, os⟩ := s
  refine wpAny_call (make_core (makes_of W.K hm) (looks_findIn W.K hi) (fun self => bind_fn W.K self (beq_iff_eq.mp hf)) (.inl rfl) ?_)
  have k1 : Kept hh ((hh.push emptyDict).push (instObj C hh.objs.size)) := fun b o e => Heap.get?_push_of_some _ (Heap.get?_push_of_some _ e)
  have W' := W.keeps k1
  refine codeAny_call_def (fd := fnOf name qual params body scope dV kV doc pm an cdv ct) (body := body) (binds := binds (hh.objs.size + 1)) ?_ (W'.K _ _ ho) rfl W'.T.nolimit (codeRec_of W'.K hcd) rfl (hbind _ _ k1) hcell (hloc _) (fun h₁ hns hk₁ => ?_) hco hgen hk
  · exact hroom
  have n1 : hh.get? (hh.objs.size + 1) = none := by
    cases q : hh.get? (hh.objs.size + 1) with
    | none => rfl
    | some o => exact absurd (Nat.lt_of_succ_lt (Heap.lt_size q)) (Nat.lt_irrefl _)
  have n2 : hh.get? hh.objs.size = none := by
    cases q : hh.get? hh.objs.size with
    | none => rfl
    | some o => exact absurd (Heap.lt_size q) (Nat.lt_irrefl _)
  have g2 : ((hh.push emptyDict).push (instObj C hh.objs.size)).get? hh.objs.size = some emptyDict := Heap.get?_push_of_some _ (Heap.get?_push_size _ rfl)
  have g1 : ((hh.push emptyDict).push (instObj C hh.objs.size)).get? (hh.objs.size + 1) = some (instObj C hh.objs.size) := by
    have := Heap.get?_push_size (hh.push emptyDict) (o := instObj C hh.objs.size) rfl
    rw [Heap.size_push] at this; exact this
  have hL : ((hh.push emptyDict).push (instObj C hh.objs.size)).objs.size = hh.objs.size + 2 := by rw [Heap.size_push, Heap.size_push]
  refine wpAny_mono (h (hh.objs.size + 1) hh.objs.size _ ((hh.push emptyDict).push (instObj C hh.objs.size)).objs.size h₁ _ n1 n2 rfl ⟨hns, fun b o e => hk₁ b o (k1 b o e), ?_⟩ ?_ (Nat.lt_succ_self _)) (fun f s' x => x) (fun _ _ x => x.elim)
  · show hh.objs.size ≤ _; omega
  · intro p hp
    simp only [List.mem_cons, List.not_mem_nil, or_false] at hp
    rcases hp with rfl | rfl
    · exact ⟨hk₁ _ _ g1, by rw [hL]; show hh.objs.size + 1 ≠ _; omega, n1⟩
    · exact ⟨hk₁ _ _ g2, by rw [hL]; show hh.objs.size ≠ _; omega, n2⟩

theorem make0_spec {w : World} {mean : ExcName → Option Value} {mg mb : Str → Option Value} {A : Around} {E : Value → Shared → Prop} {s : Shared} {Q : Value → Shared → Prop}
    (W : Wd w mean mg mb s.heap) (hA : A.handled = none) (hroom : A.depth + 2 < recursionLimit)
    (hQ : ∀ h' tk x dx l, Kept s.heap h' → Shelf h' x dx l [] → s.heap.get? x = none → s.heap.get? dx = none → s.heap.get? l = none → Q (.ref x) { s with heap := h', toks := tk }) :
    wpAny (model PR w) A (call (.ref 212) []) Q E s := by
  obtain ⟨K, T⟩ := id W
  refine' make_enter (f := 104) (binds := fun x => [(Str.ofString "self", .ref x), (Str.ofString "headers", .none)]) W ?hm ?hi ?hf ?ho ?hcd ?hr ?hb ?hl ?hc ?hco ?hg ?hk ?_
  case hm => k_is
  case hi => k_is
  case hf => k_is
  case ho => k_is
  case hcd => k_is
  case hr => omega
  case hb => exact fun s' x k => kp_binds (K.keeps k) fun _ => rfl
  case hl => exact fun x => locs rfl
  case hc => decide
  case hco => rfl
  case hg => rfl
  case hk => rfl
  intro x dx B L h₁ tk nx ndx hB F N hlt
  k_lt2 hlt
  iterate 36 walk1
  iterate 5 walk1
  rename Fr _ _ _ _ => F2
  rename News _ _ _ _ => N2
  refine wpAny_execs_cons ?_
  refine' For_turns ?kF ?_ ?khs PassesOwn.never
  case kF => exact F2
  case khs => intro _; rfl
  walk1
  have hB' : B.handled = none := by subst hB; exact hA
  rename_i l h'a l1 h'b tkb h'c
  obtain ⟨hh0, tk0, N2⟩ : ∃ (hh0 : Int) (tk0 : Tok), News s.heap L h'c [(l, PySem.W.listOf #[] 0), (x, instObj 212 dx), (dx, dictOf [⟨hh0, .str hdKey tk0, .ref l⟩] 1)] := ⟨_, _, N2⟩
  refine Iter_tups (items := []) (L := []) (n := 0) hB' rfl rfl rfl (N2 (l, PySem.W.listOf #[] 0) (by first | ((repeat (first | exact .head _ | refine .tail _ ?_)); done) | simp)).1 (N2 (l, PySem.W.listOf #[] 0) (by first | ((repeat (first | exact .head _ | refine .tail _ ?_)); done) | simp)).2.1 .nil F2 N2 (fun _ _ => True) trivial ?_ ?_
  · intro i a b ta tb m₁ h₁ tk₁ hi; cases hi
  intro h' tk m' F3 N3 _
  refine wpAny_execs_nil (wpAny_execs_nil ⟨rfl, ?_⟩)
  exact hQ h' tk x dx l F3.keep ⟨(N3 (x, instObj 212 dx) (by first | ((repeat (first | exact .head _ | refine .tail _ ?_)); done) | simp)).1, ⟨hh0, tk0, _, (N3 (dx, dictOf [⟨hh0, .str hdKey tk0, .ref l⟩] 1) (by first | ((repeat (first | exact .head _ | refine .tail _ ?_)); done) | simp)).1⟩, ⟨0, (N3 (l, PySem.W.listOf #[] 0) (by first | ((repeat (first | exact .head _ | refine .tail _ ?_)); done) | simp)).1⟩⟩ nx ndx (N3 (l, PySem.W.listOf #[] 0) (by first | ((repeat (first | exact .head _ | refine .tail _ ?_)); done) | simp)).2.2
end Mine
end

/-! ## C9 -/
section
theorem Mine.offC9 : True := by w_top off; trivial
open PySem PySem.W PySem.Calls PyProof.Rows PyProof.V
set_option Elab.async false
set_option maxRecDepth 100000
namespace Mine
set_option maxHeartbeats 1000000

theorem make_spec {w : World} {mean : ExcName → Option Value} {mg mb : Str → Option Value} {A : Around} {E : Value → Shared → Prop} {s : Shared} {l : Addr} {items : List Value} {L : List (Str × Str)} {n : Nat} {Q : Value → Shared → Prop}
    (W : Wd w mean mg mb s.heap) (hA : A.handled = none) (hroom : A.depth + 3 < recursionLimit) (hl : s.heap.get? l = some (PySem.W.listOf items.toArray n)) (hT : Tups s.heap items L) (hok : ∀ p ∈ L, Ok w p.1 ∧ Ok w p.2)
    (hQ : ∀ h' tk x dx, Kept s.heap h' → Shelf h' x dx l items → s.heap.get? x = none → s.heap.get? dx = none → Q (.ref x) { s with heap := h', toks := tk }) :
    wpAny (model PR w) A (call (.ref 212) [.ref l]) Q E s := by
  obtain ⟨K, T⟩ := id W
  refine' make_enter (f := 104) (binds := fun x => [(Str.ofString "self", .ref x), (Str.ofString "headers", .ref l)]) W ?hm ?hi ?hf ?ho ?hcd ?hr ?hb ?hl ?hc ?hco ?hg ?hk ?_
  case hm => k_is
  case hi => k_is
  case hf => k_is
  case ho => k_is
  case hcd => k_is
  case hr => omega
  case hb => exact fun s' x k => kp_binds (K.keeps k) fun _ => rfl
  case hl => exact fun x => locs rfl
  case hc => decide
  case hco => rfl
  case hg => rfl
  case hk => rfl
  intro x dx B L' h₁ tk nx ndx hB F N hlt
  k_lt2 hlt
  have hB' : B.handled = none := by subst hB; exact hA
  have hls : s.heap.IsList l items.toArray := ⟨_, hl, rfl, n, rfl⟩
  iterate 20 walk1
  refine kto_cont (T := "list") ⟨_, (Fr.keep (by assumption) _ _ hl), rfl⟩ (by decide +kernel) ?_
  iterate 16 walk1
  rename Fr _ _ _ _ => F2
  rename News _ _ _ _ => N2
  rename_i tkb h'c
  refine wpAny_execs_cons ?_
  refine' For_turns ?kF ?_ ?khs PassesOwn.never
  case kF => exact F2
  case khs => intro _; rfl
  walk1
  obtain ⟨hh0, tk0, N2⟩ : ∃ (hh0 : Int) (tk0 : Tok), News s.heap L' h'c [(x, instObj 212 dx), (dx, dictOf [⟨hh0, .str hdKey tk0, .ref l⟩] 1)] := ⟨_, _, N2⟩
  have hlL : l ≠ L' := fun e => absurd (Heap.lt_size hl) (by rw [e]; exact Nat.not_lt.mpr F2.above)
  refine Iter_tups (items := items) (L := L) (n := n) hB' rfl rfl rfl (F2.keep _ _ hl) hlL (hT.keep F2.keep) F2 N2 (fun _ m => m (Str.ofString "self") = some (.ref x)) rfl ?_ ?_
  · intro i a b ta tb m₁ h₂ tk₂ hi hJ F3 N3
    have hab := hok (a, b) (List.mem_of_getElem? hi)
    have e1 : (fun y => if y = Str.ofString "v" then some (Value.str b tb) else if y = Str.ofString "k" then some (Value.str a ta) else m₁ y) (Str.ofString "self") = some (.ref x) := (if_neg (by decide)).trans ((if_neg (by decide)).trans hJ)
    have e2 : (fun y => if y = Str.ofString "v" then some (Value.str b tb) else if y = Str.ofString "k" then some (Value.str a ta) else m₁ y) (Str.ofString "k") = some (.str a ta) := (if_neg (by decide)).trans (if_pos rfl)
    have e3 : (fun y => if y = Str.ofString "v" then some (Value.str b tb) else if y = Str.ofString "k" then some (Value.str a ta) else m₁ y) (Str.ofString "v") = some (.str b tb) := if_pos rfl
    walk1
    walk1
    walk1
    refine ld F3 e1 ?_
    iterate 3 walk1
    refine ld F3 e2 ?_
    iterate 5 walk1
    refine conv_spec (b := true) (W.keeps F3.keep) hB' ?_ hab.1 ?_
    · show B.depth + 1 < _; subst hB; show A.depth + 1 + 1 < _; omega
    intro h₃ tk₃ hk₃
    have F4 := fr_ext F3 hk₃
    have N4 := news_ext N3 hk₃
    clear N3
    walk1
    walk1
    walk1
    refine ld F4 e1 ?_
    iterate 3 walk1
    refine ld F4 e3 ?_
    iterate 5 walk1
    refine conv_spec (b := false) (W.keeps F4.keep) hB' ?_ hab.2 ?_
    · show B.depth + 1 < _; subst hB; show A.depth + 1 + 1 < _; omega
    intro h₄ tk₄ hk₄
    refine wpAny_execs_nil ⟨rfl, h₄, tk₄, _, rfl, hk₃.trans hk₄, fr_ext F4 hk₄, ?_⟩
    exact e1
  intro h' tk m' F3 N3 _
  refine wpAny_execs_nil (wpAny_execs_nil ⟨rfl, ?_⟩)
  exact hQ h' tk x dx F3.keep ⟨(N3 (x, instObj 212 dx) (by first | ((repeat (first | exact .head _ | refine .tail _ ?_)); done) | simp)).1, ⟨hh0, tk0, _, (N3 (dx, dictOf [⟨hh0, .str hdKey tk0, .ref l⟩] 1) (by first | ((repeat (first | exact .head _ | refine .tail _ ?_)); done) | simp)).1⟩, ⟨n, F3.keep _ _ hl⟩⟩ nx ndx
end Mine
end

/-! ## C10 -/
section
theorem Mine.offC10 : True := by w_top off; trivial
open PySem PySem.W PySem.Calls PyProof.Rows PyProof.V
set_option Elab.async false
set_option maxRecDepth 100000
namespace Mine
set_option maxHeartbeats 1000000

theorem shelf_enter {w : World} {mean : ExcName → Option Value} {mg mb : Str → Option Value} {A : Around} {E : Value → Shared → Prop} {s : Shared} {x dx l : Addr} {items : List Value} {name qual : Str} {params : Arguments} {body : List Stmt} {scope : Scope} {dV kV doc pm cdv ct oc : Value} {an od : Option Addr} {osl : Array (Option Value)} {f : Addr} {pos : List Value} {kw : List (Str × Value)} {binds : List (Str × Value)} {Q : Value → Shared → Prop}
    (W : Wd w mean mg mb (hideAll s.heap [x, dx, l])) (S : Shelf s.heap x dx l items)
    (ho : (Mine.hd.heap_39 w.params).lookup f = some ⟨oc, od, .func (fnOf name qual params body scope dV kV doc pm an cdv ct), osl⟩) (hcd : codeIn (Mine.hd.heap_39 w.params) cdv qual = true) (hroom : A.depth < recursionLimit)
    (hbind : BindsTo s (fnOf name qual params body scope dV kV doc pm an cdv ct) ⟨pos, kw⟩ binds) (hloc : ∀ y ∈ binds, scope.names.lookup y.1 = some .local)
    (hcell : ∀ x ∈ scope.names, x.2 ≠ .cell) (hco : scope.isCoroutine = false) (hgen : scope.isGenerator = false) (hk : scope.kind = .function)
    (h : ∀ h₁ tk hh tk0 n n', Fr (hideAll s.heap [x, dx, l]) s.heap.objs.size h₁ (fun y => binds.reverse.lookup y) → News (hideAll s.heap [x, dx, l]) s.heap.objs.size h₁ [(x, instObj 212 dx), (dx, dictOf [⟨hh, .str hdKey tk0, .ref l⟩] n), (l, PySem.W.listOf items.toArray n')] → Kept s.heap h₁ →
      (∀ h₂ m news, Fr (hideAll s.heap [x, dx, l]) s.heap.objs.size h₂ m → News (hideAll s.heap [x, dx, l]) s.heap.objs.size h₂ (news ++ [(x, instObj 212 dx), (dx, dictOf [⟨hh, .str hdKey tk0, .ref l⟩] n), (l, PySem.W.listOf items.toArray n')]) → Kept s.heap h₂) →
      wpAny (model PR w) (A.deeper (envOf qual scope s.heap.objs.size f cdv)) (execs body (envOf qual scope s.heap.objs.size f cdv))
        (fun fl s' => Q (match fl with | .ret v => v | _ => .none) s') (fun _ _ => False) { s with heap := h₁, toks := tk }) :
    wpAny (model PR w) A (call (.ref f) pos kw) Q E s := by
  obtain ⟨hx, ⟨hh, tk0, n, hdx⟩, n', hl⟩ := id S
  refine enter_defN (g := hideAll s.heap [x, dx, l]) (news := [(x, instObj 212 dx), (dx, dictOf [⟨hh, .str hdKey tk0, .ref l⟩] n), (l, PySem.W.listOf items.toArray n')]) W (fun b o e => hideAll_in e) (by rw [hideAll_size]; exact Nat.le_refl _) ?_ ho hcd hroom hbind hloc hcell hco hgen hk ?_
  · intro p hp
    simp only [List.mem_cons, List.not_mem_nil, or_false] at hp
    rcases hp with rfl | rfl | rfl
    · exact ⟨hx, hideAll_none _ (by first | ((repeat (first | exact .head _ | refine .tail _ ?_)); done) | simp)⟩
    · exact ⟨hdx, hideAll_none _ (by first | ((repeat (first | exact .head _ | refine .tail _ ?_)); done) | simp)⟩
    · exact ⟨hl, hideAll_none _ (by first | ((repeat (first | exact .head _ | refine .tail _ ?_)); done) | simp)⟩
  · intro h₁ tk F N hk
    refine h h₁ tk hh tk0 n n' F N hk fun h₂ m news F₂ N₂ b o e => ?_
    by_cases hbl : b = l
    · subst hbl; rw [hl] at e; exact e ▸ (N₂ (b, PySem.W.listOf items.toArray n') (by first | ((repeat (first | exact .head _ | refine .tail _ ?_)); done) | simp)).1
    · by_cases hbx : b = x
      · subst hbx; rw [hx] at e; exact e ▸ (N₂ (b, instObj 212 dx) (by first | ((repeat (first | exact .head _ | refine .tail _ ?_)); done) | simp)).1
      · by_cases hbd : b = dx
        · subst hbd; rw [hdx] at e; exact e ▸ (N₂ (b, dictOf [⟨hh, .str hdKey tk0, .ref l⟩] n) (by first | ((repeat (first | exact .head _ | refine .tail _ ?_)); done) | simp)).1
        · exact F₂.keep b o (hideAll_get _ e (by simp [hbl, hbx, hbd]))

theorem items_spec {w : World} {mean : ExcName → Option Value} {mg mb : Str → Option Value} {A : Around} {E : Value → Shared → Prop} {s : Shared} {x dx l : Addr} {items : List Value} {Q : Value → Shared → Prop}
    (W : Wd w mean mg mb (hideAll s.heap [x, dx, l])) (hA : A.handled = none) (hroom : A.depth < recursionLimit)
    (S : Shelf s.heap x dx l items) (hsz : items.length ≤ 100)
    (hQ : ∀ h' tk r k, Kept s.heap h' → s.heap.get? r = none → h'.get? r = some (PySem.W.listOf items.toArray k) → Q (.ref r) { s with heap := h', toks := tk }) :
    wpAny (model PR w) A (call (.ref 176) [.ref x]) Q E s := by
  refine' shelf_enter (binds := [(Str.ofString "self", .ref x)]) W S ?ho ?hcd hroom ?hb ?hl ?hc ?hco ?hg ?hk ?_
  case ho => k_is
  case hcd => k_is
  case hb => exact BindsTo.of_eq rfl
  case hl => exact locs rfl
  case hc => decide
  case hco => rfl
  case hg => rfl
  case hk => rfl
  obtain ⟨K, T⟩ := id W
  intro h₁ tk hh tk0 n n' F N hk₁ hkk
  iterate 12 walk1
  rename_i h5 F5 N5
  have z := (N5 _ (List.mem_cons_self ..)).1
  dsimp only at z
  refine hQ h5 _ (h₁.objs.size + 1) 0 (hkk _ _ [_] F5 N5) ?_ ?_
  · cases q : s.heap.get? (h₁.objs.size + 1) with
    | none => rfl
    | some o => exact absurd (Heap.lt_size (hk₁ _ _ q)) (by intro h; exact Nat.lt_irrefl _ (Nat.lt_of_succ_lt h))
  · rw [slicePick_all] at z; exact z
end Mine
end

/-! ## Rb -/
section
theorem Mine.offRb : True := by w_top off; trivial
open PySem PySem.W PySem.Calls PyProof.Rows PyProof.V
set_option Elab.async false
set_option maxRecDepth 100000
namespace Mine
/-- the objects of a list of pairs -/
structure TObjs (h : Heap) (items : List Value) (L : List (Str × Str)) (objs : List (Addr × Obj)) : Prop where
  at_ : ∀ p ∈ objs, h.get? p.1 = some p.2 ∧ p.2.cls = .type "tuple" ∧ ∃ vs n, p.2.data = .seq vs n
  item : ∀ (i : Nat) (v : Value), items[i]? = some v → ∃ (t : Addr) (ot : Obj) (a b : Str) (ta tb : Tok) (nt : Nat), v = Value.ref t ∧ (t, ot) ∈ objs ∧ ot.cls = .type "tuple" ∧ ot.data = .seq #[.str a ta, .str b tb] nt ∧ L[i]? = some (a, b)
theorem Tups.objs {h : Heap} {items : List Value} {L : List (Str × Str)} (T : Tups h items L) : ∃ objs, TObjs h items L objs := by
  induction T with
  | nil => exact ⟨[], ⟨fun p hp => (by cases hp), fun i v e => by simp at e⟩⟩
  | @cons q a b ta tb vs L ht _ ih =>
    obtain ⟨objs, ho⟩ := ih
    obtain ⟨o, e, hc, n, hd⟩ := ht
    refine ⟨(q, o) :: objs, ⟨fun p hp => ?_, fun i v e' => ?_⟩⟩
    · rcases List.mem_cons.mp hp with rfl | hp
      · exact ⟨e, hc, _, n, hd⟩
      · exact ho.at_ p hp
    · cases i with
      | zero =>
        rw [List.getElem?_cons_zero] at e'
        exact ⟨q, o, a, b, ta, tb, n, (Option.some.inj e').symm, List.mem_cons_self .., hc, hd, rfl⟩
      | succ i =>
        rw [List.getElem?_cons_succ] at e'
        obtain ⟨t, ot, a', b', ta', tb', nt, h1, h2, h3, h4, h5⟩ := ho.item i v e'
        exact ⟨t, ot, a', b', ta', tb', nt, h1, List.mem_cons_of_mem _ h2, h3, h4, h5⟩
theorem TObjs.keep {h h' : Heap} {items : List Value} {L : List (Str × Str)} {objs : List (Addr × Obj)} (x : TObjs h items L objs) (k : Kept h h') : TObjs h' items L objs :=
  ⟨fun p hp => ⟨k _ _ (x.at_ p hp).1, (x.at_ p hp).2⟩, x.item⟩
/-- some objects of the base enter the ledger, over a smaller base -/
theorem rebase_in {h₀ h : Heap} {L : Addr} {m : Str → Option Value} {news objs : List (Addr × Obj)} (F : Fr h₀ L h m) (N : News h₀ L h news) (ho : ∀ p ∈ objs, h₀.get? p.1 = some p.2) :
    Fr (hideAll h₀ (objs.map (·.1))) L h m ∧ News (hideAll h₀ (objs.map (·.1))) L h (objs ++ news) := by
  refine ⟨⟨F.ns, fun b o e => F.keep b o (hideAll_in e), by rw [hideAll_size]; exact F.above⟩, fun p hp => ?_⟩
  rcases List.mem_append.mp hp with hp | hp
  · refine ⟨F.keep _ _ (ho p hp), fun e => ?_, hideAll_none _ (List.mem_map.mpr ⟨p, hp, rfl⟩)⟩
    exact absurd (Heap.lt_size (ho p hp)) (by rw [e]; exact Nat.not_lt.mpr F.above)
  · refine ⟨(N p hp).1, (N p hp).2.1, ?_⟩
    cases q : (hideAll h₀ (objs.map (·.1))).get? p.1 with
    | none => rfl
    | some o => have := hideAll_in q; rw [(N p hp).2.2] at this; cases this
theorem rebase_out {h₀ h : Heap} {L : Addr} {m : Str → Option Value} {pre objs : List (Addr × Obj)} (F : Fr (hideAll h₀ (objs.map (·.1))) L h m) (N : News (hideAll h₀ (objs.map (·.1))) L h (pre ++ objs)) (ho : ∀ p ∈ objs, h₀.get? p.1 = some p.2) (hpre : ∀ p ∈ pre, ∀ q ∈ objs, p.1 ≠ q.1) :
    Fr h₀ L h m ∧ News h₀ L h pre := by
  refine ⟨⟨F.ns, fun b o e => ?_, by have := F.above; rw [hideAll_size] at this; exact this⟩, fun p hp => ?_⟩
  · by_cases hb : b ∈ objs.map (·.1)
    · obtain ⟨p, hp, rfl⟩ := List.mem_map.mp hb
      rw [ho p hp] at e
      exact e ▸ (N p (List.mem_append_right _ hp)).1
    · exact F.keep b o (hideAll_get _ e hb)
  · have z := N p (List.mem_append_left _ hp)
    refine ⟨z.1, z.2.1, ?_⟩
    cases q : h₀.get? p.1 with
    | none => rfl
    | some o =>
      have hb : p.1 ∉ objs.map (·.1) := fun hm => by
        obtain ⟨r, hr, e⟩ := List.mem_map.mp hm
        exact hpre p hp r hr e.symm
      have := hideAll_get _ q hb
      rw [z.2.2] at this; cases this
/-- a comprehension over pairs, by what holds between its turns -/
theorem restP_ind {prog : Program} {w : World} {A : Around} {h₀ : Heap} {L : Addr} {m : Str → Option Value} {env : Env} {elt : Expr} {x x₂ : Str} {scope : Scope} {cl : List (Str × Addr)} {s : Shared} {S : List (Addr × Obj) → Prop} {P : Nat → Value → Prop} {Fin : List Value → List (Addr × Obj) → Prop} {news : List (Addr × Obj)}
    (R : Nat → Nat → List Value → Prop) (fin : ∀ i ys, R 0 i ys → Fin ys news)
    (step : ∀ k i ys, R (k + 1) i ys → ∀ v, P i v → ∃ (t : Addr) (ot : Obj) (v₁ v₂ : Value) (nt : Nat), v = .ref t ∧ (t, ot) ∈ news ∧ ot.cls = .type "tuple" ∧ ot.data = .seq #[v₁, v₂] nt ∧
      ∀ I oI C oC D m₂ h tk (E' : Value → Shared → Prop), LCg.NsObj oC m₂ → m₂ x = some v₁ → m₂ x₂ = some v₂ → Fr h₀ L h m → News h₀ L h ((I, oI) :: (C, oC) :: (D, LCg.lst ys) :: news) → LCg.Off3 I C D news → ((@Ne Nat I C) ∧ (@Ne Nat I D) ∧ (@Ne Nat C D)) →
      wpAny (model prog w) A (eval elt (compEnvC scope cl C env)) (LCg.CompEnd h₀ L m { s with heap := h, toks := tk } I oI C oC D (LCg.lst ys) S (fun y news' => news' = news ∧ R k (i + 1) (ys ++ [y]))) E' { s with heap := h, toks := tk }) :
    ∀ k i ys, R k i ys → LCp.CompRestP prog w A h₀ L m env elt x x₂ scope cl s S P Fin k i ys news := by
  intro k
  induction k with
  | zero => intro i ys r; exact LCp.CompRestP.zero (fin i ys r)
  | succ k ih =>
    intro i ys r
    refine LCp.CompRestP.succ fun v hP => ?_
    obtain ⟨t, ot, v₁, v₂, nt, a1, a2, a3, a4, a5⟩ := step k i ys r v hP
    exact ⟨t, ot, v₁, v₂, nt, a1, a2, a3, a4, fun I oI C oC D m₂ h tk E' b1 b2 b3 b4 b5 b6 b7 => wpAny_mono (a5 I oI C oC D m₂ h tk E' b1 b2 b3 b4 b5 b6 b7) (fun y s'' z => compEnd_mono z fun n ⟨e1, r'⟩ => e1 ▸ ih _ _ r') fun _ _ x => x⟩
theorem strs_snoc {vs : List Value} {ys : List Str} (x : StrsAre vs ys) (y : Str) (t : Tok) : StrsAre (vs ++ [.str y t]) (ys ++ [y]) := by
  induction x with
  | nil => exact .cons y t .nil
  | cons z t' _ ih => exact .cons z t' ih
theorem off1_mem {D : Addr} : ∀ {l : List (Addr × Obj)}, LCg.Off1 D l → ∀ p ∈ l, p.1 ≠ D
  | [], _, p, hp => by cases hp
  | q :: r, h, p, hp => by
    rcases List.mem_cons.mp hp with rfl | hp
    · exact h.1
    · exact off1_mem h.2 p hp
end Mine
end

/-! ## K1 -/
section
theorem Mine.offK1 : True := by w_top off; trivial
open PySem PySem.W PySem.Calls PyProof.Rows PyProof.V
set_option Elab.async false
set_option maxRecDepth 100000
namespace Mine
set_option maxHeartbeats 1000000
theorem keys_spec {w : World} {mean : ExcName → Option Value} {mg mb : Str → Option Value} {A : Around} {E : Value → Shared → Prop} {s : Shared} {x dx l : Addr} {items : List Value} {L : List (Str × Str)} {Q : Value → Shared → Prop}
    (W : Wd w mean mg mb (hideAll s.heap [x, dx, l])) (hA : A.handled = none) (hroom : A.depth < recursionLimit)
    (S : Shelf s.heap x dx l items) (hT : Tups s.heap items L) (hsz : L.length ≤ 100)
    (hQ : ∀ h' tk r ys, Kept s.heap h' → s.heap.get? r = none → h'.get? r = some (LCg.lst ys) → StrsAre ys (L.map (·.1)) → Q (.ref r) { s with heap := h', toks := tk }) :
    wpAny (model PR w) A (call (.ref 164) [.ref x]) Q E s := by
  refine' shelf_enter (binds := [(Str.ofString "self", .ref x)]) W S ?ho ?hcd hroom ?hb ?hl ?hc ?hco ?hg ?hk ?_
  case ho => k_is
  case hcd => k_is
  case hb => exact BindsTo.of_eq rfl
  case hl => exact locs rfl
  case hc => decide
  case hco => rfl
  case hg => rfl
  case hk => rfl
  obtain ⟨K, T⟩ := id W
  have hTh := hT.hide S
  obtain ⟨objs, ho⟩ := hTh.objs
  intro h₁ tk hh tk0 n n' F N hk₁ hkk
  walk1
  refine wpAny_Return_some ?_
  obtain ⟨F', N'⟩ := rebase_in F N (fun p hp => (ho.at_ p hp).1)
  refine LCp.ListComp_P (cl := []) F' ?h1 ?h2 ?h3 ?h4 ?h5 ?h6 ?h7 ?_
  case h1 => with_unfolding_all rfl
  case h2 => decide
  case h3 => rfl
  case h4 => decide
  case h5 => rfl
  case h6 => rfl
  case h7 => decide
  clear F' N'
  walk1
  walk1
  walk1
  rename Fr _ _ _ _ => F2
  rename News _ _ _ _ => N2
  obtain ⟨F', N'⟩ := rebase_in F2 N2 (fun p hp => (ho.at_ p hp).1)
  have hlen := hT.length
  have hsz' : items.toArray.size = items.length := by simp
  refine LCp.SrcLP.ledger (ax := l) (its := items.toArray) (k := n') hA F' N' (by first | ((repeat (first | exact .head _ | refine .tail _ ?_)); done) | simp) (Nat.le_trans (by rw [List.size_toArray, hlen]; exact hsz) (by decide)) ?_
  intro g5
  refine restP_ind (fun k i ys => k + i = items.length ∧ StrsAre ys ((L.map (·.1)).take i)) ?_ ?_ _ _ _ ⟨by rw [hsz']; omega, .nil⟩
  · rintro i ys ⟨hi, hys⟩
    intro D h5 tk5 F5 N5 off5
    have hi' : i = items.length := by omega
    have hys' : StrsAre ys (L.map (·.1)) := by
      rw [hi', hlen, List.take_of_length_le (by first | ((repeat (first | exact .head _ | refine .tail _ ?_)); done) | simp)] at hys; exact hys
    have hoff := off5
    have N5' : News (hideAll (hideAll s.heap [x, dx, l]) (objs.map (·.1))) s.heap.objs.size h5 (((D, LCg.lst ys) :: [(x, instObj 212 dx), (dx, dictOf [⟨hh, .str hdKey tk0, .ref l⟩] n), (l, PySem.W.listOf items.toArray n')]) ++ objs) := fun p hp => N5 p (by
      simp only [List.mem_append, List.mem_cons] at hp ⊢
      rcases hp with (h | h | h | h | h) | h <;> repeat (first | exact h | exact .inl h | (refine .inl ?_; (repeat (first | exact h | exact .inl h | refine .inr ?_)); done) | refine .inr ?_))
    have hmem := off1_mem off5
    obtain ⟨F6, N6⟩ := rebase_out F5 N5' (fun p hp => (ho.at_ p hp).1) (fun p hp q hq e => by
      rcases List.mem_cons.mp hp with rfl | hp
      · exact hmem q (List.mem_append_left _ hq) e.symm
      · have a1 := (ho.at_ q hq).1
        rw [← e] at a1
        rw [hideAll_none _ (by
          simp only [List.mem_cons, List.not_mem_nil, or_false] at hp
          rcases hp with rfl | rfl | rfl <;> simp)] at a1
        cases a1)
    refine hQ h5 tk5 D ys (hkk h5 _ [(D, LCg.lst ys)] F6 N6) ?_ (N6 (D, LCg.lst ys) (by first | ((repeat (first | exact .head _ | refine .tail _ ?_)); done) | simp)).1 hys'
    have z := (N6 (D, LCg.lst ys) (by first | ((repeat (first | exact .head _ | refine .tail _ ?_)); done) | simp)).2.2
    cases q : s.heap.get? D with
    | none => rfl
    | some o =>
      have hm : D ∉ [x, dx, l] := fun hm => by
        simp only [List.mem_cons, List.not_mem_nil, or_false] at hm
        rcases hm with h | h | h
        · exact hmem (x, instObj 212 dx) (by first | ((repeat (first | exact .head _ | refine .tail _ ?_)); done) | simp) h.symm
        · exact hmem (dx, dictOf [⟨hh, .str hdKey tk0, .ref l⟩] n) (by first | ((repeat (first | exact .head _ | refine .tail _ ?_)); done) | simp) h.symm
        · exact hmem (l, PySem.W.listOf items.toArray n') (by first | ((repeat (first | exact .head _ | refine .tail _ ?_)); done) | simp) h.symm
      have := hideAll_get _ q hm
      rw [z] at this; cases this
  · rintro k i ys ⟨hi, hys⟩ v hP
    have hP' : items[i]? = some v := by simpa using hP
    obtain ⟨t, ot, a, b, ta, tb, nt, h1, h2, h3, h4, h5⟩ := ho.item i v hP'
    refine ⟨t, ot, _, _, nt, h1, List.mem_append_left _ h2, h3, h4, ?_⟩
    intro I oI C oC D m₂ h tk5 E' hC hm1 hm2 F5 N5 hoff hne
    refine LCgL.ld_own N5 (by first | ((repeat (first | exact .head _ | refine .tail _ ?_)); done) | simp) hC hm1 ?_
    refine LCg.CompEnd.intro F5 N5 _ (fun p hp => hp) hoff (.inr ⟨PySem.W.listOf items.toArray n', by simp, rfl, n', rfl⟩) ⟨rfl, by omega, ?_⟩
    rw [List.take_add_one, List.getElem?_map, h5]
    exact strs_snoc hys a ta
end Mine
end

/-! ## It -/
section
theorem Mine.offIt : True := by w_top off; trivial
open PySem PySem.W PySem.Calls PyProof.Rows PyProof.V
set_option Elab.async false
set_option maxRecDepth 100000
namespace Mine
section
variable {prog : Program} {w : World} {A : Around} {E : Value → Shared → Prop} {s : Shared} {env : Env} {h₀ : Heap} {m₀ : Str → Option Value} {news : List (Addr × Obj)} {r : Addr} {n : Nat} {t u v : Tok} {x : Str} {body : List Stmt} {Q : Flow → Shared → Prop}
theorem Iter_rng (hh : A.handled = none) (hr : IsRange s.heap r 0 n 1 t u v) (hn : n ≤ 1000)
    (F : Fr h₀ env.locals s.heap m₀) (N : News h₀ env.locals s.heap news)
    (J : Nat → (Str → Option Value) → List (Addr × Obj) → Prop) (h0 : J 0 m₀ news)
    (turn : ∀ i t m₁ news₁ s₁ own, i < n → J i m₁ news₁ → (∀ p ∈ news₁, p.1 ≠ s.heap.objs.size) → (∀ p ∈ own, p.1 = s.heap.objs.size) → (∃ oI : Obj, (s.heap.objs.size, oI) ∈ own ∧ oI.cls = .type "range_iterator") →
      Fr h₀ env.locals s₁.heap (fun y => if y = x then some (.int i t) else m₁ y) → News h₀ env.locals s₁.heap (own ++ news₁) →
      wpAny (model prog w) A (execs body env) (LoopStepU h₀ env.locals [s.heap.objs.size] own (J (i + 1)) s₁) E s₁)
    (done : ∀ h' tk m' news', Fr h₀ env.locals h' m' → News h₀ env.locals h' news' → J n m' news' → Q .next { s with heap := h', toks := tk }) :
    wpAny (model prog w) A (pyIter (.ref r)) (fun it s₂ => LoopAtU prog w A h₀ env x body Q E it s₂) E s := by
  refine wpAny_pyIter_range hr (small_one (by decide) (by decide) (by omega) (by omega)) ?_
  have hrs : Builtin.Range.rangeSize 0 n 1 = n := by rw [rangeSize_one]; split <;> omega
  refine ⟨s.heap.objs.size, _, _, n, _, _, m₀, news, J, rfl, Walks.range hh _ 0 1 n, ?_, ?_, ?_, ?_, F.push _, fun p hp => ⟨Heap.get?_push_of_some _ (N p hp).1, (N p hp).2⟩, h0, ?_, ?_⟩
  · intro hm
    exact absurd F.ns.lt ((List.mem_singleton.mp hm) ▸ Nat.lt_irrefl _)
  · intro b hb
    rw [List.mem_singleton.mp hb]
    exact next_is_new F
  · intro p hp hI
    exact absurd (Heap.lt_size (N p hp).1) ((List.mem_singleton.mp hI) ▸ Nat.lt_irrefl _)
  · show IsRangeIter _ _ _ _ _
    rw [hrs]
    simpa using Heap.get?_push_size _ rfl
  · rintro i v' m₁ news₁ s₁ own hi ⟨t', rfl⟩ hJ hnw hown hat hall hst F₁ N₁
    have e1 : (0 + (i : Int) * 1) = (i : Int) := by omega
    rw [e1] at F₁
    exact turn i t' m₁ news₁ s₁ own hi hJ (fun p hp e => hnw p hp (List.mem_singleton.mpr e)) (fun p hp => List.mem_singleton.mp (hown p hp)) ⟨_, hall _ (List.mem_singleton.mpr rfl) (next_is_new F) _ hst, rfl⟩ F₁ N₁
  · intro h' tk m' news' F' N' _ hJ
    exact done h' tk m' news' F' N' hJ
end
theorem news_ins {h₀ h h' : Heap} {L : Addr} {m : Str → Option Value} {news objs : List (Addr × Obj)} (F : Fr h₀ L h m) (N : News h₀ L h news) (k : Kept h h') (ho : ∀ p ∈ objs, h.get? p.1 = none ∧ h'.get? p.1 = some p.2) : News h₀ L h' (objs ++ news) := by
  intro p hp
  rcases List.mem_append.mp hp with hp | hp
  · exact news_in F N k (ho p hp).1 (ho p hp).2 p (List.mem_cons_self ..)
  · exact news_ext N k p hp
end Mine
end

/-! ## It2 -/
section
theorem Mine.offIt2 : True := by w_top off; trivial
open PySem PySem.W PySem.Calls PyProof.Rows PyProof.V
set_option Elab.async false
set_option maxRecDepth 100000
namespace Mine
section
variable {w : World} {A : Around} {E : Value → Shared → Prop} {s : Shared} {env : Env} {h₀ : Heap} {m₀ : Str → Option Value} {news : List (Addr × Obj)} {d vw : Addr} {D : List (Str × Int)} {xk xv : Str} {body : List Stmt} {pk pv tp : Pos} {kk : Nat} {Q : Flow → Shared → Prop}
theorem Iter_items2 (hh : A.handled = none) (hxk : env.kindOf xk = some .local) (hxv : env.kindOf xv = some .local)
    (hp : (env.scope.kind == .class || (env.scope.kind == .module && env.locals != env.globals)) = false)
    (hvw : ∃ ov, s.heap.get? vw = some ov ∧ ov.cls = .type "dict_items" ∧ ov.data = .fields #[.ref d]) (T : StrTab PR w s.heap d (tb D)) (hdL : d ≠ env.locals)
    (F : Fr h₀ env.locals s.heap m₀) (N : News h₀ env.locals s.heap news)
    (J : Nat → (Str → Option Value) → List (Addr × Obj) → Prop) (h0 : J 0 m₀ news)
    (turn : ∀ i k c tk t m₁ news₁ h₁ tk₁ own I, D[i]? = some (k, c) → J i m₁ news₁ → (∀ p ∈ news₁, p.1 ≠ I) → (∀ p ∈ own, p.1 = I ∨ p.1 = d) → (∃ oI : Obj, (I, oI) ∈ own) →
      Fr h₀ env.locals h₁ (fun y => if y = xv then some (.int c t) else if y = xk then some (.str k tk) else m₁ y) → News h₀ env.locals h₁ (own ++ news₁) →
      wpAny (model PR w) A (execs body env) (LoopStepU h₀ env.locals [I] own (J (i + 1)) { s with heap := h₁, toks := tk₁ }) E { s with heap := h₁, toks := tk₁ })
    (done : ∀ h' tk m' news', Fr h₀ env.locals h' m' → News h₀ env.locals h' news' → J D.length m' news' → Q .next { s with heap := h', toks := tk }) :
    wpAny (model PR w) A (pyIter (.ref vw)) (fun it s₂ => TurnsAt PR w A h₀ env (.Tuple [.Name xk pk, .Name xv pv] kk tp) body Q E it s₂) E s := by
  obtain ⟨lo, kvs, hdo, hf⟩ := id T
  obtain ⟨ep, hat⟩ := hdo.dictAt
  refine wpAny_pyIter_items (knd := strKind PR w) (d := d) (kvs := kvs) (ep := ep) hvw hat ?_
  have hne : d ≠ s.heap.objs.size := Nat.ne_of_lt hat.lt_size
  have hlen : D.length = kvs.length := by rw [← hf.length, tb_length]
  refine ⟨s.heap.objs.size, _, _, _, _, _, _, m₀, news, J, rfl, kti_itemsTurns (knd := strKind PR w) hh s.heap.objs.size d hne kvs ep, ?_, ?_, ?_, ?_, F.push _, fun p hp => ⟨Heap.get?_push_of_some _ (N p hp).1, (N p hp).2⟩, h0, ?_, ?_⟩
  · intro hm
    rcases List.mem_cons.mp hm with e | hm
    · exact absurd F.ns.lt (e ▸ Nat.lt_irrefl _)
    · exact hdL (List.mem_singleton.mp hm).symm
  · intro b hb
    rw [List.mem_singleton.mp hb]
    exact next_is_new F
  · intro p hp hI
    exact absurd (Heap.lt_size (N p hp).1) ((List.mem_singleton.mp hI) ▸ Nat.lt_irrefl _)
  · exact ⟨⟨_, _, Heap.get?_push_size _ rfl⟩, hat.push _⟩
  · rintro i v m₁ news₁ h₁ tk₁ own hi ⟨Tq, key, k, x, rfl, hx, hkey, hq⟩ hJ hnw hown hatN hall hst F₁ N₁
    obtain ⟨dv, hDi, _, hfl⟩ := hf.lookup_at same_str hat.nodup hx
    obtain ⟨x', c, hxi, hk, rfl⟩ := tb_get hDi
    cases hk
    obtain ⟨t, rfl⟩ := Flat.int_inv hfl
    obtain ⟨tk, rfl⟩ := Value.isStrOf_shape hkey
    refine kcp_assign hh hq hxk hxv hp F₁.ns ?_
    intro h₂ tk₂ hn₂ hk₂
    have hL₀ : ∀ b o, h₀.get? b = some o → b ≠ env.locals := fun b o e q => absurd (Heap.lt_size e) (by rw [q]; exact Nat.not_lt.mpr F₁.above)
    have F₂ : Fr h₀ env.locals h₂ (fun y => if y = xv then some (.int c t) else if y = xk then some (.str k tk) else m₁ y) := ⟨hn₂, fun b o e => hk₂ b o (hL₀ b o e) (F₁.keep b o e), F₁.above⟩
    have N₂ : News h₀ env.locals h₂ (own ++ news₁) := fun p hp => ⟨hk₂ _ _ (N₁ p hp).2.1 (N₁ p hp).1, (N₁ p hp).2⟩
    obtain ⟨⟨ok, ov, hIt⟩, _⟩ := hst
    refine wpAny_mono (turn i k c tk t m₁ news₁ h₂ tk₂ own s.heap.objs.size hxi hJ (fun p hp e => hnw p hp (List.mem_singleton.mpr e)) (fun p hp => ?_) ⟨_, hall _ (List.mem_cons_self ..) (next_is_new F) _ hIt⟩ F₂ N₂) ?_ fun _ _ e => e
    · rcases List.mem_cons.mp (hown p hp) with e | e
      · exact .inl e
      · exact .inr (List.mem_singleton.mp e)
    · rintro fl s' ⟨rfl, h', tk', m', nw', rfl, F', N', ha', hJ'⟩
      exact LoopStepU.intro F' N' ha' hJ'
  · intro h' tk m' news' F' N' _ hJ
    exact done h' tk m' news' F' N' (hlen ▸ hJ)
end
end Mine
end

/-! ## Pu -/
section
theorem Mine.offPu : True := by w_top off; trivial
open PySem PySem.W PySem.Calls PyProof.Rows PyProof.V
set_option Elab.async false
set_option maxRecDepth 100000
namespace Mine
/-! what the shelf and the table hold, as plain lists -/
noncomputable def posR (lo hi x : Int) : Nat := if x < lo then 0 else if x < hi then 1 else 2
theorem posR_lt (lo hi x : Int) : posR lo hi x < 3 := by unfold posR; split <;> (try split) <;> omega
theorem posR_of {lo hi x : Int} {i : Nat} (hle : lo ≤ hi) (h : AtR [lo, hi] x i) : i = posR lo hi x := by
  obtain ⟨h1, h2, h3⟩ := h
  have hl : [lo, hi].length = 2 := rfl
  rw [hl] at h1 h3
  unfold posR
  rcases i with _ | _ | _ | i
  · have := h3 0 (by omega) (by omega)
    simp at this
    rw [if_pos this]
  · have a := h2 0 (by omega)
    have b := h3 1 (by omega) (by omega)
    simp at a b
    rw [if_neg (by omega), if_pos b]
  · have a := h2 0 (by omega)
    have b := h2 1 (by omega)
    simp at a b
    rw [if_neg (by omega), if_neg (by omega)]
  · omega
noncomputable def bk : Nat → Str
  | 0 => Str.ofString "a"
  | 1 => Str.ofString "b"
  | _ => Str.ofString "c"
noncomputable def bkU : Nat → Str
  | 0 => Str.ofString "A"
  | 1 => Str.ofString "B"
  | _ => Str.ofString "C"
noncomputable def nmOf (k i : Nat) : Str := if k % 2 = 0 then bk i else bkU i
theorem bk_len : ∀ i, (bk i).length = 1
  | 0 => rfl
  | 1 => rfl
  | _ + 2 => rfl
theorem nm_len (k i : Nat) : (nmOf k i).length = 1 := by
  unfold nmOf; split
  · exact bk_len i
  · match i with
    | 0 => rfl
    | 1 => rfl
    | _ + 2 => rfl
noncomputable def serveL (T : Nat → Str) (lo hi : Int) (ns : List Int) : Nat → List (Str × Str)
  | 0 => []
  | k + 1 => (serveL T lo hi ns k).filter (keepP (nmOf k (posR lo hi (ns.getD k 0)))) ++ [(nmOf k (posR lo hi (ns.getD k 0)), T k)]
/-- 1 + abs -/
noncomputable def wt (x : Int) : Int := 1 + if x < 0 then -x else x
noncomputable def serveD (lo hi : Int) (ns : List Int) : Nat → List (Str × Int)
  | 0 => []
  | k + 1 => merge (serveD lo hi ns k) [(bk (posR lo hi (ns.getD k 0)), wt (ns.getD k 0))]
theorem serveL_len (T : Nat → Str) (lo hi : Int) (ns : List Int) : ∀ k, (serveL T lo hi ns k).length ≤ k
  | 0 => Nat.le_refl _
  | k + 1 => by
    have := serveL_len T lo hi ns k
    have h2 := List.length_filter_le (keepP (nmOf k (posR lo hi (ns.getD k 0)))) (serveL T lo hi ns k)
    simp only [serveL, List.length_append, List.length_singleton]; omega
theorem serveL_nm (T : Nat → Str) (lo hi : Int) (ns : List Int) : ∀ k, ∀ p ∈ serveL T lo hi ns k, p.1.length ≤ 100
  | 0, p, hp => by cases hp
  | k + 1, p, hp => by
    rcases List.mem_append.mp hp with h | h
    · exact serveL_nm T lo hi ns k p (List.mem_filter.mp h).1
    · rw [List.mem_singleton.mp h]
      show (nmOf _ _).length ≤ 100
      rw [nm_len]; decide
theorem merge_len (D1 D2 : List (Str × Int)) : (merge D1 D2).length ≤ D1.length + D2.length := by
  unfold merge
  have h1 := foldl_len (f := addTo) (fun D p => put_length D p.1 _) D2 (D1.foldl putTo [])
  have h2 := foldl_len (f := putTo) (fun D p => put_length D p.1 p.2) D1 []
  simp at h2; omega
theorem serveD_len (lo hi : Int) (ns : List Int) : ∀ k, (serveD lo hi ns k).length ≤ k
  | 0 => Nat.le_refl _
  | k + 1 => by
    have := serveD_len lo hi ns k
    have h2 := merge_len (serveD lo hi ns k) [(bk (posR lo hi (ns.getD k 0)), wt (ns.getD k 0))]
    simp only [List.length_singleton] at h2
    simp only [serveD]; omega
theorem item_abc {j : Nat} (h : j < 3) : Txt.item (Str.ofString "abc") (j : Int) = bk j := by
  rcases j with _ | _ | _ | j
  · decide +kernel
  · decide +kernel
  · decide +kernel
  · omega
theorem up_bk {j : Nat} (h : j < 3) : Txt.upper (bk j) = bkU j := by
  rcases j with _ | _ | _ | j
  · decide +kernel
  · decide +kernel
  · decide +kernel
  · omega
end Mine
end

/-! ## Sh -/
section
theorem Mine.offSh : True := by w_top off; trivial
open PySem PySem.W PySem.Calls PyProof.Rows PyProof.V
set_option Elab.async false
set_option maxRecDepth 100000
namespace Mine
set_option maxHeartbeats 1000000
theorem setItem_K {M : Model} {A : Around} {E : Value → Shared → Prop} {s : Shared} {K : Frag} {x C L f : Addr} {h₀ : Heap} {m : Str → Option Value} {ox : Obj} {od : Option Obj} {v y : Value} {Q : Unit → Shared → Prop} (F : Fr h₀ L s.heap m) (X₀ : K.In h₀) (I : InstAt s.heap x ox C od) (hq : noSeq K C = true) (hs : findIn K (.ref C) "__setitem__" = some (some (.ref f))) (hf : isFn K (.ref f) = true)
    (h : wpAny M A (call (.ref f) [.ref x, v, y]) (fun _ => Q ()) E s) : wpAny M A (setItem (.ref x) v y) Q E s := by
  have X := X₀.keeps F.keep
  unfold setItem sequenceKey
  refine wpAny_holding (wpAny_bind (wpAny_bind (I.type.here ?_)))
  refine wpAny_bind ((anyM_none X hq).here ?_)
  rw [if_pos (show (!false) = true from rfl)]
  exact wpAny_pure (wpAny_bind (special_fn X I hs (beq_iff_eq.mp hf) (wpAny_mono h (fun _ _ z => wpAny_pure z) fun _ _ z => z)))
/-- the pairs are in the ledger -/
structure TL (objs : List (Addr × Obj)) (items : List Value) (L : List (Str × Str)) : Prop where
  len : items.length = L.length
  cls : ∀ p ∈ objs, p.2.cls = .type "tuple"
  item : ∀ (i : Nat) (v : Value), items[i]? = some v → ∃ (t : Addr) (ot : Obj) (a b : Str) (ta tb : Tok) (nt : Nat), v = Value.ref t ∧ (t, ot) ∈ objs ∧ ot.cls = .type "tuple" ∧ ot.data = .seq #[.str a ta, .str b tb] nt ∧ L[i]? = some (a, b)
theorem TL.nil : TL [] [] [] := ⟨rfl, fun _ h => (by cases h), fun i v e => (by simp at e)⟩
theorem tups_of {h : Heap} : ∀ {items : List Value} {L : List (Str × Str)}, items.length = L.length → (∀ (i : Nat) (v : Value), items[i]? = some v → ∃ (t : Addr) (a b : Str) (ta tb : Tok), v = Value.ref t ∧ h.IsTuple t #[.str a ta, .str b tb] ∧ L[i]? = some (a, b)) → Tups h items L
  | [], [], _, _ => .nil
  | [], _ :: _, e, _ => by cases e
  | _ :: _, [], e, _ => by cases e
  | v :: vs, p :: L, e, hi => by
    obtain ⟨t, a, b, ta, tb, rfl, ht, hL⟩ := hi 0 v rfl
    rw [List.getElem?_cons_zero] at hL
    cases hL
    exact .cons ht (tups_of (by simpa using e) fun i v' e' => by
      have := hi (i + 1) v' (by simpa using e')
      simpa using this)
theorem TL.tups {h : Heap} {objs : List (Addr × Obj)} {items : List Value} {L : List (Str × Str)} (x : TL objs items L) (ho : ∀ p ∈ objs, h.get? p.1 = some p.2) : Tups h items L :=
  tups_of x.len fun i v e => by
    obtain ⟨t, ot, a, b, ta, tb, nt, h1, h2, h3, h4, h5⟩ := x.item i v e
    exact ⟨t, a, b, ta, tb, h1, ⟨ot, ho _ h2, h3, nt, h4⟩, h5⟩
/-- the objects of a list of pairs, each a pair of the list -/
theorem Tups.tl {h : Heap} {items : List Value} {L : List (Str × Str)} (T : Tups h items L) : ∃ objs, TL objs items L ∧ ∀ p ∈ objs, h.get? p.1 = some p.2 ∧ Value.ref p.1 ∈ items := by
  induction T with
  | nil => exact ⟨[], TL.nil, fun _ h => by cases h⟩
  | @cons q a b ta tb vs L ht _ ih =>
    obtain ⟨objs, hT, ho⟩ := ih
    obtain ⟨o, e, hc, n, hd⟩ := ht
    refine ⟨(q, o) :: objs, ⟨by simp [hT.len], fun p hp => ?_, fun i v e' => ?_⟩, fun p hp => ?_⟩
    · rcases List.mem_cons.mp hp with rfl | hp
      · exact hc
      · exact hT.cls p hp
    · cases i with
      | zero =>
        rw [List.getElem?_cons_zero] at e'
        exact ⟨q, o, a, b, ta, tb, n, (Option.some.inj e').symm, List.mem_cons_self .., hc, hd, rfl⟩
      | succ i =>
        rw [List.getElem?_cons_succ] at e'
        obtain ⟨t, ot, a', b', ta', tb', nt, h1, h2, h3, h4, h5⟩ := hT.item i v e'
        exact ⟨t, ot, a', b', ta', tb', nt, h1, List.mem_cons_of_mem _ h2, h3, h4, h5⟩
    · rcases List.mem_cons.mp hp with rfl | hp
      · exact ⟨e, List.mem_cons_self ..⟩
      · exact ⟨(ho p hp).1, List.mem_cons_of_mem _ (ho p hp).2⟩
/-- a ledger with a shelf, after an item was set on the shelf -/
theorem shelf_turn {h₀ h h' : Heap} {L x dx l : Addr} {m : Str → Option Value} {pre objs : List (Addr × Obj)} {e : DictEntry} {n n' : Nat} {items ys : List Value} {L0 L' : List (Str × Str)}
    (F : Fr h₀ L h m) (N : News h₀ L h (pre ++ (x, instObj 212 dx) :: (dx, dictOf [e] n) :: (l, PySem.W.listOf items.toArray n') :: objs)) (hT : TL objs items L0) (hpre : ∀ p ∈ pre, p.1 ≠ l) (hxl : x ≠ l) (hdl : dx ≠ l)
    (hk : Kept (h.hide l) h') (S' : Shelf h' x dx l ys) (T' : Tups h' ys L') (hfr : ∀ v ∈ ys, v ∈ items ∨ ∃ q, v = .ref q ∧ h.get? q = none) :
    ∃ k objs', Fr h₀ L h' m ∧ News h₀ L h' (pre ++ (x, instObj 212 dx) :: (dx, dictOf [e] n) :: (l, PySem.W.listOf ys.toArray k) :: objs') ∧ TL objs' ys L' := by
  obtain ⟨k, hl'⟩ := S'.hl
  obtain ⟨objs', hT', ho'⟩ := T'.tl
  have zl := N (l, PySem.W.listOf items.toArray n') (by first | ((repeat (first | exact .head _ | refine .tail _ ?_)); done) | simp)
  refine ⟨k, objs', fr_turn F zl.2.1 zl.2.2 hk, fun p hp => ?_, hT'⟩
  rcases List.mem_append.mp hp with hp | hp
  · have z := N p (List.mem_append_left _ hp)
    exact ⟨at_turn hk z.1 (hpre p hp), z.2⟩
  · rcases List.mem_cons.mp hp with rfl | hp
    · have z := N (x, instObj 212 dx) (by first | ((repeat (first | exact .head _ | refine .tail _ ?_)); done) | simp)
      exact ⟨at_turn hk z.1 hxl, z.2⟩
    · rcases List.mem_cons.mp hp with rfl | hp
      · have z := N (dx, dictOf [e] n) (by first | ((repeat (first | exact .head _ | refine .tail _ ?_)); done) | simp)
        exact ⟨at_turn hk z.1 hdl, z.2⟩
      · rcases List.mem_cons.mp hp with rfl | hp
        · exact ⟨hl', zl.2⟩
        · obtain ⟨h1, h2⟩ := ho' p hp
          refine ⟨h1, ?_⟩
          rcases hfr _ h2 with hi | ⟨q, e1, e2⟩
          · obtain ⟨i, hi⟩ := List.getElem?_of_mem hi
            obtain ⟨t, ot, a, b, ta, tb, nt, q1, q2, _⟩ := hT.item i _ hi
            have : p.1 = t := Value.ref.inj q1
            have z := N (t, ot) (by simp [q2])
            rw [this]; exact z.2
          · have : p.1 = q := Value.ref.inj e1
            rw [this]
            refine ⟨fun eL => ?_, ?_⟩
            · obtain ⟨oL, _, _, hL, _⟩ := F.ns
              rw [eL, hL] at e2; cases e2
            · cases r : h₀.get? q with
              | none => rfl
              | some o => rw [F.keep _ _ r] at e2; cases e2
theorem OD.cls {w : World} {o : Obj} {D : List (Str × Int)} (O : OD w o D) : o.cls = .type "dict" := by
  obtain ⟨_, ⟨_, _, h, _⟩, _⟩ := O
  exact h.1
noncomputable def dec (k : Nat) : Str := Str.ofString (toString (k : Int))
theorem ok_bk {w : World} {j : Nat} (h : j < 3) : Ok w (bk j) := by
  rcases j with _ | _ | _ | j
  · exact fun S t => ⟨by kernel_rfl, by kernel_rfl⟩
  · exact fun S t => ⟨by kernel_rfl, by kernel_rfl⟩
  · exact fun S t => ⟨by kernel_rfl, by kernel_rfl⟩
  · omega
theorem ok_bkU {w : World} {j : Nat} (h : j < 3) : Ok w (bkU j) := by
  rcases j with _ | _ | _ | j
  · exact fun S t => ⟨by kernel_rfl, by kernel_rfl⟩
  · exact fun S t => ⟨by kernel_rfl, by kernel_rfl⟩
  · exact fun S t => ⟨by kernel_rfl, by kernel_rfl⟩
  · omega
theorem low_bk {j : Nat} (h : j < 3) : Txt.lower (bk j) = bk j := by
  rcases j with _ | _ | _ | j
  · decide +kernel
  · decide +kernel
  · decide +kernel
  · omega
theorem low_bkU {j : Nat} (h : j < 3) : Txt.lower (bkU j) = bk j := by
  rcases j with _ | _ | _ | j
  · decide +kernel
  · decide +kernel
  · decide +kernel
  · omega
theorem low_nm {i j : Nat} (h : j < 3) : Txt.lower (nmOf i j) = bk j := by unfold nmOf; split; exact low_bk h; exact low_bkU h
theorem ok_nm {w : World} {i j : Nat} (h : j < 3) : Ok w (nmOf i j) := by unfold nmOf; split; exact ok_bk h; exact ok_bkU h
theorem ok_dec {w : World} {k : Nat} (h : k < 8) : Ok w (dec k) := by
  rcases k with _ | _ | _ | _ | _ | _ | _ | _ | k
  · exact fun S t => ⟨by kernel_rfl, by kernel_rfl⟩
  · exact fun S t => ⟨by kernel_rfl, by kernel_rfl⟩
  · exact fun S t => ⟨by kernel_rfl, by kernel_rfl⟩
  · exact fun S t => ⟨by kernel_rfl, by kernel_rfl⟩
  · exact fun S t => ⟨by kernel_rfl, by kernel_rfl⟩
  · exact fun S t => ⟨by kernel_rfl, by kernel_rfl⟩
  · exact fun S t => ⟨by kernel_rfl, by kernel_rfl⟩
  · exact fun S t => ⟨by kernel_rfl, by kernel_rfl⟩
  · omega
theorem set_turn {w : World} {mean : ExcName → Option Value} {mg mb : Str → Option Value} {A : Around} {E : Value → Shared → Prop} {s : Shared} {h₀ : Heap} {Lx x dx l : Addr} {m : Str → Option Value} {pre objs : List (Addr × Obj)} {hh : Int} {tk0 t tv : Tok} {n n' : Nat} {items : List Value} {L0 : List (Str × Str)} {nm vl : Str} {Q : Unit → Shared → Prop}
    (W : Wd w mean mg mb h₀) (hA : A.handled = none) (hroom : A.depth + 2 < recursionLimit) (F : Fr h₀ Lx s.heap m)
    (N : News h₀ Lx s.heap (pre ++ (x, instObj 212 dx) :: (dx, dictOf [⟨hh, .str hdKey tk0, .ref l⟩] n) :: (l, PySem.W.listOf items.toArray n') :: objs)) (hT : TL objs items L0) (hpre : ∀ p ∈ pre, p.1 ≠ l)
    (hsz : L0.length ≤ 90) (hn1 : nm.length ≤ 100) (hn2 : Ok w (Txt.lower nm)) (hn4 : Ok w nm) (hv : Ok w vl) (hn3 : ∀ p ∈ L0, p.1.length ≤ 100)
    (hQ : ∀ h' tk ys k objs', Fr h₀ Lx h' m → News h₀ Lx h' (pre ++ (x, instObj 212 dx) :: (dx, dictOf [⟨hh, .str hdKey tk0, .ref l⟩] n) :: (l, PySem.W.listOf ys.toArray k) :: objs') → TL objs' ys (L0.filter (keepP nm) ++ [(nm, vl)]) → Q () { s with heap := h', toks := tk }) :
    wpAny (model PR w) A (setItem (.ref x) (.str nm t) (.str vl tv)) Q E s := by
  obtain ⟨K, T⟩ := id W
  have zx := N (x, instObj 212 dx) (by first | ((repeat (first | exact .head _ | refine .tail _ ?_)); done) | simp)
  have zd := N (dx, dictOf [⟨hh, .str hdKey tk0, .ref l⟩] n) (by first | ((repeat (first | exact .head _ | refine .tail _ ?_)); done) | simp)
  have zl := N (l, PySem.W.listOf items.toArray n') (by first | ((repeat (first | exact .head _ | refine .tail _ ?_)); done) | simp)
  have hxl : x ≠ l := fun e => by have a := zx.1; have b := zl.1; rw [show (x, instObj 212 dx).1 = l from e, b] at a; cases a
  have hdl : dx ≠ l := fun e => by
    have a := zd.1
    have b := zl.1
    rw [show (dx, dictOf [⟨hh, .str hdKey tk0, .ref l⟩] n).1 = l from e, b] at a
    injection a with a
    injection a with hc
    exact absurd (Value.type.inj hc) (by decide)
  have I5 : InstAt s.heap x (instObj 212 dx) 212 (some (dictOf [⟨hh, .str hdKey tk0, .ref l⟩] n)) := ⟨zx.1, rfl, rfl, zd.1⟩
  refine' setItem_K F K I5 ?hi ?h1 ?h2 ?_
  case hi => k_is
  case h1 => k_is
  case h2 => k_is
  have W' : Wd w mean mg mb (hideAll s.heap [x, dx, l]) := W.keeps fun b o e => hideAll_get _ (F.keep b o e) (fun hm => by
    simp only [List.mem_cons, List.not_mem_nil, or_false] at hm
    rcases hm with rfl | rfl | rfl
    · rw [zx.2.2] at e; cases e
    · rw [zd.2.2] at e; cases e
    · rw [zl.2.2] at e; cases e)
  refine set_spec W' hA hroom ⟨zx.1, ⟨hh, tk0, n, zd.1⟩, n', zl.1⟩ (hT.tups fun p hp => (N p (by first | ((repeat (first | exact hp | refine .tail _ ?_)); done) | simp [hp])).1) hsz hn1 hn2 hn4 hv hn3 ?_
  intro h' tk ys hk S' T' hfr
  obtain ⟨k, objs', F', N', hT'⟩ := shelf_turn F N hT hpre hxl hdl hk S' T' hfr
  exact hQ h' tk ys k objs' F' N' hT'
theorem wd_shelf {w : World} {mean : ExcName → Option Value} {mg mb : Str → Option Value} {h₀ h : Heap} {L : Addr} {m : Str → Option Value} {news : List (Addr × Obj)} (W : Wd w mean mg mb h₀) (F : Fr h₀ L h m) (N : News h₀ L h news) {ls : List Addr} (hl : ∀ a ∈ ls, ∃ o, (a, o) ∈ news) : Wd w mean mg mb (hideAll h ls) :=
  W.keeps fun b o e => hideAll_get _ (F.keep b o e) fun hm => by
    obtain ⟨ob, hb⟩ := hl b hm
    have := (N _ hb).2.2
    rw [show (b, ob).1 = b from rfl] at this
    rw [this] at e; cases e
/-- a thing of the ledger is new to the base -/
theorem news_none {h₀ h : Heap} {L : Addr} {news : List (Addr × Obj)} (N : News h₀ L h news) {a : Addr} {o : Obj} (hm : (a, o) ∈ news) : h₀.get? a = none := (N _ hm).2.2
end Mine
end

/-! ## S1 -/
section
theorem Mine.offS1 : True := by w_top off; trivial
open PySem PySem.W PySem.Calls PyProof.Rows PyProof.V
set_option Elab.async false
set_option maxRecDepth 100000
namespace Mine
set_option maxHeartbeats 1000000

local macro_rules | `(tactic| walk_at "eval Name") => `(tactic| (k_here; k_dflt (refine' ld ?k1 ?k2 ?_; (case k1 => k_asm); (case k2 => repeat (first | assumption | refine (if_neg (by decide)).trans ?_)); k_whole)))

theorem serve_spec {w : World} {mean : ExcName → Option Value} {mg mb : Str → Option Value} {A : Around} {E : Value → Shared → Prop} {s : Shared} {bl rl : Addr} {bv rv : List Value} {lo hi : Int} {ns : List Int} {Q : Value → Shared → Prop}
    (W : Wd w mean mg mb s.heap) (hA : A.handled = none) (hroom : A.depth + 5 < recursionLimit) (hb : s.heap.IsList bl bv.toArray) (hbi : IntsAre bv [lo, hi]) (hle : lo ≤ hi) (hr : s.heap.IsList rl rv.toArray) (hri : IntsAre rv ns) (hn : ns.length = 8)
    (hQ : ∀ h' tk r il d items k, Kept s.heap h' → s.heap.get? r = none → s.heap.get? il = none → s.heap.get? d = none → IsTup h' r #[.ref il, .ref d] → h'.get? il = some (PySem.W.listOf items.toArray k) → Tups h' items (serveL dec lo hi ns 8) → (∀ v ∈ items, ∃ q, v = .ref q ∧ s.heap.get? q = none) →
      StrTab PR w h' d (tb (serveD lo hi ns 8)) → Q (.ref r) { s with heap := h', toks := tk }) :
    wpAny (model PR w) A (call (.ref 223) [.ref bl, .ref rl]) Q E s := by
  obtain ⟨K, T⟩ := id W
  refine' enter_def (binds := [(Str.ofString "bounds", .ref bl), (Str.ofString "readers", .ref rl)]) W ?ho ?hcd ?hr ?hb ?hl ?hc ?hco ?hg ?hk ?_
  case hr => omega
  case ho => k_is
  case hcd => k_is
  case hb => exact BindsTo.of_eq rfl
  case hl => exact locs rfl
  case hc => decide
  case hco => rfl
  case hg => rfl
  case hk => rfl
  have hso : Sorted [lo, hi] := by
    intro i j hij hj
    have hl : [lo, hi].length = 2 := rfl
    rw [hl] at hj
    rcases i with _ | _ | i <;> rcases j with _ | _ | j <;> simp <;> omega
  intro h₁ tk F
  have N : News s.heap s.heap.objs.size h₁ [] := News.nil
  iterate 5 walk1
  refine make0_spec (W.keeps F.keep) hA ?_ ?_
  · show A.depth + 1 + 2 < _; omega
  intro h₂ tk₂ x dx l hk₂ S₂ nx ndx nl
  obtain ⟨hx, ⟨hh, tk0, n, hdx⟩, n', hl⟩ := id S₂
  have F₂ := fr_ext F hk₂
  have N₂ := news_ins (objs := [(x, instObj 212 dx), (dx, dictOf [⟨hh, .str hdKey tk0, .ref l⟩] n), (l, PySem.W.listOf ([] : List Value).toArray n')]) F N hk₂ (by
    intro p hp
    simp only [List.mem_cons, List.not_mem_nil, or_false] at hp
    rcases hp with rfl | rfl | rfl
    · exact ⟨nx, hx⟩
    · exact ⟨ndx, hdx⟩
    · exact ⟨nl, hl⟩)
  simp only [List.append_nil] at N₂
  clear N F
  walk1
  walk1
  walk1
  iterate 3 walk1
  refine' For_invU s.heap ?kx ?kp ?_ ?khs PassesOwn.never
  case kx => rfl
  case kp => rfl
  case khs => intro _; rfl
  iterate 13 walk1
  rename Fr _ _ _ _ => F3
  rename News _ _ _ _ => N3
  rename IsRange _ _ _ _ _ _ _ _ => R3
  rename (Obj.IsDictOf (strKind PR w) _ _) => hod
  rename ((_ == sysModules) = false) => hlo
  refine Iter_rng (n := ns.length) hA R3 (by rw [hn]; decide) F3 N3 (fun i m news => ∃ d od hh tk0 n n' items objs, m (Str.ofString "asked") = some (.ref d) ∧ m (Str.ofString "shelf") = some (.ref x) ∧ m (Str.ofString "bounds") = some (.ref bl) ∧ m (Str.ofString "readers") = some (.ref rl) ∧
    news = (d, od) :: (x, instObj 212 dx) :: (dx, dictOf [⟨hh, .str hdKey tk0, .ref l⟩] n) :: (l, PySem.W.listOf items.toArray n') :: objs ∧ OD w od (serveD lo hi ns i) ∧ (d == sysModules) = false ∧ TL objs items (serveL dec lo hi ns i)) ⟨_, _, _, _, _, _, [], [], rfl, rfl, rfl, rfl, rfl, ⟨[], hod, .nil⟩, hlo, ?_⟩ ?_ ?_
  · exact TL.nil
  · rintro i t m₁ news₁ s₁ own hi' ⟨d, od, hh, tk0, n, n', items, objs, m1, m2, m3, m4, rfl, hO, hlo, hL⟩ hnw hown ⟨oI, hoI, hcI⟩ F₁ N₁
    iterate 16 walk1
    have en : (Int.toNat (i : Int)) = i := Int.toNat_natCast i
    rw [en]
    refine bisR_spec (W.keeps F₁.keep) hA ?_ (hb.at fun o e => F₁.keep _ o e) hbi (by first | ((repeat (first | exact .head _ | refine .tail _ ?_)); done) | simp) hso ?_
    · show A.depth + 1 < _; omega
    intro h₄ tk₄ t₄ j hk₄ hj
    have ej := posR_of hle hj
    subst ej
    have F₄ := fr_ext F₁ hk₄
    have N₄ := news_ext N₁ hk₄
    clear F₁ N₁ F3 N3
    have hj3 := posR_lt lo hi (ns.getD i 0)
    generalize hjj : posR lo hi (ns.getD i 0) = j at hj3
    walk1
    rw [item_abc hj3]
    iterate 21 walk1
    refine SCL.upper (Nat.le_trans (Nat.le_of_eq (bk_len j)) (by decide)) ?_
    intro _
    rw [up_bk hj3]
    iterate 7 walk1
    rename News _ _ _ (_ :: _) => N5
    rename Fr _ _ _ _ => F5
    have hmod : Int.fmod (i : Int) 2 = ((i % 2 : Nat) : Int) := by rw [Int.fmod_eq_emod_of_nonneg _ (by decide)]; omega
    rw [hmod]
    refine item_strs (l := [(bk j, _), (bkU j, _)]) ⟨_, (N5 _ (.head _)).1, rfl, _, rfl⟩ (by omega) (by show ((i % 2 : Nat) : Int) < 2; omega) (by omega) ?_
    intro y ty hy
    have ey : y = nmOf i j := by
      rw [Int.toNat_natCast] at hy
      unfold nmOf
      rcases Nat.mod_two_eq_zero_or_one i with h | h
      · rw [h] at hy ⊢; exact (Option.some.inj hy).symm
      · rw [h] at hy ⊢; exact (Option.some.inj hy).symm
    subst ey
    have hi8 : i < 8 := hn ▸ hi'
    have N6 : News s.heap s.heap.objs.size _ ((own ++ [(d, od)]) ++ (x, instObj 212 dx) :: (dx, dictOf [⟨hh, .str hdKey tk0, .ref l⟩] n) :: (l, PySem.W.listOf items.toArray n') :: objs) := fun p hp => N5 p (List.mem_cons_of_mem _ (by simpa using hp))
    have hpre : ∀ p ∈ own ++ [(d, od)], p.1 ≠ l := by
      intro p hp e
      rcases List.mem_append.mp hp with hp | hp
      · have h1 := hown p hp
        exact hnw (l, PySem.W.listOf items.toArray n') (by first | ((repeat (first | exact .head _ | refine .tail _ ?_)); done) | simp) (e ▸ h1)
      · rw [List.mem_singleton.mp hp] at e
        have a : Heap.get? _ d = some od := (N6 (d, od) (by first | ((repeat (first | exact .head _ | refine .tail _ ?_)); done) | simp)).1
        have b : Heap.get? _ l = some (PySem.W.listOf items.toArray n') := (N6 (l, PySem.W.listOf items.toArray n') (by first | ((repeat (first | exact .head _ | refine .tail _ ?_)); done) | simp)).1
        have e' : d = l := e
        rw [e'] at a
        rw [b] at a
        injection a with a
        have hc := hO.cls
        rw [← a] at hc
        exact absurd (Value.type.inj hc) (by decide)
    have hlen8 := serveL_len dec lo hi ns i
    refine set_turn W hA ?_ F5 N6 hL hpre (by omega) (by rw [nm_len]; decide) (by rw [low_nm hj3]; exact ok_bk hj3) (ok_nm hj3) (ok_dec hi8) (serveL_nm dec lo hi ns i) ?_
    · show A.depth + 1 + 2 < _; omega
    intro h₇ tk₇ ys k' objs' F₇ N₇ hL₇
    clear F5 N5 N6 F₄ N₄
    iterate 8 walk1
    refine kdn_eval (knd := strKind PR w) F₇ N₇ T.nolimit rfl rfl (List.cons_ne_nil _ _) (by decide) ?_
    intro d2 h₈ o2 F₈ N₈ l2 lo2 hd2
    clear F₇ N₇
    iterate 17 walk1
    rw [en]
    walk1
    rename Fr _ _ _ _ => F9
    rename News _ _ _ _ => N9
    rename (FlatPairs _ (strPairs _) _) => hf9
    rename (Obj.IsDictOf (strKind PR w) _ (strPairs _)) => hd9
    rw [en] at hf9 hd9
    have hO2 : OD w _ [(bk j, wt (ns.getD i 0))] := ⟨_, hd9, hf9⟩
    walk1
    refine add_spec (D1 := serveD lo hi ns i) (D2 := [(bk j, wt (ns.getD i 0))]) (W.keeps F9.keep) hA ?_ (hO.tab (N9 (d, od) (by first | ((repeat (first | exact .head _ | refine .tail _ ?_)); done) | simp)).1 hlo) (hO2.tab (N9 _ (.head _)).1 lo2) ?_ ?_
    · show A.depth + 1 < _; omega
    · have := serveD_len lo hi ns i
      simp only [List.length_singleton]; omega
    intro h₁₀ tk₁₀ r hk₁₀ nr hr'
    have hrlo := hr'.1
    obtain ⟨or, hor, hO3⟩ := od_of hr'
    have hIn := (N9 _ (List.mem_cons_of_mem _ (List.mem_append_left _ (List.mem_append_left _ hoI)))).1
    have F10 := fr_ext F9 hk₁₀
    have N10 := news_in F9 N9 hk₁₀ nr hor
    walk1
    rename Fr _ _ _ _ => F11
    rename News _ _ _ _ => N11
    rename_i h11
    refine wpAny_execs_nil ?_
    have N12 : News s.heap s.heap.objs.size h11 (own ++ (r, or) :: (x, instObj 212 dx) :: (dx, dictOf [⟨hh, .str hdKey tk0, .ref l⟩] n) :: (l, PySem.W.listOf ys.toArray k') :: objs') := fun p hp => N11 p (by
      simp only [List.mem_append, List.mem_cons, List.not_mem_nil, or_false] at hp ⊢
      rcases hp with h | h | h | h | h | h <;> repeat (first | exact h | exact .inl h | (refine .inl ?_; (repeat (first | exact h | exact .inl h | refine .inr ?_)); done) | refine .inr ?_))
    refine LoopStepU.intro F11 N12 ?_ ⟨r, or, hh, tk0, n, k', ys, objs', if_pos rfl, (if_neg (by decide)).trans ((if_neg (by decide)).trans ((if_neg (by decide)).trans m2)), (if_neg (by decide)).trans ((if_neg (by decide)).trans ((if_neg (by decide)).trans m3)), (if_neg (by decide)).trans ((if_neg (by decide)).trans ((if_neg (by decide)).trans m4)), rfl, ?_, hrlo, ?_⟩
    · intro p hp e
      have e := List.mem_singleton.mp e
      rcases List.mem_cons.mp hp with rfl | hp
      · have e' : r = _ := e
        rw [e'] at nr
        rw [nr] at hIn; cases hIn
      · rcases List.mem_cons.mp hp with rfl | hp
        · exact hnw (x, instObj 212 dx) (by first | ((repeat (first | exact .head _ | refine .tail _ ?_)); done) | simp) e
        · rcases List.mem_cons.mp hp with rfl | hp
          · exact hnw (dx, dictOf [⟨hh, .str hdKey tk0, .ref l⟩] n) (by first | ((repeat (first | exact .head _ | refine .tail _ ?_)); done) | simp) e
          · rcases List.mem_cons.mp hp with rfl | hp
            · exact hnw (l, PySem.W.listOf items.toArray n') (by first | ((repeat (first | exact .head _ | refine .tail _ ?_)); done) | simp) e
            · have a := (N12 p (by first | ((repeat (first | exact hp | refine .tail _ ?_)); done) | simp [hp])).1
              have b := (N12 _ (List.mem_append_left _ hoI)).1
              rw [e] at a
              have a' : h11.get? _ = some p.2 := a
              rw [b] at a'
              have hc := hL₇.cls p hp
              injection a' with a'
              have hcI' : p.2.cls = .type "range_iterator" := a' ▸ hcI
              rw [hc] at hcI'
              exact absurd (Value.type.inj hcI') (by decide)
    · show OD w or (merge (serveD lo hi ns i) [(bk (posR lo hi (ns.getD i 0)), wt (ns.getD i 0))])
      rw [hjj]; exact hO3
    · show TL objs' ys ((serveL dec lo hi ns i).filter (keepP (nmOf i (posR lo hi (ns.getD i 0)))) ++ [(nmOf i (posR lo hi (ns.getD i 0)), dec i)])
      rw [hjj]; exact hL₇
  · rintro h' tk' m' news' F4 N4 ⟨d, od, hh, tk0, n, n', items, objs, m1, m2, m3, m4, rfl, hO, hlo, hL⟩
    rw [hn] at hO hL
    clear F3 N3
    iterate 8 walk1
    have hlen8 : items.length ≤ 8 := by rw [hL.len]; exact serveL_len dec lo hi ns 8
    refine items_spec (items := items) (wd_shelf (ls := [x, dx, l]) W F4 N4 ?_) hA ?_ ⟨(N4 (x, instObj 212 dx) (by first | ((repeat (first | exact .head _ | refine .tail _ ?_)); done) | simp)).1, ⟨hh, tk0, n, (N4 (dx, dictOf [⟨hh, .str hdKey tk0, .ref l⟩] n) (by first | ((repeat (first | exact .head _ | refine .tail _ ?_)); done) | simp)).1⟩, n', (N4 (l, PySem.W.listOf items.toArray n') (by first | ((repeat (first | exact .head _ | refine .tail _ ?_)); done) | simp)).1⟩ (by omega) ?_
    · intro a ha
      simp only [List.mem_cons, List.not_mem_nil, or_false] at ha
      rcases ha with rfl | rfl | rfl
      · exact ⟨instObj 212 dx, by simp⟩
      · exact ⟨dictOf [⟨hh, .str hdKey tk0, .ref l⟩] n, by simp⟩
      · exact ⟨PySem.W.listOf items.toArray n', by simp⟩
    · show A.depth + 1 < _; omega
    intro h5 tk5 il k5 hk5 nil hil
    have F5 := fr_ext F4 hk5
    have N5 := news_in F4 N4 hk5 nil hil
    clear F4 N4
    iterate 6 (try walk1)
    rename Fr _ _ _ _ => F6
    rename News _ _ _ _ => N6
    have N6' : News s.heap s.heap.objs.size _ ((_, { cls := .type "tuple", data := .seq #[.ref il, .ref d] }) :: (il, PySem.W.listOf items.toArray k5) :: (d, od) :: (x, instObj 212 dx) :: (dx, dictOf [⟨hh, .str hdKey tk0, .ref l⟩] n) :: (l, PySem.W.listOf items.toArray n') :: objs) := N6
    refine hQ _ _ _ il d items k5 F6.keep (N6' _ (.head _)).2.2 (N6' (il, PySem.W.listOf items.toArray k5) (by first | ((repeat (first | exact .head _ | refine .tail _ ?_)); done) | simp)).2.2 (N6' (d, od) (by first | ((repeat (first | exact .head _ | refine .tail _ ?_)); done) | simp)).2.2 ⟨_, (N6' _ (.head _)).1, rfl, _, rfl⟩ (N6' (il, PySem.W.listOf items.toArray k5) (by first | ((repeat (first | exact .head _ | refine .tail _ ?_)); done) | simp)).1
      (hL.tups fun p hp => (N6' p (by first | ((repeat (first | exact hp | refine .tail _ ?_)); done) | simp [hp])).1) ?_ (hO.tab (N6' (d, od) (by first | ((repeat (first | exact .head _ | refine .tail _ ?_)); done) | simp)).1 hlo)
    intro v hv
    obtain ⟨i, hi⟩ := List.getElem?_of_mem hv
    obtain ⟨q, oq, a, b, ta, tb, nt, rfl, hq, _⟩ := hL.item i v hi
    exact ⟨q, rfl, (N6' (q, oq) (by simp [hq])).2.2⟩
end Mine
end

/-! ## Cs -/
section
theorem Mine.offCs : True := by w_top off; trivial
open PySem PySem.W PySem.Calls PyProof.Rows PyProof.V
set_option Elab.async false
set_option maxRecDepth 100000
namespace Mine
section
open LCg
variable {prog : Program} {w : World} {A : Around} {E : Value → Shared → Prop} {s : Shared} {h₀ : Heap} {L : Addr} {m : Str → Option Value} {env : Env}
/-- the letters of a text are gone through -/
noncomputable def SrcS (prog : Program) (w : World) (A : Around) (h₀ : Heap) (L : Addr) (m : Str → Option Value) (env : Env) (elt : Expr) (x : Str) (scope : Scope) (cl : List (Str × Addr)) (Fin : Shared → List Value → List (Addr × Obj) → Prop) (xv : Value) (s₁ : Shared) : Prop :=
  ∃ (z : Str) (t : Tok) (news : List (Addr × Obj)), xv = .str z t ∧ A.handled = none ∧ Fr h₀ L s₁.heap m ∧ News h₀ L s₁.heap news ∧ z.cps.all (· < 128) = true ∧ z.cps.size ≤ sizeLine ∧
    ∀ g, CompRest prog w A h₀ L m env elt x scope cl { s₁ with heap := g } (fun _ => True) (SignAt z) (Fin { s₁ with heap := g }) z.cps.size 0 [] news
theorem ListComp_S {elt iter : Expr} {x : Str} {px : Pos} {scope : Scope} {cl : List (Str × Addr)} {pos : Pos} {Q : Value → Shared → Prop} (_F : Fr h₀ L s.heap m)
    (hclos : closureFor scope env = pure cl) (hcell : ∀ y ∈ scope.names, y.2 ≠ .cell) (hkind : scope.kind = .function)
    (hnames : ∀ y ∈ scope.names, y.2 = .local → scope.names.lookup y.1 = some .local) (hx : scope.names.lookup x = some .local)
    (hs : ∀ x, foldedSetIterable iter env x = pure x)
    (h : wpAny (model prog w) A (eval iter env) (SrcS prog w A h₀ L m env elt x scope cl (fun s₂ => FinE h₀ L m s₂ Q)) E s) :
    wpAny (model prog w) A (eval (.ListComp elt [⟨.Name x px, iter, [], 0⟩] scope pos) env) Q E s := by
  rw [eval_ListComp]
  refine wpAny_comprehension_free (use := none) rfl hs hclos hkind hnames (wpAny_mono h (fun xv s₁ h₁ => ?_) fun _ _ e => e)
  obtain ⟨z, t, news, rfl, hh, F, N, hasc, hsz, R⟩ := h₁
  refine wpAny_pyIter_ascii hasc ?_
  refine block_U (Walks.strAscii hh s₁.heap.objs.size z t) hsz (fun i h st => by obtain ⟨o, e, _⟩ := st; exact ⟨o, e⟩) (S := fun _ => True)
    (fun i h h' o nw st e e' _ _ _ => by obtain ⟨o', q, r⟩ := st; rw [e] at q; cases q; exact ⟨o, e', r⟩) hcell hkind hx ⟨_, Heap.get?_push_size _ rfl, rfl, rfl⟩ (fun b hb => ?_)
    (F.keeps fun _ _ e => Heap.get?_push_of_some _ e) (N.grown fun _ _ e => Heap.get?_push_of_some _ e) (Nat.ne_of_lt F.ns.lt) (next_is_new F) (fun p hp => Nat.ne_of_lt (Heap.lt_size (N p hp).1)) trivial (R _) ?_
  · rw [List.mem_singleton.mp hb]
    show s₁.heap.objs.size < (s₁.heap.push _).objs.size
    rw [Heap.size_push]; exact Nat.lt_succ_self _
  · intro D C h tk m' ys news' F' N' o1 hn hC₀ hD₀ hCL hDL hCD offC fin
    refine ⟨m', hn, fun h'' hs'' => fin D h'' tk (F'.change hs'' hCL hC₀) (fun p hp => ?_) o1⟩
    refine ⟨hs''.extBut _ _ ?_ (N' p hp).1, (N' p hp).2⟩
    rcases List.mem_cons.mp hp with rfl | hp
    · exact Ne.symm hCD
    · exact offC p hp
end
end Mine
namespace Mine
open PyProof.Rows.LCg in
/-- a comprehension by what holds between its turns; the ledger may grow -/
theorem rest_indN {prog : Program} {w : World} {A : Around} {h₀ : Heap} {L : Addr} {m : Str → Option Value} {env : Env} {elt : Expr} {x : Str} {scope : Scope} {cl : List (Str × Addr)} {s : Shared} {S : List (Addr × Obj) → Prop} {P : Nat → Value → Prop} {Fin : List Value → List (Addr × Obj) → Prop}
    (R : Nat → Nat → List Value → List (Addr × Obj) → Prop) (fin : ∀ i ys news, R 0 i ys news → Fin ys news)
    (step : ∀ k i ys news, R (k + 1) i ys news → ∀ v I oI C oC D m₂ h tk (E' : Value → Shared → Prop), P i v → NsObj oC m₂ → m₂ x = some v → Fr h₀ L h m → News h₀ L h ((I, oI) :: (C, oC) :: (D, lst ys) :: news) → Off3 I C D news → ((@Ne Nat I C) ∧ (@Ne Nat I D) ∧ (@Ne Nat C D)) →
      wpAny (model prog w) A (eval elt (compEnvC scope cl C env)) (CompEnd h₀ L m { s with heap := h, toks := tk } I oI C oC D (lst ys) S (fun y news' => R k (i + 1) (ys ++ [y]) news')) E' { s with heap := h, toks := tk }) :
    ∀ k i ys news, R k i ys news → CompRest prog w A h₀ L m env elt x scope cl s S P Fin k i ys news := by
  intro k
  induction k with
  | zero => intro i ys news r; exact CompRest.zero (fin i ys news r)
  | succ k ih =>
    intro i ys news r
    refine CompRest.succ fun v I oI C oC D m₂ h tk E' a b c d e f g => ?_
    exact wpAny_mono (step k i ys news r v I oI C oC D m₂ h tk E' a b c d e f g) (fun y s'' z => compEnd_mono z fun n r' => ih _ _ _ r') fun _ _ x => x
theorem TL.snoc {objs : List (Addr × Obj)} {items : List Value} {L : List (Str × Str)} (T : TL objs items L) {t : Addr} {ot : Obj} {a b : Str} {ta tb : Tok} {nt : Nat} (hc : ot.cls = .type "tuple") (hd : ot.data = .seq #[.str a ta, .str b tb] nt) : TL ((t, ot) :: objs) (items ++ [.ref t]) (L ++ [(a, b)]) := by
  refine ⟨by simp [T.len], fun p hp => ?_, fun i v e => ?_⟩
  · rcases List.mem_cons.mp hp with rfl | hp
    · exact hc
    · exact T.cls p hp
  · by_cases hi : i < items.length
    · rw [List.getElem?_append_left hi] at e
      obtain ⟨t', ot', a', b', ta', tb', nt', h1, h2, h3, h4, h5⟩ := T.item i v e
      exact ⟨t', ot', a', b', ta', tb', nt', h1, List.mem_cons_of_mem _ h2, h3, h4, by rw [List.getElem?_append_left (by rw [← T.len]; exact hi)]; exact h5⟩
    · have hi' : items.length ≤ i := Nat.le_of_not_lt hi
      rw [List.getElem?_append_right hi'] at e
      have hz : i - items.length = 0 := by
        cases q : i - items.length with
        | zero => rfl
        | succ n => rw [q] at e; simp at e
      rw [hz] at e
      refine ⟨t, ot, a, b, ta, tb, nt, (Option.some.inj e).symm, List.mem_cons_self .., hc, hd, ?_⟩
      rw [List.getElem?_append_right (by rw [← T.len]; exact hi'), ← T.len, hz]; rfl
/-- the letters of a text, each as a text -/
noncomputable def lettersOf (o : Str) : List Str := o.cps.toList.map fun c => ⟨#[c]⟩
noncomputable def tLent : Str := Str.ofString "lent"
noncomputable def tHere : Str := Str.ofString "here"
noncomputable def tBack : Str := Str.ofString "back"
/-- an order with a book brought back -/
noncomputable def mvL (o b : Str) : List (Str × Str) := ((Txt.upper b, tLent) :: (lettersOf o).map fun a => (a, tHere)).filter (keepP b) ++ [(b, tBack)]
noncomputable def mvT (o b : Str) : Str := Txt.join (Str.ofString "") ((mvL o b).map (·.1))
noncomputable def movesD (o : Str) (D : List (Str × Int)) : List (Str × Int) := D.foldl (fun M p => merge M [(mvT o p.1, p.2)]) []
theorem TL.cons {objs : List (Addr × Obj)} {items : List Value} {L : List (Str × Str)} {t : Addr} {ot : Obj} {a b : Str} {ta tb : Tok} {nt : Nat} (hc : ot.cls = .type "tuple") (hd : ot.data = .seq #[.str a ta, .str b tb] nt) (T : TL objs items L) : TL ((t, ot) :: objs) (.ref t :: items) ((a, b) :: L) := by
  refine ⟨by simp [T.len], fun p hp => ?_, fun i v e => ?_⟩
  · rcases List.mem_cons.mp hp with rfl | hp
    · exact hc
    · exact T.cls p hp
  · cases i with
    | zero =>
      rw [List.getElem?_cons_zero] at e
      exact ⟨t, ot, a, b, ta, tb, nt, (Option.some.inj e).symm, List.mem_cons_self .., hc, hd, rfl⟩
    | succ i =>
      rw [List.getElem?_cons_succ] at e
      obtain ⟨t', ot', a', b', ta', tb', nt', h1, h2, h3, h4, h5⟩ := T.item i v e
      exact ⟨t', ot', a', b', ta', tb', nt', h1, List.mem_cons_of_mem _ h2, h3, h4, by rw [List.getElem?_cons_succ]; exact h5⟩
theorem ok_lent {w : World} : Ok w tLent := fun S t => ⟨by kernel_rfl, by kernel_rfl⟩
theorem ok_here {w : World} : Ok w tHere := fun S t => ⟨by kernel_rfl, by kernel_rfl⟩
theorem ok_back {w : World} : Ok w tBack := fun S t => ⟨by kernel_rfl, by kernel_rfl⟩
end Mine
end

/-! ## M1 -/
section
theorem Mine.offM1 : True := by w_top off; trivial
open PySem PySem.W PySem.Calls PyProof.Rows PyProof.V
set_option Elab.async false
set_option maxRecDepth 100000
namespace Mine
set_option maxHeartbeats 16000000
local macro_rules | `(tactic| walk_at "eval Name") => `(tactic| (k_here; k_dflt (refine' ld ?k1 ?k2 ?_; (case k1 => k_asm); (case k2 => repeat (first | assumption | refine (if_neg (by decide)).trans ?_)); k_whole)))

theorem moves_spec {w : World} {mean : ExcName → Option Value} {mg mb : Str → Option Value} {A : Around} {E : Value → Shared → Prop} {s : Shared} {ad : Addr} {o : Str} {t : Tok} {D : List (Str × Int)} {Q : Value → Shared → Prop}
    (W : Wd w mean mg mb s.heap) (hA : A.handled = none) (hroom : A.depth + 5 < recursionLimit) (ha : o.cps.all (· < 128) = true) (hos : o.cps.size ≤ 10) (hok : ∀ a ∈ lettersOf o, Ok w a) (hD : StrTab PR w s.heap ad (tb D)) (hDl : D.length ≤ 10) (hDk : ∀ p ∈ D, ∃ j, j < 3 ∧ p.1 = bk j)
    (hQ : ∀ h' tk r, Kept s.heap h' → s.heap.get? r = none → StrTab PR w h' r (tb (movesD o D)) → Q (.ref r) { s with heap := h', toks := tk }) :
    wpAny (model PR w) A (call (.ref 228) [.str o t, .ref ad]) Q E s := by
  obtain ⟨K, T⟩ := id W
  refine' enter_def (binds := [(Str.ofString "order", .str o t), (Str.ofString "asked", .ref ad)]) W ?ho ?hcd ?hr ?hb ?hl ?hc ?hco ?hg ?hk ?_
  case hr => omega
  case ho => k_is
  case hcd => k_is
  case hb => exact BindsTo.of_eq rfl
  case hl => exact locs rfl
  case hc => decide
  case hco => rfl
  case hg => rfl
  case hk => rfl
  intro h₁ tk F
  have N : News s.heap s.heap.objs.size h₁ [] := News.nil
  obtain ⟨oa, hoa, hoa'⟩ := tab_obj hD
  iterate 5 walk1
  rename Fr _ _ _ _ => F2
  rename News _ _ _ _ => N2
  rename (Obj.IsDictOf (strKind PR w) _ _) => hod
  rename ((_ == sysModules) = false) => hlo
  refine' For_turns ?kF ?_ ?khs PassesOwn.never
  case kF => exact F2
  case khs => intro _; rfl
  walk1
  refine ld F2 rfl ?_
  refine getMethod_tab_any (knd := strKind _ _) (enc := PyData.str) rfl (hD.keep F2.keep) ?_
  walk1
  refine call_items_tab (hD.keep F2.keep) F2 N2 ?_
  intro h6 ov6 hv6 F6 N6
  have N6' : News s.heap s.heap.objs.size h6 [(_, _)] := fun p hp => N6 p (.tail _ hp)
  refine Iter_items2 (D := D) hA rfl rfl rfl hv6 (hD.keep F6.keep) (fun e => absurd (Heap.lt_size hoa) (by rw [e]; exact Nat.lt_irrefl _)) F6 N6' (fun i m news => ∃ d od, m (Str.ofString "order") = some (.str o t) ∧ m (Str.ofString "moves") = some (.ref d) ∧ news = [(d, od)] ∧ OD w od (movesD o (D.take i)) ∧ (d == sysModules) = false) ⟨_, _, rfl, rfl, rfl, ⟨[], hod, .nil⟩, hlo⟩ ?_ ?_
  · rintro i k c tk5 t5 m₁ news₁ hs₁ tks₁ own I hi ⟨d, od, m1, m2, rfl, hO, hlo⟩ hoff hown ⟨oI, hoI⟩ F₁ N₁
    generalize hs1 : ({ s with heap := hs₁, toks := tks₁ } : Shared) = s₁
    have hs1h : hs₁ = s₁.heap := by rw [← hs1]
    rw [hs1h] at F₁ N₁
    obtain ⟨j, hj3, hkj⟩ := hDk (k, c) (List.mem_of_getElem? hi)
    have hkj : k = bk j := hkj
    subst hkj
    clear F2 N2 F6 N6 N6'
    iterate 15 walk1
    refine SCL.upper (Nat.le_trans (Nat.le_of_eq (bk_len j)) (by decide)) ?_
    intro _
    rw [up_bk hj3]
    iterate 6 walk1
    rename Fr _ _ _ _ => F3
    rename News _ _ _ _ => N3
    refine ListComp_S (cl := []) F3 ?h1 ?h2 ?h3 ?h4 ?h5 ?h6 ?_
    case h1 => with_unfolding_all rfl
    case h2 => decide
    case h3 => rfl
    case h4 => decide
    case h5 => rfl
    case h6 => intro _; rfl
    walk1
    rename_i aU hA1 hkA nmA l1 hA2 ltA
    refine ⟨o, t, _, rfl, hA, F3, N3, ha, Nat.le_trans hos (by decide), fun g => ?_⟩
    refine rest_indN (fun k i ys nw => k + i = o.cps.size ∧ ∃ objs, nw = objs ++ ((l1, PySem.W.listOf #[Value.ref s₁.heap.objs.size] 0) :: (s₁.heap.objs.size, { cls := Value.type "tuple", data := Data.seq #[Value.str (bkU j) s₁.toks, Value.str (Str.ofString "lent") (s₁.toks + 1)] }) :: (own ++ [(d, od)])) ∧ TL objs ys (((lettersOf o).map fun a => (a, tHere)).take i)) ?_ ?_ _ _ _ _ ⟨rfl, [], rfl, TL.nil⟩
    · rintro i' ys nw ⟨hi', objs, rfl, hTL⟩
      have hi'' : i' = o.cps.size := by omega
      rw [List.take_of_length_le (by simp [lettersOf, hi''])] at hTL
      intro D5 h8 tk8 F8 N8 off8
      have gl1 := (N8 (l1, PySem.W.listOf #[Value.ref s₁.heap.objs.size] 0) (by first | ((repeat (first | exact .head _ | refine .tail _ ?_)); done) | simp)).1
      have gD5 := (N8 (D5, LCg.lst ys) (by first | ((repeat (first | exact .head _ | refine .tail _ ?_)); done) | simp)).1
      have hyl : ys.length ≤ 10 := by rw [hTL.len]; simp [lettersOf]; exact hos
      refine kmk_add_lit (zs := Value.ref s₁.heap.objs.size :: ys) F8 N8 ⟨_, gl1, rfl, _, rfl⟩ ⟨_, gD5, rfl, _, rfl⟩ rfl ?_ ?_
      · intro D6 h9 F9 N9 lt9
        iterate 2 walk1
        have hTL2 : TL ((s₁.heap.objs.size, { cls := Value.type "tuple", data := Data.seq #[Value.str (bkU j) s₁.toks, Value.str (Str.ofString "lent") (s₁.toks + 1)] }) :: objs) (Value.ref s₁.heap.objs.size :: ys) ((bkU j, tLent) :: (lettersOf o).map fun a => (a, tHere)) := TL.cons rfl rfl hTL
        refine make_spec (items := Value.ref s₁.heap.objs.size :: ys) (W.keeps F9.keep) hA ?_ (N9 (D6, PySem.W.listOf (Value.ref s₁.heap.objs.size :: ys).toArray 0) (by first | ((repeat (first | exact .head _ | refine .tail _ ?_)); done) | simp)).1 (hTL2.tups fun p hp => (N9 p ?_).1) ?_ ?_
        · show A.depth + 1 + 3 < _; omega
        · simp only [List.mem_cons, List.mem_append] at hp ⊢
          rcases hp with h | h <;> repeat (first | exact h | exact .inl h | (refine .inl ?_; (repeat (first | exact h | exact .inl h | refine .inr ?_)); done) | refine .inr ?_)
        · intro p hp
          rcases List.mem_cons.mp hp with rfl | hp
          · exact ⟨ok_bkU hj3, ok_lent⟩
          · obtain ⟨a, ha', rfl⟩ := List.mem_map.mp hp
            exact ⟨hok a ha', ok_here⟩
        intro h10 tk10 x dx hk10 S10 nx ndx
        obtain ⟨hx, ⟨hh, tk0, n, hdx⟩, n', hl⟩ := id S10
        have F10 := fr_ext F9 hk10
        have N10 := news_ins (objs := [(x, instObj 212 dx), (dx, dictOf [⟨hh, .str hdKey tk0, .ref D6⟩] n)]) F9 N9 hk10 (by
          intro p hp
          simp only [List.mem_cons, List.not_mem_nil, or_false] at hp
          rcases hp with rfl | rfl
          · exact ⟨nx, hx⟩
          · exact ⟨ndx, hdx⟩)
        have N11 : News s.heap s.heap.objs.size h10 ((own ++ [(d, od)]) ++ (x, instObj 212 dx) :: (dx, dictOf [⟨hh, .str hdKey tk0, .ref D6⟩] n) :: (D6, PySem.W.listOf (Value.ref s₁.heap.objs.size :: ys).toArray 0) :: ((s₁.heap.objs.size, { cls := Value.type "tuple", data := Data.seq #[Value.str (bkU j) s₁.toks, Value.str (Str.ofString "lent") (s₁.toks + 1)] }) :: objs)) := fun p hp => N10 p (by
          simp only [List.mem_append, List.mem_cons, List.not_mem_nil, or_false] at hp ⊢
          rcases hp with (h | h) | h | h | h | h | h <;> repeat (first | exact h | exact .inl h | (refine .inl ?_; (repeat (first | exact h | exact .inl h | refine .inr ?_)); done) | refine .inr ?_))
        clear F9 N9 N10 F8 N8 F3 N3
        iterate 7 walk1
        have hpre : ∀ p ∈ own ++ [(d, od)], p.1 ≠ D6 := fun p hp => Nat.ne_of_lt (lt9 p (by
          simp only [List.mem_append, List.mem_cons, List.not_mem_nil, or_false] at hp ⊢
          rcases hp with h | h <;> repeat (first | exact h | exact .inl h | (refine .inl ?_; (repeat (first | exact h | exact .inl h | refine .inr ?_)); done) | refine .inr ?_)))
        have hlet : ∀ a ∈ lettersOf o, a.length ≤ 100 := by
          intro a ha'
          obtain ⟨c', _, rfl⟩ := List.mem_map.mp ha'
          exact (by decide : 1 ≤ 100)
        rename Fr _ _ _ _ => F12
        rename News _ _ _ _ => N12
        refine set_turn W hA ?_ F12 N12 hTL2 hpre ?_ (by rw [bk_len]; decide) (by rw [low_bk hj3]; exact ok_bk hj3) (ok_bk hj3) ok_back ?_ ?_
        · show A.depth + 1 + 2 < _; omega
        · simp [lettersOf]; omega
        · intro p hp
          rcases List.mem_cons.mp hp with rfl | hp
          · rcases j with _ | _ | _ | j
            · decide
            · decide
            · decide
            · omega
          · obtain ⟨a, ha', rfl⟩ := List.mem_map.mp hp
            exact hlet a ha'
        intro h13 tk13 ys13 k13 objs13 F13 N13 hL13
        have hL13' : TL objs13 ys13 (mvL o (bk j)) := by
          unfold mvL; rw [up_bk hj3]; exact hL13
        clear hL13 F12 N12
        have N13' : News s.heap s.heap.objs.size h13 ((x, instObj 212 dx) :: (dx, dictOf [⟨hh, .str hdKey tk0, .ref D6⟩] n) :: (D6, PySem.W.listOf ys13.toArray k13) :: (d, od) :: (own ++ objs13)) := fun p hp => N13 p (by
          simp only [List.mem_append, List.mem_cons, List.not_mem_nil, or_false] at hp ⊢
          rcases hp with h | h | h | h | h | h <;> repeat (first | exact h | exact .inl h | (refine .inl ?_; (repeat (first | exact h | exact .inl h | refine .inr ?_)); done) | refine .inr ?_))
        replace N13 := N13'
        clear N13'
        iterate 8 walk1
        refine kdn_eval (knd := strKind PR w) F13 N13 T.nolimit rfl rfl (List.cons_ne_nil _ _) (by decide) ?_
        intro d2 h14 o2 F14 N14 lt2 lo2 hd2
        clear F13 N13
        iterate 10 walk1
        have hmvl : (mvL o (bk j)).length ≤ 12 := by
          unfold mvL
          have := List.length_filter_le (keepP (bk j)) ((Txt.upper (bk j), tLent) :: (lettersOf o).map fun a => (a, tHere))
          simp only [List.length_append, List.length_nil, List.length_cons, List.length_map] at this ⊢
          have h2 : (lettersOf o).length ≤ 10 := by simp [lettersOf]; exact hos
          omega
        refine keys_spec (L := mvL o (bk j)) (wd_shelf (ls := [x, dx, D6]) W F14 N14 ?_) hA ?_ ⟨(N14 (x, instObj 212 dx) (by first | ((repeat (first | exact .head _ | refine .tail _ ?_)); done) | simp)).1, ⟨hh, tk0, n, (N14 (dx, dictOf [⟨hh, .str hdKey tk0, .ref D6⟩] n) (by first | ((repeat (first | exact .head _ | refine .tail _ ?_)); done) | simp)).1⟩, k13, (N14 (D6, PySem.W.listOf ys13.toArray k13) (by first | ((repeat (first | exact .head _ | refine .tail _ ?_)); done) | simp)).1⟩ (hL13'.tups fun p hp => (N14 p (by first | ((repeat (first | exact hp | refine .tail _ ?_)); done) | simp [hp])).1) (by omega) ?_
        · intro a ha'
          simp only [List.mem_cons, List.not_mem_nil, or_false] at ha'
          rcases ha' with rfl | rfl | rfl
          · exact ⟨instObj 212 dx, by simp⟩
          · exact ⟨dictOf [⟨hh, .str hdKey tk0, .ref D6⟩] n, by simp⟩
          · exact ⟨PySem.W.listOf ys13.toArray k13, by simp⟩
        · show A.depth + 1 < _; omega
        intro h15 tk15 r15 ks hk15 nr15 hr15 hks
        have F15 := fr_ext F14 hk15
        have N15 := news_ext N14 hk15
        clear F14 N14
        iterate 1 walk1
        refine join_listW (x := Str.ofString "") ⟨_, hr15, rfl, _, rfl⟩ hks (by decide) ?_ ?_
        · have hsum : ∀ l : List (Str × Str), (∀ p ∈ l, p.1.length ≤ 100) → ((l.map (·.1)).map (·.length)).sum ≤ 100 * l.length := by
            intro l
            induction l with
            | nil => intro _; simp
            | cons p r ih =>
              intro h
              have h1 := h p (List.mem_cons_self ..)
              have h2 := ih fun q hq => h q (List.mem_cons_of_mem _ hq)
              simp only [List.map_cons, List.sum_cons, List.length_cons]; omega
          have := hsum (mvL o (bk j)) (by
            intro p hp
            unfold mvL at hp
            rcases List.mem_append.mp hp with hp | hp
            · have hp := (List.mem_filter.mp hp).1
              rcases List.mem_cons.mp hp with rfl | hp
              · show (Txt.upper (bk j)).length ≤ 100
                rw [up_bk hj3]; rcases j with _ | _ | _ | j
                · decide
                · decide
                · decide
                · omega
              · obtain ⟨a, ha', rfl⟩ := List.mem_map.mp hp
                exact hlet a ha'
            · rw [List.mem_singleton.mp hp]
              show (bk j).length ≤ 100
              rw [bk_len]; decide)
          rw [List.length_map]
          omega
        intro t16 k16
        iterate 2 walk1
        refine kdn_made_strF F15 N15 (UpdF.head (fun p hp => Nat.ne_of_lt (lt2 p hp))) hd2 rfl (List.nodup_cons.mpr ⟨List.not_mem_nil, List.nodup_nil⟩) rfl ?_
        intro h17 o17 F17 N17 hd17 hf17
        have hO2 : OD w o17 [(mvT o (bk j), c)] := ⟨_, hd17, hf17⟩
        clear F15 N15
        iterate 2 (try walk1)
        have hlenM : ∀ l : List (Str × Int), (movesD o l).length ≤ l.length := by
          intro l
          unfold movesD
          have := foldl_len (f := fun M p => merge M [(mvT o p.1, p.2)]) (fun M p => by
            have := merge_len M [(mvT o p.1, p.2)]
            rw [List.length_singleton] at this; exact this) l []
          simp only [List.length_nil] at this; omega
        have hIn := (N17 (I, oI) (by simp [hoI])).1
        refine add_spec (D1 := movesD o (D.take i)) (D2 := [(mvT o (bk j), c)]) (W.keeps F17.keep) hA ?_ (hO.tab (N17 (d, od) (by first | ((repeat (first | exact .head _ | refine .tail _ ?_)); done) | simp)).1 hlo) (hO2.tab (N17 _ (.head _)).1 lo2) ?_ ?_
        · show A.depth + 1 < _; omega
        · have := hlenM (D.take i)
          rw [List.length_take] at this
          simp only [List.length_singleton]; omega
        intro h18 tk18 r18 hk18 nr18 hr18
        have hrlo := hr18.1
        obtain ⟨o18, hor18, hO18⟩ := od_of hr18
        have F18 := fr_ext F17 hk18
        have N18 := news_in F17 N17 hk18 nr18 hor18
        have N19 : News s.heap s.heap.objs.size h18 (own ++ [(r18, o18)]) := fun p hp => N18 p (by
          simp only [List.mem_append, List.mem_cons, List.not_mem_nil, or_false] at hp ⊢
          rcases hp with h | h <;> repeat (first | exact h | exact .inl h | (refine .inl ?_; (repeat (first | exact h | exact .inl h | refine .inr ?_)); done) | refine .inr ?_))
        clear F17 N17 N18
        walk1
        rename Fr _ _ _ _ => F20
        rename News _ _ _ _ => N20
        subst hs1
        refine wpAny_execs_nil ?_
        refine LoopStepU.intro F20 N20 ?_ ⟨r18, o18, (if_neg (by decide)).trans ((if_neg (by decide)).trans ((if_neg (by decide)).trans ((if_neg (by decide)).trans m1))), if_pos rfl, rfl, ?_, hrlo⟩
        · intro p hp e
          have e := List.mem_singleton.mp e
          rw [List.mem_singleton.mp hp] at e
          have e' : r18 = I := e
          rw [e'] at nr18
          have hIn' : Heap.get? _ I = some oI := hIn
          rw [nr18] at hIn'; cases hIn'
        · have e2 : movesD o (D.take (i + 1)) = merge (movesD o (D.take i)) [(mvT o (bk j), c)] := by
            unfold movesD
            rw [List.take_add_one, hi, List.foldl_append]; rfl
          rw [e2]; exact hO18
      · show 1 + ys.length ≤ sizeLine
        exact Nat.le_trans (by omega : _ ≤ 11) (by decide)
    · rintro k' i' ys nw ⟨hi', objs, rfl, hTL⟩ v I oI C oC D5 m₂ h8 tk8 E' hP hC hm2 F8 N8 hoff hne
      obtain ⟨cp, u, hcp, rfl⟩ := hP
      have hIlt := Heap.lt_size (N8 (I, oI) (by first | ((repeat (first | exact .head _ | refine .tail _ ?_)); done) | simp)).1
      have hClt := Heap.lt_size (N8 (C, oC) (by first | ((repeat (first | exact .head _ | refine .tail _ ?_)); done) | simp)).1
      have hDlt := Heap.lt_size (N8 (D5, LCg.lst ys) (by first | ((repeat (first | exact .head _ | refine .tail _ ?_)); done) | simp)).1
      iterate 7 walk1
      rename Fr _ _ _ _ => F9
      rename News _ _ _ _ => N9
      refine LCg.CompEnd.intro F9 N9 ((h8.objs.size, { cls := Value.type "tuple", data := Data.seq #[Value.str ⟨#[cp]⟩ u, Value.str tHere tk8] }) :: (objs ++ ((l1, PySem.W.listOf #[Value.ref s₁.heap.objs.size] 0) :: (s₁.heap.objs.size, { cls := Value.type "tuple", data := Data.seq #[Value.str (bkU j) s₁.toks, Value.str (Str.ofString "lent") (s₁.toks + 1)] }) :: (own ++ [(d, od)])))) ?_ ?_ trivial ⟨by omega, _ :: objs, rfl, ?_⟩
      · intro p hp
        simp only [List.mem_cons] at hp ⊢
        rcases hp with h | h | h | h | h
        · exact .inr (.inl h)
        · exact .inr (.inr (.inl h))
        · exact .inr (.inr (.inr (.inl h)))
        · exact .inl h
        · exact .inr (.inr (.inr (.inr h)))
      · refine LCg.Off3.of fun p hp => ?_
        rcases List.mem_cons.mp hp with rfl | hp
        · exact ⟨Nat.ne_of_gt hIlt, Nat.ne_of_gt hClt, Nat.ne_of_gt hDlt⟩
        · exact hoff.mem p hp
      · rw [List.take_add_one, List.getElem?_map]
        have : (lettersOf o)[i']? = some ⟨#[cp]⟩ := by
          unfold lettersOf
          rw [List.getElem?_map, Array.getElem?_toList, hcp]; rfl
        rw [this]
        exact hTL.snoc rfl rfl
  · rintro h7 tk7 m7 news7 F7 N7 ⟨d, od, m1, m2, rfl, hO, hlo⟩
    rw [List.take_length] at hO
    refine wpAny_execs_cons (wpAny_Return_some (ld F7 m2 ?_))
    exact hQ _ _ _ F7.keep (N7 _ (.head _)).2.2 (hO.tab (N7.get (.head _)) hlo)
end Mine
end

/-! ## Dh -/
section
theorem Mine.offDh : True := by w_top off; trivial
open PySem PySem.W PySem.Calls PyProof.Rows PyProof.V
set_option Elab.async false
set_option maxRecDepth 100000
namespace Mine
section
variable {prog : Program} {w : World} {K : Type} [DecidableEq K] {knd : KeyKind prog w K} {A : Around} {E : Value → Shared → Prop} {env : Env}
/-- the heap but for four things -/
noncomputable def But4 (I C D L : Addr) (h h' : Heap) : Prop := ∀ b o, b ≠ I → b ≠ C → b ≠ D → b ≠ L → h.get? b = some o → h'.get? b = some o
/-- the turns of a dict comprehension, with what holds of the heap between them -/
structure DTurns (knd : KeyKind prog w K) (A : Around) (env : Env) (scope : Scope) (cl : List (Str × Addr)) (kx vx : Expr) (x : Str) (s₂ : Shared) (I : Addr) (fp : List Addr) (n : Nat) (P : Nat → Value → Prop) (St : Nat → Heap → Prop)
    (Inv : Addr → Addr → Nat → List (K × Value) → Heap → Prop) : Prop where
  walks : Walks prog w A I fp [I] n P St
  size : n ≤ sizeLine
  start : St 0 s₂.heap
  low : ∀ b ∈ fp, b < s₂.heap.objs.size
  live : ∀ i h, St i h → ∃ o, h.get? I = some o
  first : ∀ C D h', (∀ b o, s₂.heap.get? b = some o → h'.get? b = some o) → Inv C D 0 [] h'
  stab : ∀ C D j kvs h h', Inv C D j kvs h → But4 I C D env.locals h h' → Inv C D j kvs h'
  turn : ∀ C D j kvs v s₃ m₃ E', j < n → P j v → Inv C D j kvs s₃.heap → s₃.heap.Ns C m₃ → m₃ x = some v → (∃ o, s₃.heap.get? I = some o) → (∃ o, s₃.heap.get? D = some o) → D ≠ C → I ≠ C → I ≠ D → s₂.heap.objs.size ≤ C → s₂.heap.objs.size ≤ D → kvs.length ≤ j →
    (∃ h tk, s₃ = { s₂ with heap := h, toks := tk }) → (∀ b o, b ≠ I → s₂.heap.get? b = some o → s₃.heap.get? b = some o) →
    wpAny (model prog w) A (eval kx (compEnvC scope cl C env)) (fun key s₄ => wpAny (model prog w) A (eval vx (compEnvC scope cl C env)) (fun y s₅ =>
      ∃ h' tk k, s₅ = { s₃ with heap := h', toks := tk } ∧ (∀ b o, s₃.heap.get? b = some o → h'.get? b = some o) ∧ knd.is k key = true ∧ Inv C D (j + 1) (stored kvs k y) h') E' s₄) E' s₃

theorem dict_block {kx vx iter : Expr} {x : Str} {px : Pos} {scope : Scope} {cl : List (Str × Addr)} {pos : Pos} {s₂ : Shared} {I : Addr} {fp : List Addr} {n : Nat} {P : Nat → Value → Prop} {St : Nat → Heap → Prop}
    {Inv : Addr → Addr → Nat → List (K × Value) → Heap → Prop} {RR : Value → Addr → Result → Shared → Prop} (T : DTurns knd A env scope cl kx vx x s₂ I fp n P St Inv)
    (hcell : ∀ y ∈ scope.names, y.2 ≠ .cell) (hkind : scope.kind = .function) (hx : scope.names.lookup x = some .local)
    (hRR : ∀ C D h' tk m' kvs, s₂.heap.objs.size ≤ D → s₂.heap.get? D = none → s₂.heap.get? C = none → D ≠ C → h'.Ns C m' → h'.DictOf knd D kvs → Inv C D n kvs h' → (∀ b o, b ≠ I → s₂.heap.get? b = some o → h'.get? b = some o) →
      RR (.ref D) C (.ok .next) { s₂ with heap := h', toks := tk }) :
    wpAny (model prog w) A newDict (fun acc s₃ => wpAny (model prog w) A (newFunctionEnv scope env.globals cl [] env.qual none .none (some env)) (fun cenv s₄ =>
      codeAny (model prog w) A (.compStart (.DictComp kx vx [⟨.Name x px, iter, [], 0⟩] scope pos) 0 (.ref I) acc { cenv with scope := relabel scope env }) (RR acc cenv.locals) s₄) E s₃) E s₂ := by
  obtain ⟨W, hsz, hst, hfp, hIo, hI0, hstab, hturn⟩ := T
  refine wpAny_newObj_type (wpAny_newFunctionEnv hcell (by intro y hy; simp at hy) (fun h₁ hns₁ hsb₁ => ?_) hkind)
  dsimp only at hns₁ hsb₁ ⊢
  have hnew : (s₂.heap.push { cls := .type "dict", dict := none, data := .dict #[] }).DictOf knd s₂.heap.objs.size [] := Heap.DictOf.new s₂.heap
  generalize hH2 : s₂.heap.push { cls := .type "dict", dict := none, data := .dict #[] } = H2 at hns₁ hsb₁ hnew ⊢
  have hC : H2.objs.size = s₂.heap.objs.size + 1 := by rw [← hH2, Heap.size_push]
  have hDC : s₂.heap.objs.size ≠ H2.objs.size := by rw [hC]; exact Nat.ne_of_lt (Nat.lt_succ_self _)
  have below : ∀ b, b < s₂.heap.objs.size → b ≠ H2.objs.size ∧ b ≠ s₂.heap.objs.size := fun b hb => ⟨by rw [hC]; exact Nat.ne_of_lt (Nat.lt_succ_of_lt hb), Nat.ne_of_lt hb⟩
  have hDf : s₂.heap.objs.size ∉ fp := fun hm => Nat.lt_irrefl _ (hfp _ hm)
  have hCf : H2.objs.size ∉ fp := fun hm => by have := hfp _ hm; rw [hC] at this; exact Nat.lt_irrefl _ (Nat.lt_of_succ_lt this)
  have hIf : I ∈ fp := W.sub I (List.mem_singleton.mpr rfl)
  have hIC : I ≠ H2.objs.size := (below I (hfp I hIf)).1
  have hID : I ≠ s₂.heap.objs.size := (below I (hfp I hIf)).2
  have old : ∀ b o, s₂.heap.get? b = some o → h₁.get? b = some o := fun b o e => hsb₁.extBut b o (below b (Heap.lt_size e)).1 (Heap.get?_push_of_some _ (hH2 ▸ Heap.get?_push_of_some _ e))
  have hacc : h₁.DictOf knd s₂.heap.objs.size [] := hnew.at fun o e => hsb₁.extBut _ _ hDC (Heap.get?_push_of_some _ e)
  have hst₁ : St 0 h₁ := W.frame _ _ _ hst fun b _ o e => old b o e
  have fresh : ∀ a, s₂.heap.objs.size ≤ a → s₂.heap.get? a = none := fun a ha => by
    cases e : s₂.heap.get? a with
    | none => rfl
    | some o' => exact absurd (Heap.lt_size e) (Nat.not_lt.mpr ha)
  generalize hCe : H2.objs.size = C at *
  generalize hDe : s₂.heap.objs.size = D at *
  have loop : ∀ s₃ : Shared, s₃ = { s₂ with heap := h₁, toks := s₂.toks + ([] : List (Str × Value)).length } →
      codeAny (model prog w) A (.compLoop (.DictComp kx vx [⟨.Name x px, iter, [], 0⟩] scope pos) 0 (.ref I) (.ref D) (compEnvC scope cl C env)) (RR (.ref D) C) s₃ := by
    rintro s₃ rfl
    refine codeAny_compLoop_testsD
      (fun k s' => ∃ h' tk m' kvs j, s' = { s₂ with heap := h', toks := tk } ∧ j ≤ n ∧ k = n + 1 - j ∧ St j h' ∧ h'.DictOf knd D kvs ∧ kvs.length ≤ j ∧ h'.Ns C m' ∧ Inv C D j kvs h' ∧ ∀ b o, b ≠ I → s₂.heap.get? b = some o → h'.get? b = some o) ?_ (n + 1)
      ⟨h₁, _, _, [], 0, rfl, Nat.zero_le _, rfl, hst₁, hacc, Nat.le_refl _, hns₁, hI0 C D h₁ old, fun b o _ e => old b o e⟩
    rintro k s' ⟨H, tk, m', kvs, j, rfl, hj, rfl, hst', hacc', hkl, hn', hInv, hk⟩
    by_cases hlt : j < n
    · refine W.item j _ _ _ hlt hst' fun v h₂ tk₂ hPv hst₂ hk₂ => ?_
      have hk₂' : ∀ b o, b ≠ I → H.get? b = some o → h₂.get? b = some o := fun b o hb e => hk₂ b o (by simpa using hb) e
      refine wpAny_assign_Name (wpAny_storeName_local (lookup_relabel_local hx) (hn'.at' fun o e => hk₂' _ o (Ne.symm hIC) e) (fun h₃ hn₃ hs₃ => ?_) (by simp [compEnvC, relabel, hkind]))
      have up : ∀ b o, b ≠ C → b ≠ I → H.get? b = some o → h₃.get? b = some o := fun b o hbC hbI e => hs₃.extBut b o hbC (hk₂' b o hbI e)
      have hst₃ : St (j + 1) h₃ := W.frame _ _ _ hst₂ fun b hb o e => hs₃.extBut b o (fun q => hCf (by have q' : b = C := q; rw [← q']; exact hb)) e
      have hacc₃ : h₃.DictOf knd D kvs := hacc'.at fun o e => up D o hDC (Ne.symm hID) e
      have hInv₃ : Inv C D j kvs h₃ := hstab _ _ _ _ _ _ hInv fun b o h1 h2 _ _ e => up b o h2 h1 e
      have keep₃ : ∀ b o, b ≠ I → s₂.heap.get? b = some o → h₃.get? b = some o := fun b o hb e => up b o (fun q => by rw [q] at e; have := Heap.lt_size e; rw [hDe, hC] at this; exact absurd this (Nat.not_lt.mpr (Nat.le_succ _))) hb (hk b o hb e)
      refine wpAny_tests_nil ?_
      rw [if_pos rfl]
      obtain ⟨oD, hoD, _⟩ := Heap.dictOf_iff.mp hacc₃
      refine wpAny_mono (hturn C D j kvs v _ _ _ hlt hPv hInv₃ hn₃ (if_pos rfl) (hIo _ _ hst₃) ⟨oD, hoD⟩ hDC hIC hID (by rw [hC]; exact Nat.le_succ _) (Nat.le_refl _) hkl ⟨_, _, rfl⟩ keep₃) (fun key s₄ h₄ => wpAny_mono h₄ (fun y s₅ h₅ => ?_) fun _ _ e => e) fun _ _ e => e
      obtain ⟨h₅, tk₅, kk, rfl, hk₅, hkk, hInv₅⟩ := h₅
      refine wpAny_dictSet_pairs (hsz := Nat.le_trans hkl (Nat.le_trans hj hsz)) hkk (hacc₃.at fun o e => hk₅ _ o e) fun h₆ hl₆ hs₆ => ?_
      refine ⟨n + 1 - (j + 1), by omega, h₆, _, _, stored kvs kk y, j + 1, rfl, hlt, rfl, ?_, hl₆, ?_, (hn₃.keeps hk₅).sameBut hs₆ (Ne.symm hDC), hstab _ _ _ _ _ _ hInv₅ (fun b o _ _ h3 _ e => hs₆.extBut b o h3 e), fun b o hb e => hs₆.extBut b o (fun q => ?_) (hk₅ b o (keep₃ b o hb e))⟩
      · exact W.frame _ _ _ hst₃ fun b hb o e => hs₆.extBut b o (fun q => hDf (by rw [← q]; exact hb)) (hk₅ b o e)
      · have := stored_length_le kvs kk y; omega
      · rw [q] at e; have := Heap.lt_size e; rw [hDe] at this; exact absurd this (Nat.lt_irrefl _)
    · obtain rfl : j = n := by omega
      refine W.done _ _ _ hst' fun h₂ tk₂ hk₂ => ?_
      have hk₂' : ∀ b o, b ≠ I → H.get? b = some o → h₂.get? b = some o := fun b o hb e => hk₂ b o (by simpa using hb) e
      exact hRR C D h₂ tk₂ m' kvs (Nat.le_refl _) (fresh _ (Nat.le_refl _)) (fresh _ (by rw [hC]; exact Nat.le_succ _)) hDC (hn'.at' fun o e => hk₂' _ o (Ne.symm hIC) e)
        (hacc'.at fun o e => hk₂' _ o (Ne.symm hID) e) (hstab _ _ _ _ _ _ hInv fun b o h1 _ _ _ e => hk₂' b o h1 e) fun b o hb e => hk₂' b o hb (hk b o hb e)
  exact codeAny_compStart_dict (loop _ rfl) (W.self 0 _ _ _ hst₁ (loop _ rfl))

/-- a dict comprehension as a value -/
theorem DictComp_H {s : Shared} {kx vx iter : Expr} {x : Str} {px : Pos} {scope : Scope} {cl : List (Str × Addr)} {pos : Pos} {Q : Value → Shared → Prop} (knd : KeyKind prog w K)
    (hclos : closureFor scope env = pure cl) (hcell : ∀ y ∈ scope.names, y.2 ≠ .cell) (hkind : scope.kind = .function)
    (hnames : ∀ y ∈ scope.names, y.2 = .local → scope.names.lookup y.1 = some .local) (hx : scope.names.lookup x = some .local)
    (hs : ∀ x, foldedSetIterable iter env x = pure x)
    (h : wpAny (model prog w) A (eval iter env) (fun xv s₁ => wpAny (model prog w) A (pyIter xv) (fun it s₂ => ∃ (I : Addr) (fp : List Addr) (n : Nat) (P : Nat → Value → Prop) (St : Nat → Heap → Prop) (Inv : Addr → Addr → Nat → List (K × Value) → Heap → Prop), it = .ref I ∧
      DTurns knd A env scope cl kx vx x s₂ I fp n P St Inv ∧
      (∀ C D h' tk kvs, s₂.heap.objs.size ≤ D → s₂.heap.get? D = none → h'.DictOf knd D kvs → Inv C D n kvs h' → (∀ b o, b ≠ I → s₂.heap.get? b = some o → h'.get? b = some o) → Q (.ref D) { s₂ with heap := h', toks := tk })) E s₁) E s) :
    wpAny (model prog w) A (eval (.DictComp kx vx [⟨.Name x px, iter, [], 0⟩] scope pos) env) Q E s := by
  rw [arm_eval_DictComp]
  refine wpAny_comprehension_free (use := none) rfl hs hclos hkind hnames (wpAny_mono h (fun xv s₁ h₁ => wpAny_mono h₁ (fun it s₂ h₂ => ?_) fun _ _ e => e) fun _ _ e => e)
  obtain ⟨I, fp, n, P, St, Inv, rfl, T, hQ⟩ := h₂
  have hstab := T.stab
  refine dict_block (RR := fun acc C => compPost (model prog w) A E none Q acc C) T hcell hkind hx ?_
  intro C D h' tk m' kvs hDs hD hC hDC hn hd hI hk
  exact ⟨m', hn, fun h'' hs'' => hQ C D h'' tk kvs hDs hD (hd.extBut hs''.extBut hDC) (hstab _ _ _ _ _ _ hI fun b o _ h2 _ _ e => hs''.extBut b o h2 e) fun b o hb e => hs''.extBut b o (fun q => by rw [q, hC] at e; cases e) (hk b o hb e)⟩

/-- `name = {..}` -/
theorem Assign_DictComp_H {s : Shared} {kx vx iter : Expr} {x y : Str} {px py : Pos} {scope : Scope} {cl : List (Str × Addr)} {pos spos : Pos} {Q : Flow → Shared → Prop} (knd : KeyKind prog w K)
    (hsw : swapsWith (.DictComp kx vx [⟨.Name x px, iter, [], 0⟩] scope pos) (some (.Name y py)) spos.line env = pure true)
    (hclos : closureFor scope env = pure cl) (hcell : ∀ y ∈ scope.names, y.2 ≠ .cell) (hkind : scope.kind = .function)
    (hnames : ∀ y ∈ scope.names, y.2 = .local → scope.names.lookup y.1 = some .local) (hx : scope.names.lookup x = some .local)
    (hy : env.kindOf y = some .local) (hp : (env.scope.kind == .class || (env.scope.kind == .module && env.locals != env.globals)) = false)
    (hs : ∀ x, foldedSetIterable iter env x = pure x)
    (h : wpAny (model prog w) A (eval iter env) (fun xv s₁ => wpAny (model prog w) A (pyIter xv) (fun it s₂ => ∃ (I : Addr) (fp : List Addr) (n : Nat) (P : Nat → Value → Prop) (St : Nat → Heap → Prop) (Inv : Addr → Addr → Nat → List (K × Value) → Heap → Prop) (m : Str → Option Value), it = .ref I ∧
      s₂.heap.Ns env.locals m ∧ env.locals ≠ I ∧ DTurns knd A env scope cl kx vx x s₂ I fp n P St Inv ∧
      (∀ C D h' tk kvs, s₂.heap.objs.size ≤ D → s₂.heap.get? D = none → h'.DictOf knd D kvs → Inv C D n kvs h' → h'.Ns env.locals (fun z => if z = y then some (.ref D) else m z) → (∀ b o, b ≠ I → b ≠ env.locals → s₂.heap.get? b = some o → h'.get? b = some o) →
        Q .next { s₂ with heap := h', toks := tk })) E s₁) E s) :
    wpAny (model prog w) A (exec (.Assign [.Name y py] (.DictComp kx vx [⟨.Name x px, iter, [], 0⟩] scope pos) spos) env) Q E s := by
  rw [exec_Assign_Name_used _ _ _ _ hsw]
  refine wpAny_bind (wpAny_standAt (wpAny_bind ?_))
  show wpAny _ A (do let _ ← comprehension (.DictComp kx vx [⟨.Name x px, iter, [], 0⟩] scope pos) scope env _ newDict false (eval iter env) (some (assign (.Name y py) env))) _ _ s
  refine wpAny_bind (wpAny_mono (wpAny_comprehension_free (use := some (assign (.Name y py) env)) (Q := fun _ s' => Q .next s') rfl hs hclos hkind hnames
    (wpAny_mono h (fun xv s₁ h₁ => wpAny_mono h₁ (fun it s₂ h₂ => ?_) fun _ _ e => e) fun _ _ e => e)) (fun _ s' hq => wpAny_pure (wpAny_pure hq)) fun _ _ e => e)
  obtain ⟨I, fp, n, P, St, Inv, m, rfl, hL, hLI, T, hQ⟩ := h₂
  have hstab := T.stab
  refine dict_block (RR := fun acc C => compPost (model prog w) A E (some (assign (.Name y py) env)) (fun _ s' => Q .next s') acc C) T hcell hkind hx ?_
  intro C D h' tk m' kvs hDs hD hC hDC hn hd hI hk
  have hLC : env.locals ≠ C := by rintro rfl; obtain ⟨o, _, _, ho, _⟩ := hL; rw [hC] at ho; cases ho
  have hLD : env.locals ≠ D := by rintro rfl; obtain ⟨o, _, _, ho, _⟩ := hL; rw [hD] at ho; cases ho
  show wpAny _ A (assign (.Name y py) env (.ref D)) _ _ _
  refine wpAny_assign_Name (wpAny_storeName_local hy (hL.at' fun o e => hk _ o hLI e) (fun h₂ hn₂ hs₂ => ?_) hp)
  refine ⟨m', hn.sameBut hs₂ (Ne.symm hLC), fun h₃ hs₃ => ?_⟩
  refine hQ C D h₃ _ kvs hDs hD ((hd.extBut hs₂.extBut (Ne.symm hLD)).extBut hs₃.extBut hDC) ?_ (hn₂.sameBut hs₃ hLC) ?_
  · exact hstab _ _ _ _ _ _ (hstab _ _ _ _ _ _ hI fun b o _ _ _ h4 e => hs₂.extBut b o h4 e) fun b o _ h2 _ _ e => hs₃.extBut b o h2 e
  · exact fun b o hb hbL e => hs₃.extBut b o (fun q => by rw [q, hC] at e; cases e) (hs₂.extBut b o hbL (hk b o hb e))
end
end Mine
end

/-! ## Tk -/
section
theorem Mine.offTk : True := by w_top off; trivial
open PySem PySem.W PySem.Calls PyProof.Rows PyProof.V PySem.Spec
set_option Elab.async false
set_option maxRecDepth 100000
namespace Mine
theorem look_at {D : List (Str × Int)} (hn : (D.map (·.1)).Nodup) : ∀ {i : Nat} {k : Str} {c : Int}, D[i]? = some (k, c) → look D k = some c := by
  induction D with
  | nil => intro i k c h; simp at h
  | cons p r ih =>
    intro i k c h
    rw [List.map_cons, List.nodup_cons] at hn
    cases i with
    | zero =>
      rw [List.getElem?_cons_zero] at h
      rw [Option.some.inj h]
      simp [look]
    | succ i =>
      rw [List.getElem?_cons_succ] at h
      have h1 := ih hn.2 h
      have hk : k ∈ r.map (·.1) := List.mem_map.mpr ⟨_, List.mem_of_getElem? h, rfl⟩
      show (if p.1 = k then some p.2 else look r k) = some c
      rw [if_neg (fun e => hn.1 (by rw [e]; exact hk))]; exact h1
/-- a table gone through, with new values -/
noncomputable def mapT (f : Str → Int → Int) (D : List (Str × Int)) : List (Str × Int) := D.foldl (fun M p => putTo M (p.1, f p.1 p.2)) []
theorem mapT_snoc (f : Str → Int → Int) {D : List (Str × Int)} {i : Nat} {k : Str} {c : Int} (h : D[i]? = some (k, c)) : mapT f (D.take (i + 1)) = put (mapT f (D.take i)) k (f k c) := by
  unfold mapT
  rw [List.take_add_one, h, List.foldl_append]; rfl
theorem mapT_len (f : Str → Int → Int) (D : List (Str × Int)) : (mapT f D).length ≤ D.length := by
  have : ∀ (l M : List (Str × Int)), (l.foldl (fun M p => putTo M (p.1, f p.1 p.2)) M).length ≤ M.length + l.length := by
    intro l
    induction l with
    | nil => intro M; simp
    | cons p r ih =>
      intro M
      have h1 := ih (putTo M (p.1, f p.1 p.2))
      have h2 := put_length M p.1 (f p.1 p.2)
      simp only [List.foldl_cons, List.length_cons]
      have h3 : (putTo M (p.1, f p.1 p.2)).length = (put M p.1 (f p.1 p.2)).length := rfl
      omega
  have := this D []
  simp at this; exact this
theorem StrTab.nodup {w : World} {h : Heap} {d : Addr} {D : List (Str × Int)} (T : StrTab PR w h d (tb D)) : (D.map (·.1)).Nodup := let ⟨_, _, O⟩ := od_of T; O.nodup
section
variable {w : World} {A : Around} {E : Value → Shared → Prop} {s : Shared} {env : Env} {h₀ : Heap} {L : Addr} {m : Str → Option Value} {news : List (Addr × Obj)} {d : Addr} {Dt : List (Str × Int)}
/-- what a comprehension over a table asks -/
noncomputable def TSrc (w : World) (A : Around) (h₀ : Heap) (L : Addr) (m : Str → Option Value) (env : Env) (vx : Expr) (x : Str) (scope : Scope) (cl : List (Str × Addr)) (Fin : Shared → List (Str × Int) → List (Addr × Obj) → Prop) (xv : Value) (s₁ : Shared) : Prop :=
  ∃ d Dt f news, xv = .ref d ∧ A.handled = none ∧ Fr h₀ L s₁.heap m ∧ News h₀ L s₁.heap news ∧ StrTab PR w s₁.heap d (tb Dt) ∧ Dt.length ≤ 900 ∧ d ≠ L ∧ s₁.heap.NoLimit ∧
    (∀ C oC k c tk s₃ m₃ E', (k, c) ∈ Dt → LCg.NsObj oC m₃ → m₃ x = some (.str k tk) → Fr h₀ L s₃.heap m → News h₀ L s₃.heap ((C, oC) :: news) → StrTab PR w s₃.heap d (tb Dt) → (∀ b o, s₁.heap.get? b = some o → s₃.heap.get? b = some o) →
      wpAny (model PR w) A (eval vx (compEnvC scope cl C env)) (fun y s₄ => (∃ t, y = .int (f k c) t) ∧ ∃ tk', s₄ = { s₃ with toks := tk' }) E' s₃) ∧
    Fin s₁ (mapT f Dt) news
open LCg in
theorem dturns_T {vx : Expr} {kp : Pos} {x : Str} {scope : Scope} {cl : List (Str × Addr)} {f : Str → Int → Int} {ep : Nat} {kvs : List (Str × Value)} (hh : A.handled = none) (F : Fr h₀ L s.heap m) (N : News h₀ L s.heap news)
    (T : StrTab PR w s.heap d (tb Dt)) (hf : FlatPairs PyData.str kvs (tb Dt)) (hsz : Dt.length ≤ 900) (hat : s.heap.DictAt (strKind PR w) d kvs ep) (hkind : scope.kind = .function) (hdb : (x == ("__debug__" : Str)) = false) (hx : scope.names.lookup x = some .local)
    (turn : ∀ C oC k c tk s₃ m₃ E', (k, c) ∈ Dt → LCg.NsObj oC m₃ → m₃ x = some (.str k tk) → Fr h₀ L s₃.heap m → News h₀ L s₃.heap ((C, oC) :: news) → StrTab PR w s₃.heap d (tb Dt) → (∀ b o, s.heap.get? b = some o → s₃.heap.get? b = some o) →
      wpAny (model PR w) A (eval vx (compEnvC scope cl C env)) (fun y s₄ => (∃ t, y = .int (f k c) t) ∧ ∃ tk', s₄ = { s₃ with toks := tk' }) E' s₃) :
    DTurns (strKind PR w) A env scope cl (.Name x kp) vx x { s with heap := s.heap.push { cls := .type "dict_keyiterator", data := .fields #[.ref d, .int 0 0, .int kvs.length 0, .int ep 0] } } s.heap.objs.size [s.heap.objs.size, d] kvs.length
      (fun i v => ∃ k y, kvs[i]? = some (k, y) ∧ (strKind PR w).is k v = true) (fun i h => h.IsKeyIter s.heap.objs.size d i kvs.length ep ∧ h.DictAt (strKind PR w) d kvs ep)
      (fun _ _ j ks _ => FlatPairs PyData.str ks (tb (mapT f (Dt.take j)))) := by
  have hne : d ≠ s.heap.objs.size := Nat.ne_of_lt hat.lt_size
  have hlen : Dt.length = kvs.length := by rw [← hf.length, tb_length]
  refine ⟨Walks.dictKeys hh _ d hne kvs ep, by rw [← hlen]; exact Nat.le_trans hsz (by decide), ⟨⟨_, Heap.get?_push_size _ rfl, rfl, rfl⟩, hat.push _⟩, ?_, ?_, ?_, ?_, ?_⟩
  · intro b hb
    show b < (s.heap.push _).objs.size
    rw [Heap.size_push]
    rcases List.mem_cons.mp hb with rfl | hb
    · exact Nat.lt_succ_self _
    · rw [List.mem_singleton.mp hb]; exact Nat.lt_succ_of_lt hat.lt_size
  · rintro i h ⟨⟨o, ho, _⟩, _⟩; exact ⟨o, ho⟩
  · exact fun C D h' _ => .nil
  · exact fun C D j kvs h h' I _ => I
  · rintro C D j ks v s₃ m₃ E' hj ⟨k, y, hkv, hkey⟩ hI hC hm hIo hDo hDC hIC hID hCs hDs hkl ⟨h3, tk3, rfl⟩ hk
    obtain ⟨tk, rfl⟩ := Value.isStrOf_shape hkey
    have up : ∀ b o, s.heap.get? b = some o → h3.get? b = some o := fun b o e => hk b o (Nat.ne_of_lt (Heap.lt_size e)) (Heap.get?_push_of_some _ e)
    obtain ⟨dv, hDi, hfl⟩ := hf.at hkv
    obtain ⟨k', c, hDj, hk', rfl⟩ := tb_get hDi
    cases hk'
    obtain ⟨oC, hoC, hC'⟩ := ns_obj hC
    have hCs' : s.heap.objs.size < C := by
      have : (s.heap.push { cls := .type "dict_keyiterator", data := .fields #[.ref d, .int 0 0, .int kvs.length 0, .int ep 0] }).objs.size ≤ C := hCs
      rw [Heap.size_push] at this; exact this
    have N3 : News h₀ L h3 ((C, oC) :: news) := by
      intro p hp
      rcases List.mem_cons.mp hp with rfl | hp
      · refine ⟨hoC, fun e => ?_, ?_⟩
        · have := F.ns.lt
          rw [← e] at this
          exact absurd (Nat.lt_trans this hCs') (Nat.lt_irrefl _)
        · cases q : h₀.get? C with
          | none => rfl
          | some o' => exact absurd (Nat.lt_trans (Heap.lt_size (F.keep _ _ q)) hCs') (Nat.lt_irrefl _)
      · exact ⟨up _ _ (N p hp).1, (N p hp).2⟩
    refine ldVarK hC hm ?_ hkind (lookup_relabel_local hx) hdb
    refine wpAny_mono (turn C oC k c tk _ m₃ E' (List.mem_of_getElem? hDj) hC' hm (F.keeps up) N3 (T.keep up) up) ?_ fun _ _ e => e
    rintro y s₅ ⟨⟨t, rfl⟩, tk', rfl⟩
    refine ⟨_, _, k, rfl, fun _ _ e => e, hkey, ?_⟩
    rw [mapT_snoc f hDj, ← putD_tb]
    exact hI.stored same_str k (Flat.int _ t)
noncomputable def FinT (w : World) (h₀ : Heap) (L : Addr) (m : Str → Option Value) (Q : Value → Shared → Prop) (s : Shared) (D : List (Str × Int)) (news : List (Addr × Obj)) : Prop :=
  ∀ d h tk, Fr h₀ L h m → News h₀ L h news → (∀ p ∈ news, p.1 ≠ d) → h₀.get? d = none → d ≠ L → StrTab PR w h d (tb D) → Q (.ref d) { s with heap := h, toks := tk }
noncomputable def FinTA (w : World) (h₀ : Heap) (L : Addr) (m : Str → Option Value) (y : Str) (Q : Flow → Shared → Prop) (s : Shared) (D : List (Str × Int)) (news : List (Addr × Obj)) : Prop :=
  ∀ d h tk, Fr h₀ L h (fun z => if z = y then some (.ref d) else m z) → News h₀ L h news → (∀ p ∈ news, p.1 ≠ d) → h₀.get? d = none → d ≠ L → StrTab PR w h d (tb D) → Q .next { s with heap := h, toks := tk }
theorem DictComp_T {vx iter : Expr} {x : Str} {px kp : Pos} {scope : Scope} {cl : List (Str × Addr)} {pos : Pos} {Q : Value → Shared → Prop} (_F : Fr h₀ L s.heap m)
    (hclos : closureFor scope env = pure cl) (hcell : ∀ y ∈ scope.names, y.2 ≠ .cell) (hkind : scope.kind = .function)
    (hnames : ∀ y ∈ scope.names, y.2 = .local → scope.names.lookup y.1 = some .local) (hx : scope.names.lookup x = some .local)
    (hdb : (x == ("__debug__" : Str)) = false) (hs : ∀ x, foldedSetIterable iter env x = pure x)
    (h : wpAny (model PR w) A (eval iter env) (TSrc w A h₀ L m env vx x scope cl (FinT w h₀ L m Q)) E s) :
    wpAny (model PR w) A (eval (.DictComp (.Name x kp) vx [⟨.Name x px, iter, [], 0⟩] scope pos) env) Q E s := by
  refine DictComp_H (strKind PR w) hclos hcell hkind hnames hx hs (wpAny_mono h (fun xv s₁ h₁ => ?_) fun _ _ e => e)
  obtain ⟨d, Dt, f, news, rfl, hh, F, N, T, hsz, hdL, hlim, turn, fin⟩ := h₁
  obtain ⟨lo, kvs, hdo, hf⟩ := id T
  obtain ⟨ep, hat⟩ := hdo.dictAt
  refine wpAny_pyIter_dict lo hat ?_
  refine ⟨_, _, _, _, _, _, rfl, dturns_T hh F N T hf hsz hat hkind hdb hx turn, ?_⟩
  intro C D h' tk ks hDs hD hd hI hk
  have hlen : Dt.length = kvs.length := by rw [← hf.length, tb_length]
  have hI : FlatPairs PyData.str ks (tb (mapT f (Dt.take kvs.length))) := hI
  rw [← hlen, List.take_length] at hI
  have up : ∀ b o, s₁.heap.get? b = some o → h'.get? b = some o := fun b o e => hk b o (Nat.ne_of_lt (Heap.lt_size e)) (Heap.get?_push_of_some _ e)
  have hD' : ∀ b o, s₁.heap.get? b = some o → b ≠ D := fun b o e q => by
    have hD : (s₁.heap.push _).get? D = none := hD
    rw [q] at e; rw [Heap.get?_push_of_some _ e] at hD; cases hD
  obtain ⟨oL, _, _, hoL, _⟩ := F.ns
  have hnm : D ≠ sysModules := fun q => by
    have h1 := modules_low hlim
    have h2 : (s₁.heap.push { cls := .type "dict_keyiterator", data := .fields #[.ref d, .int 0 0, .int kvs.length 0, .int ep 0] }).objs.size ≤ D := hDs
    rw [Heap.size_push, q] at h2
    exact absurd h2 (Nat.not_le.mpr (Nat.lt_succ_of_lt h1))
  refine fin D h' tk (F.keeps up) (N.grown up) (fun p hp => hD' _ _ (N p hp).1) ?_ (Ne.symm (hD' _ _ hoL)) ⟨beq_eq_false_iff_ne.mpr hnm, ks, hd, hI⟩
  cases q : h₀.get? D with
  | none => rfl
  | some o' => exact absurd rfl (hD' _ _ (F.keep _ _ q))
theorem Assign_DictComp_T {vx iter : Expr} {x y : Str} {px kp py : Pos} {scope : Scope} {cl : List (Str × Addr)} {pos spos : Pos} {Q : Flow → Shared → Prop} (_F : Fr h₀ L s.heap m) (hLe : env.locals = L)
    (hsw : swapsWith (.DictComp (.Name x kp) vx [⟨.Name x px, iter, [], 0⟩] scope pos) (some (.Name y py)) spos.line env = pure true)
    (hclos : closureFor scope env = pure cl) (hcell : ∀ y ∈ scope.names, y.2 ≠ .cell) (hkind : scope.kind = .function)
    (hnames : ∀ y ∈ scope.names, y.2 = .local → scope.names.lookup y.1 = some .local) (hx : scope.names.lookup x = some .local)
    (hdb : (x == ("__debug__" : Str)) = false) (hy : env.kindOf y = some .local) (hp : (env.scope.kind == .class || (env.scope.kind == .module && env.locals != env.globals)) = false)
    (hs : ∀ x, foldedSetIterable iter env x = pure x)
    (h : wpAny (model PR w) A (eval iter env) (TSrc w A h₀ L m env vx x scope cl (FinTA w h₀ L m y Q)) E s) :
    wpAny (model PR w) A (exec (.Assign [.Name y py] (.DictComp (.Name x kp) vx [⟨.Name x px, iter, [], 0⟩] scope pos) spos) env) Q E s := by
  subst hLe
  refine Assign_DictComp_H (strKind PR w) hsw hclos hcell hkind hnames hx hy hp hs (wpAny_mono h (fun xv s₁ h₁ => ?_) fun _ _ e => e)
  obtain ⟨d, Dt, f, news, rfl, hh, F, N, T, hsz, hdL, hlim, turn, fin⟩ := h₁
  obtain ⟨lo, kvs, hdo, hf⟩ := id T
  obtain ⟨ep, hat⟩ := hdo.dictAt
  refine wpAny_pyIter_dict lo hat ?_
  refine ⟨_, _, _, _, _, _, m, rfl, F.ns.push _, Nat.ne_of_lt F.ns.lt, dturns_T hh F N T hf hsz hat hkind hdb hx turn, ?_⟩
  intro C D h' tk ks hDs hD hd hI hns hk
  have hlen : Dt.length = kvs.length := by rw [← hf.length, tb_length]
  have hI : FlatPairs PyData.str ks (tb (mapT f (Dt.take kvs.length))) := hI
  rw [← hlen, List.take_length] at hI
  have up : ∀ b o, b ≠ env.locals → s₁.heap.get? b = some o → h'.get? b = some o := fun b o hb e => hk b o (Nat.ne_of_lt (Heap.lt_size e)) hb (Heap.get?_push_of_some _ e)
  have hDs' : s₁.heap.objs.size < D := by
    have : (s₁.heap.push { cls := .type "dict_keyiterator", data := .fields #[.ref d, .int 0 0, .int kvs.length 0, .int ep 0] }).objs.size ≤ D := hDs
    rw [Heap.size_push] at this; exact this
  have hD' : ∀ b o, s₁.heap.get? b = some o → b ≠ D := fun b o e q => absurd (Nat.lt_trans (q ▸ Heap.lt_size e) hDs') (Nat.lt_irrefl _)
  obtain ⟨oL, _, _, hoL, _⟩ := F.ns
  have hnm : D ≠ sysModules := fun q => by
    have h1 := modules_low hlim
    rw [q] at hDs'
    exact absurd (Nat.lt_trans h1 hDs') (Nat.lt_irrefl _)
  refine fin D h' tk ⟨hns, fun b o e => up b o (fun q => absurd (Heap.lt_size e) (by rw [q]; exact Nat.not_lt.mpr F.above)) (F.keep b o e), F.above⟩ (fun p hp => ⟨up _ _ (N p hp).2.1 (N p hp).1, (N p hp).2⟩) (fun p hp => hD' _ _ (N p hp).1) ?_ (Ne.symm (hD' _ _ hoL)) ⟨beq_eq_false_iff_ne.mpr hnm, ks, hd, hI⟩
  cases q : h₀.get? D with
  | none => rfl
  | some o' => exact absurd rfl (hD' _ _ (F.keep _ _ q))
end

section
variable {w : World} {A : Around} {E : Value → Shared → Prop} {s : Shared} {env : Env} {h₀ : Heap} {m₀ : Str → Option Value} {news : List (Addr × Obj)} {d : Addr} {D : List (Str × Int)} {target : Expr} {body : List Stmt} {Q : Flow → Shared → Prop}
/-- for x in table -/
theorem Iter_keys (hh : A.handled = none) (T : StrTab PR w s.heap d (tb D)) (hdL : d ≠ env.locals)
    (F : Fr h₀ env.locals s.heap m₀) (N : News h₀ env.locals s.heap news)
    (J : Nat → (Str → Option Value) → List (Addr × Obj) → Prop) (h0 : J 0 m₀ news)
    (turn : ∀ i k c tk m₁ news₁ h₁ tk₁ own I, D[i]? = some (k, c) → J i m₁ news₁ → (∀ p ∈ news₁, p.1 ≠ I) → (∀ p ∈ own, p.1 = I ∨ p.1 = d) → (∃ oI : Obj, (I, oI) ∈ own) →
      StrTab PR w h₁ d (tb D) → Fr h₀ env.locals h₁ m₁ → News h₀ env.locals h₁ (own ++ news₁) →
      wpAny (model PR w) A (assign target env (.str k tk)) (fun _ s₃ => wpAny (model PR w) A (execs body env) (LoopStepV h₀ env.locals [I] own (J (i + 1)) { s with heap := h₁, toks := tk₁ } (fun v s' => Q (.ret v) s') fun s' => Q .next s') E s₃) E { s with heap := h₁, toks := tk₁ })
    (done : ∀ h' tk m' news', Fr h₀ env.locals h' m' → News h₀ env.locals h' news' → J D.length m' news' → Q .next { s with heap := h', toks := tk }) :
    wpAny (model PR w) A (pyIter (.ref d)) (fun it s₂ => TurnsAt PR w A h₀ env target body Q E it s₂) E s := by
  obtain ⟨lo, kvs, hdo, hf⟩ := id T
  obtain ⟨ep, hat⟩ := hdo.dictAt
  refine wpAny_pyIter_dict lo hat ?_
  have hne : d ≠ s.heap.objs.size := Nat.ne_of_lt hat.lt_size
  have hlen : D.length = kvs.length := by rw [← hf.length, tb_length]
  refine ⟨s.heap.objs.size, _, _, _, _, _, _, m₀, news, J, rfl, KTurns.ofWalks (Walks.dictKeys (knd := strKind PR w) hh s.heap.objs.size d hne kvs ep) (fun i v s Q E st q => letGo_keyiter st.1 q), ?_, ?_, ?_, ?_, F.push _, fun p hp => ⟨Heap.get?_push_of_some _ (N p hp).1, (N p hp).2⟩, h0, ?_, ?_⟩
  · intro hm
    rcases List.mem_cons.mp hm with e | hm
    · exact absurd F.ns.lt (e ▸ Nat.lt_irrefl _)
    · exact hdL (List.mem_singleton.mp hm).symm
  · intro b hb
    rw [List.mem_singleton.mp hb]
    exact next_is_new F
  · intro p hp hI
    exact absurd (Heap.lt_size (N p hp).1) ((List.mem_singleton.mp hI) ▸ Nat.lt_irrefl _)
  · exact ⟨⟨_, Heap.get?_push_size _ rfl, rfl, rfl⟩, hat.push _⟩
  · rintro i v m₁ news₁ h₁ tk₁ own hi ⟨k, x, hx, hkey⟩ hJ hnw hown hatN hall hst F₁ N₁
    obtain ⟨dv, hDi, hfl⟩ := hf.at hx
    obtain ⟨x', c, hxi, hk, rfl⟩ := tb_get hDi
    cases hk
    obtain ⟨tk, rfl⟩ := Value.isStrOf_shape hkey
    obtain ⟨⟨oI, hIt, _, _⟩, hat₁⟩ := hst
    refine turn i k c tk m₁ news₁ h₁ tk₁ own s.heap.objs.size hxi hJ (fun p hp e => hnw p hp (List.mem_singleton.mpr e)) (fun p hp => ?_) ⟨oI, hall _ (List.mem_cons_self ..) (next_is_new F) _ hIt⟩ ⟨lo, kvs, hat₁.dictOf, hf⟩ F₁ N₁
    rcases List.mem_cons.mp (hown p hp) with e | e
    · exact .inl e
    · exact .inr (List.mem_singleton.mp e)
  · intro h' tk m' news' F' N' _ hJ
    exact done h' tk m' news' F' N' (hlen ▸ hJ)
end
end Mine
end

/-! ## R1 -/
section
theorem Mine.offR1 : True := by w_top off; trivial
open PySem PySem.W PySem.Calls PyProof.Rows PyProof.V
set_option Elab.async false
set_option maxRecDepth 100000
namespace Mine
set_option maxHeartbeats 16000000
local macro_rules | `(tactic| walk_at "mine none") => `(tactic| fail)
local macro_rules | `(tactic| walk_at "eval Name") => `(tactic| (k_here; k_dflt (refine' nameX_L (cn := Str.ofString "_law_round") (a := 233) (ccd := .ref 232) ?k1 ?k2 ?_; (case k1 => k_asm); (case k2 => repeat (first | assumption | refine (if_neg (by decide)).trans ?_)); k_whole)))
theorem news_put {h₀ h : Heap} {L d : Addr} {o : Obj} {news : List (Addr × Obj)} (N : News h₀ L h news) (e : h.get? d = some o) (dl : d ≠ L) (d0 : h₀.get? d = none) : News h₀ L h ((d, o) :: news) := by
  intro p hp
  rcases List.mem_cons.mp hp with rfl | hp
  · exact ⟨e, dl, d0⟩
  · exact N p hp
/-- a dict of tables -/
noncomputable def FlowTab (w : World) (h : Heap) (fd : Addr) (FL : Str → List (Str × Int)) (dom : List Str) : Prop :=
  (fd == sysModules) = false ∧ ∃ kvs, h.DictOf (strKind PR w) fd kvs ∧ ∀ k ∈ dom, ∃ d, valueAt kvs k = some (.ref d) ∧ StrTab PR w h d (tb (FL k))
theorem FlowTab.keep {w : World} {h h' : Heap} {fd : Addr} {FL : Str → List (Str × Int)} {dom : List Str} (T : FlowTab w h fd FL dom) (k : Kept h h') : FlowTab w h' fd FL dom := by
  obtain ⟨lo, kvs, hd, hv⟩ := T
  refine ⟨lo, kvs, hd.keep k, fun x hx => ?_⟩
  obtain ⟨d, e, t⟩ := hv x hx
  exact ⟨d, e, t.keep k⟩
/-- what a round leaves -/
noncomputable def roundD (FL : Str → List (Str × Int)) (root : Int) (Dt : List (Str × Int)) : List (Str × Int) :=
  Dt.foldl (fun M p => merge M (mapT (fun _ x => x * p.2) (FL p.1))) (mapT (fun _ x => -root * x) Dt)
theorem round_spec {w : World} {mean : ExcName → Option Value} {mg mb : Str → Option Value} {A : Around} {E : Value → Shared → Prop} {s : Shared} {fd td : Addr} {root : Int} {t : Tok} {Dt : List (Str × Int)} {FL : Str → List (Str × Int)} {dom : List Str} {Q : Value → Shared → Prop}
    (W : Wd w mean mg mb s.heap) (hA : A.handled = none) (hroom : A.depth + 5 < recursionLimit) (hD : StrTab PR w s.heap td (tb Dt)) (hF : FlowTab w s.heap fd FL dom) (hdom : ∀ p ∈ Dt, p.1 ∈ dom) (hlen : Dt.length ≤ 40) (hfl : ∀ k, (FL k).length ≤ 10)
    (hm1 : ∀ p ∈ Dt, IntMulOk (-root) p.2) (hm2 : ∀ p ∈ Dt, ∀ q ∈ FL p.1, IntMulOk q.2 p.2)
    (hQ : ∀ h' tk r, Kept s.heap h' → s.heap.get? r = none → StrTab PR w h' r (tb (roundD FL root Dt)) → Q (.ref r) { s with heap := h', toks := tk }) :
    wpAny (model PR w) A (call (.ref 233) [.ref fd, .ref td, .int root t]) Q E s := by
  obtain ⟨K, T⟩ := id W
  refine' enter_defC (g := s.heap) (news := []) (binds := [(Str.ofString "flows", .ref fd), (Str.ofString "table", .ref td), (Str.ofString "root", .int root t)]) W ?hk0 ?hs0 ?hn0 ?ho ?hcd ?hr ?hb ?hl ?hc ?hco ?hg ?hk ?_
  case hk0 => exact Kept.refl _
  case hs0 => exact Nat.le_refl _
  case hn0 => exact fun p hp => by cases hp
  case hr => omega
  case ho => k_is
  case hcd => k_is
  case hb => exact BindsTo.of_eq rfl
  case hl => exact rfl
  case hc => decide
  case hco => rfl
  case hg => rfl
  case hk => rfl
  intro h₁ tk cells F N Y hk₁
  k_cells Y
  simp only [List.cons_append, List.nil_append] at N
  rename_i om oo ort otb dm dor drt dtb
  replace dm : om.data = .cell none := dm
  replace dor : oo.data = .cell none := dor
  replace drt : ort.data = .cell (some (.int root t)) := drt
  replace dtb : otb.data = .cell (some (.ref td)) := dtb
  iterate 4 (try walk1)
  obtain ⟨otd, hotd, _⟩ := tab_obj hD
  refine' Assign_DictComp_T (cl := ?cl) F rfl ?h0 ?h1 ?h2 ?h3 ?h4 ?h5 ?h6 ?h7 ?h8 ?h9 ?_
  case h0 => with_unfolding_all rfl
  case h1 => with_unfolding_all rfl
  case h2 => decide
  case h3 => rfl
  case h4 => decide
  case h5 => rfl
  case h6 => decide
  case h7 => rfl
  case h8 => rfl
  case h9 => intro _; rfl
  walk1
  refine ⟨td, Dt, fun _ x => -root * x, _, rfl, hA, F, N, hD.keep F.keep, by omega, ?ne1, (T.keeps F.keep).nolimit, ?turn1, ?fin1⟩
  case ne1 => exact fun e => absurd (Heap.lt_size hotd) (by rw [e]; exact Nat.lt_irrefl _)
  case turn1 =>
    intro C oC k c tk3 s₃ m₃ E' hkc hC hm F3 N3 T3 _
    iterate 8 walk1
    obtain ⟨i, hi⟩ := List.getElem?_of_mem hkc
    have hlk : look Dt k = some c := look_at (StrTab.nodup hD) hi
    refine getItem_tab same_str (strKind_is PR w k tk3) T3 (dv := .int c) (by rw [lookup_tb, hlk]; rfl) ?_
    intro v hfl
    obtain ⟨tu, rfl⟩ := Flat.int_inv hfl
    refine mul_int ?_ (hm1 _ hkc)
    exact ⟨⟨_, rfl⟩, _, rfl⟩
  case fin1 =>
    intro d h2 tk2 F2 N2 off2 hd0 hdL T2
    obtain ⟨od, hod, hOd⟩ := od_of T2
    have hdlo := T2.1
    have N3 := news_put N2 hod hdL hd0
    have od3 := off2 (s.heap.objs.size + 1 + 1 + 1, oo) (by first | ((repeat (first | exact .head _ | refine .tail _ ?_)); done) | simp)
    have od4 := off2 (s.heap.objs.size + 1 + 1 + 1 + 1, om) (by first | ((repeat (first | exact .head _ | refine .tail _ ?_)); done) | simp)
    refine wpAny_execs_cons ?_
    refine' For_turns ?kF ?_ ?khs PassesOwn.never
    case kF => exact F2
    case khs => intro _; rfl
    walk1
    refine Iter_keys (D := Dt) hA (hD.keep F2.keep) ?ne2 F2 N3 (fun i m news => ∃ d od om oo mv ov, m (Str.ofString "flows") = some (.ref fd) ∧ m (Str.ofString "after") = some (.ref d) ∧
      news = [(d, od), (s.heap.objs.size + 1 + 1 + 1 + 1, om), (s.heap.objs.size + 1 + 1 + 1, oo), (s.heap.objs.size + 1 + 1, ort), (s.heap.objs.size + 1, otb)] ∧ om.data = .cell mv ∧ oo.data = .cell ov ∧
      OD w od ((Dt.take i).foldl (fun M p => merge M (mapT (fun _ x => x * p.2) (FL p.1))) (mapT (fun _ x => -root * x) Dt)) ∧ (d == sysModules) = false ∧ s.heap.objs.size + 1 + 1 + 1 ≠ d ∧ s.heap.objs.size + 1 + 1 + 1 + 1 ≠ d) ⟨d, od, om, oo, none, none, rfl, rfl, rfl, dm, dor, hOd, hdlo, od3, od4⟩ ?_ ?_
    case ne2 => exact fun e => absurd (Heap.lt_size hotd) (by rw [e]; exact Nat.lt_irrefl _)
    · rintro i k c tk4 m₁ news₁ h₁ tk₁ own I hi ⟨d, od, om, oo, mv, ov, m1, m2, rfl, dm, dor, hO, hlo, od3, od4⟩ hoff hown ⟨oI, hoI⟩ T3 F₁ N₁
      clear F N F2 N2 N3
      have hown' : ∀ j, s.heap.objs.size ≤ j → j ≠ I → ∀ p ∈ own, p.1 ≠ j := by
        intro j hj hI p hp e
        rcases hown p hp with q | q
        · exact hI (by rw [← e]; exact q)
        · have := Heap.lt_size hotd
          rw [← q, e] at this
          exact absurd this (Nat.not_lt.mpr hj)
      have N4 : News s.heap s.heap.objs.size h₁ ((s.heap.objs.size + 1 + 1 + 1, oo) :: (d, od) :: (s.heap.objs.size + 1 + 1 + 1 + 1, om) :: (s.heap.objs.size + 1 + 1, ort) :: (s.heap.objs.size + 1, otb) :: own) := fun p hp => N₁ p (by
        simp only [List.mem_append, List.mem_cons, List.not_mem_nil, or_false] at hp ⊢
        rcases hp with h | h | h | h | h | h <;> repeat (first | exact h | exact .inl h | (refine .inl ?_; (repeat (first | exact h | exact .inl h | refine .inr ?_)); done) | refine .inr ?_))
      generalize hs1 : ({ s with heap := h₁, toks := tk₁ } : Shared) = s₁
      have hs1h : h₁ = s₁.heap := by rw [← hs1]
      rw [hs1h] at F₁ N₁ T3 N4
      walk1
      refine storeX_C (cn := Str.ofString "_law_round") (a := 233) (ccd := .ref 232) F₁ N4 rfl (UpdF.head ?_) dor ?_
      · intro p hp
        simp only [List.mem_cons] at hp
        rcases hp with rfl | rfl | rfl | rfl | hp
        · exact Ne.symm od3
        · exact Nat.ne_of_gt (Nat.lt_succ_self _)
        · exact Nat.ne_of_lt (Nat.lt_succ_self _)
        · exact Nat.ne_of_lt (Nat.lt_succ_of_lt (Nat.lt_succ_self _))
        · exact hown' _ (Nat.le_add_right _ 3) (hoff (_, oo) (by first | ((repeat (first | exact .head _ | refine .tail _ ?_)); done) | simp)) p hp
      intro h5 oo5 F5 N5 d5
      clear F₁ N₁ N4
      iterate 4 walk1
      obtain ⟨flo, fkvs, hfd, hfv⟩ := id hF
      have hfd5 := hfd.keep F5.keep
      refine getMethod_builtin hfd5.typeIs PySem.F.plainAttrs_dict PySem.F.slot_dict_get PySem.F.type_dict_get hfd5.mapOf.noDict ?_
      iterate 6 walk1
      rename Fr _ _ _ _ => F6
      rename News _ _ _ _ => N6
      have hfd6 := hfd.keep F6.keep
      obtain ⟨dd, hdd, hTd⟩ := hfv k (hdom _ (List.mem_of_getElem? hi))
      refine call_meetsIn PySem.F.slot_dict_get hfd6.typeIs PySem.F.entry_dict_get (PySem.F.args_dict_get_3 _ _ _) (meets_dict_get_default (strKind PR w) fd (strKind_is PR w k tk4) flo _) ⟨_, hfd6.mapOf, ?_⟩
      rw [hdd, Option.getD_some]
      have N7 : News s.heap s.heap.objs.size _ ((s.heap.objs.size + 1 + 1 + 1 + 1, om) :: (s.heap.objs.size + 1 + 1 + 1, oo5) :: (d, od) :: (s.heap.objs.size + 1 + 1, ort) :: (s.heap.objs.size + 1, otb) :: own) := fun p hp => N6 p (by
        simp only [List.mem_cons] at hp ⊢
        rcases hp with h | h | h | h | h | h <;> repeat (first | exact h | exact .inl h | (refine .inl ?_; (repeat (first | exact h | exact .inl h | refine .inr ?_)); done) | refine .inr ?_))
      refine storeX_C (cn := Str.ofString "_law_round") (a := 233) (ccd := .ref 232) F6 N7 rfl (UpdF.head ?_) dm ?_
      · intro p hp
        simp only [List.mem_cons] at hp
        rcases hp with rfl | rfl | rfl | rfl | hp
        · exact Nat.ne_of_lt (Nat.lt_succ_self _)
        · exact Ne.symm od4
        · exact Nat.ne_of_lt (Nat.lt_succ_of_lt (Nat.lt_succ_self _))
        · exact Nat.ne_of_lt (Nat.lt_succ_of_lt (Nat.lt_succ_of_lt (Nat.lt_succ_self _)))
        · exact hown' _ (Nat.le_add_right _ 4) (hoff (_, om) (by first | ((repeat (first | exact .head _ | refine .tail _ ?_)); done) | simp)) p hp
      intro h8 om8 F8 N8 d8
      clear F6 N6 N7
      iterate 9 walk1
      have hkD := List.mem_of_getElem? hi
      obtain ⟨odd, hodd, _⟩ := tab_obj hTd
      have hddL : dd ≠ s.heap.objs.size := fun e => absurd (Heap.lt_size hodd) (by rw [e]; exact Nat.lt_irrefl _)
      refine' DictComp_T (cl := ?cl2) F8 ?g1 ?g2 ?g3 ?g4 ?g5 ?g6 ?g7 ?_
      case g1 => with_unfolding_all rfl
      case g2 => decide
      case g3 => rfl
      case g4 => decide
      case g5 => rfl
      case g6 => decide
      case g7 => intro _; rfl
      walk1
      refine ⟨dd, FL k, fun _ x => x * c, _, rfl, hA, F8, N8, ?_, Nat.le_trans (hfl k) (by decide), hddL, (T.keeps F8.keep).nolimit, ?turn2, ?fin2⟩
      · exact hTd.keep F8.keep
      case turn2 =>
        intro C oC x y tk5 s₃ m₃ E' hxy hC hm F9 N9 T9 _
        iterate 5 walk1
        obtain ⟨j, hj⟩ := List.getElem?_of_mem hxy
        have hlk : look (FL k) x = some y := look_at (StrTab.nodup hTd) hj
        refine getItem_tab same_str (strKind_is PR w x tk5) T9 (dv := .int y) (by rw [lookup_tb, hlk]; rfl) ?_
        intro v hfl2
        obtain ⟨tu, rfl⟩ := Flat.int_inv hfl2
        have T11 : StrTab PR w s₃.heap td (tb Dt) := hD.keep F9.keep
        clear T9
        iterate 4 walk1
        have hlk2 : look Dt k = some c := look_at (StrTab.nodup hD) hi
        refine getItem_tab same_str (strKind_is PR w k tk4) (hD.keep F9.keep) (dv := .int c) (by rw [lookup_tb, hlk2]; rfl) ?_
        intro v hfl2
        obtain ⟨tu2, rfl⟩ := Flat.int_inv hfl2
        refine mul_int ?_ (hm2 _ hkD _ hxy)
        exact ⟨⟨_, rfl⟩, _, rfl⟩
      case fin2 =>
        intro d2 h10 tk10 F10 N10 off10 hd20 hd2L T10
        iterate 2 walk1
        have hDl : ∀ (l M : List (Str × Int)), (l.foldl (fun M p => merge M (mapT (fun _ x => x * p.2) (FL p.1))) M).length ≤ M.length + 10 * l.length := by
          intro l
          induction l with
          | nil => intro M; simp
          | cons p r ih =>
            intro M
            have h1 := ih (merge M (mapT (fun _ x => x * p.2) (FL p.1)))
            have h2 := merge_len M (mapT (fun _ x => x * p.2) (FL p.1))
            have h3 := mapT_len (fun _ x => x * p.2) (FL p.1)
            have h4 := hfl p.1
            simp only [List.foldl_cons, List.length_cons]; omega
        refine add_spec (D1 := (Dt.take i).foldl (fun M p => merge M (mapT (fun _ x => x * p.2) (FL p.1))) (mapT (fun _ x => -root * x) Dt)) (D2 := mapT (fun _ x => x * c) (FL k)) (W.keeps F10.keep) hA ?_ (hO.tab (N10 (d, od) (by first | ((repeat (first | exact .head _ | refine .tail _ ?_)); done) | simp)).1 hlo) T10 ?_ ?_
        · show A.depth + 1 < _; omega
        · have h1 := hDl (Dt.take i) (mapT (fun _ x => -root * x) Dt)
          have h2 := mapT_len (fun _ x => -root * x) Dt
          have h3 := mapT_len (fun _ x => x * c) (FL k)
          have h4 := hfl k
          rw [List.length_take] at h1
          omega
        intro h11 tk11 r11 hk11 nr11 hr11
        have hrlo := hr11.1
        obtain ⟨o11, hor11, hO11⟩ := od_of hr11
        have F11 := fr_ext F10 hk11
        have N11 := news_in F10 N10 hk11 nr11 hor11
        have ne3 : s.heap.objs.size + 1 + 1 + 1 ≠ r11 := fun e => by
          have := (N10 (s.heap.objs.size + 1 + 1 + 1, oo5) (by first | ((repeat (first | exact .head _ | refine .tail _ ?_)); done) | simp)).1
          rw [e, nr11] at this; cases this
        have ne4 : s.heap.objs.size + 1 + 1 + 1 + 1 ≠ r11 := fun e => by
          have := (N10 (s.heap.objs.size + 1 + 1 + 1 + 1, om8) (by first | ((repeat (first | exact .head _ | refine .tail _ ?_)); done) | simp)).1
          rw [e, nr11] at this; cases this
        have neI : r11 ≠ I := fun e => by
          have := (N10 (I, oI) (by simp [hoI])).1
          have this : h10.get? I = some oI := this
          rw [← e, nr11] at this; cases this
        have N12 : News s.heap s.heap.objs.size h11 (own ++ [(r11, o11), (s.heap.objs.size + 1 + 1 + 1 + 1, om8), (s.heap.objs.size + 1 + 1 + 1, oo5), (s.heap.objs.size + 1 + 1, ort), (s.heap.objs.size + 1, otb)]) := fun p hp => N11 p (by
          simp only [List.mem_append, List.mem_cons, List.not_mem_nil, or_false] at hp ⊢
          rcases hp with h | h | h | h | h | h <;> repeat (first | exact h | exact .inl h | (refine .inl ?_; (repeat (first | exact h | exact .inl h | refine .inr ?_)); done) | refine .inr ?_))
        clear F10 N10 N11 F8 N8
        walk1
        rename Fr _ _ _ _ => F20
        rename News _ _ _ _ => N20
        subst hs1
        refine wpAny_execs_nil ?_
        refine LoopStepU.intro F20 N20 ?_ ⟨r11, o11, om8, oo5, _, _, (if_neg (by decide)).trans m1, if_pos rfl, rfl, d8, d5, ?_, hrlo, ne3, ne4⟩
        · intro p hp e
          have e := List.mem_singleton.mp e
          simp only [List.mem_cons, List.not_mem_nil, or_false] at hp
          rcases hp with rfl | rfl | rfl | rfl | rfl
          · exact neI e
          · exact hoff (s.heap.objs.size + 1 + 1 + 1 + 1, om) (by first | ((repeat (first | exact .head _ | refine .tail _ ?_)); done) | simp) e
          · exact hoff (s.heap.objs.size + 1 + 1 + 1, oo) (by first | ((repeat (first | exact .head _ | refine .tail _ ?_)); done) | simp) e
          · exact hoff (s.heap.objs.size + 1 + 1, ort) (by first | ((repeat (first | exact .head _ | refine .tail _ ?_)); done) | simp) e
          · exact hoff (s.heap.objs.size + 1, otb) (by first | ((repeat (first | exact .head _ | refine .tail _ ?_)); done) | simp) e
        · rw [List.take_add_one, hi, List.foldl_append]
          exact hO11
    · rintro h7 tk7 m7 news7 F7 N7 ⟨d, od, om, oo, mv, ov, m1, m2, rfl, dm, dor, hO, hlo, od3, od4⟩
      rw [List.take_length] at hO
      refine wpAny_execs_cons (wpAny_Return_some (nameX_L (cn := Str.ofString "_law_round") (a := 233) (ccd := .ref 232) F7 m2 ?_))
      exact hQ _ _ _ F7.keep (N7 _ (.head _)).2.2 (hO.tab (N7.get (.head _)) hlo)
end Mine
end

/-! ## Lb -/
section
theorem Mine.offLb : True := by w_top off; trivial
open PySem PySem.W PySem.Calls PyProof.Rows PyProof.V
set_option Elab.async false
set_option maxRecDepth 100000
namespace Mine
/-- the law's text, out of the row -/
noncomputable def LP : List Stmt × Scope := match PySem.Challenge.pw_pm0063_01.main.body.getLast? with
  | some (.FunctionDef _ _ body _ _ _ scope _ _ _) => (body, scope)
  | _ => ([], default)
noncomputable def LB : List Stmt := LP.1
noncomputable def LS : Scope := LP.2
end Mine
namespace Mine
theorem cut (n : Nat) (h : n < LB.length) : LB.drop n = LB[n] :: LB.drop (n + 1) := List.drop_eq_getElem_cons h
section
variable {M : Model} {A : Around} {E : Value → Shared → Prop} {s : Shared} {h₀ : Heap} {L fa : Addr} {cd : Value} {m : Str → Option Value} {news : List (Addr × Obj)} {x : Str} {c : Addr} {o : Obj} {v : Value} {v0 : Option Value} {Q : Unit → Shared → Prop}
theorem store_law (F : Fr h₀ L s.heap m) (N : News h₀ L s.heap news) (rest : List (Addr × Obj)) (hsub : ∀ p ∈ (c, o) :: rest, p ∈ news) (hne : ∀ p ∈ rest, p.1 ≠ c) (hd : o.data = .cell v0)
    (h : ∀ h' o', Fr h₀ L h' m → News h₀ L h' ((c, o') :: rest) → o'.data = .cell (some v) → Q () { s with heap := h' })
    (hc : (cellsFrom (L + 1) LS.names []).lookup x = some c) (hx : (envOfC (Str.ofString "law") LS L fa cd).kindOf x = some .cell) :
    wpAny M A (storeName (envOfC (Str.ofString "law") LS L fa cd) x v) Q E s :=
  storeX_C (cn := Str.ofString "law") (cs := LS) (a := fa) (ccd := cd) (cl := cellsFrom (L + 1) LS.names []) F (fun p hp => N p (hsub p hp)) hc (UpdF.head hne) hd h rfl hx
end
/-- off the six cells -/
noncomputable def Off (L : Nat) (rest : List (Addr × Obj)) : Prop := ∀ p ∈ rest, ∀ i, i < 6 → p.1 ≠ L + (i + 1)
theorem Off.nil {L : Nat} : Off L [] := fun _ h => by cases h
theorem Off.cons {L : Nat} {p : Addr × Obj} {r : List (Addr × Obj)} (h : ∀ i, i < 6 → p.1 ≠ L + (i + 1)) (x : Off L r) : Off L (p :: r) := fun q hq => by
  rcases List.mem_cons.mp hq with rfl | hq
  · exact h
  · exact x q hq
theorem Off.append {L : Nat} {a b : List (Addr × Obj)} (x : Off L a) (y : Off L b) : Off L (a ++ b) := fun q hq => (List.mem_append.mp hq).elim (x q) (y q)
theorem Off.sub {L : Nat} {a b : List (Addr × Obj)} (x : Off L a) (h : ∀ p ∈ b, p ∈ a) : Off L b := fun q hq => x q (h q hq)
theorem off_lt {L a : Nat} (h : L + 6 < a) : ∀ i, i < 6 → a ≠ L + (i + 1) := fun i hi e => by
  have h2 : L + 6 < L + (i + 1) := by
    have h3 : L + 6 < a := h
    rw [e] at h3; exact h3
  omega
section
variable {M : Model} {A : Around} {E : Value → Shared → Prop} {s : Shared} {h₀ : Heap} {L : Nat} {fa : Addr} {cd : Value} {m : Str → Option Value} {rest : List (Addr × Obj)} {x : Str} {c1 c2 c3 c4 c5 c6 : Obj} {v : Value} {v0 : Option Value} {Q : Unit → Shared → Prop}
theorem store1 (F : Fr h₀ L s.heap m) (N : News h₀ L s.heap ((L + 1 + 1 + 1 + 1 + 1 + 1, c6) :: (L + 1 + 1 + 1 + 1 + 1, c5) :: (L + 1 + 1 + 1 + 1, c4) :: (L + 1 + 1 + 1, c3) :: (L + 1 + 1, c2) :: (L + 1, c1) :: rest)) (hr : Off L rest) (hd : c1.data = .cell v0)
    (h : ∀ h' o', Fr h₀ L h' m → News h₀ L h' ((L + 1 + 1 + 1 + 1 + 1 + 1, c6) :: (L + 1 + 1 + 1 + 1 + 1, c5) :: (L + 1 + 1 + 1 + 1, c4) :: (L + 1 + 1 + 1, c3) :: (L + 1 + 1, c2) :: (L + 1, o') :: rest) → o'.data = .cell (some v) → Q () { s with heap := h' })
    (hc : (cellsFrom (L + 1) LS.names []).lookup x = some (L + 1)) (hx : (envOfC (Str.ofString "law") LS L fa cd).kindOf x = some .cell) :
    wpAny M A (storeName (envOfC (Str.ofString "law") LS L fa cd) x v) Q E s := by
  refine store_law F N ((L + 1 + 1 + 1 + 1 + 1 + 1, c6) :: (L + 1 + 1 + 1 + 1 + 1, c5) :: (L + 1 + 1 + 1 + 1, c4) :: (L + 1 + 1 + 1, c3) :: (L + 1 + 1, c2) :: rest) ?_ ?_ hd (fun h' o' F' N' d' => h h' o' F' (fun p hp => N' p ?_) d') hc hx
  · intro p hp
    simp only [List.mem_cons] at hp ⊢
    rcases hp with h | h | h | h | h | h | h <;> repeat (first | exact h | exact .inl h | (refine .inl ?_; (repeat (first | exact h | exact .inl h | refine .inr ?_)); done) | refine .inr ?_)
  · intro p hp
    simp only [List.mem_cons] at hp
    rcases hp with rfl | rfl | rfl | rfl | rfl | hp
    · exact fun e => absurd (show L + 6 = L + 1 from e) (by omega)
    · exact fun e => absurd (show L + 5 = L + 1 from e) (by omega)
    · exact fun e => absurd (show L + 4 = L + 1 from e) (by omega)
    · exact fun e => absurd (show L + 3 = L + 1 from e) (by omega)
    · exact fun e => absurd (show L + 2 = L + 1 from e) (by omega)
    · exact hr p hp 0 (by decide)
  · simp only [List.mem_cons] at hp ⊢
    rcases hp with h | h | h | h | h | h | h <;> repeat (first | exact h | exact .inl h | (refine .inl ?_; (repeat (first | exact h | exact .inl h | refine .inr ?_)); done) | refine .inr ?_)
theorem store2 (F : Fr h₀ L s.heap m) (N : News h₀ L s.heap ((L + 1 + 1 + 1 + 1 + 1 + 1, c6) :: (L + 1 + 1 + 1 + 1 + 1, c5) :: (L + 1 + 1 + 1 + 1, c4) :: (L + 1 + 1 + 1, c3) :: (L + 1 + 1, c2) :: (L + 1, c1) :: rest)) (hr : Off L rest) (hd : c2.data = .cell v0)
    (h : ∀ h' o', Fr h₀ L h' m → News h₀ L h' ((L + 1 + 1 + 1 + 1 + 1 + 1, c6) :: (L + 1 + 1 + 1 + 1 + 1, c5) :: (L + 1 + 1 + 1 + 1, c4) :: (L + 1 + 1 + 1, c3) :: (L + 1 + 1, o') :: (L + 1, c1) :: rest) → o'.data = .cell (some v) → Q () { s with heap := h' })
    (hc : (cellsFrom (L + 1) LS.names []).lookup x = some (L + 2)) (hx : (envOfC (Str.ofString "law") LS L fa cd).kindOf x = some .cell) :
    wpAny M A (storeName (envOfC (Str.ofString "law") LS L fa cd) x v) Q E s := by
  refine store_law F N ((L + 1 + 1 + 1 + 1 + 1 + 1, c6) :: (L + 1 + 1 + 1 + 1 + 1, c5) :: (L + 1 + 1 + 1 + 1, c4) :: (L + 1 + 1 + 1, c3) :: (L + 1, c1) :: rest) ?_ ?_ hd (fun h' o' F' N' d' => h h' o' F' (fun p hp => N' p ?_) d') hc hx
  · intro p hp
    simp only [List.mem_cons] at hp ⊢
    rcases hp with h | h | h | h | h | h | h <;> repeat (first | exact h | exact .inl h | (refine .inl ?_; (repeat (first | exact h | exact .inl h | refine .inr ?_)); done) | refine .inr ?_)
  · intro p hp
    simp only [List.mem_cons] at hp
    rcases hp with rfl | rfl | rfl | rfl | rfl | hp
    · exact fun e => absurd (show L + 6 = L + 2 from e) (by omega)
    · exact fun e => absurd (show L + 5 = L + 2 from e) (by omega)
    · exact fun e => absurd (show L + 4 = L + 2 from e) (by omega)
    · exact fun e => absurd (show L + 3 = L + 2 from e) (by omega)
    · exact fun e => absurd (show L + 1 = L + 2 from e) (by omega)
    · exact hr p hp 1 (by decide)
  · simp only [List.mem_cons] at hp ⊢
    rcases hp with h | h | h | h | h | h | h <;> repeat (first | exact h | exact .inl h | (refine .inl ?_; (repeat (first | exact h | exact .inl h | refine .inr ?_)); done) | refine .inr ?_)
theorem store3 (F : Fr h₀ L s.heap m) (N : News h₀ L s.heap ((L + 1 + 1 + 1 + 1 + 1 + 1, c6) :: (L + 1 + 1 + 1 + 1 + 1, c5) :: (L + 1 + 1 + 1 + 1, c4) :: (L + 1 + 1 + 1, c3) :: (L + 1 + 1, c2) :: (L + 1, c1) :: rest)) (hr : Off L rest) (hd : c3.data = .cell v0)
    (h : ∀ h' o', Fr h₀ L h' m → News h₀ L h' ((L + 1 + 1 + 1 + 1 + 1 + 1, c6) :: (L + 1 + 1 + 1 + 1 + 1, c5) :: (L + 1 + 1 + 1 + 1, c4) :: (L + 1 + 1 + 1, o') :: (L + 1 + 1, c2) :: (L + 1, c1) :: rest) → o'.data = .cell (some v) → Q () { s with heap := h' })
    (hc : (cellsFrom (L + 1) LS.names []).lookup x = some (L + 3)) (hx : (envOfC (Str.ofString "law") LS L fa cd).kindOf x = some .cell) :
    wpAny M A (storeName (envOfC (Str.ofString "law") LS L fa cd) x v) Q E s := by
  refine store_law F N ((L + 1 + 1 + 1 + 1 + 1 + 1, c6) :: (L + 1 + 1 + 1 + 1 + 1, c5) :: (L + 1 + 1 + 1 + 1, c4) :: (L + 1 + 1, c2) :: (L + 1, c1) :: rest) ?_ ?_ hd (fun h' o' F' N' d' => h h' o' F' (fun p hp => N' p ?_) d') hc hx
  · intro p hp
    simp only [List.mem_cons] at hp ⊢
    rcases hp with h | h | h | h | h | h | h <;> repeat (first | exact h | exact .inl h | (refine .inl ?_; (repeat (first | exact h | exact .inl h | refine .inr ?_)); done) | refine .inr ?_)
  · intro p hp
    simp only [List.mem_cons] at hp
    rcases hp with rfl | rfl | rfl | rfl | rfl | hp
    · exact fun e => absurd (show L + 6 = L + 3 from e) (by omega)
    · exact fun e => absurd (show L + 5 = L + 3 from e) (by omega)
    · exact fun e => absurd (show L + 4 = L + 3 from e) (by omega)
    · exact fun e => absurd (show L + 2 = L + 3 from e) (by omega)
    · exact fun e => absurd (show L + 1 = L + 3 from e) (by omega)
    · exact hr p hp 2 (by decide)
  · simp only [List.mem_cons] at hp ⊢
    rcases hp with h | h | h | h | h | h | h <;> repeat (first | exact h | exact .inl h | (refine .inl ?_; (repeat (first | exact h | exact .inl h | refine .inr ?_)); done) | refine .inr ?_)
theorem store4 (F : Fr h₀ L s.heap m) (N : News h₀ L s.heap ((L + 1 + 1 + 1 + 1 + 1 + 1, c6) :: (L + 1 + 1 + 1 + 1 + 1, c5) :: (L + 1 + 1 + 1 + 1, c4) :: (L + 1 + 1 + 1, c3) :: (L + 1 + 1, c2) :: (L + 1, c1) :: rest)) (hr : Off L rest) (hd : c4.data = .cell v0)
    (h : ∀ h' o', Fr h₀ L h' m → News h₀ L h' ((L + 1 + 1 + 1 + 1 + 1 + 1, c6) :: (L + 1 + 1 + 1 + 1 + 1, c5) :: (L + 1 + 1 + 1 + 1, o') :: (L + 1 + 1 + 1, c3) :: (L + 1 + 1, c2) :: (L + 1, c1) :: rest) → o'.data = .cell (some v) → Q () { s with heap := h' })
    (hc : (cellsFrom (L + 1) LS.names []).lookup x = some (L + 4)) (hx : (envOfC (Str.ofString "law") LS L fa cd).kindOf x = some .cell) :
    wpAny M A (storeName (envOfC (Str.ofString "law") LS L fa cd) x v) Q E s := by
  refine store_law F N ((L + 1 + 1 + 1 + 1 + 1 + 1, c6) :: (L + 1 + 1 + 1 + 1 + 1, c5) :: (L + 1 + 1 + 1, c3) :: (L + 1 + 1, c2) :: (L + 1, c1) :: rest) ?_ ?_ hd (fun h' o' F' N' d' => h h' o' F' (fun p hp => N' p ?_) d') hc hx
  · intro p hp
    simp only [List.mem_cons] at hp ⊢
    rcases hp with h | h | h | h | h | h | h <;> repeat (first | exact h | exact .inl h | (refine .inl ?_; (repeat (first | exact h | exact .inl h | refine .inr ?_)); done) | refine .inr ?_)
  · intro p hp
    simp only [List.mem_cons] at hp
    rcases hp with rfl | rfl | rfl | rfl | rfl | hp
    · exact fun e => absurd (show L + 6 = L + 4 from e) (by omega)
    · exact fun e => absurd (show L + 5 = L + 4 from e) (by omega)
    · exact fun e => absurd (show L + 3 = L + 4 from e) (by omega)
    · exact fun e => absurd (show L + 2 = L + 4 from e) (by omega)
    · exact fun e => absurd (show L + 1 = L + 4 from e) (by omega)
    · exact hr p hp 3 (by decide)
  · simp only [List.mem_cons] at hp ⊢
    rcases hp with h | h | h | h | h | h | h <;> repeat (first | exact h | exact .inl h | (refine .inl ?_; (repeat (first | exact h | exact .inl h | refine .inr ?_)); done) | refine .inr ?_)
theorem store5 (F : Fr h₀ L s.heap m) (N : News h₀ L s.heap ((L + 1 + 1 + 1 + 1 + 1 + 1, c6) :: (L + 1 + 1 + 1 + 1 + 1, c5) :: (L + 1 + 1 + 1 + 1, c4) :: (L + 1 + 1 + 1, c3) :: (L + 1 + 1, c2) :: (L + 1, c1) :: rest)) (hr : Off L rest) (hd : c5.data = .cell v0)
    (h : ∀ h' o', Fr h₀ L h' m → News h₀ L h' ((L + 1 + 1 + 1 + 1 + 1 + 1, c6) :: (L + 1 + 1 + 1 + 1 + 1, o') :: (L + 1 + 1 + 1 + 1, c4) :: (L + 1 + 1 + 1, c3) :: (L + 1 + 1, c2) :: (L + 1, c1) :: rest) → o'.data = .cell (some v) → Q () { s with heap := h' })
    (hc : (cellsFrom (L + 1) LS.names []).lookup x = some (L + 5)) (hx : (envOfC (Str.ofString "law") LS L fa cd).kindOf x = some .cell) :
    wpAny M A (storeName (envOfC (Str.ofString "law") LS L fa cd) x v) Q E s := by
  refine store_law F N ((L + 1 + 1 + 1 + 1 + 1 + 1, c6) :: (L + 1 + 1 + 1 + 1, c4) :: (L + 1 + 1 + 1, c3) :: (L + 1 + 1, c2) :: (L + 1, c1) :: rest) ?_ ?_ hd (fun h' o' F' N' d' => h h' o' F' (fun p hp => N' p ?_) d') hc hx
  · intro p hp
    simp only [List.mem_cons] at hp ⊢
    rcases hp with h | h | h | h | h | h | h <;> repeat (first | exact h | exact .inl h | (refine .inl ?_; (repeat (first | exact h | exact .inl h | refine .inr ?_)); done) | refine .inr ?_)
  · intro p hp
    simp only [List.mem_cons] at hp
    rcases hp with rfl | rfl | rfl | rfl | rfl | hp
    · exact fun e => absurd (show L + 6 = L + 5 from e) (by omega)
    · exact fun e => absurd (show L + 4 = L + 5 from e) (by omega)
    · exact fun e => absurd (show L + 3 = L + 5 from e) (by omega)
    · exact fun e => absurd (show L + 2 = L + 5 from e) (by omega)
    · exact fun e => absurd (show L + 1 = L + 5 from e) (by omega)
    · exact hr p hp 4 (by decide)
  · simp only [List.mem_cons] at hp ⊢
    rcases hp with h | h | h | h | h | h | h <;> repeat (first | exact h | exact .inl h | (refine .inl ?_; (repeat (first | exact h | exact .inl h | refine .inr ?_)); done) | refine .inr ?_)
theorem store6 (F : Fr h₀ L s.heap m) (N : News h₀ L s.heap ((L + 1 + 1 + 1 + 1 + 1 + 1, c6) :: (L + 1 + 1 + 1 + 1 + 1, c5) :: (L + 1 + 1 + 1 + 1, c4) :: (L + 1 + 1 + 1, c3) :: (L + 1 + 1, c2) :: (L + 1, c1) :: rest)) (hr : Off L rest) (hd : c6.data = .cell v0)
    (h : ∀ h' o', Fr h₀ L h' m → News h₀ L h' ((L + 1 + 1 + 1 + 1 + 1 + 1, o') :: (L + 1 + 1 + 1 + 1 + 1, c5) :: (L + 1 + 1 + 1 + 1, c4) :: (L + 1 + 1 + 1, c3) :: (L + 1 + 1, c2) :: (L + 1, c1) :: rest) → o'.data = .cell (some v) → Q () { s with heap := h' })
    (hc : (cellsFrom (L + 1) LS.names []).lookup x = some (L + 6)) (hx : (envOfC (Str.ofString "law") LS L fa cd).kindOf x = some .cell) :
    wpAny M A (storeName (envOfC (Str.ofString "law") LS L fa cd) x v) Q E s := by
  refine store_law F N ((L + 1 + 1 + 1 + 1 + 1, c5) :: (L + 1 + 1 + 1 + 1, c4) :: (L + 1 + 1 + 1, c3) :: (L + 1 + 1, c2) :: (L + 1, c1) :: rest) ?_ ?_ hd (fun h' o' F' N' d' => h h' o' F' (fun p hp => N' p ?_) d') hc hx
  · intro p hp
    simp only [List.mem_cons] at hp ⊢
    rcases hp with h | h | h | h | h | h | h <;> repeat (first | exact h | exact .inl h | (refine .inl ?_; (repeat (first | exact h | exact .inl h | refine .inr ?_)); done) | refine .inr ?_)
  · intro p hp
    simp only [List.mem_cons] at hp
    rcases hp with rfl | rfl | rfl | rfl | rfl | hp
    · exact fun e => absurd (show L + 5 = L + 6 from e) (by omega)
    · exact fun e => absurd (show L + 4 = L + 6 from e) (by omega)
    · exact fun e => absurd (show L + 3 = L + 6 from e) (by omega)
    · exact fun e => absurd (show L + 2 = L + 6 from e) (by omega)
    · exact fun e => absurd (show L + 1 = L + 6 from e) (by omega)
    · exact hr p hp 5 (by decide)
  · simp only [List.mem_cons] at hp ⊢
    rcases hp with h | h | h | h | h | h | h <;> repeat (first | exact h | exact .inl h | (refine .inl ?_; (repeat (first | exact h | exact .inl h | refine .inr ?_)); done) | refine .inr ?_)
theorem off_fresh {h : Heap} {r : Addr} (N : News h₀ L h ((L + 1 + 1 + 1 + 1 + 1 + 1, c6) :: (L + 1 + 1 + 1 + 1 + 1, c5) :: (L + 1 + 1 + 1 + 1, c4) :: (L + 1 + 1 + 1, c3) :: (L + 1 + 1, c2) :: (L + 1, c1) :: rest)) (hn : h.get? r = none) : ∀ i, i < 6 → r ≠ L + (i + 1) := by
  intro i hi e
  have g : ∀ (p : Addr × Obj), p ∈ ((L + 1 + 1 + 1 + 1 + 1 + 1, c6) :: (L + 1 + 1 + 1 + 1 + 1, c5) :: (L + 1 + 1 + 1 + 1, c4) :: (L + 1 + 1 + 1, c3) :: (L + 1 + 1, c2) :: (L + 1, c1) :: rest) → r ≠ p.1 := fun p hp q => by
    have := (N p hp).1
    rw [← q, hn] at this; cases this
  rcases i with _ | _ | _ | _ | _ | _ | i
  · exact g (L + 1, c1) (by first | ((repeat (first | exact .head _ | refine .tail _ ?_)); done) | simp) e
  · exact g (L + 1 + 1, c2) (by first | ((repeat (first | exact .head _ | refine .tail _ ?_)); done) | simp) e
  · exact g (L + 1 + 1 + 1, c3) (by first | ((repeat (first | exact .head _ | refine .tail _ ?_)); done) | simp) e
  · exact g (L + 1 + 1 + 1 + 1, c4) (by first | ((repeat (first | exact .head _ | refine .tail _ ?_)); done) | simp) e
  · exact g (L + 1 + 1 + 1 + 1 + 1, c5) (by first | ((repeat (first | exact .head _ | refine .tail _ ?_)); done) | simp) e
  · exact g (L + 1 + 1 + 1 + 1 + 1 + 1, c6) (by first | ((repeat (first | exact .head _ | refine .tail _ ?_)); done) | simp) e
  · exact absurd hi (Nat.not_lt.mpr (Nat.le_add_left 6 i))
end
theorem turn_fn {h₀ h h' : Heap} {L l : Addr} {m : Str → Option Value} {rest : List (Addr × Obj)} {o o' : Obj} (F : Fr h₀ L h m) (N : News h₀ L h ((l, o) :: rest)) (hne : ∀ p ∈ rest, p.1 ≠ l) (k : Kept (h.hide l) h') (e : h'.get? l = some o') :
    Fr h₀ L h' m ∧ News h₀ L h' ((l, o') :: rest) := by
  have hl := N (l, o) (List.mem_cons_self ..)
  refine ⟨fr_turn F hl.2.1 hl.2.2 k, fun p hp => ?_⟩
  rcases List.mem_cons.mp hp with rfl | hp
  · exact ⟨e, hl.2⟩
  · exact ⟨at_turn k (N p (List.mem_cons_of_mem _ hp)).1 (hne p hp), (N p (List.mem_cons_of_mem _ hp)).2⟩
end Mine
end

/-! ## L1 -/
section
theorem Mine.offL1 : True := by w_top off; trivial
open PySem PySem.W PySem.Calls PyProof.Rows PyProof.V
set_option Elab.async false
set_option maxRecDepth 100000
namespace Mine
set_option maxHeartbeats 16000000
local macro_rules | `(tactic| walk_at "eval Name") => `(tactic| (k_here; k_dflt (refine' nameX_L ?k1 ?k2 ?_; (case k1 => k_asm); (case k2 => repeat (first | assumption | refine (if_neg (by decide)).trans ?_)); k_whole)))
/-- the seven numbers -/
noncomputable def dr (ns : List Int) : List Int := ns.take 7 ++ [2, 3, 4, -1, 6, 0, 3].drop (ns.take 7).length
theorem seg1 {w : World} {mean : ExcName → Option Value} {mg mb : Str → Option Value} {A : Around} {E : Value → Shared → Prop} {Q : Flow → Shared → Prop} {s : Shared} {h₀ : Heap} {L fa sc : Addr} {cd : Value} {m : Str → Option Value} {vs : List Value} {ns : List Int} {c1 c2 c3 c4 c5 c6 : Obj}
    (W : Wd w mean mg mb h₀) (hA : A.handled = none) (hroom : A.depth + 10 < recursionLimit) (F : Fr h₀ L s.heap m) (N : News h₀ L s.heap [(L + 1 + 1 + 1 + 1 + 1 + 1, c6), (L + 1 + 1 + 1 + 1 + 1, c5), (L + 1 + 1 + 1 + 1, c4), (L + 1 + 1 + 1, c3), (L + 1 + 1, c2), (L + 1, c1)])
    (d1 : c1.data = .cell none) (d2 : c2.data = .cell none) (d3 : c3.data = .cell none) (d4 : c4.data = .cell none) (d5 : c5.data = .cell none) (d6 : c6.data = .cell none)
    (ms : m (Str.ofString "script") = some (.ref sc)) (hL : h₀.IsList sc vs.toArray) (hI : IntsAre vs ns) (hlen : ns.length ≤ 63)
    (next : ∀ h' tk D ws, Fr h₀ L h' (fun y => if y = Str.ofString "drawn" then some (.ref D) else m y) → News h₀ L h' [(D, PySem.W.listOf (List.toArray ws) 0), (L + 1 + 1 + 1 + 1 + 1 + 1, c6), (L + 1 + 1 + 1 + 1 + 1, c5), (L + 1 + 1 + 1 + 1, c4), (L + 1 + 1 + 1, c3), (L + 1 + 1, c2), (L + 1, c1)] → IntsAre ws (dr ns) → (@LT.lt Nat _ (L + 1 + 1 + 1 + 1 + 1 + 1) D) →
      wpAny (model PR w) A (execs (LB.drop 1) (envOfC (Str.ofString "law") LS L fa cd)) Q E { s with heap := h', toks := tk }) :
    wpAny (model PR w) A (execs (LB.drop 0) (envOfC (Str.ofString "law") LS L fa cd)) Q E s := by
  obtain ⟨K, T⟩ := id W
  rw [cut 0 (by decide)]
  conv in (execs (_ :: _) _) => arg 1; arg 1; whnf
  conv in (envOfC _ _ _ _ _) => arg 2; whnf
  iterate 50 walk1
  rename Fr _ _ _ _ => F1
  rename News _ _ _ _ => N1
  have hl7 : (List.take 7 ns).length ≤ 7 := List.length_take_le ..
  refine' kmk_slice_ints (ns := [2, 3, 4, -1, 6, 0, 3]) (ms := List.drop ((List.take 7 ns).length : Int).toNat [2, 3, 4, -1, 6, 0, 3]) F1 N1 ⟨_, (N1 (_, _) (.tail _ (.head _))).1, rfl, _, rfl⟩ (IsPart.int _ _) IsPart.none ?i1 ?i2 rfl ?_ ?i3 ?i4 ?i5
  case i1 => exact .cons _ _ (.cons _ _ (.cons _ _ (.cons _ _ (.cons _ _ (.cons _ _ (.cons _ _ .nil))))))
  case i2 => exact kmk_from (.cons _ _ (.cons _ _ (.cons _ _ (.cons _ _ (.cons _ _ (.cons _ _ (.cons _ _ .nil))))))) (by omega)
  case i3 => with_unfolding_all rfl
  case i4 => intro _; with_unfolding_all rfl
  case i5 => exact (show 7 ≤ sizeLine by decide)
  intro D2 ws2 h2 F2 N2 lt2 I2 _ _
  iterate 2 walk1
  rename Fr _ _ _ _ => F3
  rename News _ _ _ _ => N3
  rename IntsAre _ (List.take 7 ns ++ _) => I3
  rename (_ < _ ∧ _ < _ ∧ _ < _ ∧ _ < _ ∧ L + 1 + 1 + 1 + 1 + 1 + 1 < _ ∧ _) => l1
  refine next _ _ _ _ F3 (fun p hp => N3 p ?_) I3 l1.2.2.2.2.1
  simp only [List.mem_cons, List.not_mem_nil, or_false] at hp ⊢
  rcases hp with h | h | h | h | h | h | h <;> repeat (first | exact h | exact .inl h | (refine .inl ?_; (repeat (first | exact h | exact .inl h | refine .inr ?_)); done) | refine .inr ?_)
end Mine
end

/-! ## L2 -/
section
theorem Mine.offL2 : True := by w_top off; trivial
open PySem PySem.W PySem.Calls PyProof.Rows PyProof.V
set_option Elab.async false
set_option maxRecDepth 100000
namespace Mine
set_option maxHeartbeats 16000000
local macro_rules | `(tactic| walk_at "eval Name") => `(tactic| (k_here; k_dflt (refine' nameX_L ?k1 ?k2 ?_; (case k1 => k_asm); (case k2 => repeat (first | assumption | refine (if_neg (by decide)).trans ?_)); k_whole)))
noncomputable def hiOf (d0 d1 : Int) : Int := d0 + 1 + (if d1 < 0 then -d1 else d1)
theorem hiOf_lt (d0 d1 : Int) : d0 < hiOf d0 d1 := by unfold hiOf; split <;> omega
theorem rearr2b {h₀ h : Heap} {L : Addr} {r a b c C6 C5 C4 C3 C2 C1 e : Addr × Obj} (N : News h₀ L h [r, a, b, c, C6, C5, C4, C3, C2, C1, e]) : News h₀ L h (C6 :: C5 :: C4 :: C3 :: C2 :: C1 :: []) := fun p hp => N p (by
  simp only [List.mem_cons, List.not_mem_nil, or_false] at hp ⊢
  rcases hp with h | h | h | h | h | h <;> repeat (first | exact h | exact .inl h | (refine .inl ?_; (repeat (first | exact h | exact .inl h | refine .inr ?_)); done) | refine .inr ?_))
theorem newA {h h' : Heap} (_ : Kept h h') {il d : Addr} {oi od : Obj} {items : List Value} {objs : List (Addr × Obj)} (nil : h.get? il = none) (hil : h'.get? il = some oi) (nd : h.get? d = none) (hod : h'.get? d = some od)
    (hobj : ∀ p ∈ objs, h'.get? p.1 = some p.2 ∧ Value.ref p.1 ∈ items) (hTf : ∀ v ∈ items, ∃ q, v = .ref q ∧ h.get? q = none) : ∀ p ∈ ((il, oi) :: (d, od) :: objs), h.get? p.1 = none ∧ h'.get? p.1 = some p.2 := by
  intro p hp
  rcases List.mem_cons.mp hp with rfl | hp
  · exact ⟨nil, hil⟩
  rcases List.mem_cons.mp hp with rfl | hp
  · exact ⟨nd, hod⟩
  obtain ⟨h1, h2⟩ := hobj p hp
  obtain ⟨q, hq, hq2⟩ := hTf _ h2
  cases hq
  exact ⟨hq2, h1⟩
theorem rearr2 {h₀ h : Heap} {L : Addr} {i d r a b c C6 C5 C4 C3 C2 C1 e : Addr × Obj} {objs : List (Addr × Obj)} (N : News h₀ L h (i :: d :: objs ++ [r, a, b, c, C6, C5, C4, C3, C2, C1, e])) : News h₀ L h (C6 :: C5 :: C4 :: C3 :: C2 :: C1 :: r :: i :: d :: objs) := fun p hp => N p (by
  simp only [List.mem_append, List.mem_cons, List.not_mem_nil, or_false] at hp ⊢
  rcases hp with h | h | h | h | h | h | h | h | h | h <;> repeat (first | exact h | exact .inl h | (refine .inl ?_; (repeat (first | exact h | exact .inl h | refine .inr ?_)); done) | refine .inr ?_))
theorem seg2 {w : World} {mean : ExcName → Option Value} {mg mb : Str → Option Value} {A : Around} {E : Value → Shared → Prop} {Q : Flow → Shared → Prop} {s : Shared} {h₀ : Heap} {L : Nat} {fa D : Addr} {cd : Value} {m : Str → Option Value} {d0 d1 d2 d3 d4 d5 d6 : Int} {t0 t1 t2 t3 t4 t5 t6 : Tok} {c1 c2 c3 c4 c5 c6 : Obj}
    (W : Wd w mean mg mb h₀) (hA : A.handled = none) (hroom : A.depth + 10 < recursionLimit) (F : Fr h₀ L s.heap m) (N : News h₀ L s.heap [(L + 1 + 1 + 1 + 1 + 1 + 1, c6), (L + 1 + 1 + 1 + 1 + 1, c5), (L + 1 + 1 + 1 + 1, c4), (L + 1 + 1 + 1, c3), (L + 1 + 1, c2), (L + 1, c1), (D, PySem.W.listOf #[.int d0 t0, .int d1 t1, .int d2 t2, .int d3 t3, .int d4 t4, .int d5 t5, .int d6 t6] 0)])
    (e1 : c1.data = .cell none) (e2 : c2.data = .cell none) (e3 : c3.data = .cell none) (e4 : c4.data = .cell none) (e5 : c5.data = .cell none) (e6 : c6.data = .cell none)
    (ms : m (Str.ofString "drawn") = some (.ref D)) (hD : L + 6 < D)
    (next : ∀ h' tk m' b1 b2 b3 b4 rl il d items k od objs rv u1 u2, Fr h₀ L h' m' → m' (Str.ofString "items") = some (.ref il) → News h₀ L h' ((L + 1 + 1 + 1 + 1 + 1 + 1, c6) :: (L + 1 + 1 + 1 + 1 + 1, c5) :: (L + 1 + 1 + 1 + 1, b4) :: (L + 1 + 1 + 1, b3) :: (L + 1 + 1, b2) :: (L + 1, b1) :: (rl, PySem.W.listOf (List.toArray rv) 0) :: (il, PySem.W.listOf items.toArray k) :: (d, od) :: objs) →
      Off L ((rl, PySem.W.listOf (List.toArray rv) 0) :: (il, PySem.W.listOf items.toArray k) :: (d, od) :: objs) → b1.data = .cell (some (.int d0 u1)) → b2.data = .cell (some (.int (hiOf d0 d1) u2)) → b3.data = .cell (some (.ref rl)) → b4.data = .cell (some (.ref d)) →
      IntsAre rv [d0 - 1, d0, hiOf d0 d1, d2, d3, d4, d5, d6] → TL objs items (serveL dec d0 (hiOf d0 d1) [d0 - 1, d0, hiOf d0 d1, d2, d3, d4, d5, d6] 8) → OD w od (serveD d0 (hiOf d0 d1) [d0 - 1, d0, hiOf d0 d1, d2, d3, d4, d5, d6] 8) → (d == sysModules) = false →
      wpAny (model PR w) A (execs (LB.drop 8) (envOfC (Str.ofString "law") LS L fa cd)) Q E { s with heap := h', toks := tk }) :
    wpAny (model PR w) A (execs (LB.drop 1) (envOfC (Str.ofString "law") LS L fa cd)) Q E s := by
  obtain ⟨K, T⟩ := id W
  rw [cut 1 (by decide)]
  conv in (execs (_ :: _) _) => arg 1; arg 1; whnf
  conv in (envOfC _ _ _ _ _) => arg 2; whnf
  iterate 6 walk1
  refine' store1 (s := ⟨_, _, _, _, _⟩) F N ?a1 e1 ?_ ?hc ?hx
  case hc => rfl
  case hx => rfl
  case a1 => exact Off.cons (off_lt hD) .nil
  intro h1 o1 F1 N1 x1
  clear F N e1
  replace x1 : o1.data = .cell (some (.int d0 _)) := x1
  iterate 24 walk1
  rename (Obj.data _ = Data.cell (some (Value.int (_ + 1 + _) _))) => x2
  replace x2 : _ = Data.cell (some (.int (hiOf d0 d1) _)) := x2
  iterate 14 walk1
  rename Fr _ _ _ _ => F2
  rename News _ _ _ _ => N2
  rename (L + 1 + 1 + 1 + 1 + 1 + 1 < _ ∧ _) => l1
  obtain ⟨l6, l5, l4, l3, l2, l1, lD⟩ := l1
  have hne : ∀ {l : Nat} {o2 : Obj}, L + 1 + 1 + 1 + 1 + 1 + 1 < l → L + 1 + 1 + 1 + 1 + 1 < l → L + 1 + 1 + 1 + 1 < l → L + 1 + 1 + 1 < l → L + 1 + 1 < l → L + 1 < l → D < l → ∀ p ∈ [(L + 1 + 1 + 1 + 1 + 1 + 1, c6), (L + 1 + 1 + 1 + 1 + 1, c5), (L + 1 + 1 + 1 + 1, c4), (L + 1 + 1 + 1, c3), (L + 1 + 1, o2), (L + 1, o1), (D, PySem.W.listOf #[.int d0 t0, .int d1 t1, .int d2 t2, .int d3 t3, .int d4 t4, .int d5 t5, .int d6 t6] 0)], p.1 ≠ l := by
    intro l o2 l6 l5 l4 l3 l2 l1 lD p hp
    simp only [List.mem_cons, List.not_mem_nil, or_false] at hp
    rcases hp with rfl | rfl | rfl | rfl | rfl | rfl | rfl <;> exact Nat.ne_of_lt (by assumption)
  refine insort_spec (ns := []) (vs := []) (W.keeps (kept_hide F2 N2 (List.mem_cons_self ..))) hA ?_ (N2 (_, _) (List.mem_cons_self ..)).1 .nil (by decide) ?_ ?_
  · omega
  · intro i j _ h; exact absurd h (by first | ((repeat (first | exact .head _ | refine .tail _ ?_)); done) | simp)
  intro h3 tk3 i hk3 hat3 hl3
  obtain ⟨F3, N3⟩ := turn_fn F2 N2 (hne l6 l5 l4 l3 l2 l1 lD) hk3 hl3
  have : i = 0 := Nat.le_zero.mp hat3.1
  subst this
  clear F2 N2
  simp only [List.take_nil, List.drop_nil, List.nil_append] at N3
  iterate 11 walk1
  refine insort_spec (ns := [hiOf d0 d1]) (vs := [.int (hiOf d0 d1) _]) (W.keeps (kept_hide F3 N3 (List.mem_cons_self ..))) hA ?_ (N3 (_, _) (List.mem_cons_self ..)).1 (.cons _ _ .nil) (show 1 < 90 by decide) ?_ ?_
  · omega
  · intro i j hij h
    have : j = 0 := Nat.lt_one_iff.mp h
    subst this
    have : i = 0 := Nat.le_zero.mp hij
    subst this
    exact Int.le_refl _
  intro h4 tk4 i hk4 hat4 hl4
  obtain ⟨F4, N4⟩ := turn_fn F3 N3 (hne l6 l5 l4 l3 l2 l1 lD) hk4 hl4
  have : i = 0 := by
    rcases Nat.eq_zero_or_pos i with h | h
    · exact h
    · have h1 : hiOf d0 d1 < d0 := hat4.2.1 0 h
      have h2 := hiOf_lt d0 d1
      omega
  subst this
  clear F3 N3
  simp only [List.take_zero, List.drop_zero, List.nil_append] at N4
  iterate 37 walk1
  rename Fr _ _ _ _ => F5
  rename News _ _ _ _ => N5
  refine serve_spec (lo := d0) (hi := hiOf d0 d1) (bv := [.int d0 _, .int (hiOf d0 d1) _]) (ns := [d0 - 1, d0, hiOf d0 d1, d2, d3, d4, d5, d6]) (rv := [.int (d0 - 1) _, .int d0 _, .int (hiOf d0 d1) _, .int d2 _, .int d3 _, .int d4 _, .int d5 _, .int d6 _]) (W.keeps F5.keep) hA ?_ ⟨_, (N5 (_, _) (.tail _ (.tail _ (.tail _ (.head _))))).1, rfl, _, rfl⟩ (.cons _ _ (.cons _ _ .nil)) (Int.le_of_lt (hiOf_lt d0 d1)) ⟨_, (N5 (_, _) (.head _)).1, rfl, _, rfl⟩ (.cons _ _ (.cons _ _ (.cons _ _ (.cons _ _ (.cons _ _ (.cons _ _ (.cons _ _ (.cons _ _ .nil)))))))) rfl ?_
  · omega
  intro h6 tk6 r il d items k hk6 nr nil nd hr hil hT hTf hd
  obtain ⟨objs, hTL, hobj⟩ := hT.tl
  obtain ⟨od, hod, hOd⟩ := od_of hd
  have hdlo := hd.1
  have F6 := fr_ext F5 hk6
  have hnew := newA hk6 nil hil nd hod hobj hTf
  have N6 := news_ins (objs := (il, PySem.W.listOf items.toArray k) :: (d, od) :: objs) F5 N5 hk6 hnew
  have N7 := rearr2 N6
  have hOff : Off L ((il, PySem.W.listOf items.toArray k) :: (d, od) :: objs) := fun p hp => off_fresh (rearr2b N5) (hnew p hp).1
  rename (_ ∧ _ ∧ _ ∧ L + 1 + 1 + 1 + 1 + 1 + 1 < _ ∧ _) => lr
  clear N6 N5 F5
  refine unpackN_ F6 N7 hr hA rfl rfl ?_
  intro h7 F7 N8
  clear F6 N7
  iterate 5 walk1
  rename Fr _ _ _ _ => F8
  rename News _ _ _ _ => N9
  rename (Obj.data _ = Data.cell (some (Value.ref _))) => x3
  refine' store4 (s := ⟨_, _, _, _, _⟩) F8 N9 ?b1 e4 ?_ ?hc ?hx
  case hc => rfl
  case hx => rfl
  case b1 => exact Off.cons (off_lt lr.2.2.2.1) hOff
  intro h9 o4 F9 N10 x4
  walk1
  exact next h9 _ _ o1 _ _ o4 _ il d items k od objs _ _ _ F9 rfl N10 (Off.cons (off_lt lr.2.2.2.1) hOff) x1 x2 x3 x4 (.cons _ _ (.cons _ _ (.cons _ _ (.cons _ _ (.cons _ _ (.cons _ _ (.cons _ _ (.cons _ _ .nil)))))))) hTL hOd hdlo
end Mine
end

/-! ## Lb2 -/
section
theorem Mine.offLb2 : True := by w_top off; trivial
open PySem PySem.W PySem.Calls PyProof.Rows PyProof.V
set_option Elab.async false
set_option maxRecDepth 100000
namespace Mine
theorem Off1.mem {D : Addr} : ∀ {l : List (Addr × Obj)}, LCg.Off1 D l → ∀ p ∈ l, p.1 ≠ D
  | [], _, _, h => nomatch h
  | _ :: _, x, p, h => by
    rcases List.mem_cons.mp h with rfl | h
    · exact x.1
    · exact Off1.mem x.2 p h
section
variable {L : Nat} {D : Addr} {c1 c2 c3 c4 c5 c6 : Obj} {rest : List (Addr × Obj)}
theorem off_all (h : ∀ p ∈ ((L + 1 + 1 + 1 + 1 + 1 + 1, c6) :: (L + 1 + 1 + 1 + 1 + 1, c5) :: (L + 1 + 1 + 1 + 1, c4) :: (L + 1 + 1 + 1, c3) :: (L + 1 + 1, c2) :: (L + 1, c1) :: rest), p.1 ≠ D) : ∀ i, i < 6 → D ≠ L + (i + 1) := by
  intro i hi e
  rcases i with _ | _ | _ | _ | _ | _ | i
  · exact h (L + 1, c1) (by first | ((repeat (first | exact .head _ | refine .tail _ ?_)); done) | simp) e.symm
  · exact h (L + 1 + 1, c2) (by first | ((repeat (first | exact .head _ | refine .tail _ ?_)); done) | simp) e.symm
  · exact h (L + 1 + 1 + 1, c3) (by first | ((repeat (first | exact .head _ | refine .tail _ ?_)); done) | simp) e.symm
  · exact h (L + 1 + 1 + 1 + 1, c4) (by first | ((repeat (first | exact .head _ | refine .tail _ ?_)); done) | simp) e.symm
  · exact h (L + 1 + 1 + 1 + 1 + 1, c5) (by first | ((repeat (first | exact .head _ | refine .tail _ ?_)); done) | simp) e.symm
  · exact h (L + 1 + 1 + 1 + 1 + 1 + 1, c6) (by first | ((repeat (first | exact .head _ | refine .tail _ ?_)); done) | simp) e.symm
  · exact absurd hi (Nat.not_lt.mpr (Nat.le_add_left 6 i))
/-- a thing ahead of the cells goes behind them -/
theorem behind {h₀ h : Heap} {M : Addr} {d C6 C5 C4 C3 C2 C1 : Addr × Obj} (N : News h₀ M h (d :: C6 :: C5 :: C4 :: C3 :: C2 :: C1 :: rest)) : News h₀ M h (C6 :: C5 :: C4 :: C3 :: C2 :: C1 :: d :: rest) := fun p hp => N p (by
  simp only [List.mem_cons] at hp ⊢
  rcases hp with h | h | h | h | h | h | h | h <;> repeat (first | exact h | exact .inl h | (refine .inl ?_; (repeat (first | exact h | exact .inl h | refine .inr ?_)); done) | refine .inr ?_))
end
end Mine
end

/-! ## L3 -/
section
theorem Mine.offL3 : True := by w_top off; trivial
open PySem PySem.W PySem.Calls PyProof.Rows PyProof.V
set_option Elab.async false
set_option maxRecDepth 100000
namespace Mine
set_option maxHeartbeats 16000000
local macro_rules | `(tactic| walk_at "eval Name") => `(tactic| (k_here; k_dflt (refine' nameX_L ?k1 ?k2 ?_; (case k1 => k_asm); (case k2 => repeat (first | assumption | refine (if_neg (by decide)).trans ?_)); k_whole)))

/-- the book of a reader, by number -/
noncomputable def bkOf (lo hi x : Int) : Int := (if lo ≤ x then 1 else 0) + (if hi ≤ x then 1 else 0)
theorem seg3 {w : World} {mean : ExcName → Option Value} {mg mb : Str → Option Value} {A : Around} {E : Value → Shared → Prop} {Q : Flow → Shared → Prop} {s : Shared} {h₀ : Heap} {L : Nat} {fa rl : Addr} {cd : Value} {m : Str → Option Value} {lo hi : Int} {u1 u2 : Tok} {c1 c2 c3 c4 c5 c6 : Obj} {rv : List Value} {rs : List Int} {rest : List (Addr × Obj)}
    (W : Wd w mean mg mb h₀) (hA : A.handled = none) (F : Fr h₀ L s.heap m) (N : News h₀ L s.heap ((L + 1 + 1 + 1 + 1 + 1 + 1, c6) :: (L + 1 + 1 + 1 + 1 + 1, c5) :: (L + 1 + 1 + 1 + 1, c4) :: (L + 1 + 1 + 1, c3) :: (L + 1 + 1, c2) :: (L + 1, c1) :: (rl, PySem.W.listOf (List.toArray rv) 0) :: rest)) (hoff : Off L ((rl, PySem.W.listOf (List.toArray rv) 0) :: rest))
    (e1 : c1.data = .cell (some (.int lo u1))) (e2 : c2.data = .cell (some (.int hi u2))) (e3 : c3.data = .cell (some (.ref rl))) (e5 : c5.data = .cell none)
    (hI : IntsAre rv rs) (hlen : rs.length ≤ 90)
    (next : ∀ h' tk b5 D ys, Fr h₀ L h' m → News h₀ L h' ((L + 1 + 1 + 1 + 1 + 1 + 1, c6) :: (L + 1 + 1 + 1 + 1 + 1, b5) :: (L + 1 + 1 + 1 + 1, c4) :: (L + 1 + 1 + 1, c3) :: (L + 1 + 1, c2) :: (L + 1, c1) :: (D, LCg.lst ys) :: (rl, PySem.W.listOf (List.toArray rv) 0) :: rest) → Off L ((D, LCg.lst ys) :: (rl, PySem.W.listOf (List.toArray rv) 0) :: rest) → b5.data = .cell (some (.ref D)) → IntsAre ys (rs.map (bkOf lo hi)) →
      wpAny (model PR w) A (execs (LB.drop 9) (envOfC (Str.ofString "law") LS L fa cd)) Q E { s with heap := h', toks := tk }) :
    wpAny (model PR w) A (execs (LB.drop 8) (envOfC (Str.ofString "law") LS L fa cd)) Q E s := by
  obtain ⟨K, T⟩ := id W
  rw [cut 8 (by decide)]
  generalize List.drop (8 + 1) LB = stmts at *
  conv in (execs (_ :: _) _) => arg 1; arg 1; whnf
  conv in (envOfC _ _ _ _ _) => arg 2; whnf
  iterate 2 walk1
  refine' LCg.ListComp_U (cl := ?cl) F ?h1 ?h2 ?h3 ?h4 ?h5 ?_ ?h6
  case h1 => with_unfolding_all rfl
  case h2 => decide
  case h3 => rfl
  case h4 => decide
  case h5 => rfl
  case h6 => intro _; rfl
  walk1
  have hvl : rv.length = rs.length := hI.length
  refine LCg.CompSrc.ledger hA F N (k := 0) (its := rv.toArray) (by first | ((repeat (first | exact .head _ | refine .tail _ ?_)); done) | simp) (Nat.le_trans (by rw [List.size_toArray, hvl]; exact hlen) (by decide)) ?_
  intro g5
  refine rest_ind (fun k i ys => k + i = rs.length ∧ IntsAre ys ((rs.take i).map (bkOf lo hi))) ?_ ?_ _ _ _ ⟨by rw [List.size_toArray, hvl]; omega, .nil⟩
  · rintro i ys ⟨hi', hy⟩ D h' tk' F' N' off
    have : i = rs.length := by omega
    rw [this, List.take_length] at hy
    have hOD := Off.cons (p := (D, LCg.lst ys)) (off_all (Off1.mem off)) hoff
    refine' store5 (s := ⟨_, _, _, _, _⟩) F' (behind N') ?b1 e5 ?_ ?hc ?hx
    case hc => rfl
    case hx => rfl
    case b1 => exact hOD
    intro h9 o5 F9 N9 x5
    exact next _ _ _ D ys F9 N9 hOD x5 hy
  · rintro k i ys ⟨hi', hy⟩ v I oI C oC D m₂ h5 tk5 E' hP hC hm2 F5 N5 hoff5 hne
    have hri : i < rs.length := by omega
    have hrs : rs[i]? = some rs[i] := List.getElem?_eq_getElem hri
    obtain ⟨t, rfl⟩ : ∃ t, v = .int rs[i] t := by
      obtain ⟨n, t, rfl, e⟩ := hI.at i v (by simpa using hP)
      rw [hrs] at e
      exact ⟨t, by rw [Option.some.inj e]⟩
    iterate 22 walk1
    refine LCg.CompEnd.intro F5 N5 _ (fun p hp => hp) hoff5 (.inr ⟨_, List.mem_cons_of_mem _ (List.mem_cons_of_mem _ (List.mem_cons_of_mem _ (List.mem_cons_of_mem _ (List.mem_cons_of_mem _ (List.mem_cons_of_mem _ (List.mem_cons_self ..)))))), rfl, _, rfl⟩) ⟨rfl, by omega, ?_⟩
    rw [List.take_add_one, hrs, List.map_append]
    refine intsAre_append hy ?_
    have e : ((if decide (lo ≤ rs[i]) = true then (1 : Int) else 0) + if decide (hi ≤ rs[i]) = true then (1 : Int) else 0) = bkOf lo hi rs[i] := by
      unfold bkOf
      simp only [decide_eq_true_eq]
    rw [e]
    exact .cons _ _ .nil
end Mine
end

/-! ## Xc -/
section
theorem Mine.offXc : True := by w_top off; trivial
open PySem PySem.W PySem.Calls PyProof.Rows PyProof.V
set_option Elab.async false
set_option maxRecDepth 100000
namespace Mine
theorem look_relabel_cell {env : Env} : ∀ {names : List (Str × NameKind)} {x : Str}, names.lookup x = some .cell →
    (names.map fun (n, k) => if (k == NameKind.free && env.scope.kind == .function && env.kindOf n == some .cell) then (n, NameKind.cell) else (n, k)).lookup x = some .cell
  | [], _, h => by simp at h
  | (n, k) :: r, x, h => by
    show List.lookup x ((if (k == NameKind.free && env.scope.kind == .function && env.kindOf n == some .cell) = true then (n, NameKind.cell) else (n, k)) :: _) = _
    cases hx : x == n with
    | true =>
      simp only [List.lookup_cons, hx] at h
      cases h
      simp [List.lookup_cons, hx]
    | false =>
      simp only [List.lookup_cons, hx] at h
      have ih := look_relabel_cell (env := env) h
      by_cases hc : (k == NameKind.free && env.scope.kind == .function && env.kindOf n == some .cell) = true
      · rw [if_pos hc]; simp only [List.lookup_cons, hx]; exact ih
      · rw [if_neg hc]; simp only [List.lookup_cons, hx]; exact ih
noncomputable def cell0 : Obj := { cls := .type "cell", data := .cell none }
section
variable {M : Model} {prog : Program} {w : World} {A : Around} {E : Value → Shared → Prop} {s : Shared} {env : Env}
theorem newEnv_X {scope : Scope} {globals : Addr} {cl : List (Str × Addr)} {qual : Str} {x : Str} {Q : Env → Shared → Prop} (hcf : ∀ n acc, cellsFrom n scope.names acc = (x, n) :: acc) (hpc : ∀ h, pushCells h scope.names = h.push cell0)
    (hQ : Q { scope := scope, locals := s.heap.objs.size, globals := globals, cells := (x, s.heap.objs.size + 1) :: cl, qual := qual, func := none, code := env.code, frame := env.frame, builtins := env.builtins }
      { s with heap := (s.heap.push { cls := .type "dict", data := .dict #[] }).push cell0 }) :
    wpAny M A (newFunctionEnv scope globals cl [] qual none .none (some env)) Q E s := by
  simp only [newFunctionEnv, Option.isSome_some, if_true]
  refine wpAny_bind (wpAny_alloc ?_)
  refine wpAny_bind (wpAny_layCells _ (fun name kind cells => by cases hkc : kind == NameKind.cell <;> simp [hkc]) _ _ _ _ ?_)
  rw [show ({ s with heap := s.heap.push { cls := .type "dict", data := .dict #[] } } : Shared).heap.objs.size = s.heap.objs.size + 1 from Heap.size_push .., hcf, hpc]
  exact wpAny_bind (wpAny_pure (wpAny_pure hQ))
end
theorem fr_ext1 {h₀ h h' : Heap} {L X : Addr} {m : Str → Option Value} (F : Fr h₀ L h m) (hk : ∀ b o, b ≠ X → h.get? b = some o → h'.get? b = some o) (hL : L ≠ X) (h0 : h₀.get? X = none) : Fr h₀ L h' m :=
  ⟨F.ns.at' fun o e => hk _ o hL e, fun b o e => hk b o (fun q => by rw [q, h0] at e; cases e) (F.keep b o e), F.above⟩
theorem news_ext1 {h₀ h h' : Heap} {L X : Addr} {all : List (Addr × Obj)} (N : News h₀ L h all) (hk : ∀ b o, b ≠ X → h.get? b = some o → h'.get? b = some o) (hn : ∀ p ∈ all, p.1 ≠ X) : News h₀ L h' all :=
  fun p hp => ⟨hk _ _ (hn p hp) (N p hp).1, (N p hp).2⟩
section
variable {prog : Program} {w : World} {A : Around} {E : Value → Shared → Prop} {s : Shared} {env : Env} {h₀ : Heap} {L : Addr} {m : Str → Option Value}
theorem ListComp_X {elt iter : Expr} {x : Str} {px : Pos} {scope : Scope} {cl : List (Str × Addr)} {pos : Pos} {Q : Value → Shared → Prop} {n : Nat} {R : Nat → List Value → Prop} (_F : Fr h₀ L s.heap m)
    (hclos : closureFor scope env = pure cl) (hcf : ∀ n acc, cellsFrom n scope.names acc = (x, n) :: acc) (hpc : ∀ h, pushCells h scope.names = h.push cell0) (hkind : scope.kind = .function)
    (hnames : ∀ y ∈ scope.names, y.2 = .local → scope.names.lookup y.1 = some .local) (hx : scope.names.lookup x = some .cell)
    (hs : ∀ x, foldedSetIterable iter env x = pure x)
    (h : wpAny (model prog w) A (eval iter env) (fun xv s₁ => ∃ r t u v news, xv = .ref r ∧ A.handled = none ∧ IsRange s₁.heap r 0 n 1 t u v ∧ n ≤ 1000 ∧ R 0 [] ∧ Fr h₀ L s₁.heap m ∧ News h₀ L s₁.heap news ∧
      (∀ i I C X D oI oC oX t ys h₃ tk₃ E', i < n → R i ys → oX.data = .cell (some (.int i t)) → Fr h₀ L h₃ m → News h₀ L h₃ ((I, oI) :: (C, oC) :: (X, oX) :: (D, LCg.lst ys) :: news) →
        wpAny (model prog w) A (eval elt (compEnvC scope ((x, X) :: cl) C env)) (fun y s₄ => ∃ h' tk', s₄ = { s₁ with heap := h', toks := tk' } ∧ Fr h₀ L h' m ∧ News h₀ L h' ((I, oI) :: (C, oC) :: (X, oX) :: (D, LCg.lst ys) :: news) ∧ R (i + 1) (ys ++ [y])) E' { s₁ with heap := h₃, toks := tk₃ }) ∧
      (∀ D ys h' tk, R n ys → Fr h₀ L h' m → News h₀ L h' ((D, LCg.lst ys) :: news) → (∀ p ∈ news, p.1 ≠ D) → Q (.ref D) { s₁ with heap := h', toks := tk })) E s) :
    wpAny (model prog w) A (eval (.ListComp elt [⟨.Name x px, iter, [], 0⟩] scope pos) env) Q E s := by
  rw [eval_ListComp]
  refine wpAny_comprehension_free (use := none) rfl hs hclos hkind hnames (wpAny_mono h (fun xv s₁ h₁ => ?_) fun _ _ e => e)
  obtain ⟨r, t, u, v, news, rfl, hh, hr, hn, hR0, F, N, turn, fin⟩ := h₁
  refine wpAny_pyIter_range hr (small_one (by decide) (by decide) (by omega) (by omega)) ?_
  have hrs : Builtin.Range.rangeSize 0 n 1 = n := by rw [rangeSize_one]; split <;> omega
  rw [hrs]
  refine wpAny_newObj_type (newEnv_X hcf hpc ?_)
  dsimp only
  have hLI : L < s₁.heap.objs.size := F.ns.lt
  have hNI : ∀ p ∈ news, p.1 < s₁.heap.objs.size := fun p hp => Heap.lt_size (N p hp).1
  have h0I : ∀ a, s₁.heap.objs.size ≤ a → h₀.get? a = none := fun a ha => by
    cases z : h₀.get? a with
    | none => rfl
    | some o' => exact absurd (Heap.lt_size (F.keep _ _ z)) (Nat.not_lt.mpr ha)
  generalize hI : s₁.heap.objs.size = I at hLI hNI h0I ⊢
  generalize hH1 : s₁.heap.push _ = H1
  have z1 : H1.objs.size = I + 1 := by rw [← hH1, Heap.size_push, hI]
  generalize hH2 : H1.push _ = H2
  have z2 : H2.objs.size = I + 2 := by rw [← hH2, Heap.size_push, z1]
  generalize hH3 : H2.push _ = H3
  have z3 : H3.objs.size = I + 3 := by rw [← hH3, Heap.size_push, z2]
  generalize hH4 : H3.push cell0 = H4
  rw [z1, z2]
  have k1 : ∀ b o, H1.get? b = some o → H4.get? b = some o := fun b o e => by
    rw [← hH4, ← hH3, ← hH2]
    exact Heap.get?_push_of_some _ (Heap.get?_push_of_some _ (Heap.get?_push_of_some _ e))
  have hk0 : ∀ b o, s₁.heap.get? b = some o → H4.get? b = some o := fun b o e => k1 b o (hH1 ▸ Heap.get?_push_of_some _ e)
  have gI : IsRangeIter H4 I (0 + ((0 : Nat) : Int) * 1) ((n : Int) - ((0 : Nat) : Int)) 1 := by
    refine k1 _ _ ?_
    rw [← hH1, ← hI]
    simpa using Heap.get?_push_size _ rfl
  have gD : H4.get? (I + 1) = some (LCg.lst []) := by
    rw [← hH4, ← hH3, ← hH2, ← z1]
    exact Heap.get?_push_of_some _ (Heap.get?_push_of_some _ (Heap.get?_push_size _ rfl))
  have gC : H4.Ns (I + 2) (fun _ => none) := by
    have h3 : H3.Ns (I + 2) (fun _ => none) := by
      rw [← hH3, ← z2]; exact Heap.Ns.new ..
    exact h3.keeps fun b o e => by rw [← hH4]; exact Heap.get?_push_of_some _ e
  have gX : H4.get? (I + 3) = some cell0 := by
    rw [← hH4, ← z3]; exact Heap.get?_push_size _ rfl
  have F4 : Fr h₀ L H4 m := F.keeps hk0
  have N4 : News h₀ L H4 news := N.grown hk0
  clear hH1 hH2 hH3 hH4 z1 z2 z3 k1 hk0 H1 H2 H3
  have n0 : ∀ j, L ≠ I + j ∧ I + j ≠ L ∧ h₀.get? (I + j) = none := fun j => ⟨Nat.ne_of_lt (Nat.lt_add_right j hLI), Nat.ne_of_gt (Nat.lt_add_right j hLI), h0I _ (Nat.le_add_right _ _)⟩
  have nn : ∀ j, ∀ p ∈ news, p.1 ≠ I + j := fun j p hp => Nat.ne_of_lt (Nat.lt_add_right j (hNI p hp))
  have W := Walks.range (prog := prog) (w := w) hh I 0 1 n
  have loop : ∀ s₃ : Shared, s₃ = { s₁ with heap := H4 } →
      codeAny (model prog w) A (.compLoop (.ListComp elt [⟨.Name x px, iter, [], 0⟩] scope pos) 0 (.ref I) (.ref (I + 1)) (compEnvC scope ((x, I + 3) :: cl) (I + 2) env)) (compPost (model prog w) A E none Q (.ref (I + 1)) (I + 2)) s₃ := by
    rintro s₃ rfl
    refine codeAny_compLoop_tests
      (fun k s' => ∃ h' tk i ys oX vX m', s' = { s₁ with heap := h', toks := tk } ∧ i ≤ n ∧ k = n + 1 - i ∧ IsRangeIter h' I (0 + (i : Int) * 1) ((n : Int) - (i : Int)) 1 ∧ h'.get? (I + 1) = some (LCg.lst ys) ∧ h'.get? (I + 3) = some oX ∧ oX.data = .cell vX ∧
        h'.Ns (I + 2) m' ∧ R i ys ∧ ys.length = i ∧ Fr h₀ L h' m ∧ News h₀ L h' news) ?_ (n + 1)
      ⟨H4, _, 0, [], cell0, none, _, rfl, Nat.zero_le _, rfl, gI, gD, gX, rfl, gC, hR0, rfl, F4, N4⟩
    rintro k s' ⟨h', tk, i, ys, oX, vX, m', rfl, hi, rfl, hst, hD, hX, hXd, hC, hR, hyl, F', N'⟩
    by_cases hlt : i < n
    · refine W.item i _ _ _ hlt hst fun v h₂ tk₂ hPv hst₂ hk₂ => ?_
      obtain ⟨tv, rfl⟩ := hPv
      have hk₂' : ∀ b o, b ≠ I → h'.get? b = some o → h₂.get? b = some o := fun b o hb e => hk₂ b o (by simpa using hb) e
      have e1 : (0 + (i : Int) * 1) = (i : Int) := by omega
      rw [e1]
      refine wpAny_assign_Name (wpAny_storeName_cell (c := I + 3) hkind (look_relabel_cell hx) (by simp [compEnvC, List.lookup]) ⟨oX, hk₂' _ _ (Nat.ne_of_gt (by omega)) hX, hXd⟩ (fun h₃ hv₃ hs₃ => ?_))
      obtain ⟨o3, ho3, hd3⟩ := hv₃
      refine wpAny_tests_nil ?_
      simp only [if_true]
      have up : ∀ b o, b ≠ I → b ≠ I + 3 → h'.get? b = some o → h₃.get? b = some o := fun b o h1 h2 e => hs₃.extBut b o h2 (hk₂' b o h1 e)
      have F3 : Fr h₀ L h₃ m := fr_ext1 (fr_ext1 F' hk₂' (n0 0).1 (n0 0).2.2) hs₃.extBut (n0 3).1 (n0 3).2.2
      have N3 : News h₀ L h₃ news := news_ext1 (news_ext1 N' hk₂' (nn 0)) hs₃.extBut (nn 3)
      have hst₃ : IsRangeIter h₃ I (0 + ((i + 1 : Nat) : Int) * 1) ((n : Int) - ((i + 1 : Nat) : Int)) 1 := W.frame _ _ _ hst₂ fun b hb o e => hs₃.extBut b o (fun q => by rw [List.mem_singleton.mp hb] at q; exact absurd q (Nat.ne_of_lt (by omega))) e
      have hD₃ : h₃.get? (I + 1) = some (LCg.lst ys) := up _ _ (Nat.ne_of_gt (by omega)) (Nat.ne_of_lt (by omega)) hD
      have hC₃ : h₃.Ns (I + 2) m' := hC.at' fun o e => up _ o (Nat.ne_of_gt (by omega)) (Nat.ne_of_lt (by omega)) e
      obtain ⟨oC, hoC, hC₃'⟩ := LCg.ns_obj hC₃
      obtain ⟨oI, hoI, hback⟩ : ∃ oI, h₃.get? I = some oI ∧ ∀ h : Heap, h.get? I = some oI → IsRangeIter h I (0 + ((i + 1 : Nat) : Int) * 1) ((n : Int) - ((i + 1 : Nat) : Int)) 1 := ⟨_, hst₃, fun h e => e⟩
      have N3' : News h₀ L h₃ ((I, oI) :: (I + 2, oC) :: (I + 3, o3) :: (I + 1, LCg.lst ys) :: news) := by
        intro p hp
        simp only [List.mem_cons] at hp
        rcases hp with rfl | rfl | rfl | rfl | hp
        · exact ⟨hoI, (n0 0).2⟩
        · exact ⟨hoC, (n0 2).2⟩
        · exact ⟨ho3, (n0 3).2⟩
        · exact ⟨hD₃, (n0 1).2⟩
        · exact N3 p hp
      refine wpAny_mono (turn i I (I + 2) (I + 3) (I + 1) oI oC o3 tv ys h₃ _ _ hlt hR hd3 F3 N3') (fun y s₄ h₄ => ?_) fun _ _ e => e
      obtain ⟨h4, tk4, rfl, F5, N5, hR4⟩ := h₄
      have g4D := (N5 (I + 1, LCg.lst ys) (by first | ((repeat (first | exact .head _ | refine .tail _ ?_)); done) | simp)).1
      have g4X := (N5 (I + 3, o3) (by first | ((repeat (first | exact .head _ | refine .tail _ ?_)); done) | simp)).1
      have g4C := (N5 (I + 2, oC) (by first | ((repeat (first | exact .head _ | refine .tail _ ?_)); done) | simp)).1
      have g4I := (N5 (I, oI) (List.mem_cons_self ..)).1
      refine append_at (hsz := by show ys.toArray.size ≤ sizeLine; rw [List.size_toArray, hyl]; exact Nat.le_trans (Nat.le_trans hi hn) (by decide)) g4D fun h₅ hs₅ hD₅ => ?_
      refine ⟨n + 1 - (i + 1), by omega, h₅, _, i + 1, ys ++ [y], o3, _, m', rfl, hlt, rfl, ?_, hD₅.trans (congrArg some (LCg.lst_snoc ys y)), hs₅.extBut _ _ (Nat.ne_of_gt (by omega)) g4X, hd3, (hC₃'.ns g4C).at' fun o e => hs₅.extBut _ o (Nat.ne_of_gt (by omega)) e, hR4, by rw [List.length_append, List.length_singleton, hyl],
        fr_ext1 F5 hs₅.extBut (n0 1).1 (n0 1).2.2, news_ext1 (fun p hp => N5 p (by first | ((repeat (first | exact hp | refine .tail _ ?_)); done) | simp [hp])) hs₅.extBut (nn 1)⟩
      exact hback _ (hs₅.extBut _ _ (Nat.ne_of_lt (by omega)) g4I)
    · obtain rfl : i = n := by omega
      refine W.done _ _ _ hst fun h₂ tk₂ hk₂ => ?_
      have hk₂' : ∀ b o, b ≠ I → h'.get? b = some o → h₂.get? b = some o := fun b o hb e => hk₂ b o (by simpa using hb) e
      refine ⟨m', hC.at' fun o e => hk₂' _ o (Nat.ne_of_gt (by omega)) e, fun h'' hs'' => ?_⟩
      have F3 : Fr h₀ L h'' m := fr_ext1 (fr_ext1 F' hk₂' (n0 0).1 (n0 0).2.2) hs''.extBut (n0 2).1 (n0 2).2.2
      have N3 : News h₀ L h'' news := news_ext1 (news_ext1 N' hk₂' (nn 0)) hs''.extBut (nn 2)
      refine fin (I + 1) ys h'' _ hR F3 (fun p hp => ?_) (nn 1)
      rcases List.mem_cons.mp hp with rfl | hp
      · exact ⟨hs''.extBut _ _ (Nat.ne_of_lt (by omega)) (hk₂' _ _ (Nat.ne_of_gt (by omega)) hD), (n0 1).2⟩
      · exact N3 p hp
  exact codeAny_compStart_list (loop _ rfl) (W.self 0 _ _ _ gI (loop _ rfl))
theorem DictComp_X {K : Type} [DecidableEq K] (knd : KeyKind prog w K) {kx vx iter : Expr} {x : Str} {px : Pos} {scope : Scope} {cl : List (Str × Addr)} {pos : Pos} {Q : Value → Shared → Prop} {n : Nat} {R : Nat → List (K × Value) → Prop} (_F : Fr h₀ L s.heap m)
    (hclos : closureFor scope env = pure cl) (hcf : ∀ n acc, cellsFrom n scope.names acc = (x, n) :: acc) (hpc : ∀ h, pushCells h scope.names = h.push cell0) (hkind : scope.kind = .function)
    (hnames : ∀ y ∈ scope.names, y.2 = .local → scope.names.lookup y.1 = some .local) (hx : scope.names.lookup x = some .cell)
    (hs : ∀ x, foldedSetIterable iter env x = pure x)
    (h : wpAny (model prog w) A (eval iter env) (fun xv s₁ => ∃ r t u v news, xv = .ref r ∧ A.handled = none ∧ IsRange s₁.heap r 0 n 1 t u v ∧ n ≤ 1000 ∧ R 0 [] ∧ Fr h₀ L s₁.heap m ∧ News h₀ L s₁.heap news ∧
      (∀ i I C X D oI oC oX oD t ys h₃ tk₃ E', i < n → R i ys → ys.length ≤ i → oX.data = .cell (some (.int i t)) → Fr h₀ L h₃ m → News h₀ L h₃ ((I, oI) :: (C, oC) :: (X, oX) :: (D, oD) :: news) →
        wpAny (model prog w) A (eval kx (compEnvC scope ((x, X) :: cl) C env)) (fun key s₄ => wpAny (model prog w) A (eval vx (compEnvC scope ((x, X) :: cl) C env)) (fun y s₅ => ∃ h' tk' k, s₅ = { s₁ with heap := h', toks := tk' } ∧ Fr h₀ L h' m ∧ News h₀ L h' ((I, oI) :: (C, oC) :: (X, oX) :: (D, oD) :: news) ∧ knd.is k key = true ∧ R (i + 1) (stored ys k y)) E' s₄) E' { s₁ with heap := h₃, toks := tk₃ }) ∧
      (∀ D oD ys h' tk, R n ys → Fr h₀ L h' m → News h₀ L h' ((D, oD) :: news) → oD.IsDictOf knd ys → (∀ p ∈ news, p.1 ≠ D) → s₁.heap.objs.size < D → Q (.ref D) { s₁ with heap := h', toks := tk })) E s) :
    wpAny (model prog w) A (eval (.DictComp kx vx [⟨.Name x px, iter, [], 0⟩] scope pos) env) Q E s := by
  rw [arm_eval_DictComp]
  refine wpAny_comprehension_free (use := none) rfl hs hclos hkind hnames (wpAny_mono h (fun xv s₁ h₁ => ?_) fun _ _ e => e)
  obtain ⟨r, t, u, v, news, rfl, hh, hr, hn, hR0, F, N, turn, fin⟩ := h₁
  refine wpAny_pyIter_range hr (small_one (by decide) (by decide) (by omega) (by omega)) ?_
  have hrs : Builtin.Range.rangeSize 0 n 1 = n := by rw [rangeSize_one]; split <;> omega
  rw [hrs]
  refine wpAny_newObj_type (newEnv_X hcf hpc ?_)
  dsimp only
  have hLI : L < s₁.heap.objs.size := F.ns.lt
  have hNI : ∀ p ∈ news, p.1 < s₁.heap.objs.size := fun p hp => Heap.lt_size (N p hp).1
  have h0I : ∀ a, s₁.heap.objs.size ≤ a → h₀.get? a = none := fun a ha => by
    cases z : h₀.get? a with
    | none => rfl
    | some o' => exact absurd (Heap.lt_size (F.keep _ _ z)) (Nat.not_lt.mpr ha)
  generalize hI : s₁.heap.objs.size = I at hLI hNI h0I ⊢
  generalize hH1 : s₁.heap.push _ = H1
  have hnew : (H1.push { cls := .type "dict", dict := none, data := .dict #[] }).DictOf knd H1.objs.size [] := Heap.DictOf.new H1
  have z1 : H1.objs.size = I + 1 := by rw [← hH1, Heap.size_push, hI]
  generalize hH2 : H1.push _ = H2 at hnew ⊢
  have z2 : H2.objs.size = I + 2 := by rw [← hH2, Heap.size_push, z1]
  generalize hH3 : H2.push _ = H3
  have z3 : H3.objs.size = I + 3 := by rw [← hH3, Heap.size_push, z2]
  generalize hH4 : H3.push cell0 = H4
  rw [z1, z2]
  have k1 : ∀ b o, H1.get? b = some o → H4.get? b = some o := fun b o e => by
    rw [← hH4, ← hH3, ← hH2]
    exact Heap.get?_push_of_some _ (Heap.get?_push_of_some _ (Heap.get?_push_of_some _ e))
  have hk0 : ∀ b o, s₁.heap.get? b = some o → H4.get? b = some o := fun b o e => k1 b o (hH1 ▸ Heap.get?_push_of_some _ e)
  have gI : IsRangeIter H4 I (0 + ((0 : Nat) : Int) * 1) ((n : Int) - ((0 : Nat) : Int)) 1 := by
    refine k1 _ _ ?_
    rw [← hH1, ← hI]
    simpa using Heap.get?_push_size _ rfl
  have gD : H4.DictOf knd (I + 1) [] := by
    rw [← hH4, ← hH3, ← z1]
    exact (hnew.push _).push _
  have gC : H4.Ns (I + 2) (fun _ => none) := by
    have h3 : H3.Ns (I + 2) (fun _ => none) := by
      rw [← hH3, ← z2]; exact Heap.Ns.new ..
    exact h3.keeps fun b o e => by rw [← hH4]; exact Heap.get?_push_of_some _ e
  have gX : H4.get? (I + 3) = some cell0 := by
    rw [← hH4, ← z3]; exact Heap.get?_push_size _ rfl
  have F4 : Fr h₀ L H4 m := F.keeps hk0
  have N4 : News h₀ L H4 news := N.grown hk0
  clear hnew hH1 hH2 hH3 hH4 z1 z2 z3 k1 hk0 H1 H2 H3
  have n0 : ∀ j, L ≠ I + j ∧ I + j ≠ L ∧ h₀.get? (I + j) = none := fun j => ⟨Nat.ne_of_lt (Nat.lt_add_right j hLI), Nat.ne_of_gt (Nat.lt_add_right j hLI), h0I _ (Nat.le_add_right _ _)⟩
  have nn : ∀ j, ∀ p ∈ news, p.1 ≠ I + j := fun j p hp => Nat.ne_of_lt (Nat.lt_add_right j (hNI p hp))
  have W := Walks.range (prog := prog) (w := w) hh I 0 1 n
  have loop : ∀ s₃ : Shared, s₃ = { s₁ with heap := H4 } →
      codeAny (model prog w) A (.compLoop (.DictComp kx vx [⟨.Name x px, iter, [], 0⟩] scope pos) 0 (.ref I) (.ref (I + 1)) (compEnvC scope ((x, I + 3) :: cl) (I + 2) env)) (compPost (model prog w) A E none Q (.ref (I + 1)) (I + 2)) s₃ := by
    rintro s₃ rfl
    refine codeAny_compLoop_testsD
      (fun k s' => ∃ h' tk i ys oX vX m', s' = { s₁ with heap := h', toks := tk } ∧ i ≤ n ∧ k = n + 1 - i ∧ IsRangeIter h' I (0 + (i : Int) * 1) ((n : Int) - (i : Int)) 1 ∧ h'.DictOf knd (I + 1) ys ∧ h'.get? (I + 3) = some oX ∧ oX.data = .cell vX ∧
        h'.Ns (I + 2) m' ∧ R i ys ∧ ys.length ≤ i ∧ Fr h₀ L h' m ∧ News h₀ L h' news) ?_ (n + 1)
      ⟨H4, _, 0, [], cell0, none, _, rfl, Nat.zero_le _, rfl, gI, gD, gX, rfl, gC, hR0, Nat.le_refl _, F4, N4⟩
    rintro k s' ⟨h', tk, i, ys, oX, vX, m', rfl, hi, rfl, hst, hD, hX, hXd, hC, hR, hyl, F', N'⟩
    by_cases hlt : i < n
    · refine W.item i _ _ _ hlt hst fun v h₂ tk₂ hPv hst₂ hk₂ => ?_
      obtain ⟨tv, rfl⟩ := hPv
      have hk₂' : ∀ b o, b ≠ I → h'.get? b = some o → h₂.get? b = some o := fun b o hb e => hk₂ b o (by simpa using hb) e
      have e1 : (0 + (i : Int) * 1) = (i : Int) := by omega
      rw [e1]
      refine wpAny_assign_Name (wpAny_storeName_cell (c := I + 3) hkind (look_relabel_cell hx) (by simp [compEnvC, List.lookup]) ⟨oX, hk₂' _ _ (Nat.ne_of_gt (by omega)) hX, hXd⟩ (fun h₃ hv₃ hs₃ => ?_))
      obtain ⟨o3, ho3, hd3⟩ := hv₃
      refine wpAny_tests_nil ?_
      rw [if_pos rfl]
      have up : ∀ b o, b ≠ I → b ≠ I + 3 → h'.get? b = some o → h₃.get? b = some o := fun b o h1 h2 e => hs₃.extBut b o h2 (hk₂' b o h1 e)
      have F3 : Fr h₀ L h₃ m := fr_ext1 (fr_ext1 F' hk₂' (n0 0).1 (n0 0).2.2) hs₃.extBut (n0 3).1 (n0 3).2.2
      have N3 : News h₀ L h₃ news := news_ext1 (news_ext1 N' hk₂' (nn 0)) hs₃.extBut (nn 3)
      have hst₃ : IsRangeIter h₃ I (0 + ((i + 1 : Nat) : Int) * 1) ((n : Int) - ((i + 1 : Nat) : Int)) 1 := W.frame _ _ _ hst₂ fun b hb o e => hs₃.extBut b o (fun q => by rw [List.mem_singleton.mp hb] at q; exact absurd q (Nat.ne_of_lt (by omega))) e
      have hD₃ : h₃.DictOf knd (I + 1) ys := hD.at fun o e => up _ o (Nat.ne_of_gt (by omega)) (Nat.ne_of_lt (by omega)) e
      obtain ⟨oD, hoD, hdD⟩ := Heap.dictOf_iff.mp hD₃
      have hC₃ : h₃.Ns (I + 2) m' := hC.at' fun o e => up _ o (Nat.ne_of_gt (by omega)) (Nat.ne_of_lt (by omega)) e
      obtain ⟨oC, hoC, hC₃'⟩ := LCg.ns_obj hC₃
      obtain ⟨oI, hoI, hback⟩ : ∃ oI, h₃.get? I = some oI ∧ ∀ h : Heap, h.get? I = some oI → IsRangeIter h I (0 + ((i + 1 : Nat) : Int) * 1) ((n : Int) - ((i + 1 : Nat) : Int)) 1 := ⟨_, hst₃, fun h e => e⟩
      have N3' : News h₀ L h₃ ((I, oI) :: (I + 2, oC) :: (I + 3, o3) :: (I + 1, oD) :: news) := by
        intro p hp
        simp only [List.mem_cons] at hp
        rcases hp with rfl | rfl | rfl | rfl | hp
        · exact ⟨hoI, (n0 0).2⟩
        · exact ⟨hoC, (n0 2).2⟩
        · exact ⟨ho3, (n0 3).2⟩
        · exact ⟨hoD, (n0 1).2⟩
        · exact N3 p hp
      refine wpAny_mono (turn i I (I + 2) (I + 3) (I + 1) oI oC o3 oD tv ys h₃ _ _ hlt hR hyl hd3 F3 N3') (fun key s₄ h₄ => wpAny_mono h₄ (fun y s₅ h₅ => ?_) fun _ _ e => e) fun _ _ e => e
      obtain ⟨h4, tk4, kk, rfl, F5, N5, hkk, hR4⟩ := h₅
      have g4D := (N5 (I + 1, oD) (by first | ((repeat (first | exact .head _ | refine .tail _ ?_)); done) | simp)).1
      have g4X := (N5 (I + 3, o3) (by first | ((repeat (first | exact .head _ | refine .tail _ ?_)); done) | simp)).1
      have g4C := (N5 (I + 2, oC) (by first | ((repeat (first | exact .head _ | refine .tail _ ?_)); done) | simp)).1
      have g4I := (N5 (I, oI) (List.mem_cons_self ..)).1
      refine wpAny_dictSet_pairs (hsz := Nat.le_trans hyl (Nat.le_trans (Nat.le_trans hi hn) (by decide))) hkk (Heap.dictOf_iff.mpr ⟨oD, g4D, hdD⟩) fun h₅ hl₅ hs₅ => ?_
      refine ⟨n + 1 - (i + 1), by omega, h₅, _, i + 1, stored ys kk y, o3, _, m', rfl, hlt, rfl, ?_, hl₅, hs₅.extBut _ _ (Nat.ne_of_gt (by omega)) g4X, hd3, (hC₃'.ns g4C).at' fun o e => hs₅.extBut _ o (Nat.ne_of_gt (by omega)) e, hR4, by have := stored_length_le ys kk y; omega,
        fr_ext1 F5 hs₅.extBut (n0 1).1 (n0 1).2.2, news_ext1 (fun p hp => N5 p (by first | ((repeat (first | exact hp | refine .tail _ ?_)); done) | simp [hp])) hs₅.extBut (nn 1)⟩
      exact hback _ (hs₅.extBut _ _ (Nat.ne_of_lt (by omega)) g4I)
    · obtain rfl : i = n := by omega
      refine W.done _ _ _ hst fun h₂ tk₂ hk₂ => ?_
      have hk₂' : ∀ b o, b ≠ I → h'.get? b = some o → h₂.get? b = some o := fun b o hb e => hk₂ b o (by simpa using hb) e
      refine ⟨m', hC.at' fun o e => hk₂' _ o (Nat.ne_of_gt (by omega)) e, fun h'' hs'' => ?_⟩
      have F3 : Fr h₀ L h'' m := fr_ext1 (fr_ext1 F' hk₂' (n0 0).1 (n0 0).2.2) hs''.extBut (n0 2).1 (n0 2).2.2
      have N3 : News h₀ L h'' news := news_ext1 (news_ext1 N' hk₂' (nn 0)) hs''.extBut (nn 2)
      obtain ⟨oD, hoD, hdD⟩ := Heap.dictOf_iff.mp (hD.at fun o e => hs''.extBut _ o (Nat.ne_of_lt (by omega)) (hk₂' _ o (Nat.ne_of_gt (by omega)) e))
      refine fin (I + 1) oD ys h'' _ hR F3 (fun p hp => ?_) hdD (nn 1) (hI ▸ Nat.lt_succ_self _)
      rcases List.mem_cons.mp hp with rfl | hp
      · exact ⟨hoD, (n0 1).2⟩
      · exact N3 p hp
  exact codeAny_compStart_dict (loop _ rfl) (W.self 0 _ _ _ gI (loop _ rfl))
end
theorem news_fresh {h₀ h h' : Heap} {L X : Addr} {o : Obj} {m : Str → Option Value} {news : List (Addr × Obj)} (F : Fr h₀ L h m) (N : News h₀ L h' news) (hge : h.objs.size ≤ X) (e : h'.get? X = some o) : News h₀ L h' ((X, o) :: news) := by
  intro p hp
  rcases List.mem_cons.mp hp with rfl | hp
  · refine ⟨e, fun q => absurd F.ns.lt (Nat.not_lt.mpr (q ▸ hge)), ?_⟩
    cases z : h₀.get? X with
    | none => rfl
    | some o' => exact absurd (Heap.lt_size (F.keep _ _ z)) (Nat.not_lt.mpr hge)
  · exact N p hp
end Mine
end

/-! ## L4 -/
section
theorem Mine.offL4 : True := by w_top off; trivial
open PySem PySem.W PySem.Calls PyProof.Rows PyProof.V
set_option Elab.async false
set_option maxRecDepth 100000
namespace Mine
set_option maxHeartbeats 16000000
local macro_rules | `(tactic| walk_at "eval Name") => `(tactic| (k_here; k_dflt (refine' nameX_L ?k1 ?k2 ?_; (case k1 => k_asm); (case k2 => repeat (first | assumption | refine (if_neg (by decide)).trans ?_)); k_whole)))


/-- where a book is read -/
noncomputable def JSn (bs : List Int) (i : Int) (n : Nat) : List Int := ((List.range n).filter fun k => bs.getD k 0 == i).map fun (k : Nat) => (k : Int)
theorem JSn_succ (bs : List Int) (i : Int) (n : Nat) : JSn bs i (n + 1) = JSn bs i n ++ if bs.getD n 0 = i then [(n : Int)] else [] := by
  unfold JSn
  rw [List.range_succ, List.filter_append, List.map_append]
  congr 1
  by_cases h : bs.getD n 0 = i
  · rw [if_pos h, List.filter_cons, if_pos (by simp only [beq_iff_eq]; exact h)]; rfl
  · rw [if_neg h, List.filter_cons, if_neg (by simp only [beq_iff_eq]; exact h)]; rfl
noncomputable def JS (bs : List Int) (i : Int) : List Int := JSn bs i bs.length
noncomputable def IsLast (bs : List Int) (i : Int) (M : Int) : Prop := M ∈ JS bs i ∧ ∀ a ∈ JS bs i, a ≤ M
theorem seg4 {w : World} {mean : ExcName → Option Value} {mg mb : Str → Option Value} {A : Around} {E : Value → Shared → Prop} {Q : Flow → Shared → Prop} {s : Shared} {h₀ : Heap} {L : Nat} {fa rl bl : Addr} {cd : Value} {m : Str → Option Value} {c1 c2 c3 c4 c5 c6 : Obj} {rv bv : List Value} {bs : List Int} {rest : List (Addr × Obj)}
    (W : Wd w mean mg mb h₀) (hA : A.handled = none) (F : Fr h₀ L s.heap m) (N : News h₀ L s.heap ((L + 1 + 1 + 1 + 1 + 1 + 1, c6) :: (L + 1 + 1 + 1 + 1 + 1, c5) :: (L + 1 + 1 + 1 + 1, c4) :: (L + 1 + 1 + 1, c3) :: (L + 1 + 1, c2) :: (L + 1, c1) :: (bl, LCg.lst bv) :: (rl, PySem.W.listOf (List.toArray rv) 0) :: rest)) (hoff : Off L ((bl, LCg.lst bv) :: (rl, PySem.W.listOf (List.toArray rv) 0) :: rest))
    (e3 : c3.data = .cell (some (.ref rl))) (e5 : c5.data = .cell (some (.ref bl)))
    (hrv : rv.length = 8) (hI : IntsAre bv bs) (hlen : bs.length = 8) (hfirst : ∀ i : Nat, i < 3 → bs.getD i 0 = (i : Int))
    (next : ∀ h' tk D vs ls c ms, Fr h₀ L h' (fun y => if y = Str.ofString "lasts" then some (.ref D) else m y) → News h₀ L h' ((L + 1 + 1 + 1 + 1 + 1 + 1, c6) :: (L + 1 + 1 + 1 + 1 + 1, c5) :: (L + 1 + 1 + 1 + 1, c4) :: (L + 1 + 1 + 1, c3) :: (L + 1 + 1, c2) :: (L + 1, c1) :: (D, PySem.W.listOf (List.toArray vs) c) :: (bl, LCg.lst bv) :: (rl, PySem.W.listOf (List.toArray rv) 0) :: rest) → IntsAre vs ls → ls.Perm ms → ls.Pairwise (· ≤ ·) → ms.length = 3 → (∀ j : Nat, j < 3 → IsLast bs (j : Int) (ms.getD j 0)) →
      wpAny (model PR w) A (execs (LB.drop 10) (envOfC (Str.ofString "law") LS L fa cd)) Q E { s with heap := h', toks := tk }) :
    wpAny (model PR w) A (execs (LB.drop 9) (envOfC (Str.ofString "law") LS L fa cd)) Q E s := by
  obtain ⟨K, T⟩ := id W
  rw [cut 9 (by decide)]
  generalize List.drop (9 + 1) LB = stmts at *
  conv in (execs (_ :: _) _) => arg 1; arg 1; whnf
  conv in (envOfC _ _ _ _ _) => arg 2; whnf
  iterate 6 walk1
  refine' ListComp_X (cl := ?cl) (n := 3) (R := fun i ys => ∃ ms : List Int, IntsAre ys ms ∧ ms.length = i ∧ ∀ j, j < i → IsLast bs (j : Int) (ms.getD j 0)) F ?h1 ?h2 ?h3 ?h4 ?h5 ?h6 ?h7 ?_
  case h1 => with_unfolding_all rfl
  case h2 => exact fun _ _ => rfl
  case h3 => exact fun _ => rfl
  case h4 => rfl
  case h5 => decide
  case h6 => rfl
  case h7 => intro _; rfl
  iterate 7 walk1
  rename Fr _ _ _ _ => F1
  rename News _ _ _ _ => N1
  refine ⟨_, _, _, _, _, rfl, hA, by assumption, by decide, ⟨[], .nil, rfl, fun j h => absurd h (Nat.not_lt_zero j)⟩, F1, N1, ?turn, ?fin⟩
  case turn =>
    rintro i I C X D oI oC oX t ys h3 tk3 E' hi ⟨ms, hms, hml, hmj⟩ dX F3 N3
    clear F1 N1
    iterate 4 walk1
    refine' LCt.ListComp_T (cl := ?cl2) F3 ?j1 ?j2 ?j3 ?j4 ?j5 ?_ ?j6
    case j1 => with_unfolding_all rfl
    case j2 => decide
    case j3 => rfl
    case j4 => decide
    case j5 => rfl
    case j6 => intro _; rfl
    iterate 10 walk1
    refine PyProof.Rows.len_list (items := rv.toArray) ⟨_, N3.get (a := rl) (o := PySem.W.listOf (List.toArray rv) 0) (by first | ((repeat (first | exact .head _ | refine .tail _ ?_)); done) | simp), rfl, _, rfl⟩ (by rw [List.size_toArray, hrv]; decide) ?_
    rw [List.size_toArray, hrv]
    iterate 2 walk1
    rename Fr _ _ _ _ => F4
    rename News _ _ _ ((I, oI) :: _) => N4
    rename IsRange _ _ _ _ _ _ _ _ => hr4
    refine LCt.CompSrcT.range (n := 8) hA F4 N4 hr4 (small_one (by decide) (by decide) (by decide) (by decide)) (by rw [rangeSize_one]; rfl) (by decide) ?_
    intro g
    refine restT_ind (fun k j ys2 => k + j = 8 ∧ IntsAre ys2 (JSn bs i j)) ?_ ?_ _ _ _ ⟨rfl, .nil⟩
    · rintro j ys2 ⟨hj, hy2⟩ D2 h5 tk5 F5 N5 off5
      obtain rfl : j = 8 := by omega
      iterate 1 walk1
      have hJ : JSn bs i 8 = JS bs i := by unfold JS; rw [hlen]
      rw [hJ] at hy2
      have hmem : (i : Int) ∈ JS bs i := by
        unfold JS JSn
        refine List.mem_map.mpr ⟨i, List.mem_filter.mpr ⟨List.mem_range.mpr (by omega), ?_⟩, rfl⟩
        rw [beq_iff_eq]; exact hfirst i hi
      refine kso_max F5 N5 ⟨_, N5.get (a := D2) (o := LCg.lst ys2) (by first | ((repeat (first | exact .head _ | refine .tail _ ?_)); done) | simp), rfl, _, rfl⟩ hy2 (List.length_pos_of_mem hmem) hA ?_
      intro h6 M tM tk6 F6 N6 hM1 hM2
      refine ⟨_, _, rfl, F6, fun p hp => N6 p (List.mem_cons_of_mem _ hp), ms ++ [M], intsAre_append hms (.cons _ _ .nil), by rw [List.length_append, hml]; rfl, fun j hj => ?_⟩
      by_cases hji : j < i
      · rw [List.getD_eq_getElem?_getD, List.getElem?_append_left (by omega), ← List.getD_eq_getElem?_getD]; exact hmj j hji
      · have : j = i := by omega
        subst this
        rw [List.getD_eq_getElem?_getD, List.getElem?_append_right (by omega), hml, Nat.sub_self]
        exact ⟨hM1, hM2⟩
    · rintro k j ys2 ⟨hj, hy2⟩ v I2 oI2 C2 oC2 D2 m₂ h5 tk5 E' hP hC hm2 F5 N5 hoff5 hne
      obtain ⟨tj, rfl⟩ := hP
      have hj8 : j < bs.length := by omega
      refine wpAny_isTrue_Compare1 ?_
      iterate 8 walk1
      · rename (List.getD bs (Int.toNat (0 + _)) 0 = _) => hc
        rw [show Int.toNat (0 + (j : Int)) = j by omega] at hc
        walk1
        refine LCg.CompEnd.intro F5 N5 _ (fun p hp => hp) hoff5 trivial ⟨rfl, by omega, ?_⟩
        rw [JSn_succ, if_pos hc]
        refine intsAre_append hy2 ?_
        rw [show (0 + (j : Int)) = (j : Int) by omega]
        exact .cons _ _ .nil
      · rename (List.getD bs (Int.toNat (0 + _)) 0 ≠ _) => hc
        rw [show Int.toNat (0 + (j : Int)) = j by omega] at hc
        refine LCg.CompEnd.intro F5 N5 _ (fun p hp => hp) hoff5 trivial ⟨rfl, by omega, ?_⟩
        rw [JSn_succ, if_neg hc, List.append_nil]
        exact hy2
  case fin =>
    rintro D ys h5 tk5 ⟨ms, hms, hml, hmj⟩ F5 N5 hD
    walk1
    refine kso_sorted F5 N5 ⟨_, N5.get (a := D) (o := LCg.lst ys) (by first | ((repeat (first | exact .head _ | refine .tail _ ?_)); done) | simp), rfl, _, rfl⟩ hms (by omega) ?_
    intro D6 vs6 ls c6' h6 F6 N6 lt6 I6 _ p6 o6 _
    walk1
    rename Fr _ _ _ _ => F7
    rename News _ _ _ _ => N7
    refine next _ _ D6 vs6 ls c6' ms F7 (fun p hp => N7 p ?_) I6 p6 o6 hml hmj
    simp only [List.mem_cons] at hp ⊢
    rcases hp with h | h | h | h | h | h | h | h | h | h <;> repeat (first | exact h | exact .inl h | (refine .inl ?_; (repeat (first | exact h | exact .inl h | refine .inr ?_)); done) | refine .inr ?_)
end Mine
end

/-! ## L5 -/
section
theorem Mine.offL5 : True := by w_top off; trivial
open PySem PySem.W PySem.Calls PyProof.Rows PyProof.V
set_option Elab.async false
set_option maxRecDepth 100000
namespace Mine
set_option maxHeartbeats 16000000
local macro_rules | `(tactic| walk_at "eval Name") => `(tactic| (k_here; k_dflt (refine' nameX_L ?k1 ?k2 ?_; (case k1 => k_asm); (case k2 => repeat (first | assumption | refine (if_neg (by decide)).trans ?_)); k_whole)))



theorem item_ABC {j : Nat} (h : j < 3) : Txt.item (Str.ofString "ABC") (j : Int) = bkU j := by
  rcases j with _ | _ | _ | j
  · decide +kernel
  · decide +kernel
  · decide +kernel
  · omega
noncomputable def tps (L : List (Str × Str)) : List PyData := L.map fun p => .tuple [.str p.1, .str p.2]
theorem reads_tups {h : Heap} {items : List Value} {L : List (Str × Str)} (T : Tups h items L) : ∃ as, ReadsAll h items (tps L) as := by
  induction T with
  | nil => exact ⟨_, ReadsAll.nil⟩
  | cons hq _ ih =>
    obtain ⟨as, r⟩ := ih
    obtain ⟨o, ho, hc, n, hd⟩ := hq
    exact ⟨_, ReadsAll.cons (reads_tuple_at ho hc hd (.cons (Reads.str _ _) (.cons (Reads.str _ _) .nil))) r⟩
theorem nm_ok (k i : Nat) (h : i < 3) : PyData.strOk (nmOf k i) = true := by
  unfold nmOf
  rcases i with _ | _ | _ | i
  · split <;> decide +kernel
  · split <;> decide +kernel
  · split <;> decide +kernel
  · omega
theorem dec_ok {k : Nat} (h : k < 8) : PyData.strOk (dec k) = true := by
  rcases k with _ | _ | _ | _ | _ | _ | _ | _ | k
  · decide +kernel
  · decide +kernel
  · decide +kernel
  · decide +kernel
  · decide +kernel
  · decide +kernel
  · decide +kernel
  · decide +kernel
  · omega
theorem shaped_tps {L : List (Str × Str)} (h : ∀ p ∈ L, PyData.strOk p.1 = true ∧ PyData.strOk p.2 = true) : SeqAt.shaped (.list (tps L)) = true ∧ (PyData.list (tps L)).canLay0 = true := by
  have a : PyData.canLayAll0 (tps L) = true ∧ PyData.depthAll (tps L) ≤ 1 := by
    induction L with
    | nil => exact ⟨rfl, by decide⟩
    | cons p r ih =>
      have h1 := ih fun q hq => h q (List.mem_cons_of_mem _ hq)
      have h2 := h p (List.mem_cons_self ..)
      unfold tps at h1 ⊢
      simp [PyData.canLayAll0, PyData.canLay0, PyData.depthAll, PyData.depth, h1, h2]
  have b : (PyData.list (tps L)).canLay0 = true := by simp [PyData.canLay0, a.1]
  refine ⟨?_, b⟩
  unfold SeqAt.shaped
  rw [b, Bool.true_and]
  refine decide_eq_true (Nat.le_trans (m := 2) ?_ (by decide))
  have := a.2
  simp only [PyData.depth]; omega
theorem close5 {h₀ h' : Heap} {L I C D ll : Addr} {m : Str → Option Value} {s₁ : Shared} {oI oC oD : Obj} {its : Array Value} {p q r b : Addr × Obj} {o2 base : List (Addr × Obj)} {tk : Nat} {R : Value → List (Addr × Obj) → Prop} {P : Prop}
    (F : Fr h₀ L h' m) (N : News h₀ L h' (p :: q :: (I, oI) :: (C, oC) :: (D, oD) :: r :: b :: (o2 ++ base))) (l1 : I < p.1 ∧ C < p.1 ∧ D < p.1) (hoff : LCg.Off3 I C D (o2 ++ base)) (hS : LCg.SrcAt h₀ ll its (o2 ++ base)) (hr : P ∧ R (.ref p.1) (p :: o2)) :
    LCg.CompEnd h₀ L m s₁ I oI C oC D oD (LCg.SrcAt h₀ ll its) (fun y nw => P ∧ ∃ o2, nw = o2 ++ base ∧ R y o2) (.ref p.1) { s₁ with heap := h', toks := tk } := by
  refine LCg.CompEnd.intro F N (p :: (o2 ++ base)) ?_ ⟨⟨Nat.ne_of_gt l1.1, Nat.ne_of_gt l1.2.1, Nat.ne_of_gt l1.2.2⟩, hoff⟩ ?_ ⟨hr.1, p :: o2, rfl, hr.2⟩
  · intro p hp
    simp only [List.mem_cons] at hp ⊢
    rcases hp with h | h | h | h | h
    · exact .inr (.inr (.inl h))
    · exact .inr (.inr (.inr (.inl h)))
    · exact .inr (.inr (.inr (.inr (.inl h))))
    · exact .inl h
    · exact .inr (.inr (.inr (.inr (.inr (.inr (.inr h))))))
  · rcases hS with h | ⟨o, hm, h⟩
    · exact .inl h
    · exact .inr ⟨o, List.mem_cons_of_mem _ hm, h⟩
theorem seg5 {w : World} {mean : ExcName → Option Value} {mg mb : Str → Option Value} {A : Around} {E : Value → Shared → Prop} {Q : Flow → Shared → Prop} {s : Shared} {h₀ : Heap} {L : Nat} {fa rl bl ll il d : Addr} {cd : Value} {m : Str → Option Value} {c1 c2 c3 c4 c5 c6 od : Obj} {rv bv lv items : List Value} {bs : List Int} {ks : List Nat} {cl k : Nat} {objs : List (Addr × Obj)} {SL : List (Str × Str)} {bN : Nat → Nat}
    (W : Wd w mean mg mb h₀) (hA : A.handled = none) (hu : A.units + 64 < cLine) (F : Fr h₀ L s.heap m) (N : News h₀ L s.heap ((L + 1 + 1 + 1 + 1 + 1 + 1, c6) :: (L + 1 + 1 + 1 + 1 + 1, c5) :: (L + 1 + 1 + 1 + 1, c4) :: (L + 1 + 1 + 1, c3) :: (L + 1 + 1, c2) :: (L + 1, c1) :: (ll, PySem.W.listOf (List.toArray lv) cl) :: (bl, LCg.lst bv) :: (rl, PySem.W.listOf (List.toArray rv) 0) :: (il, PySem.W.listOf items.toArray k) :: (d, od) :: objs))
    (e5 : c5.data = .cell (some (.ref bl))) (mi : m (Str.ofString "items") = some (.ref il)) (ml : m (Str.ofString "lasts") = some (.ref ll))
    (hI : IntsAre bv bs) (hlen : bs.length = 8) (hb : ∀ k, k < 8 → bs.getD k 0 = (bN k : Int) ∧ bN k < 3)
    (hlv : IntsAre lv (ks.map fun (k : Nat) => (k : Int))) (hks : ∀ k ∈ ks, k < 8) (hkl : ks.length ≤ 8) (hTL : TL objs items SL) (hEq : SL = ks.map fun k => (nmOf k (bN k), dec k))
    (next : ∀ h' tk, Fr h₀ L h' m → News h₀ L h' ((L + 1 + 1 + 1 + 1 + 1 + 1, c6) :: (L + 1 + 1 + 1 + 1 + 1, c5) :: (L + 1 + 1 + 1 + 1, c4) :: (L + 1 + 1 + 1, c3) :: (L + 1 + 1, c2) :: (L + 1, c1) :: (bl, LCg.lst bv) :: (rl, PySem.W.listOf (List.toArray rv) 0) :: (il, PySem.W.listOf items.toArray k) :: (d, od) :: objs) →
      wpAny (model PR w) A (execs (LB.drop 11) (envOfC (Str.ofString "law") LS L fa cd)) Q E { s with heap := h', toks := tk }) :
    wpAny (model PR w) A (execs (LB.drop 10) (envOfC (Str.ofString "law") LS L fa cd)) Q E s := by
  obtain ⟨K, T⟩ := id W
  rw [cut 10 (by decide)]
  generalize List.drop (10 + 1) LB = stmts at *
  conv in (execs (_ :: _) _) => arg 1; arg 1; whnf
  conv in (envOfC _ _ _ _ _) => arg 2; whnf
  iterate 4 walk1
  refine' LCg.ListComp_U (cl := ?cl) F ?h1 ?h2 ?h3 ?h4 ?h5 ?_ ?h6
  case h1 => with_unfolding_all rfl
  case h2 => decide
  case h3 => rfl
  case h4 => decide
  case h5 => rfl
  case h6 => intro _; rfl
  walk1
  have hvl : lv.length = ks.length := by rw [hlv.length, List.length_map]
  refine LCg.CompSrc.ledger hA F N (k := cl) (its := lv.toArray) (by first | ((repeat (first | exact .head _ | refine .tail _ ?_)); done) | simp) (Nat.le_trans (by rw [List.size_toArray, hvl]; exact hkl) (by decide)) ?_
  intro g5
  generalize hbase : ((L + 1 + 1 + 1 + 1 + 1 + 1, c6) :: (L + 1 + 1 + 1 + 1 + 1, c5) :: (L + 1 + 1 + 1 + 1, c4) :: (L + 1 + 1 + 1, c3) :: (L + 1 + 1, c2) :: (L + 1, c1) :: (ll, PySem.W.listOf (List.toArray lv) cl) :: (bl, LCg.lst bv) :: (rl, PySem.W.listOf (List.toArray rv) 0) :: (il, PySem.W.listOf items.toArray k) :: (d, od) :: objs) = base at *
  refine rest_indN (fun k' i ys nw => k' + i = ks.length ∧ ∃ o2, nw = o2 ++ base ∧ TL o2 ys ((ks.map fun k => (nmOf k (bN k), dec k)).take i)) ?_ ?_ _ _ _ _ ⟨by rw [List.size_toArray, hvl]; omega, [], rfl, TL.nil⟩
  · rintro i ys nw ⟨hi, o2, rfl, hT2⟩ D2 h5 tk5 F5 N5 off5
    have : i = ks.length := by omega
    subst this
    rw [List.take_of_length_le (by rw [List.length_map]; exact Nat.le_refl _)] at hT2
    have hTi := hTL.tups (h := h5) fun p hp => (N5 p (by subst hbase; simp [hp])).1
    have hTy := hT2.tups (h := h5) fun p hp => (N5 p (by first | ((repeat (first | exact hp | refine .tail _ ?_)); done) | simp [hp])).1
    obtain ⟨as1, ra⟩ := reads_tups hTi
    obtain ⟨as2, rb⟩ := reads_tups hTy
    have gi := N5.get (a := il) (o := PySem.W.listOf items.toArray k) (by subst hbase; simp)
    have gD := N5.get (a := D2) (o := LCg.lst ys) (by first | ((repeat (first | exact .head _ | refine .tail _ ?_)); done) | simp)
    have hok : ∀ p ∈ ks.map (fun k => (nmOf k (bN k), dec k)), PyData.strOk p.1 = true ∧ PyData.strOk p.2 = true := by
      intro p hp
      obtain ⟨k, hk, rfl⟩ := List.mem_map.mp hp
      exact ⟨nm_ok k _ (hb k (hks k hk)).2, dec_ok (hks k hk)⟩
    have hsh := shaped_tps hok
    refine ne_dataH (reads_list_at gi rfl rfl (by simpa [PySem.W.listOf] using ra)) (reads_list_at gD rfl rfl (by simpa using rb)) (by rw [hEq]; exact hsh.1) hsh.1 hu ?_
    rw [hEq, SeqAt.eqv_refl _ hsh.2]
    iterate 3 walk1
    refine next _ _ F5 fun p hp => N5 p ?_
    subst hbase
    simp only [List.mem_cons, List.mem_append] at hp ⊢
    rcases hp with h | h | h | h | h | h | h | h | h | h | h <;> repeat (first | exact h | exact .inl h | (refine .inl ?_; (repeat (first | exact h | exact .inl h | refine .inr ?_)); done) | refine .inr ?_)
  · rintro k' i ys nw ⟨hi, o2, rfl, hT2⟩ v I oI C oC D m₂ h5 tk5 E' hP hC hm2 F5 N5 hoff5 hne
    have hiL : i < ks.length := by omega
    have hki : ks[i]? = some ks[i] := List.getElem?_eq_getElem hiL
    obtain ⟨t, rfl⟩ : ∃ t, v = .int (ks[i] : Nat) t := by
      obtain ⟨n, t, rfl, e⟩ := hlv.at i v (by simpa using hP)
      rw [List.getElem?_map, hki] at e
      exact ⟨t, by rw [← Option.some.inj e]⟩
    have hk8 := hks _ (List.mem_of_getElem? hki)
    generalize hkk : ks[i] = kk at *
    obtain ⟨hb1, hb2⟩ := hb kk hk8
    have N6 : News h₀ L h5 ((I, oI) :: (C, oC) :: (D, LCg.lst ys) :: (L + 1 + 1 + 1 + 1 + 1, c5) :: (bl, LCg.lst bv) :: (o2 ++ base)) := fun p hp => N5 p (by
      subst hbase
      simp only [List.mem_cons, List.mem_append] at hp ⊢
      rcases hp with h | h | h | h | h | h | h
      · repeat (first | exact h | exact .inl h | (refine .inl ?_; (repeat (first | exact h | exact .inl h | refine .inr ?_)); done) | refine .inr ?_)
      · repeat (first | exact h | exact .inl h | (refine .inl ?_; (repeat (first | exact h | exact .inl h | refine .inr ?_)); done) | refine .inr ?_)
      · repeat (first | exact h | exact .inl h | (refine .inl ?_; (repeat (first | exact h | exact .inl h | refine .inr ?_)); done) | refine .inr ?_)
      · repeat (first | exact h | exact .inl h | (refine .inl ?_; (repeat (first | exact h | exact .inl h | refine .inr ?_)); done) | refine .inr ?_)
      · repeat (first | exact h | exact .inl h | (refine .inl ?_; (repeat (first | exact h | exact .inl h | refine .inr ?_)); done) | refine .inr ?_)
      · repeat (first | exact h | exact .inl h | (refine .inl ?_; (repeat (first | exact h | exact .inl h | refine .inr ?_)); done) | refine .inr ?_)
      · rcases h with h | h | h | h | h | h | h | h | h | h | h | h <;> repeat (first | exact h | exact .inl h | (refine .inl ?_; (repeat (first | exact h | exact .inl h | refine .inr ?_)); done) | refine .inr ?_))
    clear N5
    have hllm : (ll, PySem.W.listOf (List.toArray lv) cl) ∈ base := by subst hbase; simp
    iterate 16 walk1
    have hmod : Int.fmod (kk : Int) 2 = ((kk % 2 : Nat) : Int) := by rw [Int.fmod_eq_emod_of_nonneg _ (by decide)]; omega
    rw [hmod]
    rcases Nat.mod_two_eq_zero_or_one kk with hpar | hpar
    · rw [hpar]
      show wpAny _ _ (subscriptTail _ _ (Value.ref _) (Value.int 0 _)) _ _ _
      iterate 6 walk1
      rw [Int.toNat_natCast, hb1]
      walk1
      rw [item_abc hb2]
      iterate 10 walk1
      rename Fr _ _ _ _ => F7
      rename News _ _ _ _ => N7
      rename (_ < _ ∧ I < _ ∧ C < _ ∧ D < _ ∧ _) => l1
      refine close5 F7 N7 ⟨l1.2.1, l1.2.2.1, l1.2.2.2.1⟩ hoff5 (.inr ⟨_, List.mem_append_right _ hllm, rfl, _, rfl⟩) ⟨by omega, ?_⟩
      rw [List.take_add_one, List.getElem?_map, hki, Option.map_some]
      have e : nmOf kk (bN kk) = bk (bN kk) := by unfold nmOf; rw [if_pos hpar]
      rw [e]
      exact TL.snoc hT2 rfl rfl
    · rw [hpar]
      show wpAny _ _ (subscriptTail _ _ (Value.ref _) (Value.int 1 _)) _ _ _
      iterate 6 walk1
      rw [Int.toNat_natCast, hb1]
      walk1
      rw [item_ABC hb2]
      iterate 10 walk1
      rename Fr _ _ _ _ => F7
      rename News _ _ _ _ => N7
      rename (_ < _ ∧ I < _ ∧ C < _ ∧ D < _ ∧ _) => l1
      refine close5 F7 N7 ⟨l1.2.1, l1.2.2.1, l1.2.2.2.1⟩ hoff5 (.inr ⟨_, List.mem_append_right _ hllm, rfl, _, rfl⟩) ⟨by omega, ?_⟩
      rw [List.take_add_one, List.getElem?_map, hki, Option.map_some]
      have e : nmOf kk (bN kk) = bkU (bN kk) := by unfold nmOf; rw [if_neg (by omega)]
      rw [e]
      exact TL.snoc hT2 rfl rfl
end Mine
end

/-! ## Tc -/
section
theorem Mine.offTc : True := by w_top off; trivial
open PySem PySem.W PySem.Calls PyProof.Rows PyProof.V
set_option Elab.async false
set_option maxRecDepth 100000
namespace Mine
inductive StrsAre : List Value → List Str → Prop
  | nil : StrsAre [] []
  | cons (a : Str) (t : Tok) {vs : List Value} {ws : List Str} : StrsAre vs ws → StrsAre (.str a t :: vs) (a :: ws)
theorem StrsAre.append {vs vs' : List Value} {ws ws' : List Str} (x : StrsAre vs ws) (y : StrsAre vs' ws') : StrsAre (vs ++ vs') (ws ++ ws') := by
  induction x with
  | nil => exact y
  | cons a t _ ih => exact .cons a t ih
theorem StrsAre.length {vs : List Value} {ws : List Str} (x : StrsAre vs ws) : vs.length = ws.length := by
  induction x with
  | nil => rfl
  | cons a t _ ih => simp [ih]
noncomputable def flat (f : Nat → List Str) : Nat → List Str
  | 0 => []
  | n + 1 => flat f n ++ f n
/-- the heap but for two things -/
noncomputable def But2 (C D : Addr) (h h' : Heap) : Prop := ∀ b o, b ≠ C → b ≠ D → h.get? b = some o → h'.get? b = some o
section
variable {prog : Program} {w : World} {A : Around} {E : Value → Shared → Prop} {env : Env}
/-- a level of a comprehension of many clauses over a text of plain letters -/
theorem comp_level {B : Nat} {s₀ : Shared} {elt : Expr} {gens : List Comprehension} {scope : Scope} {pos p px : Pos} {d : Nat} {x T : Str} {tT : Tok} {I C D : Addr} {body : Sem Fin} {R : Result → Shared → Prop} {f : Nat → List Str} {hout : (Str → Option Value) → Prop}
    (heq : compTurn (.ListComp elt gens scope pos) d (.ref I) (.ref D) env = (standAt p >>= fun _ => pyNext (.ref I) >>= fun r => match r with
      | none => pure (.done .next)
      | some v => letOwnedTupleGo (.Name x px) (.ref I) v >>= fun _ => assign (.Name x px) env v >>= fun _ => body))
    (hA : A.handled = none) (hC : env.locals = C) (hx : env.kindOf x = some .local) (hp : (env.scope.kind == .class || (env.scope.kind == .module && env.locals != env.globals)) = false)
    (hIC : I ≠ C) (hID : I ≠ D) (hCD : C ≠ D)
    (hst : ∀ mm v, hout mm → hout (fun z => if z = x then some v else mm z))
    (hbody : ∀ i c t h tk mm ys ws E', T.cps[i]? = some c → h.Ns C mm → mm x = some (.str ⟨#[c]⟩ t) → hout mm → h.get? D = some (LCg.lst ys) → StrsAre ys ws → ws.length ≤ B → (∃ o, h.get? I = some o) →
      wpAny (model prog w) A body (fun fin s' => fin = .again (.compLoop (.ListComp elt gens scope pos) d (.ref I) (.ref D) env) ∧ ∃ h' tk' mm' ys', s' = { s₀ with heap := h', toks := tk' } ∧ But2 C D h h' ∧ h'.Ns C mm' ∧ hout mm' ∧ h'.get? D = some (LCg.lst ys') ∧ StrsAre ys' (ws ++ f i)) E' { s₀ with heap := h, toks := tk })
    {h : Heap} {tk : Nat} {mm : Str → Option Value} {ys : List Value} {ws : List Str} (hit : h.IsStrIter I "str_ascii_iterator" T tT 0) (hns : h.Ns C mm) (ho : hout mm) (hD : h.get? D = some (LCg.lst ys)) (hy : StrsAre ys ws) (hlen : ∀ i, i ≤ T.cps.size → (ws ++ flat f i).length ≤ B)
    (hR : ∀ h' tk' mm' ys', (∀ b o, b ≠ I → b ≠ C → b ≠ D → h.get? b = some o → h'.get? b = some o) → h'.Ns C mm' → hout mm' → h'.get? D = some (LCg.lst ys') → StrsAre ys' (ws ++ flat f T.cps.size) → R (.ok .next) { s₀ with heap := h', toks := tk' }) :
    codeAny (model prog w) A (.compLoop (.ListComp elt gens scope pos) d (.ref I) (.ref D) env) R { s₀ with heap := h, toks := tk } := by
  have W := Walks.strAscii (prog := prog) (w := w) hA I T tT
  refine codeAny_loop rfl (fun k s' => ∃ h' tk' i mm' ys', s' = { s₀ with heap := h', toks := tk' } ∧ i ≤ T.cps.size ∧ k = T.cps.size - i ∧ h'.IsStrIter I "str_ascii_iterator" T tT i ∧ (∀ b o, b ≠ I → b ≠ C → b ≠ D → h.get? b = some o → h'.get? b = some o) ∧
    h'.Ns C mm' ∧ hout mm' ∧ h'.get? D = some (LCg.lst ys') ∧ StrsAre ys' (ws ++ flat f i)) (fun k s' hI => ?_) (T.cps.size - 0) ⟨h, tk, 0, mm, ys, rfl, Nat.zero_le _, rfl, hit, fun _ _ _ _ _ e => e, hns, ho, hD, by simpa [flat] using hy⟩
  obtain ⟨h', tk', i, mm', ys', rfl, hi, rfl, hit', hk', hns', ho', hD', hy'⟩ := hI
  show wpAny _ A ((compTurn (.ListComp elt gens scope pos) d (.ref I) (.ref D) env).onRaise (fun x => do noteFrame x env; theTreesLotGoes x)) _ _ _
  refine wpAny_noted ?_
  rw [heq]
  refine wpAny_bind (wpAny_standAt (wpAny_bind ?_))
  by_cases hlt : i < T.cps.size
  · refine W.item i _ _ _ hlt hit' fun v h₂ tk₂ hPv hst₂ hk₂ => ?_
    obtain ⟨c, u, hc, rfl⟩ := hPv
    have hk₂' : ∀ b o, b ≠ I → h'.get? b = some o → h₂.get? b = some o := fun b o hb e => hk₂ b o (by simpa using hb) e
    dsimp only
    refine wpAny_bind (wpAny_of_eq (show letOwnedTupleGo (.Name x px) (.ref I) (.str ⟨#[c]⟩ u) = pure () from rfl) ?_)
    subst hC
    refine wpAny_bind (wpAny_assign_Name (wpAny_storeName_local hx (hns'.at' fun o e => hk₂' _ o (Ne.symm hIC) e) (fun h₃ hn₃ hs₃ => ?_) hp))
    have up : ∀ b o, b ≠ I → b ≠ env.locals → h'.get? b = some o → h₃.get? b = some o := fun b o h1 h2 e => hs₃.extBut b o h2 (hk₂' b o h1 e)
    have hit₃ : h₃.IsStrIter I "str_ascii_iterator" T tT (i + 1) := W.frame _ _ _ hst₂ fun b hb o e => hs₃.extBut b o (by rw [List.mem_singleton.mp hb]; exact hIC) e
    refine wpAny_mono (hbody i c u h₃ _ _ ys' (ws ++ flat f i) _ hc hn₃ (if_pos rfl) (hst _ _ ho') (up _ _ (Ne.symm hID) (Ne.symm hCD) hD') hy' (hlen i hi) (by obtain ⟨o, e, _⟩ := hit₃; exact ⟨o, e⟩)) (fun fin s4 h4 => ?_) fun _ _ e => e
    obtain ⟨rfl, h4, tk4, mm4, ys4, rfl, hk4, hn4, ho4, hD4, hy4⟩ := h4
    refine ⟨rfl, T.cps.size - (i + 1), by omega, h4, _, i + 1, mm4, ys4, rfl, hlt, rfl, ?_, fun b o h1 h2 h3 e => hk4 b o h2 h3 (up b o h1 h2 (hk' b o h1 h2 h3 e)), hn4, ho4, hD4, by rw [flat, ← List.append_assoc]; exact hy4⟩
    exact W.frame _ _ _ hit₃ fun b hb o e => hk4 b o (by rw [List.mem_singleton.mp hb]; exact hIC) (by rw [List.mem_singleton.mp hb]; exact hID) e
  · obtain rfl : i = T.cps.size := by omega
    refine W.done _ _ _ hit' fun h₂ tk₂ hk₂ => ?_
    have hk₂' : ∀ b o, b ≠ I → h'.get? b = some o → h₂.get? b = some o := fun b o hb e => hk₂ b o (by simpa using hb) e
    dsimp only
    exact wpAny_pure (hR h₂ tk₂ mm' ys' (fun b o h1 h2 h3 e => hk₂' b o h1 (hk' b o h1 h2 h3 e)) (hns'.at' fun o e => hk₂' _ o (Ne.symm hIC) e) ho' (hk₂' _ _ (Ne.symm hID) hD') hy')
end
end Mine
namespace Mine
section
variable {prog : Program} {w : World} {A : Around} {E : Value → Shared → Prop} {env : Env}
theorem compStart_at {elt : Expr} {gens : List Comprehension} {scope : Scope} {pos : Pos} {d : Nat} {it acc : Value} {g : Comprehension} {R : Result → Shared → Prop} {s : Shared} (hg : gens[d]? = some g) (ha : (g.is_async != 0) = false)
    (h0 : codeAny (model prog w) A (.compLoop (.ListComp elt gens scope pos) d it acc env) R s)
    (h : wpAny (model prog w) A (pyIter it) (fun it' s' => codeAny (model prog w) A (.compLoop (.ListComp elt gens scope pos) d it' acc env) R s') (notedBy (model prog w) A env fun x s' => R (.error x) s') s) :
    codeAny (model prog w) A (.compStart (.ListComp elt gens scope pos) d it acc env) R s := by
  refine codeAny_of_tree ?_
  show wpAny _ _ ((compStart (.ListComp elt gens scope pos) d it acc env).onRaise (fun x => do noteFrame x env; standAt theWindowsPlace)) _ _ s
  refine wpAny_notedAt ?_
  unfold compStart
  simp only [clausesOf, hg, Option.elim, ha, Bool.false_eq_true, if_false]
  refine wpAny_bind (wpAny_askSetting (wpAny_ite ?_))
  split
  · first
      | exact wpAny_bind (wpAny_pure (wpAny_pure (And.intro rfl h0)))
      | exact wpAny_pure (And.intro rfl h0)
  · exact wpAny_bind (wpAny_rule (wpAny_bind (wpAny_standAt (wpAny_bind (wpAny_mono h (fun it' s' h' => wpAny_pure (And.intro rfl h')) fun _ _ x => x)))))
theorem turn_0 (elt : Expr) (t0 i0 t1 i1 t2 i2 : Expr) (f2 : List Expr) (scope : Scope) (pos : Pos) (it acc : Value) (env : Env) :
    compTurn (.ListComp elt [⟨t0, i0, [], 0⟩, ⟨t1, i1, [], 0⟩, ⟨t2, i2, f2, 0⟩] scope pos) 0 it acc env = (standAt i0.pos >>= fun _ => pyNext it >>= fun r => match r with
      | none => pure (.done .next)
      | some v => letOwnedTupleGo t0 it v >>= fun _ => assign t0 env v >>= fun _ => (eval i1 env >>= fun x => standAt i1.pos >>= fun _ => foldedSetIterable i1 env x >>= fun x => holding [x] (pyIter x) >>= fun it1 =>
          runOwn (.compStart (.ListComp elt [⟨t0, i0, [], 0⟩, ⟨t1, i1, [], 0⟩, ⟨t2, i2, f2, 0⟩] scope pos) 1 it1 acc env) env >>= fun _ =>
          again (.compLoop (.ListComp elt [⟨t0, i0, [], 0⟩, ⟨t1, i1, [], 0⟩, ⟨t2, i2, f2, 0⟩] scope pos) 0 it acc env))) := by rfl
theorem turn_1 (elt : Expr) (t0 i0 t1 i1 t2 i2 : Expr) (f2 : List Expr) (scope : Scope) (pos : Pos) (it acc : Value) (env : Env) :
    compTurn (.ListComp elt [⟨t0, i0, [], 0⟩, ⟨t1, i1, [], 0⟩, ⟨t2, i2, f2, 0⟩] scope pos) 1 it acc env = (standAt i1.pos >>= fun _ => pyNext it >>= fun r => match r with
      | none => pure (.done .next)
      | some v => letOwnedTupleGo t1 it v >>= fun _ => assign t1 env v >>= fun _ => (eval i2 env >>= fun x => standAt i2.pos >>= fun _ => foldedSetIterable i2 env x >>= fun x => holding [x] (pyIter x) >>= fun it1 =>
          runOwn (.compStart (.ListComp elt [⟨t0, i0, [], 0⟩, ⟨t1, i1, [], 0⟩, ⟨t2, i2, f2, 0⟩] scope pos) 2 it1 acc env) env >>= fun _ =>
          again (.compLoop (.ListComp elt [⟨t0, i0, [], 0⟩, ⟨t1, i1, [], 0⟩, ⟨t2, i2, f2, 0⟩] scope pos) 1 it acc env))) := by rfl
theorem turn_2 (elt : Expr) (t0 i0 t1 i1 t2 i2 : Expr) (c2 : Expr) (scope : Scope) (pos : Pos) (it acc : Value) (env : Env) :
    compTurn (.ListComp elt [⟨t0, i0, [], 0⟩, ⟨t1, i1, [], 0⟩, ⟨t2, i2, [c2], 0⟩] scope pos) 2 it acc env = (standAt i2.pos >>= fun _ => pyNext it >>= fun r => match r with
      | none => pure (.done .next)
      | some v => letOwnedTupleGo t2 it v >>= fun _ => assign t2 env v >>= fun _ => ((forIn [c2] true fun c r => if r = true then do let ok ← isTrue c env (eval c env); pure (ForInStep.yield ok) else pure (ForInStep.yield r)) >>= fun ok => if ok = true then ((eval elt env >>= fun x => call (.builtin "list.append") [acc, x] >>= fun _ => pure ()) >>= fun _ =>
          again (.compLoop (.ListComp elt [⟨t0, i0, [], 0⟩, ⟨t1, i1, [], 0⟩, ⟨t2, i2, [c2], 0⟩] scope pos) 2 it acc env)) else again (.compLoop (.ListComp elt [⟨t0, i0, [], 0⟩, ⟨t1, i1, [], 0⟩, ⟨t2, i2, [c2], 0⟩] scope pos) 2 it acc env))) := by rfl
end
end Mine
namespace Mine
noncomputable def ltr (T : Str) (i : Nat) : Str := ⟨#[T.cps.getD i 0]⟩
theorem ltr_of {T : Str} {i : Nat} {c : Nat} (h : T.cps[i]? = some c) : (⟨#[c]⟩ : Str) = ltr T i := by
  unfold ltr
  rw [Array.getD_eq_getD_getElem?, h]; rfl
section
variable {prog : Program} {w : World} {A : Around} {E : Value → Shared → Prop} {env : Env}
/-- the rest of a turn that goes a level down -/
theorem nest_step {s₀ : Shared} {elt : Expr} {gens : List Comprehension} {scope : Scope} {pos p : Pos} {d k : Nat} {T : Str} {g : Comprehension} {acc : Value} {Q : Fin → Shared → Prop} {h : Heap} {tk : Nat} {Post : Shared → Prop} {fin : Fin}
    (hA : (A.mark none).handled = none) (hT : T.cps.all (· < 128) = true) (hg : gens[d]? = some g) (ha : (g.is_async != 0) = false)
    (hloop : ∀ I tT h' tk', I = h.objs.size → h'.IsStrIter I "str_ascii_iterator" T tT 0 → (∀ b o, h.get? b = some o → h'.get? b = some o) → ∀ R : Result → Shared → Prop, (∀ s', Post s' → R (.ok .next) s') →
      codeAny (model prog w) (A.mark none) (.compLoop (.ListComp elt gens scope pos) d (.ref I) acc env) R { s₀ with heap := h', toks := tk' })
    (hQ : ∀ s', Post s' → Q fin s') :
    wpAny (model prog w) A (eval (.Constant (.str T) k p) env >>= fun x => standAt (Expr.pos (.Constant (.str T) k p)) >>= fun _ => foldedSetIterable (.Constant (.str T) k p) env x >>= fun x => holding [x] (pyIter x) >>= fun it1 =>
      runOwn (.compStart (.ListComp elt gens scope pos) d it1 acc env) env >>= fun _ => (pure fin : Sem Fin)) Q E { s₀ with heap := h, toks := tk } := by
  refine wpAny_bind (wpAny_Constant_str (wpAny_bind (wpAny_standAt (wpAny_bind (wpAny_of_eq (show foldedSetIterable (.Constant (.str T) k p) env (.str T tk) = pure (.str T tk) from rfl) (wpAny_bind (wpAny_holding (wpAny_pyIter_ascii hT ?_))))))))
  have up : ∀ b o, h.get? b = some o → (h.push { cls := .type "str_ascii_iterator", data := .fields #[.str T tk, .int 0 0] }).get? b = some o := fun b o e => Heap.get?_push_of_some _ e
  have hst : (h.push { cls := .type "str_ascii_iterator", data := .fields #[.str T tk, .int 0 0] }).IsStrIter h.objs.size "str_ascii_iterator" T tk 0 := ⟨_, Heap.get?_push_size _ rfl, rfl, rfl⟩
  refine wpAny_bind (wpAny_runOwn (compStart_at hg ha (hloop _ tk _ _ rfl hst up _ fun s' hp => wpAny_pure (hQ s' hp)) ((Walks.strAscii (prog := prog) (w := w) hA h.objs.size T tk).self 0 _ _ _ hst (hloop _ tk _ _ rfl hst up _ fun s' hp => wpAny_pure (hQ s' hp)))))
end
end Mine
namespace Mine
noncomputable def fZ (T : Str) (cond : Str → Str → Str → Bool) (jn : Str → Str → Str → Str) (a b : Str) (k : Nat) : List Str := if cond a b (ltr T k) then [jn a b (ltr T k)] else []
noncomputable def fY (T : Str) (cond : Str → Str → Str → Bool) (jn : Str → Str → Str → Str) (a : Str) (j : Nat) : List Str := flat (fZ T cond jn a (ltr T j)) T.cps.size
noncomputable def fX (T : Str) (cond : Str → Str → Str → Bool) (jn : Str → Str → Str → Str) (i : Nat) : List Str := flat (fY T cond jn (ltr T i)) T.cps.size
theorem flat_len {f : Nat → List Str} {b : Nat} (h : ∀ i, (f i).length ≤ b) : ∀ n, (flat f n).length ≤ b * n
  | 0 => by simp [flat]
  | n + 1 => by
    have := flat_len h n
    have h2 := h n
    rw [flat, List.length_append, Nat.mul_succ]; omega
section
variable {prog : Program} {w : World} {A : Around} {E : Value → Shared → Prop} {env : Env} {s : Shared}
theorem triple_comp {elt c2 : Expr} {x y z o : Str} {px py pz po p0 p1 p2 : Pos} {k0 k1 k2 : Nat} {T : Str} {scope : Scope} {pos spos : Pos} {Q : Flow → Shared → Prop} {cond : Str → Str → Str → Bool} {jn : Str → Str → Str → Str} {m : Str → Option Value}
    (hsw : swapsWith (.ListComp elt [⟨.Name x px, .Constant (.str T) k0 p0, [], 0⟩, ⟨.Name y py, .Constant (.str T) k1 p1, [], 0⟩, ⟨.Name z pz, .Constant (.str T) k2 p2, [c2], 0⟩] scope pos) (some (.Name o po)) spos.line env = pure true)
    (hL : s.heap.Ns env.locals m) (hA : A.handled = none) (hclos : closureFor scope env = pure []) (hcell : ∀ y ∈ scope.names, y.2 ≠ .cell) (hkind : scope.kind = .function)
    (hnames : ∀ y ∈ scope.names, y.2 = .local → scope.names.lookup y.1 = some .local) (hx : scope.names.lookup x = some .local) (hy : scope.names.lookup y = some .local) (hz : scope.names.lookup z = some .local)
    (hxy : x ≠ y) (hxz : x ≠ z) (hyz : y ≠ z) (ho : env.kindOf o = some .local) (hp : (env.scope.kind == .class || (env.scope.kind == .module && env.locals != env.globals)) = false)
    (hT : T.cps.all (· < 128) = true) (hT3 : T.cps.size ≤ 4)
    (hc2 : ∀ (A' : Around) C mm a b c ta tb tc (s' : Shared) E', s'.heap.Ns C mm → mm x = some (.str a ta) → mm y = some (.str b tb) → mm z = some (.str c tc) → a.length = 1 → b.length = 1 → c.length = 1 →
      wpAny (model prog w) A' (isTrue c2 (compEnvC scope [] C env) (eval c2 (compEnvC scope [] C env))) (fun ok s'' => ok = cond a b c ∧ ∃ tk, s'' = { s' with toks := tk }) E' s')
    (hel : ∀ (A' : Around) C mm a b c ta tb tc (s' : Shared) E', s'.heap.Ns C mm → mm x = some (.str a ta) → mm y = some (.str b tb) → mm z = some (.str c tc) → a.length = 1 → b.length = 1 → c.length = 1 →
      wpAny (model prog w) A' (eval elt (compEnvC scope [] C env)) (fun v s'' => (∃ t, v = .str (jn a b c) t) ∧ ∃ tk, s'' = { s' with toks := tk }) E' s')
    (fin : ∀ D ys h' tk, StrsAre ys (flat (fX T cond jn) T.cps.size) → h'.Ns env.locals (fun n => if n = o then some (.ref D) else m n) → (∀ b ob, b ≠ env.locals → s.heap.get? b = some ob → h'.get? b = some ob) → h'.get? D = some (LCg.lst ys) → s.heap.objs.size ≤ D → Q .next { s with heap := h', toks := tk }) :
    wpAny (model prog w) A (exec (.Assign [.Name o po] (.ListComp elt [⟨.Name x px, .Constant (.str T) k0 p0, [], 0⟩, ⟨.Name y py, .Constant (.str T) k1 p1, [], 0⟩, ⟨.Name z pz, .Constant (.str T) k2 p2, [c2], 0⟩] scope pos) spos) env) Q E s := by
  rw [exec_Assign_Name_used _ _ _ _ hsw]
  refine wpAny_bind (wpAny_standAt (wpAny_bind ?_))
  generalize hgens : [(⟨.Name x px, .Constant (.str T) k0 p0, [], 0⟩ : Comprehension), ⟨.Name y py, .Constant (.str T) k1 p1, [], 0⟩, ⟨.Name z pz, .Constant (.str T) k2 p2, [c2], 0⟩] = gens
  show wpAny _ A (do let _ ← comprehension (.ListComp elt gens scope pos) scope env _ (newList []) (firstAsync gens) (firstIter gens env) (some (assign (.Name o po) env))) _ _ s
  have ha : firstAsync gens = false := by rw [← hgens]; rfl
  have hfi : firstIter gens env = eval (.Constant (.str T) k0 p0) env := by rw [← hgens]; rfl
  rw [ha, hfi]
  have hcl : clausesOf (.ListComp elt gens scope pos) = ⟨.Name x px, .Constant (.str T) k0 p0, [], 0⟩ :: [⟨.Name y py, .Constant (.str T) k1 p1, [], 0⟩, ⟨.Name z pz, .Constant (.str T) k2 p2, [c2], 0⟩] := by rw [← hgens]; rfl
  refine wpAny_bind (wpAny_mono (wpAny_comprehension_free (use := some (assign (.Name o po) env)) (Q := fun _ s' => Q .next s') hcl (fun _ => rfl) hclos hkind hnames (wpAny_Constant_str (wpAny_pyIter_ascii hT ?_))) (fun _ s' hq => wpAny_pure (wpAny_pure hq)) fun _ _ e => e)
  refine wpAny_newObj_type (wpAny_newFunctionEnv hcell (by intro y hy; simp at hy) (fun h₁ hns₁ hsb₁ => ?_) hkind)
  dsimp only at hns₁ hsb₁ ⊢
  subst hgens
  generalize hI : s.heap.objs.size = I
  generalize hH1 : s.heap.push _ = H1 at hns₁ hsb₁ ⊢
  have z1 : H1.objs.size = I + 1 := by rw [← hH1, Heap.size_push, hI]
  generalize hH2 : H1.push _ = H2 at hns₁ hsb₁ ⊢
  have z2 : H2.objs.size = I + 2 := by rw [← hH2, Heap.size_push, z1]
  rw [z2] at hns₁ hsb₁ ⊢
  rw [z1]
  have gI1 : H1.get? I = some { cls := .type "str_ascii_iterator", data := .fields #[.str T s.toks, .int 0 0] } := by
    rw [← hH1, ← hI]; exact Heap.get?_push_size _ rfl
  have gI : h₁.IsStrIter I "str_ascii_iterator" T s.toks 0 :=
    ⟨_, hsb₁.extBut _ _ (Nat.ne_of_lt (by omega)) (Heap.get?_push_of_some _ (hH2 ▸ Heap.get?_push_of_some _ gI1)), rfl, rfl⟩
  have gD : h₁.get? (I + 1) = some (LCg.lst []) := hsb₁.extBut _ _ (Nat.ne_of_lt (by omega)) (Heap.get?_push_of_some _ (by rw [← hH2, ← z1]; exact Heap.get?_push_size _ rfl))
  have hk0 : ∀ b o, s.heap.get? b = some o → h₁.get? b = some o := fun b o e => hsb₁.extBut _ _ (fun q => by have := Heap.lt_size e; rw [hI, q] at this; exact absurd this (Nat.not_lt.mpr (Nat.le_add_right I 2))) (Heap.get?_push_of_some _ (hH2 ▸ Heap.get?_push_of_some _ (hH1 ▸ Heap.get?_push_of_some _ e)))
  have hold : ∀ {b : Addr} {o : Obj}, s.heap.get? b = some o → b < I := fun e => hI ▸ Heap.lt_size e
  clear gI1 hH1 hH2 hsb₁ z1 z2 H1 H2
  have hA1 : (A.mark none).handled = none := hA
  have hA2 : ((A.mark none).mark none).handled = none := hA
  have hkx : (compEnvC scope [] (I + 2) env).kindOf x = some .local := lookup_relabel_local hx
  have hky : (compEnvC scope [] (I + 2) env).kindOf y = some .local := lookup_relabel_local hy
  have hkz : (compEnvC scope [] (I + 2) env).kindOf z = some .local := lookup_relabel_local hz
  have hpc : ((compEnvC scope [] (I + 2) env).scope.kind == .class || ((compEnvC scope [] (I + 2) env).scope.kind == .module && (compEnvC scope [] (I + 2) env).locals != (compEnvC scope [] (I + 2) env).globals)) = false := by simp [compEnvC, relabel, hkind]
  have l1 : ∀ i, (ltr T i).length = 1 := fun i => rfl
  have b2 : ∀ a b k, (fZ T cond jn a b k).length ≤ 1 := fun a b k => by unfold fZ; split <;> simp
  have b1 : ∀ a j, (fY T cond jn a j).length ≤ 4 := fun a j => Nat.le_trans (flat_len (b2 a _) _) (by omega)
  have b0 : ∀ i, (fX T cond jn i).length ≤ 16 := fun i => Nat.le_trans (flat_len (b1 _) _) (by omega)
  have lvl2 : ∀ (s₀ : Shared) a b ta tb I2 t2 h tk mm ys ws (R : Result → Shared → Prop), a.length = 1 → b.length = 1 → h.IsStrIter I2 "str_ascii_iterator" T t2 0 → I2 ≠ I + 2 → I2 ≠ I + 1 → h.Ns (I + 2) mm → mm x = some (.str a ta) → mm y = some (.str b tb) → h.get? (I + 1) = some (LCg.lst ys) → StrsAre ys ws → ws.length ≤ 800 →
      (∀ h' tk' mm' ys', (∀ b o, b ≠ I2 → b ≠ I + 2 → b ≠ I + 1 → h.get? b = some o → h'.get? b = some o) → h'.Ns (I + 2) mm' → mm' x = some (.str a ta) → mm' y = some (.str b tb) → h'.get? (I + 1) = some (LCg.lst ys') → StrsAre ys' (ws ++ flat (fZ T cond jn a b) T.cps.size) → R (.ok .next) { s₀ with heap := h', toks := tk' }) →
      codeAny (model prog w) ((A.mark none).mark none) (.compLoop (.ListComp elt [⟨.Name x px, .Constant (.str T) k0 p0, [], 0⟩, ⟨.Name y py, .Constant (.str T) k1 p1, [], 0⟩, ⟨.Name z pz, .Constant (.str T) k2 p2, [c2], 0⟩] scope pos) 2 (.ref I2) (.ref (I + 1)) (compEnvC scope [] (I + 2) env)) R { s₀ with heap := h, toks := tk } := by
    intro s₀ a b ta tb I2 t2 h tk mm ys ws R la lb hit hI1 hI2 hns hmx hmy hD hys hws hR
    refine comp_level (B := 900) (C := I + 2) (f := fZ T cond jn a b) (hout := fun mm => mm x = some (.str a ta) ∧ mm y = some (.str b tb)) (turn_2 _ _ _ _ _ _ _ _ _ _ _ _ _) hA2 rfl hkz hpc hI1 hI2 (Nat.ne_of_gt (Nat.lt_succ_self _)) (fun mm v hm => ⟨(if_neg hxz).trans hm.1, (if_neg hyz).trans hm.2⟩) ?_ hit hns ⟨hmx, hmy⟩ hD hys (fun i hi => ?_) ?_
    · intro i c t h tk mm ys ws E' hc hns hmz hm hD hys hws hIo
      rw [ltr_of hc] at hmz
      refine wpAny_bind (wpAny_tests_one (wpAny_mono (hc2 _ (I + 2) mm a b (ltr T i) ta tb t _ _ hns hm.1 hm.2 hmz la lb (l1 i)) (fun ok s' hok => ?_) fun _ _ e => e))
      obtain ⟨rfl, tk', rfl⟩ := hok
      cases hcond : cond a b (ltr T i) with
      | false =>
        rw [if_neg (by first | ((repeat (first | exact .head _ | refine .tail _ ?_)); done) | simp)]
        refine wpAny_pure ⟨rfl, h, _, mm, ys, rfl, fun _ _ _ _ e => e, hns, hm, hD, ?_⟩
        have : fZ T cond jn a b i = [] := by unfold fZ; rw [hcond]; rfl
        rw [this, List.append_nil]; exact hys
      | true =>
        rw [if_pos rfl]
        refine wpAny_bind (wpAny_bind (wpAny_mono (hel _ (I + 2) mm a b (ltr T i) ta tb t _ _ hns hm.1 hm.2 hmz la lb (l1 i)) (fun v s' hv => ?_) fun _ _ e => e))
        obtain ⟨⟨tv, rfl⟩, tk2, rfl⟩ := hv
        refine wpAny_bind (append_at (hsz := by show ys.toArray.size ≤ sizeLine; rw [List.size_toArray, hys.length]; exact Nat.le_trans hws (by decide)) hD fun h5 hs5 hD5 => wpAny_pure (wpAny_pure ?_))
        refine ⟨rfl, h5, _, mm, _, rfl, fun b o h1 h2 e => hs5.extBut b o h2 e, hns.at' fun o e => hs5.extBut _ o (Nat.ne_of_gt (Nat.lt_succ_self _)) e, hm, hD5.trans (congrArg some (LCg.lst_snoc ys _)), ?_⟩
        have : fZ T cond jn a b i = [jn a b (ltr T i)] := by unfold fZ; rw [hcond]; rfl
        rw [this]
        exact hys.append (.cons _ _ .nil)
    · have := flat_len (b2 a b) i
      rw [List.length_append]; omega
    · exact fun h' tk' mm' ys' hk hn hm hD hy => hR h' tk' mm' ys' hk hn hm.1 hm.2 hD hy
  have lvl1 : ∀ (s₀ : Shared) a ta I1 t1 h tk mm ys ws (R : Result → Shared → Prop), a.length = 1 → h.IsStrIter I1 "str_ascii_iterator" T t1 0 → I1 ≠ I + 2 → I1 ≠ I + 1 → h.Ns (I + 2) mm → mm x = some (.str a ta) → h.get? (I + 1) = some (LCg.lst ys) → StrsAre ys ws → ws.length ≤ 700 →
      (∀ h' tk' mm' ys', (∀ b o, b ≠ I1 → b ≠ I + 2 → b ≠ I + 1 → h.get? b = some o → h'.get? b = some o) → h'.Ns (I + 2) mm' → mm' x = some (.str a ta) → h'.get? (I + 1) = some (LCg.lst ys') → StrsAre ys' (ws ++ flat (fY T cond jn a) T.cps.size) → R (.ok .next) { s₀ with heap := h', toks := tk' }) →
      codeAny (model prog w) (A.mark none) (.compLoop (.ListComp elt [⟨.Name x px, .Constant (.str T) k0 p0, [], 0⟩, ⟨.Name y py, .Constant (.str T) k1 p1, [], 0⟩, ⟨.Name z pz, .Constant (.str T) k2 p2, [c2], 0⟩] scope pos) 1 (.ref I1) (.ref (I + 1)) (compEnvC scope [] (I + 2) env)) R { s₀ with heap := h, toks := tk } := by
    intro s₀ a ta I1 t1 h tk mm ys ws R la hit hI1 hI2 hns hmx hD hys hws hR
    refine comp_level (B := 800) (C := I + 2) (f := fY T cond jn a) (hout := fun mm => mm x = some (.str a ta)) (turn_1 _ _ _ _ _ _ _ _ _ _ _ _ _) hA1 rfl hky hpc hI1 hI2 (Nat.ne_of_gt (Nat.lt_succ_self _)) (fun mm v hm => (if_neg hxy).trans hm) ?_ hit hns hmx hD hys (fun i hi => ?_) ?_
    · intro i c t h tk mm ys ws E' hc hns hmy hm hD hys hws hIo
      rw [ltr_of hc] at hmy
      have lC : I + 2 < h.objs.size := hns.lt
      have lD : I + 1 < h.objs.size := Heap.lt_size hD
      refine nest_step (d := 2) (Post := fun s' => ∃ h' tk' mm' ys', s' = { s₀ with heap := h', toks := tk' } ∧ But2 (I + 2) (I + 1) h h' ∧ h'.Ns (I + 2) mm' ∧ mm' x = some (.str a ta) ∧ h'.get? (I + 1) = some (LCg.lst ys') ∧ StrsAre ys' (ws ++ fY T cond jn a i)) hA2 hT rfl rfl ?_ (fun s' hp => ⟨rfl, hp⟩)
      intro I2 tT h' tk' hI2 hit hup R hR
      refine lvl2 s₀ a (ltr T i) ta t I2 tT h' tk' mm ys ws R la (l1 i) hit (hI2 ▸ Nat.ne_of_gt lC) (hI2 ▸ Nat.ne_of_gt lD) (hns.keeps hup) hm hmy (hup _ _ hD) hys hws ?_
      exact fun h'' tk'' mm' ys' hk hn hmx hmy hD hy => hR _ ⟨h'', tk'', mm', ys', rfl, fun b o h1 h2 e => hk b o (fun q => by have := Heap.lt_size e; rw [q, hI2] at this; exact Nat.lt_irrefl _ this) h1 h2 (hup b o e), hn, hmx, hD, hy⟩
    · have := flat_len (b1 a) i
      rw [List.length_append]; omega
    · exact fun h' tk' mm' ys' hk hn hm hD hy => hR h' tk' mm' ys' hk hn hm hD hy
  have lvl0 : ∀ (R : Result → Shared → Prop), (∀ h' tk' mm' ys', (∀ b o, b ≠ I → b ≠ I + 2 → b ≠ I + 1 → h₁.get? b = some o → h'.get? b = some o) → h'.Ns (I + 2) mm' → h'.get? (I + 1) = some (LCg.lst ys') → StrsAre ys' (flat (fX T cond jn) T.cps.size) → R (.ok .next) { s with heap := h', toks := tk' }) →
      ∀ tk, codeAny (model prog w) A (.compLoop (.ListComp elt [⟨.Name x px, .Constant (.str T) k0 p0, [], 0⟩, ⟨.Name y py, .Constant (.str T) k1 p1, [], 0⟩, ⟨.Name z pz, .Constant (.str T) k2 p2, [c2], 0⟩] scope pos) 0 (.ref I) (.ref (I + 1)) (compEnvC scope [] (I + 2) env)) R { s with heap := h₁, toks := tk } := by
    intro R hR tk
    refine comp_level (B := 700) (C := I + 2) (f := fX T cond jn) (hout := fun _ => True) (ws := []) (turn_0 _ _ _ _ _ _ _ _ _ _ _ _ _) hA rfl hkx hpc (Nat.ne_of_lt (by omega)) (Nat.ne_of_lt (by omega)) (Nat.ne_of_gt (Nat.lt_succ_self _)) (fun mm v hm => trivial) ?_ gI hns₁ trivial gD .nil (fun i hi => ?_) ?_
    · intro i c t h tk mm ys ws E' hc hns hmx hm hD hys hws hIo
      rw [ltr_of hc] at hmx
      have lC : I + 2 < h.objs.size := hns.lt
      have lD : I + 1 < h.objs.size := Heap.lt_size hD
      refine nest_step (d := 1) (Post := fun s' => ∃ h' tk' mm' ys', s' = { s with heap := h', toks := tk' } ∧ But2 (I + 2) (I + 1) h h' ∧ h'.Ns (I + 2) mm' ∧ True ∧ h'.get? (I + 1) = some (LCg.lst ys') ∧ StrsAre ys' (ws ++ fX T cond jn i)) hA1 hT rfl rfl ?_ (fun s' hp => ⟨rfl, hp⟩)
      intro I2 tT h' tk' hI2 hit hup R hR
      refine lvl1 s (ltr T i) t I2 tT h' tk' mm ys ws R (l1 i) hit (hI2 ▸ Nat.ne_of_gt lC) (hI2 ▸ Nat.ne_of_gt lD) (hns.keeps hup) hmx (hup _ _ hD) hys hws ?_
      exact fun h'' tk'' mm' ys' hk hn hmx hD hy => hR _ ⟨h'', tk'', mm', ys', rfl, fun b o h1 h2 e => hk b o (fun q => by have := Heap.lt_size e; rw [q, hI2] at this; exact Nat.lt_irrefl _ this) h1 h2 (hup b o e), hn, trivial, hD, hy⟩
    · have := flat_len b0 i
      rw [List.nil_append]; omega
    · exact fun h' tk' mm' ys' hk hn hm hD hy => hR h' tk' mm' ys' hk hn hD (by simpa using hy)
  have loop : ∀ tk, codeAny (model prog w) A (.compLoop (.ListComp elt [⟨.Name x px, .Constant (.str T) k0 p0, [], 0⟩, ⟨.Name y py, .Constant (.str T) k1 p1, [], 0⟩, ⟨.Name z pz, .Constant (.str T) k2 p2, [c2], 0⟩] scope pos) 0 (.ref I) (.ref (I + 1)) (compEnvC scope [] (I + 2) env)) (compPost (model prog w) A E (some (assign (.Name o po) env)) (fun _ s' => Q .next s') (.ref (I + 1)) (I + 2)) { s with heap := h₁, toks := tk } := by
    refine lvl0 _ fun h' tk' mm' ys' hk hn hD hy => ?_
    have hLI : env.locals < I := by obtain ⟨oL, _, _, hoL, _⟩ := hL; exact hold hoL
    show wpAny _ A (assign (.Name o po) env (.ref (I + 1))) _ _ _
    refine wpAny_assign_Name (wpAny_storeName_local ho ((hL.keeps hk0).at' fun ob e => hk _ ob (Nat.ne_of_lt hLI) (Nat.ne_of_lt (Nat.lt_add_right 2 hLI)) (Nat.ne_of_lt (Nat.lt_add_right 1 hLI)) e) (fun h₂ hn₂ hs₂ => ?_) hp)
    refine ⟨mm', hn.sameBut hs₂ (Nat.ne_of_gt (Nat.lt_add_right 2 hLI)), fun h₃ hs₃ => ?_⟩
    refine fin (I + 1) ys' h₃ _ hy (hn₂.sameBut hs₃ (Nat.ne_of_lt (Nat.lt_add_right 2 hLI))) (fun b ob hb e => ?_) ?_ (hI ▸ Nat.le_add_right _ _)
    · have hbI := hold e
      exact hs₃.extBut _ _ (Nat.ne_of_lt (Nat.lt_add_right 2 hbI)) (hs₂.extBut _ _ hb (hk b ob (Nat.ne_of_lt hbI) (Nat.ne_of_lt (Nat.lt_add_right 2 hbI)) (Nat.ne_of_lt (Nat.lt_add_right 1 hbI)) (hk0 _ _ e)))
    · exact hs₃.extBut _ _ (Nat.ne_of_lt (by omega)) (hs₂.extBut _ _ (Nat.ne_of_gt (Nat.lt_add_right 1 hLI)) hD)
  exact compStart_at rfl rfl (loop _) ((Walks.strAscii (prog := prog) (w := w) hA I T s.toks).self 0 _ _ _ gI (loop _))
end
end Mine
end

/-! ## L6 -/
section
theorem Mine.offL6 : True := by w_top off; trivial
open PySem PySem.W PySem.Calls PyProof.Rows PyProof.V
set_option Elab.async false
set_option maxRecDepth 100000
namespace Mine
set_option maxHeartbeats 16000000
local macro_rules | `(tactic| walk_at "eval Name") => `(tactic| (k_here; k_dflt (refine' nameX_L ?k1 ?k2 ?_; (case k1 => k_asm); (case k2 => repeat (first | assumption | refine (if_neg (by decide)).trans ?_)); k_whole)))




noncomputable def condO (a b c : Str) : Bool := (a != b) && ((a != c) && (b != c))
noncomputable def jnO (a b c : Str) : Str := a ++ b ++ c
/-- the six orders -/
noncomputable def O6 : List Str := [Str.ofString "abc", Str.ofString "acb", Str.ofString "bac", Str.ofString "bca", Str.ofString "cab", Str.ofString "cba"]
theorem O6_flat : flat (fX (Str.ofString "abc") condO jnO) (Str.ofString "abc").cps.size = O6 := by decide +kernel
theorem seg6 {w : World} {mean : ExcName → Option Value} {mg mb : Str → Option Value} {A : Around} {E : Value → Shared → Prop} {Q : Flow → Shared → Prop} {s : Shared} {h₀ : Heap} {L : Nat} {fa : Addr} {cd : Value} {m : Str → Option Value} {news : List (Addr × Obj)}
    (W : Wd w mean mg mb h₀) (hA : A.handled = none) (F : Fr h₀ L s.heap m) (N : News h₀ L s.heap news)
    (next : ∀ h' tk D ys, Fr h₀ L h' (fun n => if n = Str.ofString "orders" then some (.ref D) else m n) → News h₀ L h' ((D, LCg.lst ys) :: news) → (∀ p ∈ news, p.1 ≠ D) → StrsAre ys O6 →
      wpAny (model PR w) A (execs (LB.drop 12) (envOfC (Str.ofString "law") LS L fa cd)) Q E { s with heap := h', toks := tk }) :
    wpAny (model PR w) A (execs (LB.drop 11) (envOfC (Str.ofString "law") LS L fa cd)) Q E s := by
  obtain ⟨K, T⟩ := id W
  rw [cut 11 (by decide)]
  generalize List.drop (11 + 1) LB = stmts at *
  conv in (execs (_ :: _) _) => arg 1; arg 1; whnf
  conv in (envOfC _ _ _ _ _) => arg 2; whnf
  refine wpAny_execs_cons ?_
  refine' triple_comp (cond := condO) (jn := jnO) ?h1 F.ns hA ?h2 ?h3 rfl ?h4 rfl rfl rfl (by decide) (by decide) (by decide) rfl rfl (by decide +kernel) (by decide +kernel) ?hc ?he ?hf
  case h1 => with_unfolding_all rfl
  case h2 => with_unfolding_all rfl
  case h3 => decide
  case h4 => decide
  case hc =>
    intro A' C mm a b c ta tb tc s' E' hn hx hy hz la lb lc
    obtain ⟨oC, hoC, hC⟩ := LCg.ns_obj hn
    have N1 : News (default : Heap) (C + 1) s'.heap [(C, oC)] := fun p hp => by
      rw [List.mem_singleton.mp hp]; exact ⟨hoC, Nat.ne_of_lt (Nat.lt_succ_self _), rfl⟩
    iterate 6 walk1
    cases h1 : (a != b) with
    | false => rw [if_neg (by first | ((repeat (first | exact .head _ | refine .tail _ ?_)); done) | simp)]; exact ⟨by unfold condO; rw [h1]; rfl, _, rfl⟩
    | true =>
      rw [if_pos rfl]
      iterate 6 walk1
      cases h2 : (a != c) with
      | false => rw [if_neg (by first | ((repeat (first | exact .head _ | refine .tail _ ?_)); done) | simp)]; exact ⟨by unfold condO; rw [h1, h2]; rfl, _, rfl⟩
      | true =>
        rw [if_pos rfl]
        iterate 6 walk1
        cases h3 : (b != c) with
        | false => rw [if_neg (by first | ((repeat (first | exact .head _ | refine .tail _ ?_)); done) | simp)]; exact ⟨by unfold condO; rw [h1, h2, h3]; rfl, _, rfl⟩
        | true =>
          rw [if_pos rfl]
          walk1
          exact ⟨by unfold condO; rw [h1, h2, h3]; rfl, _, rfl⟩
  case he =>
    intro A' C mm a b c ta tb tc s' E' hn hx hy hz la lb lc
    obtain ⟨oC, hoC, hC⟩ := LCg.ns_obj hn
    have N1 : News (default : Heap) (C + 1) s'.heap [(C, oC)] := fun p hp => by
      rw [List.mem_singleton.mp hp]; exact ⟨hoC, Nat.ne_of_lt (Nat.lt_succ_self _), rfl⟩
    iterate 6 walk1
    refine SB.add (fun t' k => ⟨⟨t', rfl⟩, _, rfl⟩) (by rw [Str.length_append, la, lb, lc]; decide)
  case hf =>
    intro D ys h' tk hy hn hk hD hge
    rw [O6_flat] at hy
    have hN : ∀ p ∈ news, p.1 ≠ D := fun p hp e => absurd (Heap.lt_size (N p hp).1) (by rw [e]; exact Nat.not_lt.mpr hge)
    refine next h' tk D ys ⟨hn, fun b o e => hk b o (fun q => absurd (Heap.lt_size e) (by rw [q]; exact Nat.not_lt.mpr F.above)) (F.keep b o e), F.above⟩ (fun p hp => ?_) hN hy
    rcases List.mem_cons.mp hp with rfl | hp
    · refine ⟨hD, fun e => absurd F.ns.lt (by rw [← e]; exact Nat.not_lt.mpr hge), ?_⟩
      cases z : h₀.get? D with
      | none => rfl
      | some o' => exact absurd (Heap.lt_size (F.keep _ _ z)) (Nat.not_lt.mpr hge)
    · exact ⟨hk _ _ (N p hp).2.1 (N p hp).1, (N p hp).2⟩
end Mine
end

/-! ## L7 -/
section
theorem Mine.offL7 : True := by w_top off; trivial
open PySem PySem.W PySem.Calls PyProof.Rows PyProof.V
set_option Elab.async false
set_option maxRecDepth 100000
namespace Mine
set_option maxHeartbeats 16000000
local macro_rules | `(tactic| walk_at "eval Name") => `(tactic| (k_here; k_dflt (refine' nameX_L ?k1 ?k2 ?_; (case k1 => k_asm); (case k2 => repeat (first | assumption | refine (if_neg (by decide)).trans ?_)); k_whole)))





theorem valueAt_put {K : Type} [DecidableEq K] (kvs : List (K × Value)) (k k' : K) (v : Value) : valueAt (stored kvs k v) k' = if k' = k then some v else valueAt kvs k' := by
  unfold stored
  by_cases hany : (kvs.any fun kv => decide (kv.1 = k)) = true
  · rw [if_pos hany]
    unfold valueAt
    induction kvs with
    | nil => simp at hany
    | cons p r ih =>
      obtain ⟨a, b⟩ := p
      by_cases hak : a = k
      · subst hak
        by_cases hk : k' = a
        · subst hk; simp
        · rw [if_neg hk]
          have hk2 : ¬ a = k' := fun e => hk e.symm
          simp only [List.map_cons, if_true, List.find?_cons, hk2, decide_false]
          by_cases h2 : (r.any fun kv => decide (kv.1 = a)) = true
          · have := ih h2
            rw [if_neg hk] at this
            exact this
          · have e : (r.map fun kv => if kv.1 = a then (kv.1, v) else kv) = r := by
              conv => rhs; rw [← List.map_id r]
              apply List.map_congr_left
              intro q hq
              have : ¬ q.1 = a := fun e => h2 (List.any_eq_true.mpr ⟨q, hq, by simp [e]⟩)
              simp [this]
            rw [e]
      · have h2 : (r.any fun kv => decide (kv.1 = k)) = true := by
          simp only [List.any_cons, hak, decide_false, Bool.false_or] at hany; exact hany
        have := ih h2
        simp only [List.map_cons, hak, if_false, List.find?_cons]
        by_cases hk : a = k'
        · subst hk
          simp [hak]
        · simp only [hk, decide_false]
          exact this
  · rw [if_neg hany]
    unfold valueAt
    rw [List.find?_append]
    by_cases hk : k' = k
    · subst hk
      have : kvs.find? (fun kv => decide (kv.1 = k')) = none := by
        rw [List.find?_eq_none]
        intro q hq h
        exact hany (List.any_eq_true.mpr ⟨q, hq, h⟩)
      rw [this, if_pos rfl]
      simp
    · rw [if_neg hk]
      have hk2 : ¬ k = k' := fun e => hk e.symm
      cases z : kvs.find? (fun kv => decide (kv.1 = k')) with
      | none => simp [hk2]
      | some q => simp
theorem O6_letters : ∀ o ∈ O6, ∀ a ∈ lettersOf o, a = bk 0 ∨ a = bk 1 ∨ a = bk 2 := by decide +kernel
theorem O6_ok : ∀ o ∈ O6, o.cps.all (· < 128) = true ∧ o.cps.size ≤ 10 := by decide +kernel
theorem O6_nodup : O6.Nodup := by decide +kernel
/-- the tables of moves, in the ledger -/
structure FlowObjs (w : World) (oD : Obj) (fo : List (Addr × Obj)) (Da : List (Str × Int)) : Prop where
  dict : ∃ kvs, oD.IsDictOf (PySem.strKind PR w) kvs ∧ ∀ o ∈ O6, ∃ d od, valueAt kvs o = some (.ref d) ∧ (d, od) ∈ fo ∧ OD w od (movesD o Da) ∧ (d == sysModules) = false
theorem FlowObjs.tab {w : World} {h : Heap} {D : Addr} {oD : Obj} {fo : List (Addr × Obj)} {Da : List (Str × Int)} (x : FlowObjs w oD fo Da) (lo : (D == sysModules) = false) (hD : h.get? D = some oD) (hf : ∀ p ∈ fo, h.get? p.1 = some p.2) : FlowTab w h D (fun o => movesD o Da) O6 := by
  obtain ⟨kvs, hd, hv⟩ := x.dict
  refine ⟨lo, kvs, Heap.dictOf_iff.mpr ⟨oD, hD, hd⟩, fun k hk => ?_⟩
  obtain ⟨d, od, e, hm, hO, hlo⟩ := hv k hk
  exact ⟨d, e, hO.tab (hf _ hm) hlo⟩
theorem pick {α : Type} {P : Nat → α → Prop} : ∀ n : Nat, (∀ i, i < n → ∃ a, P i a) → ∃ l : List α, (∀ i, i < n → ∃ a ∈ l, P i a) ∧ ∀ a ∈ l, ∃ i, i < n ∧ P i a
  | 0, _ => ⟨[], fun i h => absurd h (Nat.not_lt_zero i), fun a h => by cases h⟩
  | n + 1, h => by
    obtain ⟨l, h1, h2⟩ := pick n fun i hi => h i (Nat.lt_succ_of_lt hi)
    obtain ⟨a, ha⟩ := h n (Nat.lt_succ_self n)
    refine ⟨a :: l, fun i hi => ?_, fun b hb => ?_⟩
    · rcases Nat.lt_succ_iff_lt_or_eq.mp hi with h | rfl
      · obtain ⟨b, hb, hp⟩ := h1 i h
        exact ⟨b, List.mem_cons_of_mem _ hb, hp⟩
      · exact ⟨a, List.mem_cons_self .., ha⟩
    · rcases List.mem_cons.mp hb with rfl | hb
      · exact ⟨n, Nat.lt_succ_self n, ha⟩
      · obtain ⟨i, hi, hp⟩ := h2 b hb
        exact ⟨i, Nat.lt_succ_of_lt hi, hp⟩
theorem StrsAre.at {vs : List Value} {ws : List Str} (x : StrsAre vs ws) : ∀ (i : Nat) (v : Value), vs[i]? = some v → ∃ a t, v = .str a t ∧ ws[i]? = some a := by
  induction x with
  | nil => intro i v h; simp at h
  | cons a t _ ih =>
    intro i v h
    cases i with
    | zero => rw [List.getElem?_cons_zero] at h; exact ⟨a, t, (Option.some.inj h).symm, rfl⟩
    | succ i => rw [List.getElem?_cons_succ] at h ⊢; exact ih i v h

theorem seg7 {w : World} {mean : ExcName → Option Value} {mg mb : Str → Option Value} {A : Around} {E : Value → Shared → Prop} {Q : Flow → Shared → Prop} {s : Shared} {h₀ : Heap} {L : Nat} {fa ol ad : Addr} {cd : Value} {m : Str → Option Value} {c1 c2 c3 c4 c5 c6 oad : Obj} {ys : List Value} {Da : List (Str × Int)} {rest : List (Addr × Obj)}
    (W : Wd w mean mg mb h₀) (hA : A.handled = none) (hroom : A.depth + 10 < recursionLimit) (F : Fr h₀ L s.heap m) (N : News h₀ L s.heap ((L + 1 + 1 + 1 + 1 + 1 + 1, c6) :: (L + 1 + 1 + 1 + 1 + 1, c5) :: (L + 1 + 1 + 1 + 1, c4) :: (L + 1 + 1 + 1, c3) :: (L + 1 + 1, c2) :: (L + 1, c1) :: (ol, LCg.lst ys) :: (ad, oad) :: rest))
    (e4 : c4.data = .cell (some (.ref ad))) (hOa : OD w oad Da) (alo : (ad == sysModules) = false) (hDl : Da.length ≤ 10) (hDk : ∀ p ∈ Da, ∃ j, j < 3 ∧ p.1 = bk j) (hy : StrsAre ys O6) (mo : m (Str.ofString "orders") = some (.ref ol))
    (next : ∀ h' tk D oD fo, Fr h₀ L h' (fun n => if n = Str.ofString "flows" then some (.ref D) else m n) → News h₀ L h' ((D, oD) :: fo ++ ((L + 1 + 1 + 1 + 1 + 1 + 1, c6) :: (L + 1 + 1 + 1 + 1 + 1, c5) :: (L + 1 + 1 + 1 + 1, c4) :: (L + 1 + 1 + 1, c3) :: (L + 1 + 1, c2) :: (L + 1, c1) :: (ol, LCg.lst ys) :: (ad, oad) :: rest)) → FlowObjs w oD fo Da → (D == sysModules) = false → (∀ p ∈ ((L + 1 + 1 + 1 + 1 + 1 + 1, c6) :: (L + 1 + 1 + 1 + 1 + 1, c5) :: (L + 1 + 1 + 1 + 1, c4) :: (L + 1 + 1 + 1, c3) :: (L + 1 + 1, c2) :: (L + 1, c1) :: (ol, LCg.lst ys) :: (ad, oad) :: rest), p.1 ≠ D ∧ ∀ q ∈ fo, p.1 ≠ q.1) →
      wpAny (model PR w) A (execs (LB.drop 13) (envOfC (Str.ofString "law") LS L fa cd)) Q E { s with heap := h', toks := tk }) :
    wpAny (model PR w) A (execs (LB.drop 12) (envOfC (Str.ofString "law") LS L fa cd)) Q E s := by
  obtain ⟨K, T⟩ := id W
  rw [cut 12 (by decide)]
  generalize List.drop (12 + 1) LB = stmts at *
  conv in (execs (_ :: _) _) => arg 1; arg 1; whnf
  conv in (envOfC _ _ _ _ _) => arg 2; whnf
  refine wpAny_execs_cons ?_
  refine' Assign_DictComp_H (cl := ?cl) (strKind PR w) ?h1 ?h2 ?h3 rfl ?h4 rfl rfl rfl (fun _ => rfl) ?_
  case h1 => with_unfolding_all rfl
  case h2 => with_unfolding_all rfl
  case h3 => decide
  case h4 => decide
  walk1
  generalize hbase : ((L + 1 + 1 + 1 + 1 + 1 + 1, c6) :: (L + 1 + 1 + 1 + 1 + 1, c5) :: (L + 1 + 1 + 1 + 1, c4) :: (L + 1 + 1 + 1, c3) :: (L + 1 + 1, c2) :: (L + 1, c1) :: (ol, LCg.lst ys) :: (ad, oad) :: rest) = base at *
  have gol := N (ol, LCg.lst ys) (by subst hbase; simp)
  have hl : s.heap.IsList ol ys.toArray := ⟨_, gol.1, rfl, _, rfl⟩
  have hyl : ys.length = 6 := hy.length
  refine wpAny_pyIter_list hl ?_
  have hollt : ol < s.heap.objs.size := Heap.lt_size gol.1
  have up1 : ∀ b o, s.heap.get? b = some o → (s.heap.push { cls := .type "list_iterator", data := .fields #[.ref ol, .int 0 0] }).get? b = some o := fun b o e => Heap.get?_push_of_some _ e
  refine ⟨s.heap.objs.size, _, _, _, _, (fun C D j kvs h => ∀ i o, i < j → O6[i]? = some o → ∃ d od, valueAt kvs o = some (.ref d) ∧ h.get? d = some od ∧ OD w od (movesD o Da) ∧ (d == sysModules) = false ∧ d ≠ s.heap.objs.size ∧ d ≠ C ∧ d ≠ D ∧ d ≠ L ∧ h₀.get? d = none ∧ ∀ p ∈ base, p.1 ≠ d), m, rfl, F.ns.push _, Nat.ne_of_lt F.ns.lt, ⟨Walks.list hA s.heap.objs.size ol (Nat.ne_of_lt hollt) ys.toArray, ?_, ?_, ?_, ?_, ?_, ?_, ?_⟩, ?_⟩
  · rw [List.size_toArray, hyl]; decide
  · exact ⟨⟨_, Heap.get?_push_size _ rfl, rfl, rfl⟩, hl.push _⟩
  · intro b hb
    show b < (s.heap.push _).objs.size
    rw [Heap.size_push]
    rcases List.mem_cons.mp hb with rfl | hb
    · exact Nat.lt_succ_self _
    · rw [List.mem_singleton.mp hb]; exact Nat.lt_succ_of_lt hollt
  · rintro i h ⟨⟨o, ho, _⟩, _⟩; exact ⟨o, ho⟩
  · intro C D h' _ i o hi; exact absurd hi (Nat.not_lt_zero i)
  · intro C D j kvs h h' hI hb i o hi ho
    obtain ⟨d, od, a1, a2, a3, a4, a5, a6, a7, a8, a9⟩ := hI i o hi ho
    exact ⟨d, od, a1, hb d od a5 a6 a7 a8 a2, a3, a4, a5, a6, a7, a8, a9⟩
  · rintro C D j kvs v s₃ m₃ E' hj hPv hI hC hm hIo hDo hDC hIC hID hCs hDs hkl ⟨h3, tk3, rfl⟩ hk
    have hPv' : ys[j]? = some v := by simpa using hPv
    obtain ⟨o, to, rfl, hoj⟩ := hy.at j v hPv'
    have up : ∀ b o, s.heap.get? b = some o → h3.get? b = some o := fun b o e => hk b o (Nat.ne_of_lt (Heap.lt_size e)) (up1 b o e)
    obtain ⟨oC, hoC, hC'⟩ := LCg.ns_obj hC
    have hCs' : s.heap.objs.size ≤ C := by
      have : (s.heap.push { cls := .type "list_iterator", data := .fields #[.ref ol, .int 0 0] }).objs.size ≤ C := hCs
      rw [Heap.size_push] at this; exact Nat.le_of_succ_le this
    have F3 := F.keeps up
    have N3 := news_fresh F (N.grown up) hCs' hoC
    have N4 : News h₀ L h3 [(C, oC), (L + 1 + 1 + 1 + 1, c4)] := fun p hp => N3 p (by
      subst hbase
      simp only [List.mem_cons, List.not_mem_nil, or_false] at hp ⊢
      rcases hp with h | h <;> repeat (first | exact h | exact .inl h | (refine .inl ?_; (repeat (first | exact h | exact .inl h | refine .inr ?_)); done) | refine .inr ?_))
    iterate 11 walk1
    have hoO : o ∈ O6 := List.mem_of_getElem? hoj
    have hoad : (ad, oad) ∈ base := by subst hbase; simp
    refine moves_spec (o := o) (D := Da) (W.keeps F3.keep) hA (by omega) (O6_ok o hoO).1 (O6_ok o hoO).2 ?_ (hOa.tab (N.grown up _ hoad).1 alo) hDl hDk ?_
    · intro a ha
      rcases O6_letters o hoO a ha with rfl | rfl | rfl
      · exact ok_bk (by decide)
      · exact ok_bk (by decide)
      · exact ok_bk (by decide)
    intro h' tk' r hk' nr hr
    obtain ⟨od, hod, hO⟩ := od_of hr
    refine ⟨h', tk', o, rfl, hk', strKind_is PR w o to, ?_⟩
    intro i o' hi ho'
    have fresh : ∀ b ob, h3.get? b = some ob → r ≠ b := fun b ob e q => by rw [← q, nr] at e; cases e
    rcases Nat.lt_succ_iff_lt_or_eq.mp hi with hi | rfl
    · obtain ⟨d, od', a1, a2, a3, a4, a5, a6, a7, a8, a9⟩ := hI i o' hi ho'
      have hne : o' ≠ o := by
        rintro rfl
        exact absurd ((List.getElem?_inj (List.getElem?_eq_some_iff.mp ho').1 O6_nodup).mp (ho'.trans hoj.symm)) (Nat.ne_of_lt hi)
      exact ⟨d, od', by rw [valueAt_put, if_neg hne]; exact a1, hk' _ _ a2, a3, a4, a5, a6, a7, a8, a9⟩
    · rw [hoj] at ho'
      obtain rfl := Option.some.inj ho'
      obtain ⟨oI, hoI⟩ := hIo
      obtain ⟨oD, hoD⟩ := hDo
      obtain ⟨oL, _, _, hoL, _⟩ := F3.ns
      refine ⟨r, od, by rw [valueAt_put, if_pos rfl], hod, hO, hr.1, fresh _ _ hoI, fresh _ _ hoC, fresh _ _ hoD, fresh _ _ hoL, ?_, fun p hp => (fresh _ _ (N.grown up p hp).1).symm⟩
      cases z : h₀.get? r with
      | none => rfl
      | some o' => exact absurd rfl (fresh _ _ (F3.keep _ _ z))
  · intro C D h' tk kvs hDs hD hd hI hns hk
    have hDs' : s.heap.objs.size < D := by
      have : (s.heap.push { cls := .type "list_iterator", data := .fields #[.ref ol, .int 0 0] }).objs.size ≤ D := hDs
      rw [Heap.size_push] at this; exact this
    have up : ∀ b o, b ≠ L → s.heap.get? b = some o → h'.get? b = some o := fun b o hb e => hk b o (Nat.ne_of_lt (Heap.lt_size e)) hb (up1 b o e)
    have oldD : ∀ b o, s.heap.get? b = some o → b ≠ D := fun b o e q => absurd (Nat.lt_trans (q ▸ Heap.lt_size e) hDs') (Nat.lt_irrefl _)
    obtain ⟨oD, hoD, hdD⟩ := Heap.dictOf_iff.mp hd
    obtain ⟨fo, hf1, hf2⟩ := pick (P := fun i (p : Addr × Obj) => ∃ o, O6[i]? = some o ∧ valueAt kvs o = some (.ref p.1) ∧ h'.get? p.1 = some p.2 ∧ OD w p.2 (movesD o Da) ∧ (p.1 == sysModules) = false ∧ p.1 ≠ L ∧ h₀.get? p.1 = none ∧ ∀ q ∈ base, q.1 ≠ p.1) 6 (fun i hi => by
      have ho : O6[i]? = some O6[i] := List.getElem?_eq_getElem hi
      obtain ⟨d, od, a1, a2, a3, a4, a5, a6, a7, a8, a9, a10⟩ := hI i O6[i] (by rw [List.size_toArray, hyl]; exact hi) ho
      exact ⟨(d, od), _, ho, a1, a2, a3, a4, a8, a9, a10⟩)
    obtain ⟨oL, _, _, hoL, _⟩ := F.ns
    have F5 : Fr h₀ L h' (fun n => if n = Str.ofString "flows" then some (.ref D) else m n) := ⟨hns, fun b o e => up b o (fun q => absurd (Heap.lt_size e) (by rw [q]; exact Nat.not_lt.mpr F.above)) (F.keep b o e), F.above⟩
    refine next h' tk D oD fo F5 (fun p hp => ?_) ⟨⟨kvs, hdD, fun o ho => ?_⟩⟩ ?_ (fun p hp => ⟨oldD _ _ (N p hp).1, fun q hq => ?_⟩)
    · simp only [List.cons_append, List.mem_cons, List.mem_append] at hp
      rcases hp with rfl | hp | hp
      · refine ⟨hoD, Ne.symm (oldD _ _ hoL), ?_⟩
        cases z : h₀.get? D with
        | none => rfl
        | some o' => exact absurd rfl (oldD _ _ (F.keep _ _ z))
      · obtain ⟨i, hi, o, b1, b2, b3, b4, b5, b6, b7, b8⟩ := hf2 p hp
        exact ⟨b3, b6, b7⟩
      · exact ⟨up _ _ (N p hp).2.1 (N p hp).1, (N p hp).2⟩
    · obtain ⟨i, hi⟩ := List.getElem?_of_mem ho
      have hi6 : i < 6 := (List.getElem?_eq_some_iff.mp hi).1
      obtain ⟨p, hp, o', b1, b2, b3, b4, b5, _⟩ := hf1 i hi6
      rw [hi] at b1
      obtain rfl := Option.some.inj b1
      exact ⟨p.1, p.2, b2, hp, b4, b5⟩
    · refine beq_eq_false_iff_ne.mpr fun q => ?_
      have h1 := modules_low (T.keeps F.keep).nolimit
      rw [q] at hDs'
      exact absurd (Nat.lt_trans h1 hDs') (Nat.lt_irrefl _)
    · obtain ⟨i, hi, o, b1, b2, b3, b4, b5, b6, b7, b8⟩ := hf2 q hq
      exact b8 p hp
end Mine
end

/-! ## Vl -/
section
theorem Mine.offVl : True := by w_top off; trivial
open PySem PySem.W PySem.Calls PyProof.Rows PyProof.V PySem.Spec
set_option Elab.async false
set_option maxRecDepth 100000
namespace Mine
section
variable {w : World} {A : Around} {E : Value → Shared → Prop} {s : Shared} {env : Env} {h₀ : Heap} {m₀ : Str → Option Value} {news : List (Addr × Obj)} {d : Addr} {D : List (Str × Int)} {target : Expr} {body : List Stmt} {Q : Flow → Shared → Prop}
/-- for x in table.values() -/
theorem Iter_vals (hh : A.handled = none) (T : StrTab PR w s.heap d (tb D)) {vw : Addr} (hvw : s.heap.IsValuesView vw d) (hdL : d ≠ env.locals)
    (F : Fr h₀ env.locals s.heap m₀) (N : News h₀ env.locals s.heap news)
    (J : Nat → (Str → Option Value) → List (Addr × Obj) → Prop) (h0 : J 0 m₀ news)
    (turn : ∀ i k c t m₁ news₁ h₁ tk₁ own I, D[i]? = some (k, c) → J i m₁ news₁ → (∀ p ∈ news₁, p.1 ≠ I) → (∀ p ∈ own, p.1 = I ∨ p.1 = d) → (∃ oI : Obj, (I, oI) ∈ own) →
      StrTab PR w h₁ d (tb D) → Fr h₀ env.locals h₁ m₁ → News h₀ env.locals h₁ (own ++ news₁) →
      wpAny (model PR w) A (assign target env (.int c t)) (fun _ s₃ => wpAny (model PR w) A (execs body env) (LoopStepV h₀ env.locals [I] own (J (i + 1)) { s with heap := h₁, toks := tk₁ } (fun v s' => Q (.ret v) s') fun s' => Q .next s') E s₃) E { s with heap := h₁, toks := tk₁ })
    (done : ∀ h' tk m' news', Fr h₀ env.locals h' m' → News h₀ env.locals h' news' → J D.length m' news' → Q .next { s with heap := h', toks := tk }) :
    wpAny (model PR w) A (pyIter (.ref vw)) (fun it s₂ => TurnsAt PR w A h₀ env target body Q E it s₂) E s := by
  obtain ⟨lo, kvs, hdo, hf⟩ := id T
  obtain ⟨ep, hat⟩ := hdo.dictAt
  refine wpAny_pyIter_values hvw hat ?_
  have hne : d ≠ s.heap.objs.size := Nat.ne_of_lt hat.lt_size
  have hlen : D.length = kvs.length := by rw [← hf.length, tb_length]
  refine ⟨s.heap.objs.size, _, _, _, _, _, _, m₀, news, J, rfl, KTurns.ofWalks (Walks.dictValues (knd := strKind PR w) hh s.heap.objs.size d hne kvs ep) (fun i v s Q E st q => letGo_valiter st.1 q), ?_, ?_, ?_, ?_, F.push _, fun p hp => ⟨Heap.get?_push_of_some _ (N p hp).1, (N p hp).2⟩, h0, ?_, ?_⟩
  · intro hm
    rcases List.mem_cons.mp hm with e | hm
    · exact absurd F.ns.lt (e ▸ Nat.lt_irrefl _)
    · exact hdL (List.mem_singleton.mp hm).symm
  · intro b hb
    rw [List.mem_singleton.mp hb]
    exact next_is_new F
  · intro p hp hI
    exact absurd (Heap.lt_size (N p hp).1) ((List.mem_singleton.mp hI) ▸ Nat.lt_irrefl _)
  · exact ⟨⟨_, Heap.get?_push_size _ rfl, rfl, rfl⟩, hat.push _⟩
  · rintro i v m₁ news₁ h₁ tk₁ own hi ⟨k, hx⟩ hJ hnw hown hatN hall hst F₁ N₁
    obtain ⟨dv, hDi, hfl⟩ := hf.at hx
    obtain ⟨x', c, hxi, hk, rfl⟩ := tb_get hDi
    cases hk
    obtain ⟨t, rfl⟩ := Flat.int_inv hfl
    obtain ⟨⟨oI, hIt, _, _⟩, hat₁⟩ := hst
    refine turn i k c t m₁ news₁ h₁ tk₁ own s.heap.objs.size hxi hJ (fun p hp e => hnw p hp (List.mem_singleton.mpr e)) (fun p hp => ?_) ⟨oI, hall _ (List.mem_cons_self ..) (next_is_new F) _ hIt⟩ ⟨lo, kvs, hat₁.dictOf, hf⟩ F₁ N₁
    rcases List.mem_cons.mp (hown p hp) with e | e
    · exact .inl e
    · exact .inr (List.mem_singleton.mp e)
  · intro h' tk m' news' F' N' _ hJ
    exact done h' tk m' news' F' N' (hlen ▸ hJ)
end
end Mine
end

/-! ## L8 -/
section
theorem Mine.offL8 : True := by w_top off; trivial
open PySem PySem.W PySem.Calls PyProof.Rows PyProof.V
set_option Elab.async false
set_option maxRecDepth 100000
namespace Mine
set_option maxHeartbeats 16000000
local macro_rules | `(tactic| walk_at "eval Name") => `(tactic| (k_here; k_dflt (refine' nameX_L ?k1 ?k2 ?_; (case k1 => k_asm); (case k2 => repeat (first | assumption | refine (if_neg (by decide)).trans ?_)); k_whole)))






theorem ins_mem {rs : List Int} {x : Int} {i j : Nat} (hl : AtL rs x i) (hr : AtR rs x j) : i = j ↔ x ∉ rs := by
  constructor
  · rintro rfl hx
    obtain ⟨k, hk, rfl⟩ := List.getElem_of_mem hx
    have e : rs.getD k 0 = rs[k] := by simp [hk]
    rcases Nat.lt_or_ge k i with h | h
    · have := hl.2.1 k h; rw [e] at this; omega
    · have := hr.2.2 k h hk; rw [e] at this; omega
  · intro hx
    rcases Nat.lt_trichotomy i j with h | h | h
    · have hj := hr.1
      have h1 := hl.2.2 i (Nat.le_refl _) (Nat.lt_of_lt_of_le h hj)
      have h2 := hr.2.1 i h
      have hi : i < rs.length := Nat.lt_of_lt_of_le h hj
      have e : rs.getD i 0 = rs[i] := by simp [hi]
      rw [e] at h1 h2
      have : rs[i] = x := by omega
      exact absurd (this ▸ List.getElem_mem hi) hx
    · exact h
    · have hi := hl.1
      have h1 := hl.2.1 j h
      have h2 := hr.2.2 j (Nat.le_refl _) (Nat.lt_of_lt_of_le h hi)
      omega
theorem sorted_of {rs : List Int} (h : rs.Pairwise (· < ·)) : Sorted rs := by
  intro i j hij hj
  rcases Nat.lt_or_eq_of_le hij with h1 | rfl
  · have hi : i < rs.length := Nat.lt_trans h1 hj
    have e1 : rs.getD i 0 = rs[i] := by simp [hi]
    have e2 : rs.getD j 0 = rs[j] := by simp [hj]
    rw [e1, e2]
    exact Int.le_of_lt (List.pairwise_iff_getElem.mp h i j hi hj h1)
  · exact Int.le_refl _
theorem ins_pair {rs : List Int} {x : Int} {i : Nat} (h : rs.Pairwise (· < ·)) (hl : AtL rs x i) (hx : x ∉ rs) : (rs.take i ++ x :: rs.drop i).Pairwise (· < ·) := by
  have h1 : ∀ a ∈ rs.take i, a < x := by
    intro a ha
    obtain ⟨k, hk, rfl⟩ := List.getElem_of_mem ha
    rw [List.length_take] at hk
    have hk' : k < rs.length := by omega
    have := hl.2.1 k (by omega)
    have e : rs.getD k 0 = rs[k] := by simp [hk']
    rw [List.getElem_take, ← e]; exact this
  have h2 : ∀ a ∈ rs.drop i, x < a := by
    intro a ha
    obtain ⟨k, hk, rfl⟩ := List.getElem_of_mem ha
    rw [List.length_drop] at hk
    have hk' : i + k < rs.length := by omega
    have h3 := hl.2.2 (i + k) (by omega) hk'
    have e : rs.getD (i + k) 0 = rs[i + k] := by simp [hk']
    rw [List.getElem_drop]
    rw [e] at h3
    rcases Int.lt_or_eq_of_le h3 with h | h
    · exact h
    · exact absurd (h ▸ List.getElem_mem hk') hx
  have hp := (List.take_append_drop i rs).symm ▸ h
  rw [List.pairwise_append] at hp ⊢
  refine ⟨hp.1, List.pairwise_cons.mpr ⟨h2, hp.2.1⟩, fun a ha b hb => ?_⟩
  rcases List.mem_cons.mp hb with rfl | hb
  · exact h1 a ha
  · exact Int.lt_trans (h1 a ha) (h2 b hb)
theorem ins_memb {rs : List Int} {x y : Int} {i : Nat} : y ∈ rs.take i ++ x :: rs.drop i ↔ y = x ∨ y ∈ rs := by
  rw [List.mem_append, List.mem_cons]
  have : y ∈ rs ↔ y ∈ rs.take i ∨ y ∈ rs.drop i := by rw [← List.mem_append, List.take_append_drop]
  rw [this]
  constructor
  · rintro (h | h | h)
    · exact .inr (.inl h)
    · exact .inl h
    · exact .inr (.inr h)
  · rintro (h | h | h)
    · exact .inr (.inl h)
    · exact .inl h
    · exact .inr (.inr h)
theorem intsAre_ins {vs : List Value} {rs : List Int} (h : IntsAre vs rs) (x : Int) (t : Tok) (i : Nat) : IntsAre (vs.take i ++ .int x t :: vs.drop i) (rs.take i ++ x :: rs.drop i) :=
  intsAre_append (h.take i) (.cons x t (h.drop i))
theorem seg8 {w : World} {mean : ExcName → Option Value} {mg mb : Str → Option Value} {A : Around} {Q : Flow → Shared → Prop} {s : Shared} {h₀ : Heap} {L : Nat} {fa ad : Addr} {cd : Value} {m : Str → Option Value} {c4 oad : Obj} {Da : List (Str × Int)} {base : List (Addr × Obj)}
    (W : Wd w mean mg mb h₀) (hA : A.handled = none) (hroom : A.depth + 10 < recursionLimit) (F : Fr h₀ L s.heap m) (N : News h₀ L s.heap base) (hc4 : (L + 1 + 1 + 1 + 1, c4) ∈ base) (had : (ad, oad) ∈ base)
    (e4 : c4.data = .cell (some (.ref ad))) (hOa : OD w oad Da) (alo : (ad == sysModules) = false) (hDl : Da.length ≤ 10)
    (next : ∀ h' tk m' rt rv rs n, Fr h₀ L h' m' → (∀ y, y ≠ Str.ofString "weight" → y ≠ Str.ofString "roots" → m' y = m y) → m' (Str.ofString "roots") = some (.ref rt) → News h₀ L h' ((rt, PySem.W.listOf (List.toArray rv) n) :: base) → (∀ p ∈ base, p.1 ≠ rt) → IntsAre rv rs → rs.Pairwise (· < ·) → (∀ x, x ∈ rs ↔ x = 0 ∨ x ∈ Da.map (·.2)) → rs.length ≤ Da.length + 1 →
      wpAny (model PR w) A (execs (LB.drop 15) (envOfC (Str.ofString "law") LS L fa cd)) Q (fun _ _ => False) { s with heap := h', toks := tk }) :
    wpAny (model PR w) A (execs (LB.drop 13) (envOfC (Str.ofString "law") LS L fa cd)) Q (fun _ _ => False) s := by
  obtain ⟨K, T⟩ := id W
  rw [cut 13 (by decide), cut 14 (by decide)]
  generalize List.drop (14 + 1) LB = stmts at *
  conv in (execs (_ :: _) _) => arg 1; arg 1; whnf
  conv in (execs (_ :: _) _) => arg 1; arg 2; arg 1; whnf
  conv in (envOfC _ _ _ _ _) => arg 2; whnf
  iterate 8 walk1
  rename Fr _ _ _ _ => F1
  rename News _ _ _ _ => N1
  obtain ⟨rt, n1, hrlt, F1, N1⟩ : ∃ rt n, (∀ p ∈ base, p.1 < rt) ∧ Fr h₀ L _ (fun y => if y = Str.ofString "roots" then some (.ref rt) else m y) ∧ News h₀ L _ ((rt, PySem.W.listOf #[Value.int 0 n] 0) :: base) := ⟨_, _, by assumption, F1, N1⟩
  have hbr : ∀ p ∈ base, p.1 ≠ rt := fun p hp => Nat.ne_of_lt (hrlt p hp)
  refine wpAny_execs_cons ?_
  refine' For_turns ?kF ?_ ?khs PassesOwn.never
  case kF => exact F1
  case khs => intro _; rfl
  walk1
  refine nameX_C N1 rfl (List.mem_cons_of_mem _ hc4) e4 ?_
  have hT1 := hOa.tab (N1 _ (List.mem_cons_of_mem _ had)).1 alo
  refine getMethod_tab_any (knd := strKind _ _) (enc := PyData.str) rfl hT1 ?_
  walk1
  refine call_values_tab hT1 F1 N1 ?_
  intro h2 ov hv F2 N2
  have N2' : News h₀ L h2 ((rt, PySem.W.listOf #[Value.int 0 n1] 0) :: base) := fun p hp => N2 p (.tail _ hp)
  have had2 := N2' (ad, oad) (List.mem_cons_of_mem _ had)
  refine Iter_vals (D := Da) hA (hOa.tab had2.1 alo) hv had2.2.1 F2 N2' (fun i m' news => ∃ rs rv n, (∀ y, y ≠ Str.ofString "weight" → y ≠ Str.ofString "roots" → m' y = m y) ∧ m' (Str.ofString "roots") = some (.ref rt) ∧ news = (rt, PySem.W.listOf (List.toArray rv) n) :: base ∧ IntsAre rv rs ∧ rs.Pairwise (· < ·) ∧ (∀ x, x ∈ rs ↔ x = 0 ∨ x ∈ (Da.take i).map (·.2)) ∧ rs.length ≤ i + 1)
    ⟨[0], [.int 0 n1], 0, fun y _ h => if_neg h, if_pos rfl, rfl, .cons _ _ .nil, List.pairwise_singleton .., fun x => by simp, Nat.le_refl _⟩ ?_ ?_
  · rintro i k c t m₁ news₁ h₁ tk₁ own I hi ⟨rs, rv, n, hm1, hmr, rfl, hI, hP, hMem, hLen⟩ hoff hown ⟨oI, hoI⟩ T3 F₁ N₁
    have hiD : i < Da.length := (List.getElem?_eq_some_iff.mp hi).1
    iterate 15 walk1
    rename Fr _ _ _ _ => F3
    rename News _ _ _ _ => N3
    have gr := N3 (rt, PySem.W.listOf (List.toArray rv) n) (by first | ((repeat (first | exact .head _ | refine .tail _ ?_)); done) | simp)
    refine bisL_spec (W.keeps F3.keep) hA (by omega) ⟨_, gr.1, rfl, _, rfl⟩ hI (by omega) (sorted_of hP) ?_
    intro h4 tk4 t4 i4 hk4 hat4
    have F4 := fr_ext F3 hk4
    have N4 := news_ext N3 hk4
    clear F3 N3
    iterate 9 walk1
    have gr4 := N4 (rt, PySem.W.listOf (List.toArray rv) n) (by first | ((repeat (first | exact .head _ | refine .tail _ ?_)); done) | simp)
    refine bisR_spec (W.keeps F4.keep) hA (by omega) ⟨_, gr4.1, rfl, _, rfl⟩ hI (by omega) (sorted_of hP) ?_
    intro h5 tk5 t5 i5 hk5 hat5
    have F5 := fr_ext F4 hk5
    have N5 := news_ext N4 hk5
    clear F4 N4
    have hmi := ins_mem hat4 hat5
    iterate 2 walk1
    have htk : (Da.take (i + 1)).map (·.2) = (Da.take i).map (·.2) ++ [c] := by rw [List.take_add_one, hi, List.map_append]; rfl
    have hm1' : ∀ y, y ≠ Str.ofString "weight" → y ≠ Str.ofString "roots" → (if y = Str.ofString "weight" then some (Value.int c t) else m₁ y) = m y := fun y h1 h2 => (if_neg h1).trans (hm1 y h1 h2)
    have hoff' : ∀ rv' n', ∀ p ∈ ((rt, PySem.W.listOf (List.toArray rv') n') :: base), p.1 ∉ [I] := fun rv' n' p hp e => by
      have e := List.mem_singleton.mp e
      rcases List.mem_cons.mp hp with rfl | hp
      · exact hoff (rt, PySem.W.listOf (List.toArray rv) n) (List.mem_cons_self ..) e
      · exact hoff p (List.mem_cons_of_mem _ hp) e
    by_cases h45 : i4 = i5
    · rw [if_pos (by simp [h45])]
      have hnc := hmi.mp h45
      iterate 11 walk1
      have N6 : News h₀ L h5 ((rt, PySem.W.listOf (List.toArray rv) n) :: (own ++ base)) := fun p hp => N5 p (by
        simp only [List.mem_append, List.mem_cons] at hp ⊢
        rcases hp with h | h | h <;> repeat (first | exact h | exact .inl h | (refine .inl ?_; (repeat (first | exact h | exact .inl h | refine .inr ?_)); done) | refine .inr ?_))
      have hne : ∀ p ∈ own ++ base, p.1 ≠ rt := by
        intro p hp
        rcases List.mem_append.mp hp with hp | hp
        · rcases hown p hp with e | e
          · exact fun q => hoff (rt, PySem.W.listOf (List.toArray rv) n) (List.mem_cons_self ..) (q ▸ e)
          · rw [e]; exact hbr (ad, oad) had
        · exact hbr p hp
      refine insort_spec (ns := rs) (vs := rv) (W.keeps (kept_hide F5 N6 (List.mem_cons_self ..))) hA (by omega) (N6 (_, _) (List.mem_cons_self ..)).1 hI (by omega) (sorted_of hP) ?_
      intro h8 tk8 i8 hk8 hat8 hl8
      obtain ⟨F8, N8⟩ := turn_fn F5 N6 hne hk8 hl8
      have N9 : News h₀ L h8 (own ++ ((rt, PySem.W.listOf (List.toArray (List.take i8 rv ++ Value.int c t :: List.drop i8 rv)) (n + 1)) :: base)) := fun p hp => N8 p (by
        simp only [List.mem_append, List.mem_cons] at hp ⊢
        rcases hp with h | h | h <;> repeat (first | exact h | exact .inl h | (refine .inl ?_; (repeat (first | exact h | exact .inl h | refine .inr ?_)); done) | refine .inr ?_))
      clear F5 N5 N6 N8
      iterate 2 walk1
      refine LoopStepU.intro F8 N9 (hoff' _ _) ⟨rs.take i8 ++ c :: rs.drop i8, rv.take i8 ++ .int c t :: rv.drop i8, n + 1, hm1', (if_neg (by decide)).trans hmr, rfl, intsAre_ins hI c t i8, ins_pair hP hat8 hnc, fun x => ?_, ?_⟩
      · rw [htk, ins_memb, hMem, List.mem_append, List.mem_singleton]
        constructor
        · rintro (h | h | h)
          · exact .inr (.inr h)
          · exact .inl h
          · exact .inr (.inl h)
        · rintro (h | h | h)
          · exact .inr (.inl h)
          · exact .inr (.inr h)
          · exact .inl h
      · have := List.take_append_drop i8 rs
        have e := congrArg List.length this
        rw [List.length_append] at e
        rw [List.length_append, List.length_cons]; omega
    · rw [if_neg (by simp; omega)]
      have hc : c ∈ rs := Decidable.of_not_not fun q => h45 (hmi.mpr q)
      iterate 2 walk1
      refine LoopStepU.intro F5 N5 (hoff' _ _) ⟨rs, rv, n, hm1', (if_neg (by decide)).trans hmr, rfl, hI, hP, fun x => ?_, by omega⟩
      rw [htk, hMem, List.mem_append, List.mem_singleton]
      constructor
      · rintro (h | h)
        · exact .inl h
        · exact .inr (.inl h)
      · rintro (h | h | rfl)
        · exact .inl h
        · exact .inr h
        · exact (hMem _).mp hc
  · rintro h7 tk7 m7 news7 F7 N7 ⟨rs, rv, n, hm1, hmr, rfl, hI, hP, hMem, hLen⟩
    rw [List.take_length] at hMem
    exact next _ _ _ rt rv rs n F7 hm1 hmr N7 hbr hI hP hMem hLen
end Mine
end

/-! ## L9 -/
section
theorem Mine.offL9 : True := by w_top off; trivial
open PySem PySem.W PySem.Calls PyProof.Rows PyProof.V
set_option Elab.async false
set_option maxRecDepth 100000
namespace Mine
set_option maxHeartbeats 16000000
local macro_rules | `(tactic| walk_at "eval Name") => `(tactic| (k_here; k_dflt (refine' nameX_L ?k1 ?k2 ?_; (case k1 => k_asm); (case k2 => repeat (first | assumption | refine (if_neg (by decide)).trans ?_)); k_whole)))







theorem strsAre_snoc {vs : List Value} {ws : List Str} (x : PyProof.Rows.StrsAre vs ws) (a : Str) (t : Tok) : PyProof.Rows.StrsAre (vs ++ [.str a t]) (ws ++ [a]) := by
  induction x with
  | nil => exact .cons a t .nil
  | cons b u _ ih => exact .cons b u ih
theorem restP_ind2 {prog : Program} {w : World} {A : Around} {h₀ : Heap} {L : Addr} {m : Str → Option Value} {env : Env} {elt : Expr} {x x₂ : Str} {scope : Scope} {cl : List (Str × Addr)} {s : Shared} {S : List (Addr × Obj) → Prop} {P : Nat → Value → Prop} {Fin : List Value → List (Addr × Obj) → Prop} {news : List (Addr × Obj)}
    (R : Nat → Nat → List Value → Prop) (fin : ∀ i ys, R 0 i ys → Fin ys news)
    (step : ∀ k i ys, R (k + 1) i ys → ∀ v, P i v → ∃ (t : Addr) (ot : Obj) (v₁ v₂ : Value) (nt : Nat), v = .ref t ∧ (t, ot) ∈ news ∧ ot.cls = .type "tuple" ∧ ot.data = .seq #[v₁, v₂] nt ∧
      ∀ I oI C oC D m₂ h tk (E' : Value → Shared → Prop), LCg.NsObj oC m₂ → m₂ x = some v₁ → m₂ x₂ = some v₂ → Fr h₀ L h m → News h₀ L h ((I, oI) :: (C, oC) :: (D, LCg.lst ys) :: news) → LCg.Off3 I C D news → ((@Ne Nat I C) ∧ (@Ne Nat I D) ∧ (@Ne Nat C D)) →
      wpAny (model prog w) A (eval elt (compEnvC scope cl C env)) (LCg.CompEnd h₀ L m { s with heap := h, toks := tk } I oI C oC D (LCg.lst ys) S (fun y news' => news' = news ∧ R k (i + 1) (ys ++ [y]))) E' { s with heap := h, toks := tk }) :
    ∀ k i ys, R k i ys → LCp.CompRestP prog w A h₀ L m env elt x x₂ scope cl s S P Fin k i ys news := by
  intro k
  induction k with
  | zero => intro i ys r; exact LCp.CompRestP.zero (fin i ys r)
  | succ k ih =>
    intro i ys r
    refine LCp.CompRestP.succ fun v hv => ?_
    obtain ⟨t, ot, v₁, v₂, nt, a, b, c, d, e⟩ := step k i ys r v hv
    refine ⟨t, ot, v₁, v₂, nt, a, b, c, d, fun I oI C oC D m₂ h tk E' x1 x2 x3 x4 x5 x6 x7 => ?_⟩
    exact wpAny_mono (e I oI C oC D m₂ h tk E' x1 x2 x3 x4 x5 x6 x7) (fun y s'' z => compEnd_mono z fun n ⟨e1, r'⟩ => e1 ▸ ih _ _ r') fun _ _ x => x
theorem seg9 {w : World} {mean : ExcName → Option Value} {mg mb : Str → Option Value} {A : Around} {E : Value → Shared → Prop} {Q : Flow → Shared → Prop} {s : Shared} {h₀ : Heap} {L : Nat} {fa il : Addr} {cd : Value} {m : Str → Option Value} {items : List Value} {k : Nat} {objs base : List (Addr × Obj)} {SL : List (Str × Str)} {st : Str} {B : List Stmt}
    (eB : LB.drop 15 = B) (W : Wd w mean mg mb h₀) (hA : A.handled = none) (F : Fr h₀ L s.heap m) (N : News h₀ L s.heap base) (hil : (il, PySem.W.listOf items.toArray k) ∈ base) (hob : ∀ p ∈ objs, p ∈ base) (hTL : TL objs items SL) (hsl : SL.length ≤ 10) (hnl : ∀ p ∈ SL, p.1.length ≤ 100)
    (mi : m (Str.ofString "items") = some (.ref il)) (hst : Txt.lower (Txt.join (Str.ofString "") (SL.map (·.1))) = st) (hjl : (Txt.join (Str.ofString "") (SL.map (·.1))).length ≤ 100)
    (next : ∀ h' tk d od tp, Fr h₀ L h' (fun y => if y = Str.ofString "product" then some (.int 1 tp) else if y = Str.ofString "table" then some (.ref d) else m y) → News h₀ L h' ((d, od) :: base) → OD w od [(st, 1)] → (d == sysModules) = false → (∀ p ∈ base, p.1 ≠ d) →
      wpAny (model PR w) A (execs (LB.drop 17) (envOfC (Str.ofString "law") LS L fa cd)) Q E { s with heap := h', toks := tk }) :
    wpAny (model PR w) A (execs B (envOfC (Str.ofString "law") LS L fa cd)) Q E s := by
  subst eB
  obtain ⟨K, T⟩ := id W
  rw [cut 15 (by decide), cut 16 (by decide)]
  generalize List.drop (16 + 1) LB = stmts at *
  conv in (execs (_ :: _) _) => arg 1; arg 1; whnf
  conv in (execs (_ :: _) _) => arg 1; arg 2; arg 1; whnf
  conv in (envOfC _ _ _ _ _) => arg 2; whnf
  iterate 2 walk1
  refine kdn_eval (knd := strKind PR w) F N T.nolimit rfl rfl (List.cons_ne_nil _ _) (by decide) ?_
  intro d2 h2 o2 F2 N2 lt2 lo2 hd2
  iterate 7 walk1
  refine' LCp.ListComp_P (s := ⟨_, _, _, _, _⟩) (cl := ?cl) F2 ?h1 ?h2 ?h3 ?h4 ?h5 ?h7 ?h8 ?_ ?h6
  case h1 => with_unfolding_all rfl
  case h2 => decide
  case h3 => rfl
  case h4 => decide
  case h5 => rfl
  case h6 => intro _; rfl
  case h7 => rfl
  case h8 => decide
  walk1
  have hil2 : (il, PySem.W.listOf items.toArray k) ∈ (d2, o2) :: base := List.mem_cons_of_mem _ hil
  refine LCp.SrcLP.ledger hA F2 N2 (k := k) (its := items.toArray) hil2 (Nat.le_trans (by rw [List.size_toArray, hTL.len]; exact hsl) (by decide)) ?_
  intro g5
  refine restP_ind2 (fun k' i ys => k' + i = SL.length ∧ PyProof.Rows.StrsAre ys ((SL.map (·.1)).take i)) ?_ ?_ _ _ _ ⟨by rw [List.size_toArray, hTL.len]; omega, .nil⟩
  · rintro i ys ⟨hi, hys⟩ D h' tk' F' N' off
    have : i = SL.length := by omega
    subst this
    rw [List.take_of_length_le (by rw [List.length_map]; exact Nat.le_refl _)] at hys
    walk1
    refine join_listW (x := Str.ofString "") ⟨_, N'.get (a := D) (o := LCg.lst ys) (by first | ((repeat (first | exact .head _ | refine .tail _ ?_)); done) | simp), rfl, _, rfl⟩ hys (by decide) ?_ ?_
    · have hsum : ∀ l : List (Str × Str), (∀ p ∈ l, p.1.length ≤ 100) → ((l.map (·.1)).map (·.length)).sum ≤ 100 * l.length := by
        intro l
        induction l with
        | nil => intro _; simp
        | cons p r ih =>
          intro h
          have h1 := h p (List.mem_cons_self ..)
          have h2 := ih fun q hq => h q (List.mem_cons_of_mem _ hq)
          simp only [List.map_cons, List.sum_cons, List.length_cons]; omega
      have := hsum SL hnl
      rw [List.length_map]
      omega
    intro t6 k6
    iterate 2 walk1
    refine SCL.lower (Nat.le_trans hjl (by decide)) ?_
    intro tl
    rw [hst]
    have N6 : News h₀ L h' ((d2, o2) :: base) := fun p hp => N' p (List.mem_cons_of_mem _ hp)
    clear N'
    iterate 2 walk1
    refine kdn_made_strF F' N6 (UpdF.head (fun p hp => Nat.ne_of_lt (lt2 p hp))) hd2 rfl (List.nodup_cons.mpr ⟨List.not_mem_nil, List.nodup_nil⟩) rfl ?_
    intro h17 o17 F17 N17 hd17 hf17
    have hO2 : OD w o17 [(st, 1)] := ⟨_, hd17, hf17⟩
    clear F' N6
    iterate 6 walk1
    rename Fr _ _ _ _ => F20
    rename News _ _ _ _ => N20
    exact next _ _ _ _ _ F20 N20 hO2 lo2 fun p hp => Nat.ne_of_lt (lt2 p hp)
  · rintro k' i ys ⟨hi, hys⟩ v hP
    obtain ⟨t, ot, a, b, ta, tb, nt, rfl, hm, hc, hd, hL⟩ := hTL.item i v (by simpa using hP)
    refine ⟨t, ot, .str a ta, .str b tb, nt, rfl, List.mem_cons_of_mem _ (hob _ hm), hc, hd, ?_⟩
    intro I oI C oC D m₂ h5 tk5 E' hC hm1 hm2 F5 N5 hoff5 hne
    walk1
    refine LCg.CompEnd.intro F5 N5 _ (fun p hp => hp) hoff5 (.inr ⟨_, hil2, rfl, _, rfl⟩) ⟨rfl, by omega, ?_⟩
    rw [List.take_add_one, List.getElem?_map, hL]
    exact strsAre_snoc hys a ta
end Mine
end

/-! ## L10 -/
section
theorem Mine.offL10 : True := by w_top off; trivial
open PySem PySem.W PySem.Calls PyProof.Rows PyProof.V
set_option Elab.async false
set_option maxRecDepth 100000
namespace Mine
set_option maxHeartbeats 16000000
local macro_rules | `(tactic| walk_at "eval Name") => `(tactic| (k_here; k_dflt (refine' nameX_L ?k1 ?k2 ?_; (case k1 => k_asm); (case k2 => repeat (first | assumption | refine (if_neg (by decide)).trans ?_)); k_whole)))








section
variable {prog : Program} {w : World} {A : Around} {E : Value → Shared → Prop} {s : Shared} {env : Env} {h₀ : Heap} {m₀ : Str → Option Value} {news : List (Addr × Obj)} {l : Addr} {items : Array Value} {x : Str} {body : List Stmt} {Q : Flow → Shared → Prop}
theorem Iter_list (hh : A.handled = none) (hl : s.heap.IsList l items) (hlL : l ≠ env.locals)
    (F : Fr h₀ env.locals s.heap m₀) (N : News h₀ env.locals s.heap news)
    (J : Nat → (Str → Option Value) → List (Addr × Obj) → Prop) (h0 : J 0 m₀ news)
    (turn : ∀ i v m₁ news₁ s₁ own, items[i]? = some v → J i m₁ news₁ → (∀ p ∈ news₁, p.1 ≠ s.heap.objs.size) → (∀ p ∈ own, p.1 = s.heap.objs.size ∨ p.1 = l) → (∃ oI : Obj, (s.heap.objs.size, oI) ∈ own) →
      Fr h₀ env.locals s₁.heap (fun y => if y = x then some v else m₁ y) → News h₀ env.locals s₁.heap (own ++ news₁) →
      wpAny (model prog w) A (execs body env) (LoopStepU h₀ env.locals [s.heap.objs.size] own (J (i + 1)) s₁) E s₁)
    (done : ∀ h' tk m' news', Fr h₀ env.locals h' m' → News h₀ env.locals h' news' → J items.size m' news' → Q .next { s with heap := h', toks := tk }) :
    wpAny (model prog w) A (pyIter (.ref l)) (fun it s₂ => LoopAtU prog w A h₀ env x body Q E it s₂) E s := by
  refine wpAny_pyIter_list hl ?_
  have hlt : l < s.heap.objs.size := by obtain ⟨_, e, _⟩ := hl; exact Heap.lt_size e
  refine ⟨s.heap.objs.size, _, _, items.size, _, _, m₀, news, J, rfl, Walks.list hh s.heap.objs.size l (Nat.ne_of_lt hlt) items, ?_, ?_, ?_, ?_, F.push _, fun p hp => ⟨Heap.get?_push_of_some _ (N p hp).1, (N p hp).2⟩, h0, ?_, ?_⟩
  · intro hm
    rcases List.mem_cons.mp hm with e | hm
    · exact absurd F.ns.lt (e ▸ Nat.lt_irrefl _)
    · exact hlL (List.mem_singleton.mp hm).symm
  · intro b hb
    rw [List.mem_singleton.mp hb]
    exact next_is_new F
  · intro p hp hI
    exact absurd (Heap.lt_size (N p hp).1) ((List.mem_singleton.mp hI) ▸ Nat.lt_irrefl _)
  · exact ⟨⟨_, Heap.get?_push_size _ rfl, rfl, rfl⟩, hl.push _⟩
  · rintro i v m₁ news₁ s₁ own hi hP hJ hnw hown hat hall ⟨⟨oI, hoI, _⟩, _⟩ F₁ N₁
    refine turn i v m₁ news₁ s₁ own hP hJ (fun p hp e => hnw p hp (List.mem_singleton.mpr e)) (fun p hp => ?_) ⟨oI, hall _ (List.mem_cons_self ..) (next_is_new F) _ hoI⟩ F₁ N₁
    rcases List.mem_cons.mp (hown p hp) with e | e
    · exact .inl e
    · exact .inr (List.mem_singleton.mp e)
  · intro h' tk m' news' F' N' _ hJ
    exact done h' tk m' news' F' N' hJ
end
noncomputable def roundsD (Da : List (Str × Int)) (st : Str) (rs : List Int) : List (Str × Int) := rs.foldl (fun T r => roundD (fun o => movesD o Da) r T) [(st, 1)]
noncomputable def prodD (S : Int) (rs : List Int) : Int := rs.foldl (fun p r => p * (S - r)) 1
/-- what the rounds' numbers must fit -/
structure RoundFits (Da : List (Str × Int)) (st : Str) (rs : List Int) (i : Nat) : Prop where
  dom : ∀ p ∈ roundsD Da st (rs.take i), p.1 ∈ O6
  len : (roundsD Da st (rs.take i)).length ≤ 40
  mul1 : ∀ p ∈ roundsD Da st (rs.take i), IntMulOk (-(rs.getD i 0)) p.2
  mul2 : ∀ p ∈ roundsD Da st (rs.take i), ∀ q ∈ movesD p.1 Da, IntMulOk q.2 p.2
  mul3 : IntMulOk (prodD (Da.map (·.2)).sum (rs.take i)) ((Da.map (·.2)).sum - rs.getD i 0)
theorem seg10 {w : World} {mean : ExcName → Option Value} {mg mb : Str → Option Value} {A : Around} {Q : Flow → Shared → Prop} {s : Shared} {h₀ : Heap} {L : Nat} {fa ad rt fd td : Addr} {cd : Value} {m : Str → Option Value} {c4 oad ofd otd : Obj} {Da : List (Str × Int)} {base fo : List (Addr × Obj)} {rv : List Value} {rs : List Int} {n : Nat} {st : Str} {tp : Tok}
    (W : Wd w mean mg mb h₀) (hA : A.handled = none) (hroom : A.depth + 10 < recursionLimit) (F : Fr h₀ L s.heap m) (N : News h₀ L s.heap ((td, otd) :: base)) (hbt : ∀ p ∈ base, p.1 ≠ td) (hc4 : (L + 1 + 1 + 1 + 1, c4) ∈ base) (had : (ad, oad) ∈ base) (hrt : (rt, PySem.W.listOf (List.toArray rv) n) ∈ base) (hfd : (fd, ofd) ∈ base) (hfo : ∀ p ∈ fo, p ∈ base)
    (e4 : c4.data = .cell (some (.ref ad))) (hOa : OD w oad Da) (alo : (ad == sysModules) = false) (hFO : FlowObjs w ofd fo Da) (flo : (fd == sysModules) = false) (hOt : OD w otd [(st, 1)]) (tlo : (td == sysModules) = false)
    (hI : IntsAre rv rs) (hrl : rs.length ≤ 20) (mr : m (Str.ofString "roots") = some (.ref rt)) (mf : m (Str.ofString "flows") = some (.ref fd)) (mt : m (Str.ofString "table") = some (.ref td)) (mp : m (Str.ofString "product") = some (.int 1 tp))
    (hfl : ∀ k, (movesD k Da).length ≤ 10) (hDl : Da.length ≤ 10) (hfit : ∀ i, i < rs.length → RoundFits Da st rs i)
    (next : ∀ h' tk m' td otd tp, Fr h₀ L h' m' → (∀ y, y ≠ Str.ofString "root" → y ≠ Str.ofString "table" → y ≠ Str.ofString "product" → m' y = m y) → m' (Str.ofString "table") = some (.ref td) → m' (Str.ofString "product") = some (.int (prodD (Da.map (·.2)).sum rs) tp) → News h₀ L h' ((td, otd) :: base) → (∀ p ∈ base, p.1 ≠ td) → OD w otd (roundsD Da st rs) → (td == sysModules) = false →
      wpAny (model PR w) A (execs (LB.drop 18) (envOfC (Str.ofString "law") LS L fa cd)) Q (fun _ _ => False) { s with heap := h', toks := tk }) :
    wpAny (model PR w) A (execs (LB.drop 17) (envOfC (Str.ofString "law") LS L fa cd)) Q (fun _ _ => False) s := by
  obtain ⟨K, T⟩ := id W
  rw [cut 17 (by decide)]
  generalize List.drop (17 + 1) LB = stmts at *
  conv in (execs (_ :: _) _) => arg 1; arg 1; whnf
  conv in (envOfC _ _ _ _ _) => arg 2; whnf
  refine wpAny_execs_cons ?_
  refine' For_invU h₀ ?kx ?kp ?_ ?khs PassesOwn.never
  case kx => rfl
  case kp => rfl
  case khs => intro _; rfl
  walk1
  have grt := N (rt, PySem.W.listOf (List.toArray rv) n) (List.mem_cons_of_mem _ hrt)
  refine Iter_list hA ⟨_, grt.1, rfl, _, rfl⟩ grt.2.1 F N (fun i m' news => ∃ td otd tp, (∀ y, y ≠ Str.ofString "root" → y ≠ Str.ofString "table" → y ≠ Str.ofString "product" → m' y = m y) ∧ m' (Str.ofString "table") = some (.ref td) ∧ m' (Str.ofString "product") = some (.int (prodD (Da.map (·.2)).sum (rs.take i)) tp) ∧
    news = (td, otd) :: base ∧ (∀ p ∈ base, p.1 ≠ td) ∧ OD w otd (roundsD Da st (rs.take i)) ∧ (td == sysModules) = false) ⟨td, otd, tp, fun y _ _ _ => rfl, mt, mp, rfl, hbt, hOt, tlo⟩ ?_ ?_
  · rintro i v m₁ news₁ s₁ own hi ⟨td, otd, tp, hm1, hmt, hmp, rfl, hbt, hOt, tlo⟩ hoff hown ⟨oI, hoI⟩ F₁ N₁
    obtain ⟨r, t, rfl, hri⟩ := hI.at i v (by simpa using hi)
    have hmf : m₁ (Str.ofString "flows") = some (.ref fd) := (hm1 _ (by decide) (by decide) (by decide)).trans mf
    have hil : i < rs.length := (List.getElem?_eq_some_iff.mp hri).1
    have hgd : rs.getD i 0 = r := by rw [List.getD_eq_getElem?_getD, hri]; rfl
    obtain ⟨f1, f2, f3, f4, f5⟩ := hfit i hil
    rw [hgd] at f3 f5
    iterate 13 walk1
    refine round_spec (FL := fun o => movesD o Da) (dom := O6) (Dt := roundsD Da st (rs.take i)) (W.keeps F₁.keep) hA (by omega) (hOt.tab (N₁ (td, otd) (by first | ((repeat (first | exact .head _ | refine .tail _ ?_)); done) | simp)).1 tlo) (hFO.tab flo (N₁ (fd, ofd) (by simp [hfd])).1 fun p hp => (N₁ p (by simp [hfo p hp])).1) f1 f2 hfl f3 f4 ?_
    intro h2 tk2 r2 hk2 nr2 hr2
    have hrlo := hr2.1
    obtain ⟨or2, hor2, hO2⟩ := od_of hr2
    have neI : r2 ≠ s.heap.objs.size := fun e => by
      have := (N₁ (s.heap.objs.size, oI) (by simp [hoI])).1
      rw [← e, nr2] at this; cases this
    have hbr : ∀ p ∈ base, p.1 ≠ r2 := fun p hp e => by
      have := (N₁ p (by first | ((repeat (first | exact hp | refine .tail _ ?_)); done) | simp [hp])).1
      rw [e, nr2] at this; cases this
    have F2 := fr_ext F₁ hk2
    have N2' := news_in F₁ N₁ hk2 nr2 hor2
    have N2 : News h₀ L h2 (own ++ (r2, or2) :: base) := fun p hp => N2' p (by
      simp only [List.mem_append, List.mem_cons] at hp ⊢
      rcases hp with h | h | h <;> repeat (first | exact h | exact .inl h | (refine .inl ?_; (repeat (first | exact h | exact .inl h | refine .inr ?_)); done) | refine .inr ?_))
    clear F₁ N₁ N2'
    iterate 11 walk1
    rename Fr _ _ _ _ => F3
    rename News _ _ _ _ => N3
    refine nameX_C N3 rfl (List.mem_append_right _ (List.mem_cons_of_mem _ hc4)) e4 ?_
    iterate 2 walk1
    refine count_spec (D := Da) (W.keeps F3.keep) hA (by omega) (hOa.tab (N3 (ad, oad) (by simp [had])).1 alo) ?_
    intro h4 tk4 t4 hk4
    have F4 := fr_ext F3 hk4
    have N4 := news_ext N3 hk4
    clear F3 N3
    iterate 2 walk1
    refine mul_int ?_ f5
    walk1
    rename Fr _ _ _ _ => F6
    rename News _ _ _ _ => N6
    refine wpAny_execs_nil ?_
    have hts : rs.take (i + 1) = rs.take i ++ [r] := by rw [List.take_add_one, hri]; rfl
    have hpr : prodD (Da.map (·.2)).sum (rs.take (i + 1)) = prodD (Da.map (·.2)).sum (rs.take i) * ((Da.map (·.2)).sum - r) := by
      unfold prodD
      rw [hts, List.foldl_append]; rfl
    refine LoopStepU.intro F6 N6 (fun p hp e => ?_) ⟨r2, or2, _, fun y h1 h2 h3 => (if_neg h3).trans ((if_neg h2).trans ((if_neg h1).trans (hm1 y h1 h2 h3))), (if_neg (by decide)).trans (if_pos rfl), by rw [hpr]; exact if_pos rfl, rfl, hbr, ?_, hrlo⟩
    · have e := List.mem_singleton.mp e
      rcases List.mem_cons.mp hp with rfl | hp
      · exact neI e
      · exact hoff p (List.mem_cons_of_mem _ hp) e
    · unfold roundsD
      rw [hts, List.foldl_append]; exact hO2
  · rintro h7 tk7 m7 news7 F7 N7 ⟨td, otd, tp, hm1, hmt, hmp, rfl, hbt, hOt, tlo⟩
    rw [List.size_toArray, hI.length, List.take_length] at hmp hOt
    exact next _ _ _ td otd tp F7 hm1 hmt hmp N7 hbt hOt tlo
end Mine
end

/-! ## L11 -/
section
theorem Mine.offL11 : True := by w_top off; trivial
open PySem PySem.W PySem.Calls PyProof.Rows PyProof.V
set_option Elab.async false
set_option maxRecDepth 100000
namespace Mine
set_option maxHeartbeats 16000000
local macro_rules | `(tactic| walk_at "eval Name") => `(tactic| (k_here; k_dflt (refine' nameX_L ?k1 ?k2 ?_; (case k1 => k_asm); (case k2 => repeat (first | assumption | refine (if_neg (by decide)).trans ?_)); k_whole)))









section
variable {prog : Program} {w : World} {A : Around} {E : Value → Shared → Prop} {s : Shared}
theorem lsort_strs {h₀ : Heap} {L D : Addr} {m : Str → Option Value} {news : List (Addr × Obj)} {vs : List Value} {ss : List Str} {n : Nat} {Q : Value → Shared → Prop}
    (F : Fr h₀ L s.heap m) (N : News h₀ L s.heap ((D, PySem.W.listOf vs.toArray n) :: news)) (hne : ∀ q ∈ news, q.1 ≠ D) (hS : PyProof.Rows.StrsAre vs ss) (h64 : vs.length < 64)
    (h : ∀ (h' : Heap) (vs' : List Value) (ss' : List Str) (e : Nat), Fr h₀ L h' m → News h₀ L h' ((D, PySem.W.listOf vs'.toArray e) :: news) → PyProof.Rows.StrsAre vs' ss' → ss'.Perm ss → sortedS ss' = true → Q .none { s with heap := h' }) :
    wpAny (model prog w) A (call (.builtin "list.sort") [.ref D]) Q E s := by
  have gD := N (D, PySem.W.listOf vs.toArray n) (.head _)
  have ho : s.heap.get? D = some (seqObj "list" vs.toArray n) := gD.1
  refine wpAny_call_entry PyProof.Rows.slot_list_sort ⟨_, ho, rfl⟩ PyProof.Rows.entry_list_sort (list_sort_treeK strKind_oneLt ho hS.keysOf (fun v₁ v₂ rest e => keyKind_strs (by rw [← e]; exact hS)) h64 fun st' hp hs => ⟨.none, rfl, ?_⟩) (PyProof.Rows.args_list_sort _)
  obtain ⟨ss', h1, h2, h3⟩ := sorted_out_str hS hp hs
  obtain ⟨e, he⟩ := sortedHeap_at (vs := vs) (out := (arrOf st').map (·.2)) ho
  have old : ∀ b o, b ≠ D → s.heap.get? b = some o → (sortedHeap s.heap D vs ((arrOf st').map (·.2))).get? b = some o := fun b o hb e => by
    rw [sortedHeap_old hb (Heap.lt_size e)]; exact e
  refine h _ ((arrOf st').map (·.2)).toList ss' e (fr_ext1 F old (Ne.symm gD.2.1) gD.2.2) (fun p hp => ?_) h1 h2 h3
  rcases List.mem_cons.mp hp with rfl | hp
  · exact ⟨by rw [he, Array.toArray_toList], gD.2⟩
  · exact ⟨old _ _ (hne p hp) (N p (List.mem_cons_of_mem _ hp)).1, (N p (List.mem_cons_of_mem _ hp)).2⟩
end

/-- the place of an order -/
noncomputable def idxO (o : Str) : Int := (O6.idxOf o : Nat)
theorem idxO_lt : ∀ a ∈ O6, ∀ b ∈ O6, PySem.Spec.ltCps b.cps.toList a.cps.toList = false → idxO a ≤ idxO b := by decide +kernel
theorem idxO_inj : ∀ a ∈ O6, ∀ b ∈ O6, idxO a = idxO b → a = b := by decide +kernel
theorem idxO_rise : ∀ (l : List Str) (p : Str), p ∈ O6 → (∀ x ∈ l, x ∈ O6) → risingS p l = true → ((p :: l).map idxO).Pairwise (· ≤ ·)
  | [], p, _, _, _ => by simp
  | x :: r, p, hp, hl, h => by
    have h' : (!PySem.Spec.ltCps x.cps.toList p.cps.toList && risingS x r) = true := h
    rw [Bool.and_eq_true, Bool.not_eq_true'] at h'
    have hx := hl x (List.mem_cons_self ..)
    have ih := idxO_rise r x hx (fun y hy => hl y (List.mem_cons_of_mem _ hy)) h'.2
    have h1 := idxO_lt p hp x hx h'.1
    rw [List.map_cons, List.pairwise_cons]
    refine ⟨fun a ha => ?_, ih⟩
    rw [List.map_cons] at ha
    rcases List.mem_cons.mp ha with rfl | ha
    · exact h1
    · rw [List.map_cons, List.pairwise_cons] at ih
      exact Int.le_trans h1 (ih.1 a ha)
theorem idxO_map : ∀ (a b : List Str), (∀ x ∈ a, x ∈ O6) → (∀ x ∈ b, x ∈ O6) → a.map idxO = b.map idxO → a = b
  | [], [], _, _, _ => rfl
  | [], _ :: _, _, _, h => by cases h
  | _ :: _, [], _, _, h => by cases h
  | x :: r, y :: t, ha, hb, h => by
    rw [List.map_cons, List.map_cons, List.cons.injEq] at h
    rw [idxO_inj x (ha x (List.mem_cons_self ..)) y (hb y (List.mem_cons_self ..)) h.1, idxO_map r t (fun z hz => ha z (List.mem_cons_of_mem _ hz)) (fun z hz => hb z (List.mem_cons_of_mem _ hz)) h.2]
theorem sorted_O6 {l : List Str} (hp : l.Perm O6) (hs : sortedS l = true) : l = O6 := by
  have hm : ∀ x ∈ l, x ∈ O6 := fun x hx => hp.mem_iff.mp hx
  have h1 : (l.map idxO).Pairwise (· ≤ ·) := by
    cases l with
    | nil => simp
    | cons x r => exact idxO_rise r x (hm x (List.mem_cons_self ..)) (fun y hy => hm y (List.mem_cons_of_mem _ hy)) hs
  have h2 : (O6.map idxO).Pairwise (· ≤ ·) := by decide +kernel
  exact idxO_map l O6 hm (fun _ h => h) (lks_uniq (hp.map idxO) h1 h2)
noncomputable def sts (L : List Str) : List PyData := L.map .str
theorem reads_strs {h : Heap} {vs : List Value} {L : List Str} (T : PyProof.Rows.StrsAre vs L) : ∃ as, ReadsAll h vs (sts L) as := by
  induction T with
  | nil => exact ⟨_, ReadsAll.nil⟩
  | cons y t _ ih =>
    obtain ⟨as, r⟩ := ih
    exact ⟨_, ReadsAll.cons (Reads.str _ _) r⟩
theorem StrsAre.kit {vs : List Value} {ws : List Str} (x : StrsAre vs ws) : PyProof.Rows.StrsAre vs ws := by
  induction x with
  | nil => exact .nil
  | cons a t _ ih => exact .cons a t ih
theorem strs_of : ∀ {vs : List Value} {D : List (Str × Int)}, vs.length = D.length → (∀ (j : Nat) (v : Value), vs[j]? = some v → ∃ (k : Str) (c : Int) (t : Tok), D[j]? = some (k, c) ∧ v = Value.str k t) → PyProof.Rows.StrsAre vs (D.map (·.1))
  | [], [], _, _ => .nil
  | [], _ :: _, h, _ => by cases h
  | _ :: _, [], h, _ => by cases h
  | v :: r, p :: t, hl, h => by
    obtain ⟨k, c, tk, e1, rfl⟩ := h 0 v rfl
    rw [List.getElem?_cons_zero] at e1
    rw [Option.some.inj e1]
    exact .cons k tk (strs_of (by simpa using hl) fun j u hu => by have := h (j + 1) u (by rw [List.getElem?_cons_succ]; exact hu); rw [List.getElem?_cons_succ] at this; exact this)
theorem seg11 {w : World} {mean : ExcName → Option Value} {mg mb : Str → Option Value} {A : Around} {E : Value → Shared → Prop} {Q : Flow → Shared → Prop} {s : Shared} {h₀ : Heap} {L : Nat} {fa ol td : Addr} {cd : Value} {m : Str → Option Value} {otd : Obj} {TT : List (Str × Int)} {base : List (Addr × Obj)} {oys : List Value}
    (W : Wd w mean mg mb h₀) (hA : A.handled = none) (hu : A.units + 64 < cLine) (F : Fr h₀ L s.heap m) (N : News h₀ L s.heap ((td, otd) :: base)) (hol : (ol, LCg.lst oys) ∈ base) (hoys : StrsAre oys O6) (hOt : OD w otd TT) (tlo : (td == sysModules) = false) (hperm : (TT.map (·.1)).Perm O6)
    (mt : m (Str.ofString "table") = some (.ref td)) (mo : m (Str.ofString "orders") = some (.ref ol))
    (next : ∀ h' tk, Fr h₀ L h' m → News h₀ L h' ((td, otd) :: base) →
      wpAny (model PR w) A (execs (LB.drop 19) (envOfC (Str.ofString "law") LS L fa cd)) Q E { s with heap := h', toks := tk }) :
    wpAny (model PR w) A (execs (LB.drop 18) (envOfC (Str.ofString "law") LS L fa cd)) Q E s := by
  obtain ⟨K, T⟩ := id W
  rw [cut 18 (by decide)]
  generalize List.drop (18 + 1) LB = stmts at *
  conv in (execs (_ :: _) _) => arg 1; arg 1; whnf
  conv in (envOfC _ _ _ _ _) => arg 2; whnf
  iterate 8 walk1
  have gtd := N (td, otd) (.head _)
  have hT := hOt.tab gtd.1 tlo
  have hnd := StrTab.nodup hT
  obtain ⟨lo, kvs, hdo, hf⟩ := id hT
  obtain ⟨ep, hat⟩ := hdo.dictAt
  have hlen : TT.length = kvs.length := by rw [← hf.length, tb_length]
  have hl6 : TT.length = 6 := by have := hperm.length_eq; rw [List.length_map] at this; exact this
  walk1
  refine kdu_sorted (kdl_dict (knd := strKind PR w) (kvs := kvs) (ep := ep) lo) hA F N hat (by rw [← hlen, hl6]; decide) ?_
  intro D h' tk vs F1 N1 l1 hvl hv
  have hvs : PyProof.Rows.StrsAre vs (TT.map (·.1)) := strs_of (by rw [hvl, hlen]) fun j v e => by
    obtain ⟨k, x, hkx, hk⟩ := hv j v e
    obtain ⟨dv, hDi, _⟩ := hf.at hkx
    obtain ⟨x', c, hxi, hk', rfl⟩ := tb_get hDi
    cases hk'
    obtain ⟨t, rfl⟩ := Value.isStrOf_shape hk
    exact ⟨k, c, t, hxi, rfl⟩
  refine lsort_strs F1 N1 (fun q hq => Nat.ne_of_lt (l1 q hq)) hvs (by rw [hvl, ← hlen, hl6]; decide) ?_
  intro h2 vs2 ss2 e2 F2 N2 hvs2 hp2 hs2
  obtain rfl : ss2 = O6 := sorted_O6 (hp2.trans hperm) hs2
  walk1
  obtain ⟨as1, ra⟩ := reads_strs hvs2
  obtain ⟨as2, rb⟩ := reads_strs hoys.kit
  have gD := N2.get (a := D) (o := PySem.W.listOf vs2.toArray e2) (by first | ((repeat (first | exact .head _ | refine .tail _ ?_)); done) | simp)
  have go := N2.get (a := ol) (o := LCg.lst oys) (by simp [hol])
  have hsh : SeqAt.shaped (.list (sts O6)) = true := by decide +kernel
  have hcl : (PyData.list (sts O6)).canLay0 = true := by decide +kernel
  refine ne_dataH (reads_list_at gD rfl rfl (by simpa [PySem.W.listOf] using ra)) (reads_list_at go rfl rfl (by simpa using rb)) hsh hsh hu ?_
  rw [SeqAt.eqv_refl _ hcl]
  iterate 3 walk1
  refine wpAny_execs_nil ?_
  exact next _ _ F2 fun p hp => N2 p (List.mem_cons_of_mem _ hp)
end Mine
end

/-! ## L12 -/
section
theorem Mine.offL12 : True := by w_top off; trivial
open PySem PySem.W PySem.Calls PyProof.Rows PyProof.V
set_option Elab.async false
set_option maxRecDepth 100000
namespace Mine
set_option maxHeartbeats 16000000
local macro_rules | `(tactic| walk_at "eval Name") => `(tactic| (k_here; k_dflt (refine' nameX_L ?k1 ?k2 ?_; (case k1 => k_asm); (case k2 => repeat (first | assumption | refine (if_neg (by decide)).trans ?_)); k_whole)))










/-- what a book's readers weigh -/
noncomputable def WSn (bs rs : List Int) (i : Int) (n : Nat) : List Int := ((List.range n).filter fun k => bs.getD k 0 == i).map fun (k : Nat) => wt (rs.getD k 0)
theorem WSn_succ (bs rs : List Int) (i : Int) (n : Nat) : WSn bs rs i (n + 1) = WSn bs rs i n ++ if bs.getD n 0 = i then [wt (rs.getD n 0)] else [] := by
  unfold WSn
  rw [List.range_succ, List.filter_append, List.map_append]
  congr 1
  by_cases h : bs.getD n 0 = i
  · rw [if_pos h, List.filter_cons, if_pos (by simp only [beq_iff_eq]; exact h)]; rfl
  · rw [if_neg h, List.filter_cons, if_neg (by simp only [beq_iff_eq]; exact h)]; rfl
noncomputable def SZ (bs rs : List Int) (i : Nat) : Int := (WSn bs rs (i : Int) 8).sum
noncomputable def sizesT (bs rs : List Int) : Nat → List (Str × Int)
  | 0 => []
  | n + 1 => put (sizesT bs rs n) (bk n) (SZ bs rs n)
theorem seg12 {w : World} {mean : ExcName → Option Value} {mg mb : Str → Option Value} {A : Around} {E : Value → Shared → Prop} {Q : Flow → Shared → Prop} {s : Shared} {h₀ : Heap} {L : Nat} {fa rl bl : Addr} {cd : Value} {m : Str → Option Value} {c1 c2 c3 c4 c5 c6 : Obj} {rv bv : List Value} {rs bs : List Int} {rest : List (Addr × Obj)}
    (W : Wd w mean mg mb h₀) (hA : A.handled = none) (F : Fr h₀ L s.heap m) (N : News h₀ L s.heap ((L + 1 + 1 + 1 + 1 + 1 + 1, c6) :: (L + 1 + 1 + 1 + 1 + 1, c5) :: (L + 1 + 1 + 1 + 1, c4) :: (L + 1 + 1 + 1, c3) :: (L + 1 + 1, c2) :: (L + 1, c1) :: (bl, LCg.lst bv) :: (rl, PySem.W.listOf (List.toArray rv) 0) :: rest)) (hoff : Off L ((bl, LCg.lst bv) :: (rl, PySem.W.listOf (List.toArray rv) 0) :: rest))
    (e3 : c3.data = .cell (some (.ref rl))) (e5 : c5.data = .cell (some (.ref bl))) (e6 : c6.data = .cell none)
    (hIr : IntsAre rv rs) (hrs : rs.length = 8) (hI : IntsAre bv bs) (hlen : bs.length = 8)
    (next : ∀ h' tk b6 D oD, Fr h₀ L h' m → News h₀ L h' ((L + 1 + 1 + 1 + 1 + 1 + 1, b6) :: (L + 1 + 1 + 1 + 1 + 1, c5) :: (L + 1 + 1 + 1 + 1, c4) :: (L + 1 + 1 + 1, c3) :: (L + 1 + 1, c2) :: (L + 1, c1) :: (D, oD) :: (bl, LCg.lst bv) :: (rl, PySem.W.listOf (List.toArray rv) 0) :: rest) → b6.data = .cell (some (.ref D)) → OD w oD (sizesT bs rs 3) → (D == sysModules) = false →
      wpAny (model PR w) A (execs (LB.drop 20) (envOfC (Str.ofString "law") LS L fa cd)) Q E { s with heap := h', toks := tk }) :
    wpAny (model PR w) A (execs (LB.drop 19) (envOfC (Str.ofString "law") LS L fa cd)) Q E s := by
  obtain ⟨K, T⟩ := id W
  have hrv : rv.length = 8 := by rw [hIr.length, hrs]
  rw [cut 19 (by decide)]
  generalize List.drop (19 + 1) LB = stmts at *
  conv in (execs (_ :: _) _) => arg 1; arg 1; whnf
  conv in (envOfC _ _ _ _ _) => arg 2; whnf
  iterate 2 walk1
  refine' DictComp_X (strKind PR w) (cl := ?cl) (n := 3) (R := fun i ys => FlatPairs PyData.str ys (tb (sizesT bs rs i))) F ?h1 ?h2 ?h3 ?h4 ?h5 ?h6 ?h7 ?_
  case h1 => with_unfolding_all rfl
  case h2 => exact fun _ _ => rfl
  case h3 => exact fun _ => rfl
  case h4 => rfl
  case h5 => decide
  case h6 => rfl
  case h7 => intro _; rfl
  iterate 7 walk1
  rename Fr _ _ _ _ => F1
  rename News _ _ _ _ => N1
  refine ⟨_, _, _, _, _, rfl, hA, by assumption, by decide, .nil, F1, N1, ?turn, ?fin⟩
  case turn =>
    intro i I C X D oI oC oX oD t ys h3 tk3 E' hi hR hyl dX F3 N3
    clear F1 N1
    iterate 4 walk1
    iterate 4 walk1
    rename Fr _ _ _ _ => F3
    rename News _ _ _ ((I, oI) :: _) => N3
    refine' LCt.ListComp_T (cl := ?cl2) F3 ?j1 ?j2 ?j3 ?j4 ?j5 ?_ ?j6
    case j1 => with_unfolding_all rfl
    case j2 => decide
    case j3 => rfl
    case j4 => decide
    case j5 => rfl
    case j6 => intro _; rfl
    iterate 10 walk1
    rename Fr _ _ _ _ => F4
    rename News _ _ _ ((I, oI) :: _) => N4
    refine PyProof.Rows.len_list (items := rv.toArray) ⟨_, N4.get (a := rl) (o := PySem.W.listOf (List.toArray rv) 0) (by first | ((repeat (first | exact .head _ | refine .tail _ ?_)); done) | simp), rfl, _, rfl⟩ (by rw [List.size_toArray, hrv]; decide) ?_
    rw [List.size_toArray, hrv]
    iterate 2 walk1
    rename Fr _ _ _ _ => F4
    rename News _ _ _ ((I, oI) :: _) => N4
    rename IsRange _ _ _ _ _ _ _ _ => hr4
    refine LCt.CompSrcT.range (n := 8) hA F4 N4 hr4 (small_one (by decide) (by decide) (by decide) (by decide)) (by rw [rangeSize_one]; rfl) (by decide) ?_
    intro g
    refine restT_ind (fun k j ys2 => k + j = 8 ∧ IntsAre ys2 (WSn bs rs i j)) ?_ ?_ _ _ _ ⟨rfl, .nil⟩
    · rintro j ys2 ⟨hj, hy2⟩ D2 h5 tk5 F5 N5 off5
      obtain rfl : j = 8 := by omega
      walk1
      refine sumK hA F5 N5 ⟨_, N5.get (a := D2) (o := LCg.lst ys2) (by first | ((repeat (first | exact .head _ | refine .tail _ ?_)); done) | simp), rfl, _, rfl⟩ hy2 ?_
      intro h6 tk6 t6 F6 N6
      refine ⟨_, _, bk i, rfl, F6, fun p hp => N6 p (List.mem_cons_of_mem _ hp), ?_, ?_⟩
      · rw [item_abc hi]; exact strKind_is PR w (bk i) _
      · show FlatPairs PyData.str _ (tb (put (sizesT bs rs i) (bk i) (SZ bs rs i)))
        rw [← putD_tb]
        exact hR.stored same_str (bk i) (Flat.int _ _)
    · rintro k j ys2 ⟨hj, hy2⟩ v I2 oI2 C2 oC2 D2 m₂ h5 tk5 E' hP hC hm2 F5 N5 hoff5 hne
      obtain ⟨tj, rfl⟩ := hP
      have hj8 : j < bs.length := by omega
      have hj8' : j < rs.length := by omega
      refine wpAny_isTrue_Compare1 ?_
      iterate 8 walk1
      · rename (List.getD bs (Int.toNat (0 + _)) 0 = _) => hc
        rw [show Int.toNat (0 + (j : Int)) = j by omega] at hc
        iterate 9 walk1
        iterate 4 walk1
        rw [show Int.toNat (0 + (j : Int)) = j by omega]
        rename Fr _ _ _ _ => F6
        rename News _ _ _ ((I2, oI2) :: _) => N6
        refine LCg.CompEnd.intro F6 N6 _ (fun p hp => hp) hoff5 trivial ⟨rfl, by omega, ?_⟩
        rw [WSn_succ, if_pos hc]
        exact intsAre_append hy2 (.cons _ _ .nil)
      · rename (List.getD bs (Int.toNat (0 + _)) 0 ≠ _) => hc
        rw [show Int.toNat (0 + (j : Int)) = j by omega] at hc
        refine LCg.CompEnd.intro F5 N5 _ (fun p hp => hp) hoff5 trivial ⟨rfl, by omega, ?_⟩
        rw [WSn_succ, if_neg hc, List.append_nil]
        exact hy2
  case fin =>
    rintro D oD ys h5 tk5 hR F5 N5 hdD hD hDs
    have hO : OD w oD (sizesT bs rs 3) := ⟨ys, hdD, hR⟩
    have hDlo : (D == sysModules) = false := by
      refine beq_eq_false_iff_ne.mpr fun q => ?_
      have h1 := modules_low (T.keeps F1.keep).nolimit
      rw [q] at hDs
      exact absurd (Nat.lt_trans h1 hDs) (Nat.lt_irrefl _)
    have hOD := Off.cons (p := (D, oD)) (off_all hD) hoff
    refine' store6 (s := ⟨_, _, _, _, _⟩) F5 (behind N5) ?b1 e6 ?_ ?hc ?hx
    case hc => rfl
    case hx => rfl
    case b1 => exact hOD
    intro h9 o6 F9 N9 x6
    exact next _ _ _ D oD F9 N9 x6 hO hDlo
end Mine
end

/-! ## L13 -/
section
theorem Mine.offL13 : True := by w_top off; trivial
open PySem PySem.W PySem.Calls PyProof.Rows PyProof.V
set_option Elab.async false
set_option maxRecDepth 100000
namespace Mine
set_option maxHeartbeats 16000000
local macro_rules | `(tactic| walk_at "eval Name") => `(tactic| (k_here; k_dflt (refine' nameX_L ?k1 ?k2 ?_; (case k1 => k_asm); (case k2 => repeat (first | assumption | refine (if_neg (by decide)).trans ?_)); k_whole)))











theorem tot_tb : ∀ D : List (Str × Int), kduTot (tb D) = (D.map (·.2)).sum
  | [] => rfl
  | p :: r => by
    show p.2 + kduTot (tb r) = _
    rw [tot_tb r, List.map_cons, List.sum_cons]
theorem seg13 {w : World} {mean : ExcName → Option Value} {mg mb : Str → Option Value} {A : Around} {E : Value → Shared → Prop} {Q : Flow → Shared → Prop} {s : Shared} {h₀ : Heap} {L : Nat} {fa zd : Addr} {cd : Value} {m : Str → Option Value} {c1 c2 c3 c4 c5 c6 ozd : Obj} {ST : List (Str × Int)} {base : List (Addr × Obj)}
    (W : Wd w mean mg mb h₀) (hA : A.handled = none) (F : Fr h₀ L s.heap m) (N : News h₀ L s.heap ((L + 1 + 1 + 1 + 1 + 1 + 1, c6) :: (L + 1 + 1 + 1 + 1 + 1, c5) :: (L + 1 + 1 + 1 + 1, c4) :: (L + 1 + 1 + 1, c3) :: (L + 1 + 1, c2) :: (L + 1, c1) :: (zd, ozd) :: base))
    (e6 : c6.data = .cell (some (.ref zd))) (hOz : OD w ozd ST) (zlo : (zd == sysModules) = false) (hzl : ST.length ≤ 10)
    (next : ∀ h' tk tw, Fr h₀ L h' (fun y => if y = Str.ofString "whole" then some (.int (ST.map (·.2)).sum tw) else m y) → News h₀ L h' ((L + 1 + 1 + 1 + 1 + 1 + 1, c6) :: (L + 1 + 1 + 1 + 1 + 1, c5) :: (L + 1 + 1 + 1 + 1, c4) :: (L + 1 + 1 + 1, c3) :: (L + 1 + 1, c2) :: (L + 1, c1) :: (zd, ozd) :: base) →
      wpAny (model PR w) A (execs (LB.drop 21) (envOfC (Str.ofString "law") LS L fa cd)) Q E { s with heap := h', toks := tk }) :
    wpAny (model PR w) A (execs (LB.drop 20) (envOfC (Str.ofString "law") LS L fa cd)) Q E s := by
  obtain ⟨K, T⟩ := id W
  rw [cut 20 (by decide)]
  generalize List.drop (20 + 1) LB = stmts at *
  conv in (execs (_ :: _) _) => arg 1; arg 1; whnf
  conv in (envOfC _ _ _ _ _) => arg 2; whnf
  iterate 8 walk1
  have hT1 := hOz.tab (N (zd, ozd) (by first | ((repeat (first | exact .head _ | refine .tail _ ?_)); done) | simp)).1 zlo
  refine getMethod_tab_any (knd := strKind _ _) (enc := PyData.str) rfl hT1 ?_
  walk1
  refine call_values_tab hT1 F N ?_
  intro h2 ov hv F2 N2
  have hT2 := hOz.tab (N2 (zd, ozd) (by first | ((repeat (first | exact .head _ | refine .tail _ ?_)); done) | simp)).1 zlo
  obtain ⟨lo, kvs, hdo, hf⟩ := id hT2
  obtain ⟨ep, hat⟩ := hdo.dictAt
  have hlen : ST.length = kvs.length := by rw [← hf.length, tb_length]
  walk1
  refine kdu_sum (kdl_values (knd := strKind PR w) (kvs := kvs) (ep := ep)) hA F2 N2 ⟨hv, hat⟩ (kduAt (tb ST)) (fun i u hu => ?_) ?_
  · obtain ⟨k, hx⟩ := hu
    obtain ⟨dv, hd, hfl⟩ := hf.at hx
    obtain ⟨x', c, hxi, hk', rfl⟩ := tb_get hd
    obtain ⟨t, rfl⟩ := Flat.int_inv hfl
    exact ⟨t, by simp [kduAt, hd, kduInt]⟩
  intro h3 tk3 t3 F3 N3
  have e : preSum (kduAt (tb ST)) kvs.length = (ST.map (·.2)).sum := by rw [← hlen, ← tb_length (D := ST), kdu_tot, tot_tb]
  rw [e]
  walk1
  rename Fr _ _ _ _ => F4
  rename News _ _ _ _ => N4
  exact next _ _ _ F4 fun p hp => N4 p (List.mem_cons_of_mem _ hp)
end Mine
end

/-! ## L14 -/
section
theorem Mine.offL14 : True := by w_top off; trivial
open PySem PySem.W PySem.Calls PyProof.Rows PyProof.V
set_option Elab.async false
set_option maxRecDepth 100000
namespace Mine
set_option maxHeartbeats 16000000
local macro_rules | `(tactic| walk_at "mine none") => `(tactic| fail)
local macro_rules | `(tactic| walk_at "eval Name") => `(tactic| (k_here; k_dflt (refine' nameX_L ?k1 ?k2 ?_; (case k1 => k_asm); (case k2 => repeat (first | assumption | refine (if_neg (by decide)).trans ?_)); k_whole)))












/-- what is asked of an order at the end, and what the numbers must fit -/
noncomputable def EndFit (ST TT : List (Str × Int)) (wh pr : Int) (o : Str) : Prop := ∃ (a b c : Str) (x y z t : Int), lettersOf o = [a, b, c] ∧ look ST a = some x ∧ look ST b = some y ∧ look ST c = some z ∧ look TT o = some t ∧ IntMulOk t wh ∧ IntMulOk (t * wh) (x + y) ∧ IntMulOk pr z ∧ IntMulOk (pr * z) y ∧ t * wh * (x + y) = pr * z * y
theorem seg14 {w : World} {mean : ExcName → Option Value} {mg mb : Str → Option Value} {A : Around} {Q : Flow → Shared → Prop} {s : Shared} {h₀ : Heap} {L : Nat} {fa zd td ol ad : Addr} {cd : Value} {m : Str → Option Value} {c1 c2 c3 c4 c5 c6 ozd otd oad : Obj} {ST TT Da : List (Str × Int)} {base : List (Addr × Obj)} {oys : List Value} {wh pr : Int} {tw tp : Tok}
    (W : Wd w mean mg mb h₀) (hA : A.handled = none) (hroom : A.depth + 10 < recursionLimit) (F : Fr h₀ L s.heap m) (N : News h₀ L s.heap ((L + 1 + 1 + 1 + 1 + 1 + 1, c6) :: (L + 1 + 1 + 1 + 1 + 1, c5) :: (L + 1 + 1 + 1 + 1, c4) :: (L + 1 + 1 + 1, c3) :: (L + 1 + 1, c2) :: (L + 1, c1) :: (zd, ozd) :: base))
    (e4 : c4.data = .cell (some (.ref ad))) (e6 : c6.data = .cell (some (.ref zd))) (hOz : OD w ozd ST) (zlo : (zd == sysModules) = false) (htd : (td, otd) ∈ base) (hOt : OD w otd TT) (tlo : (td == sysModules) = false) (had : (ad, oad) ∈ base) (hOa : OD w oad Da) (alo : (ad == sysModules) = false)
    (hol : (ol, LCg.lst oys) ∈ base) (hoys : StrsAre oys O6)
    (mo : m (Str.ofString "orders") = some (.ref ol)) (mt : m (Str.ofString "table") = some (.ref td)) (mp : m (Str.ofString "product") = some (.int pr tp)) (mw : m (Str.ofString "whole") = some (.int wh tw))
    (hend : ∀ o ∈ O6, EndFit ST TT wh pr o) (hsum : (Da.map (·.2)).sum = wh)
    (next : ∀ h' tk m', Fr h₀ L h' m' → Q (.ret (.bool true)) { s with heap := h', toks := tk }) :
    wpAny (model PR w) A (execs (LB.drop 21) (envOfC (Str.ofString "law") LS L fa cd)) Q (fun _ _ => False) s := by
  obtain ⟨K, T⟩ := id W
  rw [cut 21 (by decide), cut 22 (by decide)]
  conv in (execs (_ :: _) _) => arg 1; arg 1; whnf
  conv in (execs (_ :: _) _) => arg 1; arg 2; arg 1; whnf
  conv in (execs (_ :: _) _) => arg 1; arg 2; arg 2; whnf
  conv in (envOfC _ _ _ _ _) => arg 2; whnf
  refine wpAny_execs_cons ?_
  refine' For_invU h₀ ?kx ?kp ?_ ?khs PassesOwn.never
  case kx => rfl
  case kp => rfl
  case khs => intro _; rfl
  walk1
  have gol := N (ol, LCg.lst oys) (by simp [hol])
  refine Iter_list hA ⟨_, gol.1, rfl, _, rfl⟩ gol.2.1 F N (fun i m' news => m' (Str.ofString "orders") = some (.ref ol) ∧ m' (Str.ofString "table") = some (.ref td) ∧ m' (Str.ofString "product") = some (.int pr tp) ∧ m' (Str.ofString "whole") = some (.int wh tw) ∧ news = ((L + 1 + 1 + 1 + 1 + 1 + 1, c6) :: (L + 1 + 1 + 1 + 1 + 1, c5) :: (L + 1 + 1 + 1 + 1, c4) :: (L + 1 + 1 + 1, c3) :: (L + 1 + 1, c2) :: (L + 1, c1) :: (zd, ozd) :: base)) ⟨mo, mt, mp, mw, rfl⟩ ?_ ?_
  · rintro i v m₁ news₁ s₁ own hi ⟨m1, m2, m3, m4, rfl⟩ hoff hown ⟨oI, hoI⟩ F₁ N₁
    obtain ⟨o, t, rfl, hoi⟩ := hoys.at i v (by simpa using hi)
    have hoO : o ∈ O6 := List.mem_of_getElem? hoi
    obtain ⟨a, b, c, x, y, z, tv, hlet, hx, hy, hz, ht, k1, k2, k3, k4, heq⟩ := hend o hoO
    have N2 : News h₀ L s₁.heap ((L + 1 + 1 + 1 + 1 + 1 + 1, c6) :: (L + 1 + 1 + 1 + 1 + 1, c5) :: (L + 1 + 1 + 1 + 1, c4) :: (L + 1 + 1 + 1, c3) :: (L + 1 + 1, c2) :: (L + 1, c1) :: (zd, ozd) :: (own ++ base)) := fun p hp => N₁ p (by
      simp only [List.mem_cons, List.mem_append] at hp ⊢
      rcases hp with h | h | h | h | h | h | h | h | h <;> repeat (first | exact h | exact .inl h | (refine .inl ?_; (repeat (first | exact h | exact .inl h | refine .inr ?_)); done) | refine .inr ?_))
    clear N₁
    iterate 2 walk1
    refine' ListComp_S (cl := ?cl) F₁ ?h1 ?h2 ?h3 ?h4 ?h5 ?h6 ?_
    case h1 => with_unfolding_all rfl
    case h2 => decide
    case h3 => rfl
    case h4 => decide
    case h5 => rfl
    case h6 => intro _; rfl
    walk1
    have ho3 : o.cps.size = 3 := by
      have := congrArg List.length hlet
      simpa [lettersOf] using this
    refine ⟨o, t, _, rfl, hA, F₁, N2, (O6_ok o hoO).1, Nat.le_trans (O6_ok o hoO).2 (by decide), fun g => ?_⟩
    generalize hled : ((L + 1 + 1 + 1 + 1 + 1 + 1, c6) :: (L + 1 + 1 + 1 + 1 + 1, c5) :: (L + 1 + 1 + 1 + 1, c4) :: (L + 1 + 1 + 1, c3) :: (L + 1 + 1, c2) :: (L + 1, c1) :: (zd, ozd) :: (own ++ base)) = led at N2 ⊢
    refine rest_indN (fun k i ys nw => k + i = 3 ∧ nw = led ∧ IntsAre ys ([x, y, z].take i)) ?_ ?_ _ _ _ _ ⟨by omega, rfl, .nil⟩
    · rintro i' ys nw ⟨hi', rfl, hys⟩ D h5 tk5 F5 N5 off5
      obtain rfl : i' = 3 := by omega
      have hys : IntsAre ys [x, y, z] := hys
      obtain ⟨t1, t2, t3, rfl⟩ : ∃ t1 t2 t3, ys = [.int x t1, .int y t2, .int z t3] := by
        cases hys with | cons _ t1 h1 => cases h1 with | cons _ t2 h2 => cases h2 with | cons _ t3 h3 => cases h3; exact ⟨t1, t2, t3, rfl⟩
      refine kun_list F5 N5 ⟨_, N5.get (a := D) (o := LCg.lst [.int x t1, .int y t2, .int z t3]) (by first | ((repeat (first | exact .head _ | refine .tail _ ?_)); done) | simp), rfl, _, rfl⟩ hA rfl rfl ?_
      intro h6 F6 N6
      clear F5 N5
      subst hled
      iterate 12 walk1
      rename Fr _ _ _ _ => F7
      rename News _ _ _ _ => N7
      have hTt : StrTab PR w _ td (tb TT) := hOt.tab (N7 (td, otd) (by simp [htd])).1 tlo
      iterate 7 walk1
      refine getItem_tab same_str (strKind_is PR w o t) hTt (dv := .int tv) (by rw [lookup_tb, ht]; rfl) ?_
      intro v hfl2
      obtain ⟨tu, rfl⟩ := Flat.int_inv hfl2
      walk1
      refine mul_int ?_ k1
      iterate 4 walk1
      refine mul_int ?_ k2
      iterate 4 walk1
      refine mul_int ?_ k3
      walk1
      refine mul_int ?_ k4
      rw [heq]
      iterate 2 walk1
      rw [if_neg (by first | ((repeat (first | exact .head _ | refine .tail _ ?_)); done) | simp)]
      iterate 2 walk1
      have N8 : News h₀ L _ (own ++ ((L + 1 + 1 + 1 + 1 + 1 + 1, c6) :: (L + 1 + 1 + 1 + 1 + 1, c5) :: (L + 1 + 1 + 1 + 1, c4) :: (L + 1 + 1 + 1, c3) :: (L + 1 + 1, c2) :: (L + 1, c1) :: (zd, ozd) :: base)) := fun p hp => N7 p (by
        simp only [List.mem_cons, List.mem_append] at hp ⊢
        rcases hp with h | h | h | h | h | h | h | h | h <;> repeat (first | exact h | exact .inl h | (refine .inl ?_; (repeat (first | exact h | exact .inl h | refine .inr ?_)); done) | refine .inr ?_))
      refine wpAny_execs_nil ?_
      refine LoopStepU.intro F7 N8 (fun p hp e => hoff p hp (List.mem_singleton.mp e)) ⟨?_, ?_, ?_, ?_, rfl⟩
      · exact (if_neg (by decide)).trans ((if_neg (by decide)).trans ((if_neg (by decide)).trans ((if_neg (by decide)).trans m1)))
      · exact (if_neg (by decide)).trans ((if_neg (by decide)).trans ((if_neg (by decide)).trans ((if_neg (by decide)).trans m2)))
      · exact (if_neg (by decide)).trans ((if_neg (by decide)).trans ((if_neg (by decide)).trans ((if_neg (by decide)).trans m3)))
      · exact (if_neg (by decide)).trans ((if_neg (by decide)).trans ((if_neg (by decide)).trans ((if_neg (by decide)).trans m4)))
    · rintro k' i' ys nw ⟨hi', rfl, hys⟩ v I oI C oC D m₂ h5 tk5 E' hP hC hm2 F5 N5 hoff5 hne
      obtain ⟨cp, u, hcp, rfl⟩ := hP
      have hli : (lettersOf o)[i']? = some ⟨#[cp]⟩ := by
        unfold lettersOf
        rw [List.getElem?_map, Array.getElem?_toList, hcp]; rfl
      rw [hlet] at hli
      obtain ⟨n, hn, hnl⟩ : ∃ n, [x, y, z][i']? = some n ∧ look ST ⟨#[cp]⟩ = some n := by
        rcases i' with _ | _ | _ | i'
        · exact ⟨x, rfl, by rw [← Option.some.inj hli]; exact hx⟩
        · exact ⟨y, rfl, by rw [← Option.some.inj hli]; exact hy⟩
        · exact ⟨z, rfl, by rw [← Option.some.inj hli]; exact hz⟩
        · omega
      have hTz : StrTab PR w h5 zd (tb ST) := hOz.tab (N5 (zd, ozd) (by subst hled; simp)).1 zlo
      subst hled
      iterate 4 walk1
      refine getItem_tab same_str (strKind_is PR w ⟨#[cp]⟩ u) hTz (dv := .int n) (by rw [lookup_tb, hnl]; rfl) ?_
      intro v hfl2
      obtain ⟨tu, rfl⟩ := Flat.int_inv hfl2
      refine LCg.CompEnd.intro F5 N5 _ (fun p hp => hp) hoff5 trivial ⟨by omega, rfl, ?_⟩
      rw [List.take_add_one, hn]
      exact intsAre_append hys (.cons n tu .nil)
  · rintro h7 tk7 m7 news7 F7 N7 ⟨m1, m2, m3, m4, rfl⟩
    iterate 10 walk1
    refine count_spec (D := Da) (W.keeps F7.keep) hA (by omega) (hOa.tab (N7 (ad, oad) (by simp [had])).1 alo) ?_
    intro h8 tk8 t8 hk8
    have F8 := fr_ext F7 hk8
    have N8 := news_ext N7 hk8
    clear F7 N7
    rw [hsum]
    iterate 2 walk1
    rw [show (wh == wh) = true from beq_self_eq_true wh]
    exact next _ _ _ F8
end Mine
end

/-! ## P1 -/
section
theorem Mine.offP1 : True := by w_top off; trivial
open PySem PySem.W PySem.Calls PyProof.Rows PyProof.V
set_option Elab.async false
set_option maxRecDepth 100000
namespace Mine
/-! tables as functions -/
noncomputable def val (D : List (Str × Int)) (o : Str) : Int := (look D o).getD 0
noncomputable def keys (D : List (Str × Int)) : List Str := D.map (·.1)
theorem val_nil (o : Str) : val [] o = 0 := rfl
theorem val_cons (p : Str × Int) (r : List (Str × Int)) (o : Str) : val (p :: r) o = if p.1 = o then p.2 else val r o := by
  show (if p.1 = o then some p.2 else look r o).getD 0 = if p.1 = o then p.2 else (look r o).getD 0
  split <;> rfl
theorem look_none {D : List (Str × Int)} {k : Str} : look D k = none ↔ k ∉ keys D := by
  induction D with
  | nil => simp [look, keys]
  | cons p r ih =>
    show (if p.1 = k then some p.2 else look r k) = none ↔ k ∉ p.1 :: keys r
    by_cases h : p.1 = k
    · simp [h]
    · rw [if_neg h, ih, List.mem_cons, not_or]
      exact ⟨fun x => ⟨fun e => h e.symm, x⟩, fun x => x.2⟩
theorem val_none {D : List (Str × Int)} {k : Str} (h : k ∉ keys D) : val D k = 0 := by unfold val; rw [look_none.mpr h]; rfl
theorem any_keys (D : List (Str × Int)) (k : Str) : (D.any fun p => decide (p.1 = k)) = true ↔ k ∈ keys D := by
  rw [List.any_eq_true]
  unfold keys
  rw [List.mem_map]
  constructor
  · rintro ⟨p, hp, h⟩; exact ⟨p, hp, of_decide_eq_true h⟩
  · rintro ⟨p, hp, h⟩; exact ⟨p, hp, decide_eq_true h⟩
theorem look_put (D : List (Str × Int)) (k : Str) (c : Int) (o : Str) : look (put D k c) o = if k = o then some c else look D o := by
  unfold put
  by_cases hk : k ∈ keys D
  · rw [if_pos ((any_keys D k).mpr hk)]
    induction D with
    | nil => cases hk
    | cons p r ih =>
      rw [List.map_cons]
      show (if (if p.1 = k then (p.1, c) else p).1 = o then some (if p.1 = k then (p.1, c) else p).2 else look (r.map fun p => if p.1 = k then (p.1, c) else p) o) = if k = o then some c else (if p.1 = o then some p.2 else look r o)
      by_cases hr : k ∈ keys r
      · rw [ih hr]
        by_cases h1 : p.1 = k
        · rw [if_pos h1]; dsimp only
          rw [h1]
          by_cases h2 : k = o <;> simp [h2]
        · rw [if_neg h1]
          by_cases h2 : p.1 = o
          · rw [if_pos h2, if_pos h2, if_neg (fun e => h1 (h2.trans e.symm))]
          · rw [if_neg h2, if_neg h2]
      · have e : (r.map fun p => if p.1 = k then (p.1, c) else p) = r := by
          conv => rhs; rw [← List.map_id r]
          apply List.map_congr_left
          intro q hq
          have : ¬ q.1 = k := fun e => hr (List.mem_map.mpr ⟨q, hq, e⟩)
          simp [this]
        rw [e]
        have h1 : p.1 = k := by
          rcases List.mem_cons.mp hk with h | h
          · exact h.symm
          · exact absurd h hr
        rw [if_pos h1]; dsimp only
        rw [h1]
        by_cases h2 : k = o <;> simp [h2]
  · rw [if_neg (fun h => hk ((any_keys D k).mp h))]
    induction D with
    | nil => rfl
    | cons p r ih =>
      have hk' : k ∉ keys r := fun h => hk (List.mem_cons_of_mem _ h)
      have hp : p.1 ≠ k := fun h => hk (h ▸ List.mem_cons_self ..)
      show (if p.1 = o then some p.2 else look (r ++ [(k, c)]) o) = if k = o then some c else (if p.1 = o then some p.2 else look r o)
      rw [ih hk']
      by_cases h2 : p.1 = o
      · rw [if_pos h2, if_pos h2, if_neg (fun e => hp (h2.trans e.symm))]
      · rw [if_neg h2, if_neg h2]
theorem keys_put (D : List (Str × Int)) (k : Str) (c : Int) : keys (put D k c) = if k ∈ keys D then keys D else keys D ++ [k] := by
  unfold put
  by_cases hk : k ∈ keys D
  · rw [if_pos ((any_keys D k).mpr hk), if_pos hk]
    unfold keys
    rw [List.map_map]
    apply List.map_congr_left
    intro q _
    show (if q.1 = k then (q.1, c) else q).1 = q.1
    split <;> rfl
  · rw [if_neg (fun h => hk ((any_keys D k).mp h)), if_neg hk]
    simp [keys]
theorem mem_put {D : List (Str × Int)} {k : Str} {c : Int} {x : Str} : x ∈ keys (put D k c) ↔ x ∈ keys D ∨ x = k := by
  rw [keys_put]
  split
  · rename_i h
    exact ⟨.inl, fun q => q.elim id fun e => e ▸ h⟩
  · rw [List.mem_append, List.mem_singleton]
theorem nodup_put {D : List (Str × Int)} {k : Str} {c : Int} (h : (keys D).Nodup) : (keys (put D k c)).Nodup := by
  rw [keys_put]
  split
  · exact h
  · rename_i hk
    rw [List.nodup_append]
    refine ⟨h, List.nodup_cons.mpr ⟨List.not_mem_nil, List.nodup_nil⟩, fun a ha b hb e => ?_⟩
    rw [List.mem_singleton.mp hb] at e
    exact hk (e ▸ ha)
theorem val_put (D : List (Str × Int)) (k : Str) (c : Int) (o : Str) : val (put D k c) o = if k = o then c else val D o := by
  unfold val
  rw [look_put]
  split <;> rfl
theorem val_addTo (D : List (Str × Int)) (p : Str × Int) (o : Str) : val (addTo D p) o = val D o + if p.1 = o then p.2 else 0 := by
  unfold addTo
  rw [val_put]
  by_cases h : p.1 = o
  · rw [if_pos h, if_pos h]
    unfold val
    rw [h]
    cases look D o with
    | none => simp
    | some u => rfl
  · rw [if_neg h, if_neg h, Int.add_zero]
noncomputable def tot : List (Str × Int) → Str → Int
  | [], _ => 0
  | p :: r, o => (if p.1 = o then p.2 else 0) + tot r o
theorem val_fold (o : Str) : ∀ (D2 D : List (Str × Int)), val (D2.foldl addTo D) o = val D o + tot D2 o
  | [], D => by simp [tot]
  | p :: r, D => by
    rw [List.foldl_cons, val_fold o r, val_addTo]
    show _ = val D o + ((if p.1 = o then p.2 else 0) + tot r o)
    omega
theorem tot_val {D : List (Str × Int)} (h : (keys D).Nodup) (o : Str) : tot D o = val D o := by
  induction D with
  | nil => rfl
  | cons p r ih =>
    have h' := List.nodup_cons.mp (show (p.1 :: keys r).Nodup from h)
    show (if p.1 = o then p.2 else 0) + tot r o = _
    rw [ih h'.2, val_cons]
    by_cases e : p.1 = o
    · rw [if_pos e, if_pos e, val_none (e ▸ h'.1), Int.add_zero]
    · rw [if_neg e, if_neg e, Int.zero_add]
theorem nodup_fold {f : List (Str × Int) → Str × Int → List (Str × Int)} (hf : ∀ D p, (keys D).Nodup → (keys (f D p)).Nodup) : ∀ (l D : List (Str × Int)), (keys D).Nodup → (keys (l.foldl f D)).Nodup
  | [], _, h => h
  | p :: r, D, h => nodup_fold hf r _ (hf D p h)
theorem mem_fold {f : List (Str × Int) → Str × Int → List (Str × Int)} (hf : ∀ D p x, x ∈ keys (f D p) ↔ x ∈ keys D ∨ x = p.1) (x : Str) : ∀ (l D : List (Str × Int)), x ∈ keys (l.foldl f D) ↔ x ∈ keys D ∨ x ∈ keys l
  | [], D => by simp [keys]
  | p :: r, D => by
    rw [List.foldl_cons, mem_fold hf x r, hf]
    show _ ↔ x ∈ keys D ∨ x ∈ p.1 :: keys r
    rw [List.mem_cons, or_assoc]
theorem look_foldPut (o : Str) : ∀ (D2 D : List (Str × Int)), (keys D2).Nodup → look (D2.foldl putTo D) o = (look D2 o).or (look D o)
  | [], D, _ => rfl
  | p :: r, D, h => by
    have h' := List.nodup_cons.mp (show (p.1 :: keys r).Nodup from h)
    rw [List.foldl_cons, look_foldPut o r _ h'.2]
    show (look r o).or (look (put D p.1 p.2) o) = (if p.1 = o then some p.2 else look r o).or (look D o)
    rw [look_put]
    by_cases e : p.1 = o
    · rw [if_pos e, if_pos e, look_none.mpr (e ▸ h'.1)]; rfl
    · rw [if_neg e, if_neg e]
theorem nodup_merge (D1 D2 : List (Str × Int)) : (keys (merge D1 D2)).Nodup :=
  nodup_fold (fun D p h => nodup_put h) D2 _ (nodup_fold (fun D p h => nodup_put h) D1 [] List.nodup_nil)
theorem mem_merge {D1 D2 : List (Str × Int)} {x : Str} : x ∈ keys (merge D1 D2) ↔ x ∈ keys D1 ∨ x ∈ keys D2 := by
  unfold merge
  rw [mem_fold (f := addTo) (fun D p x => mem_put) x D2, mem_fold (f := putTo) (fun D p x => mem_put) x D1]
  simp [keys]
theorem val_merge {D1 D2 : List (Str × Int)} (h1 : (keys D1).Nodup) (h2 : (keys D2).Nodup) (o : Str) : val (merge D1 D2) o = val D1 o + val D2 o := by
  unfold merge
  rw [val_fold, tot_val h2]
  congr 1
  unfold val
  rw [look_foldPut o D1 [] h1]
  cases look D1 o <;> rfl
theorem mapT_eq (f : Str → Int → Int) (D : List (Str × Int)) : mapT f D = (D.map fun p => (p.1, f p.1 p.2)).foldl putTo [] := by
  unfold mapT
  rw [List.foldl_map]
theorem keys_map (f : Str → Int → Int) (D : List (Str × Int)) : keys (D.map fun p => (p.1, f p.1 p.2)) = keys D := by
  unfold keys; rw [List.map_map]; rfl
theorem nodup_mapT (f : Str → Int → Int) (D : List (Str × Int)) : (keys (mapT f D)).Nodup := by
  rw [mapT_eq]; exact nodup_fold (fun D p h => nodup_put h) _ [] List.nodup_nil
theorem mem_mapT {f : Str → Int → Int} {D : List (Str × Int)} {x : Str} : x ∈ keys (mapT f D) ↔ x ∈ keys D := by
  rw [mapT_eq, mem_fold (f := putTo) (fun D p x => mem_put) x, keys_map]
  simp [keys]
theorem look_map (f : Str → Int → Int) (D : List (Str × Int)) (o : Str) : look (D.map fun p => (p.1, f p.1 p.2)) o = (look D o).map (f o) := by
  induction D with
  | nil => rfl
  | cons p r ih =>
    show (if p.1 = o then some (f p.1 p.2) else look (r.map fun p => (p.1, f p.1 p.2)) o) = (if p.1 = o then some p.2 else look r o).map (f o)
    rw [ih]
    by_cases e : p.1 = o
    · rw [if_pos e, if_pos e, e]; rfl
    · rw [if_neg e, if_neg e]
theorem val_mapT {g : Int → Int} (h0 : g 0 = 0) {D : List (Str × Int)} (h : (keys D).Nodup) (o : Str) : val (mapT (fun _ x => g x) D) o = g (val D o) := by
  unfold val
  rw [mapT_eq, look_foldPut o _ [] (by rw [keys_map (fun _ x => g x)]; exact h), look_map (fun _ x => g x)]
  cases look D o with
  | none => exact h0.symm
  | some u => rfl
noncomputable def sumT (g : Str → Int) (T : List (Str × Int)) : Int := (T.map fun p => g p.1 * p.2).sum
theorem val_rounds {FL : Str → List (Str × Int)} (hFL : ∀ k, (keys (FL k)).Nodup) (o : Str) : ∀ (l M : List (Str × Int)), (keys M).Nodup → val (l.foldl (fun M p => merge M (mapT (fun _ x => x * p.2) (FL p.1))) M) o = val M o + sumT (fun k => val (FL k) o) l
  | [], M, _ => by simp [sumT]
  | p :: r, M, h => by
    rw [List.foldl_cons, val_rounds hFL o r _ (nodup_merge _ _), val_merge h (nodup_mapT _ _), val_mapT (g := fun x => x * p.2) (Int.zero_mul _) (hFL p.1)]
    show _ = val M o + (val (FL p.1) o * p.2 + sumT (fun k => val (FL k) o) r)
    omega
theorem val_roundD {FL : Str → List (Str × Int)} (hFL : ∀ k, (keys (FL k)).Nodup) {T : List (Str × Int)} (hT : (keys T).Nodup) (r : Int) (o : Str) : val (roundD FL r T) o = -r * val T o + sumT (fun k => val (FL k) o) T := by
  unfold roundD
  rw [val_rounds hFL o T _ (nodup_mapT _ _), val_mapT (g := fun x => -r * x) (Int.mul_zero _) hT]
theorem nodup_roundD (FL : Str → List (Str × Int)) (r : Int) (T : List (Str × Int)) : (keys (roundD FL r T)).Nodup := by
  unfold roundD
  exact nodup_fold (fun D p _ => nodup_merge _ _) T _ (nodup_mapT _ _)
theorem mem_rounds {FL : Str → List (Str × Int)} {x : Str} : ∀ (l M : List (Str × Int)), x ∈ keys (l.foldl (fun M p => merge M (mapT (fun _ x => x * p.2) (FL p.1))) M) ↔ x ∈ keys M ∨ ∃ k ∈ keys l, x ∈ keys (FL k)
  | [], M => by simp [keys]
  | p :: r, M => by
    rw [List.foldl_cons, mem_rounds r, mem_merge, mem_mapT]
    show _ ↔ x ∈ keys M ∨ ∃ k ∈ p.1 :: keys r, x ∈ keys (FL k)
    constructor
    · rintro ((h | h) | ⟨k, hk, h⟩)
      · exact .inl h
      · exact .inr ⟨p.1, List.mem_cons_self .., h⟩
      · exact .inr ⟨k, List.mem_cons_of_mem _ hk, h⟩
    · rintro (h | ⟨k, hk, h⟩)
      · exact .inl (.inl h)
      · rcases List.mem_cons.mp hk with rfl | hk
        · exact .inl (.inr h)
        · exact .inr ⟨k, hk, h⟩
theorem mem_roundD {FL : Str → List (Str × Int)} {r : Int} {T : List (Str × Int)} {x : Str} : x ∈ keys (roundD FL r T) ↔ x ∈ keys T ∨ ∃ k ∈ keys T, x ∈ keys (FL k) := by
  unfold roundD
  rw [mem_rounds, mem_mapT]
end Mine
end

/-! ## P2 -/
section
theorem Mine.offP2 : True := by w_top off; trivial
open PySem PySem.W PySem.Calls PyProof.Rows PyProof.V
set_option Elab.async false
set_option maxRecDepth 100000
set_option maxHeartbeats 1000000
namespace Mine
structure V6 where
  x1 : Int
  x2 : Int
  x3 : Int
  x4 : Int
  x5 : Int
  x6 : Int
noncomputable def stepV (a b c r : Int) (v : V6) : V6 :=
  ⟨-r * v.x1 + c * (v.x1 + v.x2 + v.x5), -r * v.x2 + b * (v.x1 + v.x2 + v.x3), -r * v.x3 + c * (v.x3 + v.x4 + v.x6), -r * v.x4 + a * (v.x1 + v.x3 + v.x4), -r * v.x5 + b * (v.x4 + v.x5 + v.x6), -r * v.x6 + a * (v.x2 + v.x5 + v.x6)⟩
theorem three_merge (p q r : Str) (h1 : ¬ p = q) (h2 : ¬ p = r) (h3 : ¬ q = r) (a b c : Int) : merge (merge (merge [] [(p, a)]) [(q, b)]) [(r, c)] = [(p, a), (q, b), (r, c)] := by
  simp [merge, putTo, addTo, put, look, h1, h2, h3]
theorem val3 (p q r o : Str) (a b c : Int) : val [(p, a), (q, b), (r, c)] o = if p = o then a else if q = o then b else if r = o then c else 0 := by
  rw [val_cons, val_cons, val_cons, val_nil]
noncomputable def o1 : Str := Str.ofString "abc"
noncomputable def o2 : Str := Str.ofString "acb"
noncomputable def o3 : Str := Str.ofString "bac"
noncomputable def o4 : Str := Str.ofString "bca"
noncomputable def o5 : Str := Str.ofString "cab"
noncomputable def o6 : Str := Str.ofString "cba"
theorem ne12 : ¬ o1 = o2 := by decide +kernel
theorem ne13 : ¬ o1 = o3 := by decide +kernel
theorem ne14 : ¬ o1 = o4 := by decide +kernel
theorem ne15 : ¬ o1 = o5 := by decide +kernel
theorem ne16 : ¬ o1 = o6 := by decide +kernel
theorem ne21 : ¬ o2 = o1 := by decide +kernel
theorem ne23 : ¬ o2 = o3 := by decide +kernel
theorem ne24 : ¬ o2 = o4 := by decide +kernel
theorem ne25 : ¬ o2 = o5 := by decide +kernel
theorem ne26 : ¬ o2 = o6 := by decide +kernel
theorem ne31 : ¬ o3 = o1 := by decide +kernel
theorem ne32 : ¬ o3 = o2 := by decide +kernel
theorem ne34 : ¬ o3 = o4 := by decide +kernel
theorem ne35 : ¬ o3 = o5 := by decide +kernel
theorem ne36 : ¬ o3 = o6 := by decide +kernel
theorem ne41 : ¬ o4 = o1 := by decide +kernel
theorem ne42 : ¬ o4 = o2 := by decide +kernel
theorem ne43 : ¬ o4 = o3 := by decide +kernel
theorem ne45 : ¬ o4 = o5 := by decide +kernel
theorem ne46 : ¬ o4 = o6 := by decide +kernel
theorem ne51 : ¬ o5 = o1 := by decide +kernel
theorem ne52 : ¬ o5 = o2 := by decide +kernel
theorem ne53 : ¬ o5 = o3 := by decide +kernel
theorem ne54 : ¬ o5 = o4 := by decide +kernel
theorem ne56 : ¬ o5 = o6 := by decide +kernel
theorem ne61 : ¬ o6 = o1 := by decide +kernel
theorem ne62 : ¬ o6 = o2 := by decide +kernel
theorem ne63 : ¬ o6 = o3 := by decide +kernel
theorem ne64 : ¬ o6 = o4 := by decide +kernel
theorem ne65 : ¬ o6 = o5 := by decide +kernel
theorem O6_eq : O6 = [o1, o2, o3, o4, o5, o6] := rfl
noncomputable def DA (a b c : Int) : List (Str × Int) := [(bk 0, a), (bk 1, b), (bk 2, c)]
theorem mv1a : mvT o1 (bk 0) = o4 := by decide +kernel
theorem mv1b : mvT o1 (bk 1) = o2 := by decide +kernel
theorem mv1c : mvT o1 (bk 2) = o1 := by decide +kernel
theorem moves1 (a b c : Int) : movesD o1 (DA a b c) = [(o4, a), (o2, b), (o1, c)] := by
  unfold movesD DA
  rw [List.foldl_cons, List.foldl_cons, List.foldl_cons, List.foldl_nil]
  dsimp only
  rw [mv1a, mv1b, mv1c]
  exact three_merge _ _ _ ne42 ne41 ne21 a b c
theorem vm11 (a b c : Int) : val (movesD o1 (DA a b c)) o1 = c := by
  rw [moves1, val3, if_neg ne41, if_neg ne21, if_pos rfl]
theorem vm12 (a b c : Int) : val (movesD o1 (DA a b c)) o2 = b := by
  rw [moves1, val3, if_neg ne42, if_pos rfl]
theorem vm13 (a b c : Int) : val (movesD o1 (DA a b c)) o3 = 0 := by
  rw [moves1, val3, if_neg ne43, if_neg ne23, if_neg ne13]
theorem vm14 (a b c : Int) : val (movesD o1 (DA a b c)) o4 = a := by
  rw [moves1, val3, if_pos rfl]
theorem vm15 (a b c : Int) : val (movesD o1 (DA a b c)) o5 = 0 := by
  rw [moves1, val3, if_neg ne45, if_neg ne25, if_neg ne15]
theorem vm16 (a b c : Int) : val (movesD o1 (DA a b c)) o6 = 0 := by
  rw [moves1, val3, if_neg ne46, if_neg ne26, if_neg ne16]
theorem mv2a : mvT o2 (bk 0) = o6 := by decide +kernel
theorem mv2b : mvT o2 (bk 1) = o2 := by decide +kernel
theorem mv2c : mvT o2 (bk 2) = o1 := by decide +kernel
theorem moves2 (a b c : Int) : movesD o2 (DA a b c) = [(o6, a), (o2, b), (o1, c)] := by
  unfold movesD DA
  rw [List.foldl_cons, List.foldl_cons, List.foldl_cons, List.foldl_nil]
  dsimp only
  rw [mv2a, mv2b, mv2c]
  exact three_merge _ _ _ ne62 ne61 ne21 a b c
theorem vm21 (a b c : Int) : val (movesD o2 (DA a b c)) o1 = c := by
  rw [moves2, val3, if_neg ne61, if_neg ne21, if_pos rfl]
theorem vm22 (a b c : Int) : val (movesD o2 (DA a b c)) o2 = b := by
  rw [moves2, val3, if_neg ne62, if_pos rfl]
theorem vm23 (a b c : Int) : val (movesD o2 (DA a b c)) o3 = 0 := by
  rw [moves2, val3, if_neg ne63, if_neg ne23, if_neg ne13]
theorem vm24 (a b c : Int) : val (movesD o2 (DA a b c)) o4 = 0 := by
  rw [moves2, val3, if_neg ne64, if_neg ne24, if_neg ne14]
theorem vm25 (a b c : Int) : val (movesD o2 (DA a b c)) o5 = 0 := by
  rw [moves2, val3, if_neg ne65, if_neg ne25, if_neg ne15]
theorem vm26 (a b c : Int) : val (movesD o2 (DA a b c)) o6 = a := by
  rw [moves2, val3, if_pos rfl]
theorem mv3a : mvT o3 (bk 0) = o4 := by decide +kernel
theorem mv3b : mvT o3 (bk 1) = o2 := by decide +kernel
theorem mv3c : mvT o3 (bk 2) = o3 := by decide +kernel
theorem moves3 (a b c : Int) : movesD o3 (DA a b c) = [(o4, a), (o2, b), (o3, c)] := by
  unfold movesD DA
  rw [List.foldl_cons, List.foldl_cons, List.foldl_cons, List.foldl_nil]
  dsimp only
  rw [mv3a, mv3b, mv3c]
  exact three_merge _ _ _ ne42 ne43 ne23 a b c
theorem vm31 (a b c : Int) : val (movesD o3 (DA a b c)) o1 = 0 := by
  rw [moves3, val3, if_neg ne41, if_neg ne21, if_neg ne31]
theorem vm32 (a b c : Int) : val (movesD o3 (DA a b c)) o2 = b := by
  rw [moves3, val3, if_neg ne42, if_pos rfl]
theorem vm33 (a b c : Int) : val (movesD o3 (DA a b c)) o3 = c := by
  rw [moves3, val3, if_neg ne43, if_neg ne23, if_pos rfl]
theorem vm34 (a b c : Int) : val (movesD o3 (DA a b c)) o4 = a := by
  rw [moves3, val3, if_pos rfl]
theorem vm35 (a b c : Int) : val (movesD o3 (DA a b c)) o5 = 0 := by
  rw [moves3, val3, if_neg ne45, if_neg ne25, if_neg ne35]
theorem vm36 (a b c : Int) : val (movesD o3 (DA a b c)) o6 = 0 := by
  rw [moves3, val3, if_neg ne46, if_neg ne26, if_neg ne36]
theorem mv4a : mvT o4 (bk 0) = o4 := by decide +kernel
theorem mv4b : mvT o4 (bk 1) = o5 := by decide +kernel
theorem mv4c : mvT o4 (bk 2) = o3 := by decide +kernel
theorem moves4 (a b c : Int) : movesD o4 (DA a b c) = [(o4, a), (o5, b), (o3, c)] := by
  unfold movesD DA
  rw [List.foldl_cons, List.foldl_cons, List.foldl_cons, List.foldl_nil]
  dsimp only
  rw [mv4a, mv4b, mv4c]
  exact three_merge _ _ _ ne45 ne43 ne53 a b c
theorem vm41 (a b c : Int) : val (movesD o4 (DA a b c)) o1 = 0 := by
  rw [moves4, val3, if_neg ne41, if_neg ne51, if_neg ne31]
theorem vm42 (a b c : Int) : val (movesD o4 (DA a b c)) o2 = 0 := by
  rw [moves4, val3, if_neg ne42, if_neg ne52, if_neg ne32]
theorem vm43 (a b c : Int) : val (movesD o4 (DA a b c)) o3 = c := by
  rw [moves4, val3, if_neg ne43, if_neg ne53, if_pos rfl]
theorem vm44 (a b c : Int) : val (movesD o4 (DA a b c)) o4 = a := by
  rw [moves4, val3, if_pos rfl]
theorem vm45 (a b c : Int) : val (movesD o4 (DA a b c)) o5 = b := by
  rw [moves4, val3, if_neg ne45, if_pos rfl]
theorem vm46 (a b c : Int) : val (movesD o4 (DA a b c)) o6 = 0 := by
  rw [moves4, val3, if_neg ne46, if_neg ne56, if_neg ne36]
theorem mv5a : mvT o5 (bk 0) = o6 := by decide +kernel
theorem mv5b : mvT o5 (bk 1) = o5 := by decide +kernel
theorem mv5c : mvT o5 (bk 2) = o1 := by decide +kernel
theorem moves5 (a b c : Int) : movesD o5 (DA a b c) = [(o6, a), (o5, b), (o1, c)] := by
  unfold movesD DA
  rw [List.foldl_cons, List.foldl_cons, List.foldl_cons, List.foldl_nil]
  dsimp only
  rw [mv5a, mv5b, mv5c]
  exact three_merge _ _ _ ne65 ne61 ne51 a b c
theorem vm51 (a b c : Int) : val (movesD o5 (DA a b c)) o1 = c := by
  rw [moves5, val3, if_neg ne61, if_neg ne51, if_pos rfl]
theorem vm52 (a b c : Int) : val (movesD o5 (DA a b c)) o2 = 0 := by
  rw [moves5, val3, if_neg ne62, if_neg ne52, if_neg ne12]
theorem vm53 (a b c : Int) : val (movesD o5 (DA a b c)) o3 = 0 := by
  rw [moves5, val3, if_neg ne63, if_neg ne53, if_neg ne13]
theorem vm54 (a b c : Int) : val (movesD o5 (DA a b c)) o4 = 0 := by
  rw [moves5, val3, if_neg ne64, if_neg ne54, if_neg ne14]
theorem vm55 (a b c : Int) : val (movesD o5 (DA a b c)) o5 = b := by
  rw [moves5, val3, if_neg ne65, if_pos rfl]
theorem vm56 (a b c : Int) : val (movesD o5 (DA a b c)) o6 = a := by
  rw [moves5, val3, if_pos rfl]
theorem mv6a : mvT o6 (bk 0) = o6 := by decide +kernel
theorem mv6b : mvT o6 (bk 1) = o5 := by decide +kernel
theorem mv6c : mvT o6 (bk 2) = o3 := by decide +kernel
theorem moves6 (a b c : Int) : movesD o6 (DA a b c) = [(o6, a), (o5, b), (o3, c)] := by
  unfold movesD DA
  rw [List.foldl_cons, List.foldl_cons, List.foldl_cons, List.foldl_nil]
  dsimp only
  rw [mv6a, mv6b, mv6c]
  exact three_merge _ _ _ ne65 ne63 ne53 a b c
theorem vm61 (a b c : Int) : val (movesD o6 (DA a b c)) o1 = 0 := by
  rw [moves6, val3, if_neg ne61, if_neg ne51, if_neg ne31]
theorem vm62 (a b c : Int) : val (movesD o6 (DA a b c)) o2 = 0 := by
  rw [moves6, val3, if_neg ne62, if_neg ne52, if_neg ne32]
theorem vm63 (a b c : Int) : val (movesD o6 (DA a b c)) o3 = c := by
  rw [moves6, val3, if_neg ne63, if_neg ne53, if_pos rfl]
theorem vm64 (a b c : Int) : val (movesD o6 (DA a b c)) o4 = 0 := by
  rw [moves6, val3, if_neg ne64, if_neg ne54, if_neg ne34]
theorem vm65 (a b c : Int) : val (movesD o6 (DA a b c)) o5 = b := by
  rw [moves6, val3, if_neg ne65, if_pos rfl]
theorem vm66 (a b c : Int) : val (movesD o6 (DA a b c)) o6 = a := by
  rw [moves6, val3, if_pos rfl]
theorem nodup_moves (o : Str) (D : List (Str × Int)) : (keys (movesD o D)).Nodup := by
  unfold movesD
  exact nodup_fold (fun D p _ => nodup_merge _ _) D [] List.nodup_nil
theorem sumT6a (g : Str → Int) {u1 u2 u3 u4 u5 u6 : Str} (n12 : ¬ u1 = u2) (n13 : ¬ u1 = u3) (n14 : ¬ u1 = u4) (n15 : ¬ u1 = u5) (n16 : ¬ u1 = u6) (n21 : ¬ u2 = u1) (n23 : ¬ u2 = u3) (n24 : ¬ u2 = u4) (n25 : ¬ u2 = u5) (n26 : ¬ u2 = u6) (n31 : ¬ u3 = u1) (n32 : ¬ u3 = u2) (n34 : ¬ u3 = u4) (n35 : ¬ u3 = u5) (n36 : ¬ u3 = u6) (n41 : ¬ u4 = u1) (n42 : ¬ u4 = u2) (n43 : ¬ u4 = u3) (n45 : ¬ u4 = u5) (n46 : ¬ u4 = u6) (n51 : ¬ u5 = u1) (n52 : ¬ u5 = u2) (n53 : ¬ u5 = u3) (n54 : ¬ u5 = u4) (n56 : ¬ u5 = u6) (n61 : ¬ u6 = u1) (n62 : ¬ u6 = u2) (n63 : ¬ u6 = u3) (n64 : ¬ u6 = u4) (n65 : ¬ u6 = u5) : ∀ T : List (Str × Int), (keys T).Nodup → (∀ k ∈ keys T, k = u1 ∨ k = u2 ∨ k = u3 ∨ k = u4 ∨ k = u5 ∨ k = u6) → sumT g T = g u1 * val T u1 + g u2 * val T u2 + g u3 * val T u3 + g u4 * val T u4 + g u5 * val T u5 + g u6 * val T u6
  | [], _, _ => by simp [sumT, val_nil]
  | p :: r, h, hm => by
    have h' := List.nodup_cons.mp (show (p.1 :: keys r).Nodup from h)
    have ih := sumT6a g n12 n13 n14 n15 n16 n21 n23 n24 n25 n26 n31 n32 n34 n35 n36 n41 n42 n43 n45 n46 n51 n52 n53 n54 n56 n61 n62 n63 n64 n65 r h'.2 fun k hk => hm k (List.mem_cons_of_mem _ hk)
    have e : sumT g (p :: r) = g p.1 * p.2 + sumT g r := rfl
    have hv := val_none h'.1
    have hp := hm p.1 (List.mem_cons_self ..)
    rw [e, ih]
    simp only [val_cons]
    rcases hp with q | q | q | q | q | q
    · rw [q] at hv ⊢
      simp only [if_true, n12, n13, n14, n15, n16, if_false, hv]
      grind
    · rw [q] at hv ⊢
      simp only [if_true, n21, n23, n24, n25, n26, if_false, hv]
      grind
    · rw [q] at hv ⊢
      simp only [if_true, n31, n32, n34, n35, n36, if_false, hv]
      grind
    · rw [q] at hv ⊢
      simp only [if_true, n41, n42, n43, n45, n46, if_false, hv]
      grind
    · rw [q] at hv ⊢
      simp only [if_true, n51, n52, n53, n54, n56, if_false, hv]
      grind
    · rw [q] at hv ⊢
      simp only [if_true, n61, n62, n63, n64, n65, if_false, hv]
      grind
theorem sumT6 (g : Str → Int) (T : List (Str × Int)) (h : (keys T).Nodup) (hm : ∀ k ∈ keys T, k ∈ O6) : sumT g T = g o1 * val T o1 + g o2 * val T o2 + g o3 * val T o3 + g o4 * val T o4 + g o5 * val T o5 + g o6 * val T o6 :=
  sumT6a g ne12 ne13 ne14 ne15 ne16 ne21 ne23 ne24 ne25 ne26 ne31 ne32 ne34 ne35 ne36 ne41 ne42 ne43 ne45 ne46 ne51 ne52 ne53 ne54 ne56 ne61 ne62 ne63 ne64 ne65 T h fun k hk => by
    have := hm k hk
    rw [O6_eq] at this
    simpa only [List.mem_cons, List.not_mem_nil, or_false] using this
noncomputable def vecOf (T : List (Str × Int)) : V6 := ⟨val T o1, val T o2, val T o3, val T o4, val T o5, val T o6⟩
theorem vec_round (a b c r : Int) {T : List (Str × Int)} (h : (keys T).Nodup) (hm : ∀ k ∈ keys T, k ∈ O6) : vecOf (roundD (fun o => movesD o (DA a b c)) r T) = stepV a b c r (vecOf T) := by
  have e : ∀ o, val (roundD (fun o => movesD o (DA a b c)) r T) o = -r * val T o + sumT (fun k => val (movesD k (DA a b c)) o) T := fun o => val_roundD (FL := fun o => movesD o (DA a b c)) (fun k => nodup_moves k _) h r o
  unfold vecOf stepV
  dsimp only
  congr 1
  · rw [e, sumT6 _ T h hm, vm11, vm21, vm31, vm41, vm51, vm61]; grind
  · rw [e, sumT6 _ T h hm, vm12, vm22, vm32, vm42, vm52, vm62]; grind
  · rw [e, sumT6 _ T h hm, vm13, vm23, vm33, vm43, vm53, vm63]; grind
  · rw [e, sumT6 _ T h hm, vm14, vm24, vm34, vm44, vm54, vm64]; grind
  · rw [e, sumT6 _ T h hm, vm15, vm25, vm35, vm45, vm55, vm65]; grind
  · rw [e, sumT6 _ T h hm, vm16, vm26, vm36, vm46, vm56, vm66]; grind
theorem dom_round (a b c r : Int) {T : List (Str × Int)} (hm : ∀ k ∈ keys T, k ∈ O6) : ∀ k ∈ keys (roundD (fun o => movesD o (DA a b c)) r T), k ∈ O6 := by
  intro x hx
  rcases mem_roundD.mp hx with h | ⟨k, hk, h⟩
  · exact hm x h
  · have hk := hm k hk
    rw [O6_eq] at hk ⊢
    simp only [List.mem_cons, List.not_mem_nil, or_false] at hk ⊢
    rcases hk with rfl | rfl | rfl | rfl | rfl | rfl
    · rw [moves1] at h; simp only [keys, List.map_cons, List.map_nil, List.mem_cons, List.not_mem_nil, or_false] at h; rcases h with h | h | h <;> simp only [h, true_or, or_true]
    · rw [moves2] at h; simp only [keys, List.map_cons, List.map_nil, List.mem_cons, List.not_mem_nil, or_false] at h; rcases h with h | h | h <;> simp only [h, true_or, or_true]
    · rw [moves3] at h; simp only [keys, List.map_cons, List.map_nil, List.mem_cons, List.not_mem_nil, or_false] at h; rcases h with h | h | h <;> simp only [h, true_or, or_true]
    · rw [moves4] at h; simp only [keys, List.map_cons, List.map_nil, List.mem_cons, List.not_mem_nil, or_false] at h; rcases h with h | h | h <;> simp only [h, true_or, or_true]
    · rw [moves5] at h; simp only [keys, List.map_cons, List.map_nil, List.mem_cons, List.not_mem_nil, or_false] at h; rcases h with h | h | h <;> simp only [h, true_or, or_true]
    · rw [moves6] at h; simp only [keys, List.map_cons, List.map_nil, List.mem_cons, List.not_mem_nil, or_false] at h; rcases h with h | h | h <;> simp only [h, true_or, or_true]
end Mine
end

/-! ## P3 -/
section
theorem Mine.offP3 : True := by w_top off; trivial
open PySem PySem.W PySem.Calls PyProof.Rows PyProof.V
set_option Elab.async false
set_option maxRecDepth 100000
set_option maxHeartbeats 4000000
namespace Mine
theorem lt_uniq : ∀ {a b : List Int}, a.Pairwise (· < ·) → b.Pairwise (· < ·) → (∀ x, x ∈ a ↔ x ∈ b) → a = b
  | [], [], _, _, _ => rfl
  | [], y :: t, _, _, h => absurd ((h y).mpr (List.mem_cons_self ..)) List.not_mem_nil
  | x :: r, [], _, _, h => absurd ((h x).mp (List.mem_cons_self ..)) List.not_mem_nil
  | x :: r, y :: t, ha, hb, h => by
    have ha' := List.pairwise_cons.mp ha
    have hb' := List.pairwise_cons.mp hb
    have hxy : x = y := by
      have h1 := (h x).mp (List.mem_cons_self ..)
      have h2 := (h y).mpr (List.mem_cons_self ..)
      rcases List.mem_cons.mp h1 with e | h1
      · exact e
      · rcases List.mem_cons.mp h2 with e | h2
        · exact e.symm
        · have := hb'.1 x h1
          have := ha'.1 y h2
          omega
    subst hxy
    rw [lt_uniq ha'.2 hb'.2 fun z => ?_]
    constructor
    · intro hz
      rcases List.mem_cons.mp ((h z).mp (List.mem_cons_of_mem _ hz)) with e | e
      · have := ha'.1 z hz; omega
      · exact e
    · intro hz
      rcases List.mem_cons.mp ((h z).mpr (List.mem_cons_of_mem _ hz)) with e | e
      · have := hb'.1 z hz; omega
      · exact e
noncomputable def runV (a b c : Int) (rs : List Int) (v : V6) : V6 := rs.foldl (fun v r => stepV a b c r v) v
/-- what is asked, order by order -/
noncomputable def Asked (a b c S pr : Int) (v : V6) : Prop :=
  v.x1 * S * (a + b) = pr * c * b ∧ v.x2 * S * (a + c) = pr * b * c ∧ v.x3 * S * (b + a) = pr * c * a ∧ v.x4 * S * (b + c) = pr * a * c ∧ v.x5 * S * (c + a) = pr * b * a ∧ v.x6 * S * (c + b) = pr * a * b
theorem asked_abc (a b c S : Int) (v : V6) (hv : v.x1 + v.x2 + v.x3 + v.x4 + v.x5 + v.x6 = 1) (hS : S = a + b + c) : Asked a b c S (prodD S [0, a, b, c]) (runV a b c [0, a, b, c] v) := by
  unfold Asked runV prodD
  simp only [List.foldl_cons, List.foldl_nil]
  unfold stepV
  dsimp only
  subst hS
  obtain ⟨y1, y2, y3, y4, y5, y6⟩ := v
  dsimp only at hv ⊢
  have e6 : y6 = 1 - y1 - y2 - y3 - y4 - y5 := by omega
  subst e6
  refine ⟨?_, ?_, ?_, ?_, ?_, ?_⟩ <;> grind
theorem asked_acb (a b c S : Int) (v : V6) (hv : v.x1 + v.x2 + v.x3 + v.x4 + v.x5 + v.x6 = 1) (hS : S = a + b + c) : Asked a b c S (prodD S [0, a, c, b]) (runV a b c [0, a, c, b] v) := by
  unfold Asked runV prodD
  simp only [List.foldl_cons, List.foldl_nil]
  unfold stepV
  dsimp only
  subst hS
  obtain ⟨y1, y2, y3, y4, y5, y6⟩ := v
  dsimp only at hv ⊢
  have e6 : y6 = 1 - y1 - y2 - y3 - y4 - y5 := by omega
  subst e6
  refine ⟨?_, ?_, ?_, ?_, ?_, ?_⟩ <;> grind
theorem asked_bac (a b c S : Int) (v : V6) (hv : v.x1 + v.x2 + v.x3 + v.x4 + v.x5 + v.x6 = 1) (hS : S = a + b + c) : Asked a b c S (prodD S [0, b, a, c]) (runV a b c [0, b, a, c] v) := by
  unfold Asked runV prodD
  simp only [List.foldl_cons, List.foldl_nil]
  unfold stepV
  dsimp only
  subst hS
  obtain ⟨y1, y2, y3, y4, y5, y6⟩ := v
  dsimp only at hv ⊢
  have e6 : y6 = 1 - y1 - y2 - y3 - y4 - y5 := by omega
  subst e6
  refine ⟨?_, ?_, ?_, ?_, ?_, ?_⟩ <;> grind
theorem asked_bca (a b c S : Int) (v : V6) (hv : v.x1 + v.x2 + v.x3 + v.x4 + v.x5 + v.x6 = 1) (hS : S = a + b + c) : Asked a b c S (prodD S [0, b, c, a]) (runV a b c [0, b, c, a] v) := by
  unfold Asked runV prodD
  simp only [List.foldl_cons, List.foldl_nil]
  unfold stepV
  dsimp only
  subst hS
  obtain ⟨y1, y2, y3, y4, y5, y6⟩ := v
  dsimp only at hv ⊢
  have e6 : y6 = 1 - y1 - y2 - y3 - y4 - y5 := by omega
  subst e6
  refine ⟨?_, ?_, ?_, ?_, ?_, ?_⟩ <;> grind
theorem asked_cab (a b c S : Int) (v : V6) (hv : v.x1 + v.x2 + v.x3 + v.x4 + v.x5 + v.x6 = 1) (hS : S = a + b + c) : Asked a b c S (prodD S [0, c, a, b]) (runV a b c [0, c, a, b] v) := by
  unfold Asked runV prodD
  simp only [List.foldl_cons, List.foldl_nil]
  unfold stepV
  dsimp only
  subst hS
  obtain ⟨y1, y2, y3, y4, y5, y6⟩ := v
  dsimp only at hv ⊢
  have e6 : y6 = 1 - y1 - y2 - y3 - y4 - y5 := by omega
  subst e6
  refine ⟨?_, ?_, ?_, ?_, ?_, ?_⟩ <;> grind
theorem asked_cba (a b c S : Int) (v : V6) (hv : v.x1 + v.x2 + v.x3 + v.x4 + v.x5 + v.x6 = 1) (hS : S = a + b + c) : Asked a b c S (prodD S [0, c, b, a]) (runV a b c [0, c, b, a] v) := by
  unfold Asked runV prodD
  simp only [List.foldl_cons, List.foldl_nil]
  unfold stepV
  dsimp only
  subst hS
  obtain ⟨y1, y2, y3, y4, y5, y6⟩ := v
  dsimp only at hv ⊢
  have e6 : y6 = 1 - y1 - y2 - y3 - y4 - y5 := by omega
  subst e6
  refine ⟨?_, ?_, ?_, ?_, ?_, ?_⟩ <;> grind
theorem asked_eab1 (a b c S : Int) (v : V6) (hv : v.x1 + v.x2 + v.x3 + v.x4 + v.x5 + v.x6 = 1) (hS : S = a + b + c) (hab : b = a) : Asked a b c S (prodD S [0, a, c]) (runV a b c [0, a, c] v) := by
  unfold Asked runV prodD
  simp only [List.foldl_cons, List.foldl_nil]
  unfold stepV
  dsimp only
  subst hab
  subst hS
  obtain ⟨y1, y2, y3, y4, y5, y6⟩ := v
  dsimp only at hv ⊢
  have e6 : y6 = 1 - y1 - y2 - y3 - y4 - y5 := by omega
  subst e6
  refine ⟨?_, ?_, ?_, ?_, ?_, ?_⟩ <;> grind
theorem asked_eab2 (a b c S : Int) (v : V6) (hv : v.x1 + v.x2 + v.x3 + v.x4 + v.x5 + v.x6 = 1) (hS : S = a + b + c) (hab : b = a) : Asked a b c S (prodD S [0, c, a]) (runV a b c [0, c, a] v) := by
  unfold Asked runV prodD
  simp only [List.foldl_cons, List.foldl_nil]
  unfold stepV
  dsimp only
  subst hab
  subst hS
  obtain ⟨y1, y2, y3, y4, y5, y6⟩ := v
  dsimp only at hv ⊢
  have e6 : y6 = 1 - y1 - y2 - y3 - y4 - y5 := by omega
  subst e6
  refine ⟨?_, ?_, ?_, ?_, ?_, ?_⟩ <;> grind
theorem asked_eac1 (a b c S : Int) (v : V6) (hv : v.x1 + v.x2 + v.x3 + v.x4 + v.x5 + v.x6 = 1) (hS : S = a + b + c) (hac : c = a) : Asked a b c S (prodD S [0, a, b]) (runV a b c [0, a, b] v) := by
  unfold Asked runV prodD
  simp only [List.foldl_cons, List.foldl_nil]
  unfold stepV
  dsimp only
  subst hac
  subst hS
  obtain ⟨y1, y2, y3, y4, y5, y6⟩ := v
  dsimp only at hv ⊢
  have e6 : y6 = 1 - y1 - y2 - y3 - y4 - y5 := by omega
  subst e6
  refine ⟨?_, ?_, ?_, ?_, ?_, ?_⟩ <;> grind
theorem asked_eac2 (a b c S : Int) (v : V6) (hv : v.x1 + v.x2 + v.x3 + v.x4 + v.x5 + v.x6 = 1) (hS : S = a + b + c) (hac : c = a) : Asked a b c S (prodD S [0, b, a]) (runV a b c [0, b, a] v) := by
  unfold Asked runV prodD
  simp only [List.foldl_cons, List.foldl_nil]
  unfold stepV
  dsimp only
  subst hac
  subst hS
  obtain ⟨y1, y2, y3, y4, y5, y6⟩ := v
  dsimp only at hv ⊢
  have e6 : y6 = 1 - y1 - y2 - y3 - y4 - y5 := by omega
  subst e6
  refine ⟨?_, ?_, ?_, ?_, ?_, ?_⟩ <;> grind
theorem asked_ebc1 (a b c S : Int) (v : V6) (hv : v.x1 + v.x2 + v.x3 + v.x4 + v.x5 + v.x6 = 1) (hS : S = a + b + c) (hbc : c = b) : Asked a b c S (prodD S [0, b, a]) (runV a b c [0, b, a] v) := by
  unfold Asked runV prodD
  simp only [List.foldl_cons, List.foldl_nil]
  unfold stepV
  dsimp only
  subst hbc
  subst hS
  obtain ⟨y1, y2, y3, y4, y5, y6⟩ := v
  dsimp only at hv ⊢
  have e6 : y6 = 1 - y1 - y2 - y3 - y4 - y5 := by omega
  subst e6
  refine ⟨?_, ?_, ?_, ?_, ?_, ?_⟩ <;> grind
theorem asked_ebc2 (a b c S : Int) (v : V6) (hv : v.x1 + v.x2 + v.x3 + v.x4 + v.x5 + v.x6 = 1) (hS : S = a + b + c) (hbc : c = b) : Asked a b c S (prodD S [0, a, b]) (runV a b c [0, a, b] v) := by
  unfold Asked runV prodD
  simp only [List.foldl_cons, List.foldl_nil]
  unfold stepV
  dsimp only
  subst hbc
  subst hS
  obtain ⟨y1, y2, y3, y4, y5, y6⟩ := v
  dsimp only at hv ⊢
  have e6 : y6 = 1 - y1 - y2 - y3 - y4 - y5 := by omega
  subst e6
  refine ⟨?_, ?_, ?_, ?_, ?_, ?_⟩ <;> grind
theorem asked_eabc (a b c S : Int) (v : V6) (hv : v.x1 + v.x2 + v.x3 + v.x4 + v.x5 + v.x6 = 1) (hS : S = a + b + c) (hab : b = a) (hac : c = a) : Asked a b c S (prodD S [0, a]) (runV a b c [0, a] v) := by
  unfold Asked runV prodD
  simp only [List.foldl_cons, List.foldl_nil]
  unfold stepV
  dsimp only
  subst hab
  subst hac
  subst hS
  obtain ⟨y1, y2, y3, y4, y5, y6⟩ := v
  dsimp only at hv ⊢
  have e6 : y6 = 1 - y1 - y2 - y3 - y4 - y5 := by omega
  subst e6
  refine ⟨?_, ?_, ?_, ?_, ?_, ?_⟩ <;> grind
theorem asked_all (a b c S : Int) (ha : 1 ≤ a) (hb : 1 ≤ b) (hc : 1 ≤ c) (hS : S = a + b + c) {rs : List Int} (hp : rs.Pairwise (· < ·)) (hm : ∀ x, x ∈ rs ↔ x = 0 ∨ x = a ∨ x = b ∨ x = c) (v : V6) (hv : v.x1 + v.x2 + v.x3 + v.x4 + v.x5 + v.x6 = 1) :
    Asked a b c S (prodD S rs) (runV a b c rs v) ∧ 2 ≤ rs.length ∧ rs.length ≤ 4 := by
  have key : ∀ l : List Int, l.Pairwise (· < ·) → (∀ x, x ∈ l ↔ x = 0 ∨ x = a ∨ x = b ∨ x = c) → rs = l := fun l h1 h2 => lt_uniq hp h1 fun x => (hm x).trans (h2 x).symm
  rcases Int.lt_trichotomy a b with h1 | h1 | h1
  · rcases Int.lt_trichotomy b c with h2 | h2 | h2
    · rw [key [0, a, b, c] (by simp <;> omega) (fun x => by simp <;> omega)]
      exact ⟨asked_abc a b c S v hv hS, by simp, by simp⟩
    · rw [key [0, a, b] (by simp <;> omega) (fun x => by simp <;> omega)]
      exact ⟨asked_ebc2 a b c S v hv hS h2.symm, by simp, by simp⟩
    · rcases Int.lt_trichotomy a c with h3 | h3 | h3
      · rw [key [0, a, c, b] (by simp <;> omega) (fun x => by simp <;> omega)]
        exact ⟨asked_acb a b c S v hv hS, by simp, by simp⟩
      · rw [key [0, a, b] (by simp <;> omega) (fun x => by simp <;> omega)]
        exact ⟨asked_eac1 a b c S v hv hS h3.symm, by simp, by simp⟩
      · rw [key [0, c, a, b] (by simp <;> omega) (fun x => by simp <;> omega)]
        exact ⟨asked_cab a b c S v hv hS, by simp, by simp⟩
  · rcases Int.lt_trichotomy b c with h2 | h2 | h2
    · rw [key [0, a, c] (by simp <;> omega) (fun x => by simp <;> omega)]
      exact ⟨asked_eab1 a b c S v hv hS h1.symm, by simp, by simp⟩
    · rw [key [0, a] (by simp <;> omega) (fun x => by simp <;> omega)]
      exact ⟨asked_eabc a b c S v hv hS h1.symm (h2.symm.trans h1.symm), by simp, by simp⟩
    · rw [key [0, c, a] (by simp <;> omega) (fun x => by simp <;> omega)]
      exact ⟨asked_eab2 a b c S v hv hS h1.symm, by simp, by simp⟩
  · rcases Int.lt_trichotomy a c with h2 | h2 | h2
    · rw [key [0, b, a, c] (by simp <;> omega) (fun x => by simp <;> omega)]
      exact ⟨asked_bac a b c S v hv hS, by simp, by simp⟩
    · rw [key [0, b, a] (by simp <;> omega) (fun x => by simp <;> omega)]
      exact ⟨asked_eac2 a b c S v hv hS h2.symm, by simp, by simp⟩
    · rcases Int.lt_trichotomy b c with h3 | h3 | h3
      · rw [key [0, b, c, a] (by simp <;> omega) (fun x => by simp <;> omega)]
        exact ⟨asked_bca a b c S v hv hS, by simp, by simp⟩
      · rw [key [0, b, a] (by simp <;> omega) (fun x => by simp <;> omega)]
        exact ⟨asked_ebc1 a b c S v hv hS h3.symm, by simp, by simp⟩
      · rw [key [0, c, b, a] (by simp <;> omega) (fun x => by simp <;> omega)]
        exact ⟨asked_cba a b c S v hv hS, by simp, by simp⟩
end Mine
end

/-! ## P4 -/
section
theorem Mine.offP4 : True := by w_top off; trivial
open PySem PySem.W PySem.Calls PyProof.Rows PyProof.V
open Builtin.Int (intBits)
set_option Elab.async false
set_option maxRecDepth 100000
set_option maxHeartbeats 4000000
namespace Mine
theorem nodup_len : ∀ (b a : List Str), a.Nodup → (∀ x ∈ a, x ∈ b) → a.length ≤ b.length
  | [], a, _, h => by
    cases a with
    | nil => exact Nat.le_refl _
    | cons x r => exact absurd (h x (List.mem_cons_self ..)) List.not_mem_nil
  | y :: t, a, hn, h => by
    have ih := nodup_len t (a.erase y) (hn.erase y) fun x hx => by
      have := (hn.mem_erase_iff).mp hx
      rcases List.mem_cons.mp (h x this.2) with e | e
      · exact absurd e this.1
      · exact e
    by_cases hy : y ∈ a
    · rw [List.length_erase_of_mem hy] at ih
      rw [List.length_cons]; omega
    · rw [List.erase_of_not_mem hy] at ih
      rw [List.length_cons]; omega
/-! bits -/
noncomputable def bnd (D : List (Str × Int)) (N : Nat) : Prop := ∀ p ∈ D, intBits p.2 ≤ N
theorem bnd_le {D : List (Str × Int)} {M N : Nat} (h : bnd D M) (hl : M ≤ N) : bnd D N := fun p hp => Nat.le_trans (h p hp) hl
theorem bnd_put {D : List (Str × Int)} {N : Nat} {k : Str} {c : Int} (h : bnd D N) (hc : intBits c ≤ N) : bnd (put D k c) N := by
  unfold put
  split
  · intro p hp
    obtain ⟨q, hq, rfl⟩ := List.mem_map.mp hp
    split
    · exact hc
    · exact h q hq
  · intro p hp
    rcases List.mem_append.mp hp with hp | hp
    · exact h p hp
    · rw [List.mem_singleton.mp hp]; exact hc
theorem look_mem {D : List (Str × Int)} {k : Str} {u : Int} (h : look D k = some u) : ∃ p ∈ D, p.2 = u := by
  induction D with
  | nil => cases h
  | cons p r ih =>
    have h : (if p.1 = k then some p.2 else look r k) = some u := h
    by_cases e : p.1 = k
    · rw [if_pos e] at h; exact ⟨p, List.mem_cons_self .., Option.some.inj h⟩
    · rw [if_neg e] at h
      obtain ⟨q, hq, e⟩ := ih h
      exact ⟨q, List.mem_cons_of_mem _ hq, e⟩
theorem bnd_addTo {D : List (Str × Int)} {N : Nat} {p : Str × Int} (h : bnd D N) (hp : intBits p.2 ≤ N) : bnd (addTo D p) (N + 1) := by
  unfold addTo
  refine bnd_put (bnd_le h (Nat.le_succ N)) ?_
  cases e : look D p.1 with
  | none => exact Nat.le_succ_of_le hp
  | some u =>
    obtain ⟨q, hq, rfl⟩ := look_mem e
    have := intBits_add_le (h q hq) hp
    rw [Nat.max_self] at this; exact this
theorem bnd_foldAdd : ∀ (D2 D : List (Str × Int)) (N : Nat), bnd D N → bnd D2 N → bnd (D2.foldl addTo D) (N + D2.length)
  | [], D, N, h, _ => h
  | p :: r, D, N, h, h2 => by
    have := bnd_foldAdd r (addTo D p) (N + 1) (bnd_addTo h (h2 p (List.mem_cons_self ..))) (bnd_le (fun q hq => h2 q (List.mem_cons_of_mem _ hq)) (Nat.le_succ N))
    rw [List.foldl_cons, List.length_cons]
    exact bnd_le this (by omega)
theorem bnd_foldPut : ∀ (D2 D : List (Str × Int)) (N : Nat), bnd D N → bnd D2 N → bnd (D2.foldl putTo D) N
  | [], D, N, h, _ => h
  | p :: r, D, N, h, h2 => bnd_foldPut r (putTo D p) N (bnd_put h (h2 p (List.mem_cons_self ..))) fun q hq => h2 q (List.mem_cons_of_mem _ hq)
theorem bnd_nil (N : Nat) : bnd [] N := fun p hp => by cases hp
theorem bnd_merge {D1 D2 : List (Str × Int)} {N : Nat} (h1 : bnd D1 N) (h2 : bnd D2 N) : bnd (merge D1 D2) (N + D2.length) := bnd_foldAdd D2 _ N (bnd_foldPut D1 [] N (bnd_nil N) h1) h2
theorem bnd_mapT {f : Str → Int → Int} {D : List (Str × Int)} {N : Nat} (h : ∀ p ∈ D, intBits (f p.1 p.2) ≤ N) : bnd (mapT f D) N := by
  rw [mapT_eq]
  refine bnd_foldPut _ [] N (bnd_nil N) fun p hp => ?_
  obtain ⟨q, hq, rfl⟩ := List.mem_map.mp hp
  exact h q hq
theorem bnd_rounds {FL : Str → List (Str × Int)} {w m : Nat} (hF : ∀ k, bnd (FL k) w) (hl : ∀ k, (FL k).length ≤ 3) : ∀ (l M : List (Str × Int)) (N : Nat), bnd l m → w + m ≤ N → bnd M N → bnd (l.foldl (fun M p => merge M (mapT (fun _ x => x * p.2) (FL p.1))) M) (N + 3 * l.length)
  | [], M, N, _, _, h => h
  | p :: r, M, N, hm, hN, h => by
    have h2 : bnd (mapT (fun _ x => x * p.2) (FL p.1)) N := bnd_mapT fun q hq => Nat.le_trans (intBits_mul_le (hF p.1 q hq) (hm p (List.mem_cons_self ..))) hN
    have h3 := bnd_merge h h2
    have h4 := mapT_len (fun _ x => x * p.2) (FL p.1)
    have := bnd_rounds hF hl r _ (N + 3) (fun q hq => hm q (List.mem_cons_of_mem _ hq)) (by omega) (bnd_le h3 (by have := hl p.1; omega))
    rw [List.foldl_cons, List.length_cons]
    exact bnd_le this (by omega)
theorem bnd_roundD {FL : Str → List (Str × Int)} {w m : Nat} {r : Int} {T : List (Str × Int)} (hF : ∀ k, bnd (FL k) w) (hl : ∀ k, (FL k).length ≤ 3) (hr : intBits r ≤ w) (hT : bnd T m) (hTl : T.length ≤ 6) : bnd (roundD FL r T) (w + m + 18) := by
  unfold roundD
  have h1 : bnd (mapT (fun _ x => -r * x) T) (w + m) := bnd_mapT fun q hq => intBits_mul_le (intBits_neg_le hr) (hT q hq)
  exact bnd_le (bnd_rounds hF hl T _ (w + m) hT (Nat.le_refl _) h1) (by omega)
/-! the moves reach all -/
noncomputable def NB (o : Str) : List Str := [mvT o (bk 0), mvT o (bk 1), mvT o (bk 2)]
theorem nb1 (a b c : Int) : keys (movesD o1 (DA a b c)) = NB o1 := by
  rw [moves1]; unfold NB; rw [mv1a, mv1b, mv1c]; rfl
theorem nb2 (a b c : Int) : keys (movesD o2 (DA a b c)) = NB o2 := by
  rw [moves2]; unfold NB; rw [mv2a, mv2b, mv2c]; rfl
theorem nb3 (a b c : Int) : keys (movesD o3 (DA a b c)) = NB o3 := by
  rw [moves3]; unfold NB; rw [mv3a, mv3b, mv3c]; rfl
theorem nb4 (a b c : Int) : keys (movesD o4 (DA a b c)) = NB o4 := by
  rw [moves4]; unfold NB; rw [mv4a, mv4b, mv4c]; rfl
theorem nb5 (a b c : Int) : keys (movesD o5 (DA a b c)) = NB o5 := by
  rw [moves5]; unfold NB; rw [mv5a, mv5b, mv5c]; rfl
theorem nb6 (a b c : Int) : keys (movesD o6 (DA a b c)) = NB o6 := by
  rw [moves6]; unfold NB; rw [mv6a, mv6b, mv6c]; rfl
theorem nb (a b c : Int) : ∀ o ∈ O6, keys (movesD o (DA a b c)) = NB o := by
  intro o ho
  rw [O6_eq] at ho
  simp only [List.mem_cons, List.not_mem_nil, or_false] at ho
  rcases ho with rfl | rfl | rfl | rfl | rfl | rfl
  · exact nb1 a b c
  · exact nb2 a b c
  · exact nb3 a b c
  · exact nb4 a b c
  · exact nb5 a b c
  · exact nb6 a b c
theorem reach : ∀ s ∈ O6, ∀ o ∈ O6, ∃ k ∈ O6, (k = s ∨ k ∈ NB s) ∧ (o = k ∨ o ∈ NB k) := by decide +kernel
theorem moves_len (o : Str) (a b c : Int) : (movesD o (DA a b c)).length ≤ 3 := by
  have h1 := merge_len (merge (merge [] [(mvT o (bk 0), a)]) [(mvT o (bk 1), b)]) [(mvT o (bk 2), c)]
  have h2 := merge_len (merge [] [(mvT o (bk 0), a)]) [(mvT o (bk 1), b)]
  have h3 := merge_len [] [(mvT o (bk 0), a)]
  have e : movesD o (DA a b c) = merge (merge (merge [] [(mvT o (bk 0), a)]) [(mvT o (bk 1), b)]) [(mvT o (bk 2), c)] := by
    unfold movesD DA
    rw [List.foldl_cons, List.foldl_cons, List.foldl_cons, List.foldl_nil]
  rw [e]
  simp only [List.length_singleton, List.length_nil] at h1 h2 h3
  omega
theorem moves_bnd (o : Str) {a b c : Int} {w : Nat} (ha : intBits a ≤ w) (hb : intBits b ≤ w) (hc : intBits c ≤ w) : bnd (movesD o (DA a b c)) (w + 3) := by
  have e : movesD o (DA a b c) = merge (merge (merge [] [(mvT o (bk 0), a)]) [(mvT o (bk 1), b)]) [(mvT o (bk 2), c)] := by
    unfold movesD DA
    rw [List.foldl_cons, List.foldl_cons, List.foldl_cons, List.foldl_nil]
  rw [e]
  have one : ∀ {k : Str} {x : Int} {N : Nat}, intBits x ≤ N → bnd [(k, x)] N := fun h p hp => by rw [List.mem_singleton.mp hp]; exact h
  exact bnd_merge (bnd_merge (bnd_merge (bnd_nil w) (one ha)) (one (Nat.le_succ_of_le hb))) (one (Nat.le_succ_of_le (Nat.le_succ_of_le hc)))
theorem one_bits : intBits 1 ≤ 1 + 0 := by decide +kernel
/-! the rounds -/
section
variable {a b c : Int} {w : Nat} {st : Str}
theorem one_nodup (k : Str) (x : Int) : (keys [(k, x)]).Nodup := by
  unfold keys
  rw [List.map_cons, List.map_nil]
  exact List.nodup_cons.mpr ⟨List.not_mem_nil, List.nodup_nil⟩
theorem nodup_runs (FL : Str → List (Str × Int)) : ∀ (l : List Int) (T : List (Str × Int)), (keys T).Nodup → (keys (l.foldl (fun T r => roundD FL r T) T)).Nodup
  | [], _, h => h
  | r :: t, T, _ => by rw [List.foldl_cons]; exact nodup_runs FL t _ (nodup_roundD _ _ _)
theorem rounds_nodup (Da : List (Str × Int)) (st : Str) (rs : List Int) : (keys (roundsD Da st rs)).Nodup := by
  unfold roundsD
  exact nodup_runs (fun o => movesD o Da) rs _ (one_nodup st 1)
theorem rounds_facts (ha : intBits a ≤ w) (hb : intBits b ≤ w) (hc : intBits c ≤ w) (hst : st ∈ O6) (rs : List Int) (hr : ∀ r ∈ rs, intBits r ≤ w) : ∀ n, n ≤ rs.length →
    (∀ k ∈ keys (roundsD (DA a b c) st (rs.take n)), k ∈ O6) ∧ bnd (roundsD (DA a b c) st (rs.take n)) (1 + n * (w + 21)) ∧ vecOf (roundsD (DA a b c) st (rs.take n)) = runV a b c (rs.take n) (vecOf [(st, 1)])
  | 0, _ => by
    have e0 : roundsD (DA a b c) st [] = [(st, 1)] := by unfold roundsD; rw [List.foldl_nil]
    have e1 : runV a b c [] (vecOf [(st, 1)]) = vecOf [(st, 1)] := by unfold runV; rw [List.foldl_nil]
    rw [List.take_zero, e0, e1, Nat.zero_mul]
    refine ⟨fun k hk => ?_, fun p hp => ?_, rfl⟩
    · unfold keys at hk
      rw [List.map_cons, List.map_nil] at hk
      rw [List.mem_singleton.mp hk]; exact hst
    · rw [List.mem_singleton.mp hp]
      exact one_bits
  | n + 1, hn => by
    obtain ⟨h1, h2, h3⟩ := rounds_facts ha hb hc hst rs hr n (by omega)
    have hlt : n < rs.length := by omega
    have e1 : rs.take (n + 1) = rs.take n ++ [rs[n]] := by rw [List.take_add_one, List.getElem?_eq_getElem hlt]; rfl
    have e2 : roundsD (DA a b c) st (rs.take (n + 1)) = roundD (fun o => movesD o (DA a b c)) rs[n] (roundsD (DA a b c) st (rs.take n)) := by
      unfold roundsD; rw [e1, List.foldl_append, List.foldl_cons, List.foldl_nil]
    have hnd := rounds_nodup (DA a b c) st (rs.take n)
    rw [e2]
    refine ⟨dom_round a b c _ h1, ?_, ?_⟩
    · have hl6 : (roundsD (DA a b c) st (rs.take n)).length ≤ 6 := by
        have := nodup_len O6 _ hnd h1
        unfold keys at this
        rw [List.length_map] at this; exact this
      have := bnd_roundD (w := w + 3) (m := 1 + n * (w + 21)) (r := rs[n]) (fun k => moves_bnd k ha hb hc) (fun k => moves_len k a b c) (Nat.le_trans (hr _ (List.getElem_mem hlt)) (Nat.le_add_right _ _)) h2 hl6
      refine bnd_le this ?_
      rw [Nat.add_mul, Nat.one_mul]; omega
    · rw [vec_round a b c _ hnd h1, h3]
      unfold runV
      rw [e1, List.foldl_append, List.foldl_cons, List.foldl_nil]
theorem mono_round (FL : Str → List (Str × Int)) (r : Int) (T : List (Str × Int)) : ∀ x, x ∈ keys T → x ∈ keys (roundD FL r T) := fun x h => mem_roundD.mpr (.inl h)
theorem stays (FL : Str → List (Str × Int)) (o : Str) : ∀ (l : List Int) (T : List (Str × Int)), o ∈ keys T → o ∈ keys (l.foldl (fun T r => roundD FL r T) T)
  | [], _, h => h
  | r :: t, T, h => by rw [List.foldl_cons]; exact stays FL o t _ (mono_round _ _ _ _ h)
theorem rounds_all (hst : st ∈ O6) {rs : List Int} (h2 : 2 ≤ rs.length) : ∀ o ∈ O6, o ∈ keys (roundsD (DA a b c) st rs) := by
  intro o ho
  obtain ⟨k, hk, h1, h3⟩ := reach st hst o ho
  match rs, h2 with
  | r0 :: r1 :: t, _ =>
    have hk1 : k ∈ keys (roundD (fun o => movesD o (DA a b c)) r0 [(st, 1)]) := by
      rw [mem_roundD]
      rcases h1 with rfl | h1
      · exact .inl (List.mem_cons_self ..)
      · exact .inr ⟨st, List.mem_cons_self .., by rw [nb a b c st hst]; exact h1⟩
    have hk2 : o ∈ keys (roundD (fun o => movesD o (DA a b c)) r1 (roundD (fun o => movesD o (DA a b c)) r0 [(st, 1)])) := by
      rw [mem_roundD]
      rcases h3 with rfl | h3
      · exact .inl hk1
      · exact .inr ⟨k, hk1, by rw [nb a b c k hk]; exact h3⟩
    unfold roundsD
    rw [List.foldl_cons, List.foldl_cons]
    exact stays (fun o => movesD o (DA a b c)) o t _ hk2
theorem prod_bits {S : Int} {rs : List Int} (hS : intBits S ≤ w) (hr : ∀ r ∈ rs, intBits r ≤ w) : ∀ n, n ≤ rs.length → intBits (prodD S (rs.take n)) ≤ 1 + n * (w + 1)
  | 0, _ => by
    have e0 : prodD S [] = 1 := by unfold prodD; rw [List.foldl_nil]
    rw [List.take_zero, e0, Nat.zero_mul]
    exact one_bits
  | n + 1, hn => by
    have ih := prod_bits hS hr n (by omega)
    have hlt : n < rs.length := by omega
    have e1 : rs.take (n + 1) = rs.take n ++ [rs[n]] := by rw [List.take_add_one, List.getElem?_eq_getElem hlt]; rfl
    have e2 : prodD S (rs.take (n + 1)) = prodD S (rs.take n) * (S - rs[n]) := by unfold prodD; rw [e1, List.foldl_append, List.foldl_cons, List.foldl_nil]
    rw [e2]
    have h1 := intBits_sub_le hS (hr _ (List.getElem_mem hlt))
    rw [Nat.max_self] at h1
    have := intBits_mul_le ih h1
    rw [Nat.add_mul, Nat.one_mul]; omega
end
end Mine
end

/-! ## P5 -/
section
theorem Mine.offP5 : True := by w_top off; trivial
open PySem PySem.W PySem.Calls PyProof.Rows PyProof.V
open Builtin.Int (intBits)
set_option Elab.async false
set_option maxRecDepth 100000
set_option maxHeartbeats 4000000
namespace Mine
theorem bkOf_pos {lo hi : Int} (h : lo ≤ hi) (x : Int) : bkOf lo hi x = (posR lo hi x : Nat) := by
  unfold bkOf posR
  by_cases h1 : x < lo
  · rw [if_neg (by omega), if_neg (by omega), if_pos h1]; rfl
  · by_cases h2 : x < hi
    · rw [if_pos (by omega), if_neg (by omega), if_neg h1, if_pos h2]; rfl
    · rw [if_pos (by omega), if_pos (by omega), if_neg h1, if_neg h2]; rfl
theorem bk01 : ¬ bk 0 = bk 1 := by decide +kernel
theorem bk02 : ¬ bk 0 = bk 2 := by decide +kernel
theorem bk12 : ¬ bk 1 = bk 2 := by decide +kernel
theorem bk_inj {i j : Nat} (hi : i < 3) (hj : j < 3) (h : bk i = bk j) : i = j := by
  rcases i with _ | _ | _ | i <;> rcases j with _ | _ | _ | j <;> first | rfl | omega | exact absurd h bk01 | exact absurd h bk02 | exact absurd h bk12 | exact absurd h.symm bk01 | exact absurd h.symm bk02 | exact absurd h.symm bk12
theorem merge_a (p q r : Str) (h1 : ¬ p = q) (h2 : ¬ p = r) (h3 : ¬ q = r) (a b c x : Int) : merge [(p, a), (q, b), (r, c)] [(p, x)] = [(p, a + x), (q, b), (r, c)] := by
  have g1 : ¬ q = p := fun e => h1 e.symm
  have g2 : ¬ r = p := fun e => h2 e.symm
  have g3 : ¬ r = q := fun e => h3 e.symm
  simp [merge, putTo, addTo, put, look, h1, h2, h3, g1, g2, g3]
theorem merge_b (p q r : Str) (h1 : ¬ p = q) (h2 : ¬ p = r) (h3 : ¬ q = r) (a b c x : Int) : merge [(p, a), (q, b), (r, c)] [(q, x)] = [(p, a), (q, b + x), (r, c)] := by
  have g1 : ¬ q = p := fun e => h1 e.symm
  have g2 : ¬ r = p := fun e => h2 e.symm
  have g3 : ¬ r = q := fun e => h3 e.symm
  simp [merge, putTo, addTo, put, look, h1, h2, h3, g1, g2, g3]
theorem merge_c (p q r : Str) (h1 : ¬ p = q) (h2 : ¬ p = r) (h3 : ¬ q = r) (a b c x : Int) : merge [(p, a), (q, b), (r, c)] [(r, x)] = [(p, a), (q, b), (r, c + x)] := by
  have g1 : ¬ q = p := fun e => h1 e.symm
  have g2 : ¬ r = p := fun e => h2 e.symm
  have g3 : ¬ r = q := fun e => h3 e.symm
  simp [merge, putTo, addTo, put, look, h1, h2, h3, g1, g2, g3]
theorem puts3 (p q r : Str) (h1 : ¬ p = q) (h2 : ¬ p = r) (h3 : ¬ q = r) (a b c : Int) : put (put (put [] p a) q b) r c = [(p, a), (q, b), (r, c)] := by
  simp [put, h1, h2, h3]
theorem sizesT_DA (bs rs : List Int) : sizesT bs rs 3 = DA (SZ bs rs 0) (SZ bs rs 1) (SZ bs rs 2) := by
  show put (put (put [] (bk 0) (SZ bs rs 0)) (bk 1) (SZ bs rs 1)) (bk 2) (SZ bs rs 2) = _
  rw [puts3 _ _ _ bk01 bk02 bk12]; rfl
theorem wt_pos (x : Int) : 1 ≤ wt x := by unfold wt; split <;> omega
theorem wt_bits {x : Int} {m : Nat} (h : intBits x ≤ m) : intBits (wt x) ≤ m + 2 := by
  unfold wt
  have h1 := intBits_ite_le (c := x < 0) (intBits_neg_le h) h
  rw [Nat.max_self] at h1
  have h2 := intBits_add_le (x := 1) (y := if x < 0 then -x else x) (m := 1) one_bits h1
  exact Nat.le_trans h2 (by have := Nat.max_le (a := 1) (b := m) (c := m + 1); omega)
theorem sum_bits {m : Nat} : ∀ l : List Int, (∀ x ∈ l, intBits x ≤ m) → intBits l.sum ≤ m + l.length
  | [], _ => by
    have : intBits ([] : List Int).sum ≤ 0 := by decide +kernel
    exact Nat.le_trans this (Nat.zero_le _)
  | x :: r, h => by
    have ih := sum_bits r fun y hy => h y (List.mem_cons_of_mem _ hy)
    rw [List.sum_cons, List.length_cons]
    have h1 := intBits_add_le (h x (List.mem_cons_self ..)) ih
    exact Nat.le_trans h1 (by have := Nat.max_le (a := m) (b := m + r.length) (c := m + r.length); omega)
theorem sum_pos : ∀ l : List Int, (∀ x ∈ l, 1 ≤ x) → (l.length : Int) ≤ l.sum
  | [], _ => Int.le_refl _
  | x :: r, h => by
    have ih := sum_pos r fun y hy => h y (List.mem_cons_of_mem _ hy)
    have := h x (List.mem_cons_self ..)
    rw [List.sum_cons, List.length_cons]
    omega
section
variable {bs ns : List Int} {i : Nat}
theorem WSn_mem {x : Int} {n : Nat} {j : Int} (h : x ∈ WSn bs ns j n) : ∃ k, k < n ∧ x = wt (ns.getD k 0) := by
  unfold WSn at h
  obtain ⟨k, hk, rfl⟩ := List.mem_map.mp h
  exact ⟨k, List.mem_range.mp (List.mem_filter.mp hk).1, rfl⟩
theorem WSn_len (j : Int) (n : Nat) : (WSn bs ns j n).length ≤ n := by
  unfold WSn
  rw [List.length_map]
  exact Nat.le_trans (List.length_filter_le ..) (Nat.le_of_eq List.length_range)
theorem SZ_bits {m : Nat} (h : ∀ k, intBits (ns.getD k 0) ≤ m) : intBits (SZ bs ns i) ≤ m + 10 := by
  unfold SZ
  have h1 := sum_bits (m := m + 2) (WSn bs ns i 8) fun x hx => by
    obtain ⟨k, _, rfl⟩ := WSn_mem hx
    exact wt_bits (h k)
  have h2 := WSn_len (bs := bs) (ns := ns) (i : Int) 8
  omega
theorem SZ_pos (h : bs.getD i 0 = (i : Int)) (hi : i < 8) : 1 ≤ SZ bs ns i := by
  unfold SZ
  have h1 := sum_pos (WSn bs ns i 8) fun x hx => by
    obtain ⟨k, _, rfl⟩ := WSn_mem hx
    exact wt_pos _
  have h2 : wt (ns.getD i 0) ∈ WSn bs ns i 8 := by
    unfold WSn
    refine List.mem_map.mpr ⟨i, List.mem_filter.mpr ⟨List.mem_range.mpr hi, ?_⟩, rfl⟩
    rw [beq_iff_eq]; exact h
  have h3 := List.length_pos_of_mem h2
  omega
theorem serveD_DA {lo hi : Int} (hb : ∀ k, k < 8 → bs.getD k 0 = (posR lo hi (ns.getD k 0) : Nat)) (b0 : posR lo hi (ns.getD 0 0) = 0) (b1 : posR lo hi (ns.getD 1 0) = 1) (b2 : posR lo hi (ns.getD 2 0) = 2) :
    ∀ k, k + 3 ≤ 8 → serveD lo hi ns (k + 3) = DA (WSn bs ns 0 (k + 3)).sum (WSn bs ns 1 (k + 3)).sum (WSn bs ns 2 (k + 3)).sum
  | 0, _ => by
    have e : serveD lo hi ns 3 = merge (merge (merge [] [(bk (posR lo hi (ns.getD 0 0)), wt (ns.getD 0 0))]) [(bk (posR lo hi (ns.getD 1 0)), wt (ns.getD 1 0))]) [(bk (posR lo hi (ns.getD 2 0)), wt (ns.getD 2 0))] := rfl
    have g0 : bs.getD 0 0 = 0 := by rw [hb 0 (by decide), b0]; rfl
    have g1 : bs.getD 1 0 = 1 := by rw [hb 1 (by decide), b1]; rfl
    have g2 : bs.getD 2 0 = 2 := by rw [hb 2 (by decide), b2]; rfl
    have z : ∀ j, WSn bs ns j 0 = [] := fun _ => rfl
    rw [Nat.zero_add, e, b0, b1, b2, three_merge _ _ _ bk01 bk02 bk12]
    unfold DA
    rw [show (3 : Nat) = 0 + 1 + 1 + 1 from rfl]
    simp only [WSn_succ, z, g0, g1, g2, Nat.zero_add, Nat.reduceAdd]
    simp
  | k + 1, h => by
    have ih := serveD_DA hb b0 b1 b2 k (by omega)
    have e : serveD lo hi ns (k + 1 + 3) = merge (serveD lo hi ns (k + 3)) [(bk (posR lo hi (ns.getD (k + 3) 0)), wt (ns.getD (k + 3) 0))] := rfl
    have g := hb (k + 3) (by omega)
    have hl := posR_lt lo hi (ns.getD (k + 3) 0)
    rw [e, ih, show k + 1 + 3 = k + 3 + 1 by omega, WSn_succ _ _ 0 (k + 3), WSn_succ _ _ 1 (k + 3), WSn_succ _ _ 2 (k + 3), g]
    generalize posR lo hi (ns.getD (k + 3) 0) = j at hl
    unfold DA
    rcases j with _ | _ | _ | j
    · rw [merge_a _ _ _ bk01 bk02 bk12]; simp
    · rw [merge_b _ _ _ bk01 bk02 bk12]; simp
    · rw [merge_c _ _ _ bk01 bk02 bk12]; simp
    · omega
end
end Mine
end

/-! ## P6 -/
section
theorem Mine.offP6 : True := by w_top off; trivial
open PySem PySem.W PySem.Calls PyProof.Rows PyProof.V
set_option Elab.async false
set_option maxRecDepth 100000
set_option maxHeartbeats 4000000
namespace Mine
noncomputable def lastsN (b : Nat → Nat) : Nat → List Nat
  | 0 => []
  | n + 1 => (lastsN b n).filter (fun k => decide (b k ≠ b n)) ++ [n]
theorem mem_lasts {b : Nat → Nat} {k : Nat} : ∀ n, k ∈ lastsN b n ↔ k < n ∧ ∀ j, k < j → j < n → b j ≠ b k
  | 0 => by simp [lastsN]
  | n + 1 => by
    rw [lastsN, List.mem_append, List.mem_filter, List.mem_singleton, mem_lasts n, decide_eq_true_iff]
    constructor
    · rintro (⟨⟨h1, h2⟩, h3⟩ | rfl)
      · refine ⟨by omega, fun j hj hn => ?_⟩
        rcases Nat.lt_succ_iff_lt_or_eq.mp hn with h | rfl
        · exact h2 j hj h
        · exact fun e => h3 e.symm
      · exact ⟨Nat.lt_succ_self _, fun j h1 h2 => by omega⟩
    · rintro ⟨h1, h2⟩
      rcases Nat.lt_succ_iff_lt_or_eq.mp h1 with h | h
      · exact .inl ⟨⟨h, fun j hj hn => h2 j hj (by omega)⟩, fun e => h2 n h (Nat.lt_succ_self _) e.symm⟩
      · exact .inr h
theorem pair_lasts (b : Nat → Nat) : ∀ n, (lastsN b n).Pairwise (· < ·)
  | 0 => List.Pairwise.nil
  | n + 1 => by
    rw [lastsN, List.pairwise_append]
    refine ⟨(pair_lasts b n).filter _, List.pairwise_singleton .., fun x hx y hy => ?_⟩
    rw [List.mem_singleton.mp hy]
    exact ((mem_lasts n).mp (List.mem_filter.mp hx).1).1
theorem serveL_lasts {lo hi : Int} {ns : List Int} {b : Nat → Nat} (hb : ∀ k, b k = posR lo hi (ns.getD k 0)) : ∀ n, serveL dec lo hi ns n = (lastsN b n).map fun k => (nmOf k (b k), dec k)
  | 0 => rfl
  | n + 1 => by
    rw [serveL, serveL_lasts hb n, lastsN, List.map_append, ← hb n, List.filter_map]
    congr 2
    apply List.filter_congr
    intro k _
    have h1 : b k < 3 := by rw [hb]; exact posR_lt ..
    have h2 : b n < 3 := by rw [hb]; exact posR_lt ..
    show (Txt.lower (nmOf k (b k)) != Txt.lower (nmOf n (b n))) = decide (b k ≠ b n)
    rw [low_nm h1, low_nm h2]
    by_cases h : b k = b n
    · rw [h]; simp
    · have : ¬ bk (b k) = bk (b n) := fun e => h (bk_inj h1 h2 e)
      simp [h, this]
/-- the last reader of a book -/
theorem last_of {bs : List Int} {b : Nat → Nat} (hl : bs.length = 8) (hb : ∀ k, k < 8 → bs.getD k 0 = (b k : Nat)) {i : Nat} {M : Int} (h : IsLast bs (i : Int) M) : ∃ k : Nat, M = (k : Int) ∧ k ∈ lastsN b 8 ∧ b k = i := by
  obtain ⟨h1, h2⟩ := h
  unfold JS JSn at h1 h2
  rw [hl] at h1 h2
  obtain ⟨k, hk, rfl⟩ := List.mem_map.mp h1
  obtain ⟨hk8, hki⟩ := List.mem_filter.mp hk
  have hk8 := List.mem_range.mp hk8
  rw [beq_iff_eq, hb k hk8] at hki
  have hki : b k = i := by omega
  refine ⟨k, rfl, (mem_lasts 8).mpr ⟨hk8, fun j hj hj8 e => ?_⟩, hki⟩
  have : (j : Int) ≤ (k : Int) := h2 _ (List.mem_map.mpr ⟨j, List.mem_filter.mpr ⟨List.mem_range.mpr hj8, by rw [beq_iff_eq, hb j hj8]; omega⟩, rfl⟩)
  omega
theorem lasts_inj {b : Nat → Nat} {k k' : Nat} (h : k ∈ lastsN b 8) (h' : k' ∈ lastsN b 8) (e : b k = b k') : k = k' := by
  have h1 := (mem_lasts 8).mp h
  have h2 := (mem_lasts 8).mp h'
  rcases Nat.lt_trichotomy k k' with q | q | q
  · exact absurd e.symm (h1.2 k' q h2.1)
  · exact q
  · exact absurd e (h2.2 k q h1.1)
/-- the lasts, sorted, are the shelf's -/
theorem lasts_sorted {bs : List Int} {b : Nat → Nat} (hl : bs.length = 8) (hb : ∀ k, k < 8 → bs.getD k 0 = (b k : Nat)) (hb3 : ∀ k, b k < 3) {ls ms : List Int} (hp : ls.Perm ms) (ho : ls.Pairwise (· ≤ ·)) (hm : ms.length = 3) (hlast : ∀ j : Nat, j < 3 → IsLast bs (j : Int) (ms.getD j 0)) :
    ls = (lastsN b 8).map (fun (k : Nat) => (k : Int)) ∧ ∃ k0 k1 k2, (lastsN b 8).Perm [k0, k1, k2] ∧ b k0 = 0 ∧ b k1 = 1 ∧ b k2 = 2 := by
  match ms, hm with
  | [m0, m1, m2], _ =>
    obtain ⟨k0, e0, l0, b0⟩ := last_of hl hb (hlast 0 (by decide))
    obtain ⟨k1, e1, l1, b1⟩ := last_of hl hb (hlast 1 (by decide))
    obtain ⟨k2, e2, l2, b2⟩ := last_of hl hb (hlast 2 (by decide))
    have e0 : m0 = (k0 : Int) := e0
    have e1 : m1 = (k1 : Int) := e1
    have e2 : m2 = (k2 : Int) := e2
    have hnd : (lastsN b 8).Nodup := (pair_lasts b 8).imp fun h => Nat.ne_of_lt h
    have n01 : k0 ≠ k1 := fun e => by rw [e] at b0; omega
    have n02 : k0 ≠ k2 := fun e => by rw [e] at b0; omega
    have n12 : k1 ≠ k2 := fun e => by rw [e] at b1; omega
    have hnd2 : [k0, k1, k2].Nodup := by simp [n01, n02, n12]
    have hperm : (lastsN b 8).Perm [k0, k1, k2] := (List.perm_ext_iff_of_nodup hnd hnd2).mpr fun k => by
      simp only [List.mem_cons, List.not_mem_nil, or_false]
      constructor
      · intro hk
        have h3 := hb3 k
        have : b k = 0 ∨ b k = 1 ∨ b k = 2 := by omega
        rcases this with h | h | h
        · exact .inl (lasts_inj hk l0 (h.trans b0.symm))
        · exact .inr (.inl (lasts_inj hk l1 (h.trans b1.symm)))
        · exact .inr (.inr (lasts_inj hk l2 (h.trans b2.symm)))
      · rintro (rfl | rfl | rfl)
        · exact l0
        · exact l1
        · exact l2
    refine ⟨lks_uniq (hp.trans ?_) ho ?_, k0, k1, k2, hperm, b0, b1, b2⟩
    · rw [e0, e1, e2]
      exact (hperm.map fun (k : Nat) => (k : Int)).symm
    · rw [List.pairwise_map]
      exact (pair_lasts b 8).imp fun h => by omega
theorem nm_par (k i : Nat) : nmOf k i = nmOf (k % 2) i := by unfold nmOf; rw [Nat.mod_mod]
noncomputable def begT (p1 p2 p3 b1 b2 b3 : Nat) : Str := Txt.join (Str.ofString "") [nmOf p1 b1, nmOf p2 b2, nmOf p3 b3]
theorem begin3f : ∀ (p1 p2 p3 : Fin 2) (b1 b2 b3 : Fin 3), (b1 = b2 ∨ b1 = b3 ∨ b2 = b3) ∨ ((O6.contains (Txt.lower (begT p1 p2 p3 b1 b2 b3))) = true ∧ (begT p1 p2 p3 b1 b2 b3).length ≤ 100) := by decide +kernel
theorem begin3 (p1 : Nat) (h1 : p1 < 2) (p2 : Nat) (h2 : p2 < 2) (p3 : Nat) (h3 : p3 < 2) (b1 : Nat) (g1 : b1 < 3) (b2 : Nat) (g2 : b2 < 3) (b3 : Nat) (g3 : b3 < 3) (n12 : b1 ≠ b2) (n13 : b1 ≠ b3) (n23 : b2 ≠ b3) :
    Txt.lower (begT p1 p2 p3 b1 b2 b3) ∈ O6 ∧ (begT p1 p2 p3 b1 b2 b3).length ≤ 100 := by
  have := begin3f ⟨p1, h1⟩ ⟨p2, h2⟩ ⟨p3, h3⟩ ⟨b1, g1⟩ ⟨b2, g2⟩ ⟨b3, g3⟩
  rcases this with (h | h | h) | ⟨h, h'⟩
  · exact absurd (Fin.mk.inj h) n12
  · exact absurd (Fin.mk.inj h) n13
  · exact absurd (Fin.mk.inj h) n23
  · exact ⟨List.contains_iff_mem.mp h, h'⟩
theorem begin_ok {b : Nat → Nat} (hb3 : ∀ k, b k < 3) {k0 k1 k2 : Nat} (hp : (lastsN b 8).Perm [k0, k1, k2]) (b0 : b k0 = 0) (b1 : b k1 = 1) (b2 : b k2 = 2) :
    Txt.lower (Txt.join (Str.ofString "") (((lastsN b 8).map fun k => (nmOf k (b k), dec k)).map (·.1))) ∈ O6 ∧ (Txt.join (Str.ofString "") (((lastsN b 8).map fun k => (nmOf k (b k), dec k)).map (·.1))).length ≤ 100 := by
  have hl := hp.length_eq
  have hnd : (lastsN b 8).Nodup := (pair_lasts b 8).imp fun h => Nat.ne_of_lt h
  have hin : ∀ k k', k ∈ lastsN b 8 → k' ∈ lastsN b 8 → b k = b k' → k = k' := fun k k' => lasts_inj
  generalize lastsN b 8 = l at *
  match l, hl with
  | [q1, q2, q3], _ =>
    have h12 : q1 ≠ q2 := fun e => by simp [e] at hnd
    have h13 : q1 ≠ q3 := fun e => by simp [e] at hnd
    have h23 : q2 ≠ q3 := fun e => by simp [e] at hnd
    have := begin3 (q1 % 2) (by omega) (q2 % 2) (by omega) (q3 % 2) (by omega) (b q1) (hb3 _) (b q2) (hb3 _) (b q3) (hb3 _)
      (fun e => h12 (hin q1 q2 (by simp) (by simp) e)) (fun e => h13 (hin q1 q3 (by simp) (by simp) e)) (fun e => h23 (hin q2 q3 (by simp) (by simp) e))
    unfold begT at this
    rw [← nm_par, ← nm_par, ← nm_par] at this
    exact this
end Mine
end

/-! ## P7 -/
section
theorem Mine.offP7 : True := by w_top off; trivial
open PySem PySem.W PySem.Calls PyProof.Rows PyProof.V
open Builtin.Int (intBits)
set_option Elab.async false
set_option maxRecDepth 100000
set_option maxHeartbeats 4000000
namespace Mine
/-- the eight readers -/
noncomputable def RS (d0 d1 d2 d3 d4 d5 d6 : Int) : List Int := [d0 - 1, d0, hiOf d0 d1, d2, d3, d4, d5, d6]
section
variable {d0 d1 d2 d3 d4 d5 d6 : Int}
theorem RS_bits {m : Nat} (hm : 1 ≤ m) (h0 : intBits d0 ≤ m) (h1 : intBits d1 ≤ m) (h2 : intBits d2 ≤ m) (h3 : intBits d3 ≤ m) (h4 : intBits d4 ≤ m) (h5 : intBits d5 ≤ m) (h6 : intBits d6 ≤ m) (k : Nat) : intBits ((RS d0 d1 d2 d3 d4 d5 d6).getD k 0) ≤ m + 2 := by
  have o : intBits 1 ≤ m := Nat.le_trans one_bits hm
  have a1 : intBits (d0 - 1) ≤ m + 2 := by
    have := intBits_sub_le h0 o
    rw [Nat.max_self] at this; omega
  have a2 : intBits (hiOf d0 d1) ≤ m + 2 := by
    unfold hiOf
    have b1 := intBits_add_le h0 o
    rw [Nat.max_self] at b1
    have b2 := intBits_ite_le (c := d1 < 0) (intBits_neg_le h1) h1
    rw [Nat.max_self] at b2
    have := intBits_add_le b1 (Nat.le_succ_of_le b2)
    rw [Nat.max_self] at this; exact this
  have z : intBits 0 ≤ m + 2 := Nat.le_trans (by decide +kernel : intBits 0 ≤ 0) (Nat.zero_le _)
  unfold RS
  rcases k with _ | _ | _ | _ | _ | _ | _ | _ | k
  · exact a1
  · exact Nat.le_trans h0 (by omega)
  · exact a2
  · exact Nat.le_trans h2 (by omega)
  · exact Nat.le_trans h3 (by omega)
  · exact Nat.le_trans h4 (by omega)
  · exact Nat.le_trans h5 (by omega)
  · exact Nat.le_trans h6 (by omega)
  · exact z
noncomputable def bR (d0 d1 d2 d3 d4 d5 d6 : Int) (k : Nat) : Nat := posR d0 (hiOf d0 d1) ((RS d0 d1 d2 d3 d4 d5 d6).getD k 0)
theorem bR_lt (k : Nat) : bR d0 d1 d2 d3 d4 d5 d6 k < 3 := posR_lt ..
theorem bR0 : bR d0 d1 d2 d3 d4 d5 d6 0 = 0 := by
  show posR d0 (hiOf d0 d1) (d0 - 1) = 0
  unfold posR; rw [if_pos (by omega)]
theorem bR1 : bR d0 d1 d2 d3 d4 d5 d6 1 = 1 := by
  show posR d0 (hiOf d0 d1) d0 = 1
  have := hiOf_lt d0 d1
  unfold posR; rw [if_neg (by omega), if_pos this]
theorem bR2 : bR d0 d1 d2 d3 d4 d5 d6 2 = 2 := by
  show posR d0 (hiOf d0 d1) (hiOf d0 d1) = 2
  have := hiOf_lt d0 d1
  unfold posR; rw [if_neg (by omega), if_neg (by omega)]
noncomputable def BS (d0 d1 d2 d3 d4 d5 d6 : Int) : List Int := (RS d0 d1 d2 d3 d4 d5 d6).map (bkOf d0 (hiOf d0 d1))
theorem BS_len : (BS d0 d1 d2 d3 d4 d5 d6).length = 8 := rfl
theorem BS_at (k : Nat) (h : k < 8) : (BS d0 d1 d2 d3 d4 d5 d6).getD k 0 = (bR d0 d1 d2 d3 d4 d5 d6 k : Nat) := by
  have hl : k < (RS d0 d1 d2 d3 d4 d5 d6).length := h
  unfold BS bR
  rw [List.getD_eq_getElem?_getD, List.getElem?_map, List.getD_eq_getElem?_getD, List.getElem?_eq_getElem hl]
  exact bkOf_pos (Int.le_of_lt (hiOf_lt d0 d1)) _
theorem BS_first (i : Nat) (h : i < 3) : (BS d0 d1 d2 d3 d4 d5 d6).getD i 0 = (i : Int) := by
  rw [BS_at i (by omega)]
  rcases i with _ | _ | _ | i
  · rw [bR0]
  · rw [bR1]
  · rw [bR2]
  · omega
/-- a book's weight -/
noncomputable def wOf (d0 d1 d2 d3 d4 d5 d6 : Int) (i : Nat) : Int := SZ (BS d0 d1 d2 d3 d4 d5 d6) (RS d0 d1 d2 d3 d4 d5 d6) i
theorem serve_DA : serveD d0 (hiOf d0 d1) (RS d0 d1 d2 d3 d4 d5 d6) 8 = DA (wOf d0 d1 d2 d3 d4 d5 d6 0) (wOf d0 d1 d2 d3 d4 d5 d6 1) (wOf d0 d1 d2 d3 d4 d5 d6 2) :=
  serveD_DA (bs := BS d0 d1 d2 d3 d4 d5 d6) (fun k hk => BS_at k hk) bR0 bR1 bR2 5 (by decide)
theorem wOf_pos (i : Nat) (h : i < 3) : 1 ≤ wOf d0 d1 d2 d3 d4 d5 d6 i := SZ_pos (BS_first i h) (by omega)
end
/-- all that the rounds and the last loop ask -/
structure AllFit (Da : List (Str × Int)) (st : Str) (rs : List Int) : Prop where
  rounds : ∀ i, i < rs.length → RoundFits Da st rs i
  perm : ((roundsD Da st rs).map (·.1)).Perm O6
  ends : ∀ o ∈ O6, EndFit Da (roundsD Da st rs) (Da.map (·.2)).sum (prodD (Da.map (·.2)).sum rs) o
theorem val_look {T : List (Str × Int)} {o : Str} (h : o ∈ keys T) : look T o = some (val T o) := by
  unfold val
  cases e : look T o with
  | none => exact absurd h (look_none.mp e)
  | some u => rfl
theorem lets1 : lettersOf o1 = [bk 0, bk 1, bk 2] := by decide +kernel
theorem lets2 : lettersOf o2 = [bk 0, bk 2, bk 1] := by decide +kernel
theorem lets3 : lettersOf o3 = [bk 1, bk 0, bk 2] := by decide +kernel
theorem lets4 : lettersOf o4 = [bk 1, bk 2, bk 0] := by decide +kernel
theorem lets5 : lettersOf o5 = [bk 2, bk 0, bk 1] := by decide +kernel
theorem lets6 : lettersOf o6 = [bk 2, bk 1, bk 0] := by decide +kernel
theorem DA_sum (a b c : Int) : ((DA a b c).map (·.2)).sum = a + b + c := by
  show a + (b + (c + 0)) = _
  omega
theorem DA_a (a b c : Int) : look (DA a b c) (bk 0) = some a := by unfold DA look; rw [if_pos rfl]
theorem DA_b (a b c : Int) : look (DA a b c) (bk 1) = some b := by unfold DA look; rw [if_neg bk01]; unfold look; rw [if_pos rfl]
theorem DA_c (a b c : Int) : look (DA a b c) (bk 2) = some c := by unfold DA look; rw [if_neg bk02]; unfold look; rw [if_neg bk12]; unfold look; rw [if_pos rfl]
theorem sum_one {st : Str} (h : st ∈ O6) : (vecOf [(st, 1)]).x1 + (vecOf [(st, 1)]).x2 + (vecOf [(st, 1)]).x3 + (vecOf [(st, 1)]).x4 + (vecOf [(st, 1)]).x5 + (vecOf [(st, 1)]).x6 = 1 := by
  have := sumT6 (fun _ => 1) [(st, 1)] (one_nodup st 1) (fun k hk => by
    unfold keys at hk
    rw [List.map_cons, List.map_nil] at hk
    rw [List.mem_singleton.mp hk]; exact h)
  have e : sumT (fun _ => 1) [(st, 1)] = 1 := by unfold sumT; simp
  rw [e] at this
  unfold vecOf
  dsimp only
  omega
theorem val_bits {T : List (Str × Int)} {N : Nat} (h : bnd T N) (o : Str) : intBits (val T o) ≤ N := by
  unfold val
  cases e : look T o with
  | none => exact Nat.le_trans (by decide +kernel : intBits 0 ≤ 0) (Nat.zero_le _)
  | some u =>
    obtain ⟨p, hp, rfl⟩ := look_mem e
    exact h p hp
theorem all_fit {a b c : Int} {st : Str} {rs : List Int} (ha : 1 ≤ a) (hb : 1 ≤ b) (hc : 1 ≤ c) (wa : intBits a ≤ 1048590) (wb : intBits b ≤ 1048590) (wc : intBits c ≤ 1048590) (hst : st ∈ O6) (hp : rs.Pairwise (· < ·)) (hm : ∀ x, x ∈ rs ↔ x = 0 ∨ x ∈ (DA a b c).map (·.2)) : AllFit (DA a b c) st rs := by
  have hm' : ∀ x, x ∈ rs ↔ x = 0 ∨ x = a ∨ x = b ∨ x = c := fun x => by
    rw [hm x]
    show x = 0 ∨ x ∈ [a, b, c] ↔ _
    simp only [List.mem_cons, List.not_mem_nil, or_false]
  obtain ⟨hask, hl2, hl4⟩ := asked_all a b c (a + b + c) ha hb hc rfl hp hm' (vecOf [(st, 1)]) (sum_one hst)
  have wS : intBits (a + b + c) ≤ 1048592 := by
    have h1 := intBits_add_le wa wb
    rw [Nat.max_self] at h1
    have h2 := intBits_add_le h1 (Nat.le_succ_of_le wc)
    rw [Nat.max_self] at h2; exact h2
  have hr : ∀ r ∈ rs, intBits r ≤ 1048590 := fun r h => by
    rcases (hm' r).mp h with rfl | rfl | rfl | rfl
    · exact Nat.le_trans (by decide +kernel : intBits 0 ≤ 0) (Nat.zero_le _)
    · exact wa
    · exact wb
    · exact wc
  have hr' : ∀ r ∈ rs, intBits r ≤ 1048592 := fun r h => Nat.le_trans (hr r h) (by omega)
  have facts := rounds_facts wa wb wc hst rs hr
  have pb := prod_bits wS hr'
  have eS := DA_sum a b c
  obtain ⟨f1, f2, f3⟩ := facts rs.length (Nat.le_refl _)
  rw [List.take_length] at f1 f2 f3
  have hall : ∀ o ∈ O6, o ∈ keys (roundsD (DA a b c) st rs) := rounds_all hst hl2
  refine ⟨fun i hi => ?_, ?_, ?_⟩
  · obtain ⟨g1, g2, g3⟩ := facts i (by omega)
    have hnd := rounds_nodup (DA a b c) st (rs.take i)
    have hgr : rs.getD i 0 ∈ rs := by
      rw [List.getD_eq_getElem?_getD, List.getElem?_eq_getElem hi]; exact List.getElem_mem hi
    have hl6 : (roundsD (DA a b c) st (rs.take i)).length ≤ 6 := by
      have := nodup_len O6 _ hnd g1
      unfold keys at this
      rw [List.length_map] at this; exact this
    refine ⟨fun p hp => g1 _ (List.mem_map.mpr ⟨p, hp, rfl⟩), by omega, fun p hp => ?_, fun p hp q hq => ?_, ?_⟩
    · exact IntMulOk.of_le (intBits_neg_le (hr _ hgr)) (g2 p hp) (by omega)
    · exact IntMulOk.of_le (moves_bnd p.1 wa wb wc q hq) (g2 p hp) (by omega)
    · rw [eS]
      have := intBits_sub_le wS (hr' _ hgr)
      rw [Nat.max_self] at this
      exact IntMulOk.of_le (pb i (by omega)) this (by omega)
  · exact (List.perm_ext_iff_of_nodup (rounds_nodup _ _ _) O6_nodup).mpr fun o => ⟨f1 o, hall o⟩
  · rw [eS]
    have hvb : ∀ o, intBits (val (roundsD (DA a b c) st rs) o) ≤ 1 + 4 * 1048611 := fun o => Nat.le_trans (val_bits f2 o) (by omega)
    have hpb : intBits (prodD (a + b + c) rs) ≤ 1 + 4 * 1048593 := by
      have := pb rs.length (Nat.le_refl _)
      rw [List.take_length] at this
      exact Nat.le_trans this (by omega)
    have two : ∀ {x y : Int}, intBits x ≤ 1048590 → intBits y ≤ 1048590 → intBits (x + y) ≤ 1048591 := fun h1 h2 => by
      have := intBits_add_le h1 h2
      rw [Nat.max_self] at this; exact this
    have mk : ∀ (o p q r : Str) (x y z : Int), o ∈ O6 → lettersOf o = [p, q, r] → look (DA a b c) p = some x → look (DA a b c) q = some y → look (DA a b c) r = some z → intBits x ≤ 1048590 → intBits y ≤ 1048590 → intBits z ≤ 1048590 →
        val (roundsD (DA a b c) st rs) o * (a + b + c) * (x + y) = prodD (a + b + c) rs * z * y → EndFit (DA a b c) (roundsD (DA a b c) st rs) (a + b + c) (prodD (a + b + c) rs) o := by
      intro o p q r x y z ho hl hx hy hz bx bY bz he
      exact ⟨p, q, r, x, y, z, _, hl, hx, hy, hz, val_look (hall o ho), IntMulOk.of_le (hvb o) wS (by omega), IntMulOk.of_le (intBits_mul_le (hvb o) wS) (two bx bY) (by omega), IntMulOk.of_le hpb bz (by omega), IntMulOk.of_le (intBits_mul_le hpb bz) bY (by omega), he⟩
    have hv := f3
    unfold Asked at hask
    rw [← hv] at hask
    unfold vecOf at hask
    dsimp only at hask
    obtain ⟨q1, q2, q3, q4, q5, q6⟩ := hask
    intro o ho
    have ho' := ho
    rw [O6_eq] at ho'
    simp only [List.mem_cons, List.not_mem_nil, or_false] at ho'
    rcases ho' with rfl | rfl | rfl | rfl | rfl | rfl
    · exact mk _ _ _ _ a b c ho lets1 (DA_a ..) (DA_b ..) (DA_c ..) wa wb wc q1
    · exact mk _ _ _ _ a c b ho lets2 (DA_a ..) (DA_c ..) (DA_b ..) wa wc wb q2
    · exact mk _ _ _ _ b a c ho lets3 (DA_b ..) (DA_a ..) (DA_c ..) wb wa wc q3
    · exact mk _ _ _ _ b c a ho lets4 (DA_b ..) (DA_c ..) (DA_a ..) wb wc wa q4
    · exact mk _ _ _ _ c a b ho lets5 (DA_c ..) (DA_a ..) (DA_b ..) wc wa wb q5
    · exact mk _ _ _ _ c b a ho lets6 (DA_c ..) (DA_b ..) (DA_a ..) wc wb wa q6
end Mine
end

/-! ## Lw -/
section
theorem Mine.offLw : True := by w_top off; trivial
open PySem PySem.W PySem.Calls PyProof.Rows PyProof.V
open Builtin.Int (intBits)
set_option Elab.async false
set_option maxRecDepth 100000
namespace Mine
set_option maxHeartbeats 16000000
theorem off_cells {L D : Nat} {c1 c2 c3 c4 c5 c6 : Obj} {base : List (Addr × Obj)} (h : ∀ p ∈ base, p.1 ≠ D)
    (m6 : (L + 1 + 1 + 1 + 1 + 1 + 1, c6) ∈ base) (m5 : (L + 1 + 1 + 1 + 1 + 1, c5) ∈ base) (m4 : (L + 1 + 1 + 1 + 1, c4) ∈ base) (m3 : (L + 1 + 1 + 1, c3) ∈ base) (m2 : (L + 1 + 1, c2) ∈ base) (m1 : (L + 1, c1) ∈ base) : ∀ i, i < 6 → D ≠ L + (i + 1) := by
  intro i hi e
  rcases i with _ | _ | _ | _ | _ | _ | i
  · exact h _ m1 e.symm
  · exact h _ m2 e.symm
  · exact h _ m3 e.symm
  · exact h _ m4 e.symm
  · exact h _ m5 e.symm
  · exact h _ m6 e.symm
  · omega
theorem law_tail {w : World} {mean : ExcName → Option Value} {mg mb : Str → Option Value} {A : Around} {Q : Flow → Shared → Prop} {s : Shared} {h₀ : Heap} {L : Nat} {fa ol d bl rl il : Addr} {cd : Value} {m : Str → Option Value} {c1 c2 c3 c4 c5 c6 od : Obj} {oys bv rv items : List Value} {k : Nat} {objs : List (Addr × Obj)} {rs0 bs : List Int} {SL : List (Str × Str)} {st : Str} {a b c : Int}
    (W : Wd w mean mg mb h₀) (hA : A.handled = none) (hu : A.units + 64 < cLine) (hroom : A.depth + 10 < recursionLimit) (F : Fr h₀ L s.heap m)
    (N : News h₀ L s.heap ((L + 1 + 1 + 1 + 1 + 1 + 1, c6) :: (L + 1 + 1 + 1 + 1 + 1, c5) :: (L + 1 + 1 + 1 + 1, c4) :: (L + 1 + 1 + 1, c3) :: (L + 1 + 1, c2) :: (L + 1, c1) :: (ol, LCg.lst oys) :: (d, od) :: (bl, LCg.lst bv) :: (rl, PySem.W.listOf (List.toArray rv) 0) :: (il, PySem.W.listOf items.toArray k) :: objs))
    (o1 : ∀ i, i < 6 → bl ≠ L + (i + 1)) (o2 : ∀ i, i < 6 → rl ≠ L + (i + 1)) (o3 : ∀ i, i < 6 → ol ≠ L + (i + 1)) (o4 : ∀ i, i < 6 → d ≠ L + (i + 1))
    (e3 : c3.data = .cell (some (.ref rl))) (e4 : c4.data = .cell (some (.ref d))) (e5 : c5.data = .cell (some (.ref bl))) (e6 : c6.data = .cell none)
    (hOa : OD w od (DA a b c)) (alo : (d == sysModules) = false) (hoys : Mine.StrsAre oys O6)
    (mo : m (Str.ofString "orders") = some (.ref ol)) (mi : m (Str.ofString "items") = some (.ref il))
    (hTL : TL objs items SL) (hsl : SL.length ≤ 10) (hnl : ∀ p ∈ SL, p.1.length ≤ 100) (hst : Txt.lower (Txt.join (Str.ofString "") (SL.map (·.1))) = st) (hjl : (Txt.join (Str.ofString "") (SL.map (·.1))).length ≤ 100) (hmem : st ∈ O6)
    (hIr : IntsAre rv rs0) (hrs : rs0.length = 8) (hIb : IntsAre bv bs) (hbs : bs.length = 8) (hsz : sizesT bs rs0 3 = DA a b c)
    (ha : 1 ≤ a) (hb : 1 ≤ b) (hc : 1 ≤ c) (wa : intBits a ≤ 1048590) (wb : intBits b ≤ 1048590) (wc : intBits c ≤ 1048590)
    (hQ : ∀ h' tk m', Fr h₀ L h' m' → Q (.ret (.bool true)) { s with heap := h', toks := tk }) :
    wpAny (model PR w) A (execs (LB.drop 12) (envOfC (Str.ofString "law") LS L fa cd)) Q (fun _ _ => False) s := by
  have lDA : (DA a b c).length = 3 := rfl
  refine seg7 W hA hroom F N e4 hOa alo (by omega) (fun p hp => ?_) hoys mo ?_
  · unfold DA at hp
    simp only [List.mem_cons, List.not_mem_nil, or_false] at hp
    rcases hp with rfl | rfl | rfl
    · exact ⟨0, by omega, rfl⟩
    · exact ⟨1, by omega, rfl⟩
    · exact ⟨2, by omega, rfl⟩
  intro h7 tk7 fd ofd fo F7 N7 FO flo hsep
  refine seg8 (c4 := c4) (ad := d) (oad := od) W hA hroom F7 N7 (by repeat (first | exact .head _ | refine .tail _ ?_ | refine List.mem_append_right _ ?_)) (by repeat (first | exact .head _ | refine .tail _ ?_ | refine List.mem_append_right _ ?_)) e4 hOa alo (by omega) ?_
  intro h8 tk8 m8 rt rv8 rs n8 F8 ag8 mr8 N8 hbr I8 so8 mem8 len8
  have mi8 : m8 (Str.ofString "items") = some (.ref il) := by
    rw [ag8 _ (by decide) (by decide), if_neg (by decide)]; exact mi
  have mo8 : m8 (Str.ofString "orders") = some (.ref ol) := by
    rw [ag8 _ (by decide) (by decide), if_neg (by decide)]; exact mo
  have mf8 : m8 (Str.ofString "flows") = some (.ref fd) := by
    rw [ag8 _ (by decide) (by decide), if_pos rfl]
  generalize hB : LB.drop 15 = B15
  refine seg9 (il := il) (items := items) (k := k) (objs := objs) hB W hA F8 N8 (by repeat (first | exact .head _ | refine .tail _ ?_ | refine List.mem_append_right _ ?_)) (fun p hp => by simp only [List.mem_cons, List.mem_append, hp, or_true]) hTL hsl hnl mi8 hst hjl ?_
  intro h9 tk9 td otd tp F9 N9 Ot9 tlo9 hbt9
  have fit := all_fit (a := a) (b := b) (c := c) ha hb hc wa wb wc hmem so8 mem8
  refine seg10 (ad := d) (oad := od) (c4 := c4) (rt := rt) (fd := fd) (ofd := ofd) (fo := fo) (tp := tp) (Da := DA a b c) (rs := rs) (st := st) W hA hroom F9 N9 hbt9 (by repeat (first | exact .head _ | refine .tail _ ?_ | refine List.mem_append_right _ ?_)) (by repeat (first | exact .head _ | refine .tail _ ?_ | refine List.mem_append_right _ ?_)) (List.mem_cons_self ..) (by repeat (first | exact .head _ | refine .tail _ ?_ | refine List.mem_append_right _ ?_)) (fun p hp => by simp only [List.mem_cons, List.mem_append, hp, true_or, or_true]) e4 hOa alo FO flo Ot9 tlo9 I8 (by omega) ?_ ?_ ?_ ?_ (fun k => Nat.le_trans (moves_len k a b c) (by omega)) (by omega) fit.rounds ?_
  · rw [if_neg (by decide), if_neg (by decide)]; exact mr8
  · rw [if_neg (by decide), if_neg (by decide)]; exact mf8
  · rw [if_neg (by decide), if_pos rfl]
  · rw [if_pos rfl]
  intro h10 tk10 m10 td2 otd2 tp2 F10 ag10 mt10 mp10 N10 hbt10 Ot10 tlo10
  have mo10 : m10 (Str.ofString "orders") = some (.ref ol) := by
    rw [ag10 _ (by decide) (by decide) (by decide), if_neg (by decide), if_neg (by decide)]; exact mo8
  refine seg11 (ol := ol) (oys := oys) W hA hu F10 N10 (by repeat (first | exact .head _ | refine .tail _ ?_ | refine List.mem_append_right _ ?_)) hoys Ot10 tlo10 fit.perm mt10 mo10 ?_
  intro h11 tk11 F11 N11
  have otd' : ∀ i, i < 6 → td2 ≠ L + (i + 1) := off_cells (c1 := c1) (c2 := c2) (c3 := c3) (c4 := c4) (c5 := c5) (c6 := c6) hbt10 (by repeat (first | exact .head _ | refine .tail _ ?_ | refine List.mem_append_right _ ?_)) (by repeat (first | exact .head _ | refine .tail _ ?_ | refine List.mem_append_right _ ?_)) (by repeat (first | exact .head _ | refine .tail _ ?_ | refine List.mem_append_right _ ?_)) (by repeat (first | exact .head _ | refine .tail _ ?_ | refine List.mem_append_right _ ?_)) (by repeat (first | exact .head _ | refine .tail _ ?_ | refine List.mem_append_right _ ?_)) (by repeat (first | exact .head _ | refine .tail _ ?_ | refine List.mem_append_right _ ?_))
  have N12 : News h₀ L h11 ((L + 1 + 1 + 1 + 1 + 1 + 1, c6) :: (L + 1 + 1 + 1 + 1 + 1, c5) :: (L + 1 + 1 + 1 + 1, c4) :: (L + 1 + 1 + 1, c3) :: (L + 1 + 1, c2) :: (L + 1, c1) :: (bl, LCg.lst bv) :: (rl, PySem.W.listOf (List.toArray rv) 0) :: [(td2, otd2), (ol, LCg.lst oys), (d, od)]) := fun p hp => N11 p (by
    simp only [List.mem_cons, List.not_mem_nil, or_false] at hp
    rcases hp with rfl | rfl | rfl | rfl | rfl | rfl | rfl | rfl | rfl | rfl | rfl <;> simp only [List.mem_cons, List.mem_append, eq_self, true_or, or_true])
  have off12 : Off L ((bl, LCg.lst bv) :: (rl, PySem.W.listOf (List.toArray rv) 0) :: [(td2, otd2), (ol, LCg.lst oys), (d, od)]) := Off.cons o1 (Off.cons o2 (Off.cons otd' (Off.cons o3 (Off.cons o4 Off.nil))))
  refine seg12 W hA F11 N12 off12 e3 e5 e6 hIr hrs hIb hbs ?_
  intro h12 tk12 b6 zd ozd F12 N12 eb6 Oz zlo
  rw [hsz] at Oz
  refine seg13 W hA F12 N12 eb6 Oz zlo (by omega) ?_
  intro h13 tk13 tw F13 N13
  refine seg14 (td := td2) (otd := otd2) (ad := d) (oad := od) (ol := ol) (oys := oys) (Da := DA a b c) (pr := prodD (List.map (fun p : Str × Int => p.2) (DA a b c)).sum rs) (tp := tp2) (tw := tw) W hA hroom F13 N13 e4 eb6 Oz zlo (by repeat (first | exact .head _ | refine .tail _ ?_ | refine List.mem_append_right _ ?_)) Ot10 tlo10 (by repeat (first | exact .head _ | refine .tail _ ?_ | refine List.mem_append_right _ ?_)) hOa alo (by repeat (first | exact .head _ | refine .tail _ ?_ | refine List.mem_append_right _ ?_)) hoys ?_ ?_ ?_ (if_pos rfl) fit.ends rfl ?_
  · exact (if_neg (by decide)).trans mo10
  · exact (if_neg (by decide)).trans mt10
  · exact (if_neg (by decide)).trans mp10
  exact fun h' tk m' F' => hQ h' tk m' F'
end Mine
end

/-! ## Lx -/
section
theorem Mine.offLx : True := by w_top off; trivial
open PySem PySem.W PySem.Calls PyProof.Rows PyProof.V
open Builtin.Int (intBits)
set_option Elab.async false
set_option maxRecDepth 100000
namespace Mine
set_option maxHeartbeats 16000000
theorem dr_seven {ns : List Int} (h : ∀ x ∈ ns, intBits x ≤ 1048576) : ∃ x0 x1 x2 x3 x4 x5 x6, dr ns = [x0, x1, x2, x3, x4, x5, x6] ∧ ∀ x ∈ [x0, x1, x2, x3, x4, x5, x6], intBits x ≤ 1048576 := by
  have hl : (dr ns).length = 7 := by
    unfold dr
    rw [List.length_append, List.length_drop, List.length_take]
    simp only [List.length_cons, List.length_nil]
    omega
  have hb : ∀ x ∈ dr ns, intBits x ≤ 1048576 := fun x hx => by
    unfold dr at hx
    rcases List.mem_append.mp hx with hx | hx
    · exact h x (List.mem_of_mem_take hx)
    · have hx := List.mem_of_mem_drop hx
      have : ∀ y ∈ ([2, 3, 4, -1, 6, 0, 3] : List Int), intBits y ≤ 10 := by decide +kernel
      exact Nat.le_trans (this x hx) (by omega)
  generalize dr ns = l at hl hb
  match l, hl with
  | [x0, x1, x2, x3, x4, x5, x6], _ => exact ⟨x0, x1, x2, x3, x4, x5, x6, rfl, hb⟩
theorem ints_seven {ws : List Value} {x0 x1 x2 x3 x4 x5 x6 : Int} (h : IntsAre ws [x0, x1, x2, x3, x4, x5, x6]) : ∃ t0 t1 t2 t3 t4 t5 t6, ws = [.int x0 t0, .int x1 t1, .int x2 t2, .int x3 t3, .int x4 t4, .int x5 t5, .int x6 t6] := by
  cases h with | cons _ t0 h => cases h with | cons _ t1 h => cases h with | cons _ t2 h => cases h with | cons _ t3 h => cases h with | cons _ t4 h => cases h with | cons _ t5 h => cases h with | cons _ t6 h => cases h with | nil => exact ⟨t0, t1, t2, t3, t4, t5, t6, rfl⟩
theorem law_main {w : World} {mean : ExcName → Option Value} {mg mb : Str → Option Value} {A : Around} {Q : Flow → Shared → Prop} {s : Shared} {h₀ : Heap} {L : Nat} {fa sc : Addr} {cd : Value} {m : Str → Option Value} {vs : List Value} {ns : List Int} {c1 c2 c3 c4 c5 c6 : Obj}
    (W : Wd w mean mg mb h₀) (hA : A.handled = none) (hu : A.units + 64 < cLine) (hroom : A.depth + 10 < recursionLimit) (F : Fr h₀ L s.heap m) (N : News h₀ L s.heap [(L + 1 + 1 + 1 + 1 + 1 + 1, c6), (L + 1 + 1 + 1 + 1 + 1, c5), (L + 1 + 1 + 1 + 1, c4), (L + 1 + 1 + 1, c3), (L + 1 + 1, c2), (L + 1, c1)])
    (d1 : c1.data = .cell none) (d2 : c2.data = .cell none) (d3 : c3.data = .cell none) (d4 : c4.data = .cell none) (d5 : c5.data = .cell none) (d6 : c6.data = .cell none)
    (ms : m (Str.ofString "script") = some (.ref sc)) (hL : h₀.IsList sc vs.toArray) (hI : IntsAre vs ns) (hlen : ns.length ≤ 63) (hbits : ∀ x ∈ ns, intBits x ≤ 1048576)
    (hQ : ∀ h' tk m', Fr h₀ L h' m' → Q (.ret (.bool true)) { s with heap := h', toks := tk }) :
    wpAny (model PR w) A (execs (LB.drop 0) (envOfC (Str.ofString "law") LS L fa cd)) Q (fun _ _ => False) s := by
  refine seg1 W hA hroom F N d1 d2 d3 d4 d5 d6 ms hL hI hlen ?_
  intro h1 tk1 D ws F1 N1 I1 hD
  obtain ⟨x0, x1, x2, x3, x4, x5, x6, ed, hx⟩ := dr_seven hbits
  rw [ed] at I1
  obtain ⟨t0, t1, t2, t3, t4, t5, t6, rfl⟩ := ints_seven I1
  have N1 := behind N1
  refine seg2 W hA hroom F1 N1 d1 d2 d3 d4 d5 d6 (if_pos rfl) hD ?_
  intro h2 tk2 m2 b1 b2 b3 b4 rl il d items k od objs rv u1 u2 F2 mi2 N2 off2 eb1 eb2 eb3 eb4 Ir TL2 OD2 dlo
  refine seg3 (rs := RS x0 x1 x2 x3 x4 x5 x6) W hA F2 N2 off2 eb1 eb2 eb3 d5 Ir (Nat.le_trans (Nat.le_refl 8) (by omega)) ?_
  intro h3 tk3 b5 bl bv F3 N3 off3 eb5 Ib
  have Ib : IntsAre bv (BS x0 x1 x2 x3 x4 x5 x6) := Ib
  have lrv : rv.length = 8 := by have := Ir.length; exact this
  refine seg4 W hA F3 N3 off3 eb3 eb5 lrv Ib BS_len BS_first ?_
  intro h4 tk4 ll lv ls cl msl F4 N4 Il hp ho hm hlast
  obtain ⟨rfl, k0, k1, k2, hperm, q0, q1, q2⟩ := lasts_sorted (b := bR x0 x1 x2 x3 x4 x5 x6) BS_len BS_at bR_lt hp ho hm hlast
  have hEq : serveL dec x0 (hiOf x0 x1) (RS x0 x1 x2 x3 x4 x5 x6) 8 = (lastsN (bR x0 x1 x2 x3 x4 x5 x6) 8).map fun k => (nmOf k (bR x0 x1 x2 x3 x4 x5 x6 k), dec k) := serveL_lasts (fun k => rfl) 8
  have TL2 : TL objs items (serveL dec x0 (hiOf x0 x1) (RS x0 x1 x2 x3 x4 x5 x6) 8) := TL2
  have mi4 : (fun y => if y = Str.ofString "lasts" then some (.ref ll) else m2 y) (Str.ofString "items") = some (.ref il) := (if_neg (by decide)).trans mi2
  have pl := hperm.length_eq
  simp only [List.length_cons, List.length_nil] at pl
  refine seg5 (ks := lastsN (bR x0 x1 x2 x3 x4 x5 x6) 8) (bN := bR x0 x1 x2 x3 x4 x5 x6) W hA hu F4 N4 eb5 mi4 (if_pos rfl) Ib BS_len (fun k hk => ⟨BS_at k hk, bR_lt k⟩) Il (fun k hk => ((mem_lasts 8).mp hk).1) (by omega) TL2 hEq ?_
  intro h5 tk5 F5 N5
  refine seg6 W hA F5 N5 ?_
  intro h6 tk6 ol oys F6 N6 hno Oy
  have OD2 : OD w od (serveD x0 (hiOf x0 x1) (RS x0 x1 x2 x3 x4 x5 x6) 8) := OD2
  rw [serve_DA] at OD2
  have N6' : News h₀ L h6 ((L + 1 + 1 + 1 + 1 + 1 + 1, c6) :: (L + 1 + 1 + 1 + 1 + 1, b5) :: (L + 1 + 1 + 1 + 1, b4) :: (L + 1 + 1 + 1, b3) :: (L + 1 + 1, b2) :: (L + 1, b1) :: (ol, LCg.lst oys) :: (d, od) :: (bl, LCg.lst bv) :: (rl, PySem.W.listOf (List.toArray rv) 0) :: (il, PySem.W.listOf items.toArray k) :: objs) := fun p hp => N6 p (by
    simp only [List.mem_cons] at hp ⊢
    rcases hp with h | h | h | h | h | h | h | h | h | h | h | h <;> simp only [h, eq_self, true_or, or_true])
  have hbeg := begin_ok (b := bR x0 x1 x2 x3 x4 x5 x6) bR_lt hperm q0 q1 q2
  rw [← hEq] at hbeg
  have hbt : ∀ k, intBits ((RS x0 x1 x2 x3 x4 x5 x6).getD k 0) ≤ 1048578 := RS_bits (by omega) (hx _ (by first | ((repeat (first | exact .head _ | refine .tail _ ?_)); done) | simp)) (hx _ (by first | ((repeat (first | exact .head _ | refine .tail _ ?_)); done) | simp)) (hx _ (by first | ((repeat (first | exact .head _ | refine .tail _ ?_)); done) | simp)) (hx _ (by first | ((repeat (first | exact .head _ | refine .tail _ ?_)); done) | simp)) (hx _ (by first | ((repeat (first | exact .head _ | refine .tail _ ?_)); done) | simp)) (hx _ (by first | ((repeat (first | exact .head _ | refine .tail _ ?_)); done) | simp)) (hx _ (by first | ((repeat (first | exact .head _ | refine .tail _ ?_)); done) | simp))
  have wb : ∀ i, intBits (wOf x0 x1 x2 x3 x4 x5 x6 i) ≤ 1048590 := fun i => Nat.le_trans (SZ_bits hbt) (by omega)
  have hll : (serveL dec x0 (hiOf x0 x1) (RS x0 x1 x2 x3 x4 x5 x6) 8).length ≤ 10 := by rw [hEq, List.length_map]; omega
  have hnl : ∀ p ∈ serveL dec x0 (hiOf x0 x1) (RS x0 x1 x2 x3 x4 x5 x6) 8, p.1.length ≤ 100 := fun p hp => by
    rw [hEq] at hp
    obtain ⟨k, _, rfl⟩ := List.mem_map.mp hp
    exact Nat.le_trans (Nat.le_of_eq (nm_len _ _)) (by omega)
  refine law_tail (oys := oys) (rs0 := RS x0 x1 x2 x3 x4 x5 x6) (bs := BS x0 x1 x2 x3 x4 x5 x6) W hA hu hroom F6 N6' (off3 _ (List.mem_cons_self ..)) (off3 _ (List.mem_cons_of_mem _ (List.mem_cons_self ..))) ?_ (off3 (d, od) (by simp only [List.mem_cons, eq_self, true_or, or_true])) eb3 eb4 eb5 d6 OD2 dlo Oy ?_ ?_ TL2 hll hnl rfl hbeg.2 hbeg.1 Ir rfl Ib BS_len (sizesT_DA _ _) (wOf_pos 0 (by omega)) (wOf_pos 1 (by omega)) (wOf_pos 2 (by omega)) (wb 0) (wb 1) (wb 2) (fun h' tk m' F' => hQ h' tk m' F')
  · exact off_all hno
  · exact if_pos rfl
  · exact (if_neg (by decide)).trans mi4
end Mine
end

/-! ## Ly -/
section
theorem Mine.offLy : True := by w_top off; trivial
open PySem PySem.W PySem.Calls PyProof.Rows PyProof.V
open Builtin.Int (intBits)
set_option Elab.async false
set_option maxRecDepth 100000
namespace Mine
set_option maxHeartbeats 16000000
theorem into_law {M : Model} {A : Around} {Q : Flow → Shared → Prop} {E : Value → Shared → Prop} {s : Shared} {body : List Stmt} {n : Str} {scope : Scope} {L fa : Addr} {cd : Value}
    (eb : body = LB.drop 0) (en : n = Str.ofString "law") (es : scope = LS) (h : wpAny M A (execs (LB.drop 0) (envOfC (Str.ofString "law") LS L fa cd)) Q (fun _ _ => False) s) :
    wpAny M A (execs body (envOfC n scope L fa cd)) Q E s := by
  subst eb; subst en; subst es
  exact wpAny_mono h (fun _ _ q => q) (fun _ _ f => f.elim)
theorem law0 : PySem.Challenge.rw_pm0063_01.Holds := Mine.hd (by
  k_fill
  intro w s₀ s₁ mg mb G Y fa o pm cd doc dV kV ho hd hcd hD hmg hg args vals as hpre hlay hrd hwl hlo
  have hK := kIn_of Y
  refine Ground.open G ?_
  intro T _ _ _ _
  wrow_args hpre hlay hrd hwl hlo
  refine enter_call ?_
  w_top on
  refine codeAny_mono ?_ (fun _ _ g => GoodW.toG g)
  w_call any ho hd hcd hD T F
  rename_i ns hs hlay0 hLay hr hl2 a1 a2 sc vs a3 hLst ra w1 r0 hI hr2 hlen htrue h₁ tk₁ o6 o5 o4 o3 o2 o1 f6 f5 f4 f3 f2 f1 N0 X0
  refine into_law ?eb ?en ?es ?_
  case eb => kernel_rfl
  case en => kernel_rfl
  case es => kernel_rfl
  refine law_main (ns := ns) (vs := vs) (sc := sc) ⟨by assumption, by assumption⟩ ?hA ?hu ?hroom F N0 ?d1 ?d2 ?d3 ?d4 ?d5 ?d6 ?ms hLst hI ?hlen ?hbits ?hQ
  case hA => rfl
  case hu => exact (show 4 + 3 + 64 < cLine by decide)
  case hroom => exact (show 1 + claimMargin + 1 + 10 < recursionLimit by decide)
  case d1 => exact f1.trans (by kernel_rfl)
  case d2 => exact f2.trans (by kernel_rfl)
  case d3 => exact f3.trans (by kernel_rfl)
  case d4 => exact f4.trans (by kernel_rfl)
  case d5 => exact f5.trans (by kernel_rfl)
  case d6 => exact f6.trans (by kernel_rfl)
  case ms => kernel_rfl
  case hlen => omega
  case hbits => exact fun x hx => PyData.bits_item_of_ints hLay hx
  case hQ => intro h' tk m' F'; wrow_close)
end Mine
end

theorem PySem.Challenge.cw_pm0063_01_holds : PySem.Challenge.rw_pm0063_01.Holds :=
  Mine.law0
