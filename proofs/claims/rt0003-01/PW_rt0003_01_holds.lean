import PyProof.Rows.All
import Wide.All
import OpenK.AllK
import Wide.FinOn
import PySem.Challenge.RW_rt0003_01
set_option Elab.async false
section
open PySem PySem.W PyProof.Rows
set_option maxRecDepth 100000
set_option maxHeartbeats 8000000
namespace Mine
set_option synthInstance.maxSize 1 in
open_top hd for PySem.Challenge.rw_rt0003_01
end Mine
end
section
open PySem PySem.W PyProof.Rows PySem.Calls
set_option maxRecDepth 100000
set_option maxHeartbeats 8000000
namespace Mine



abbrev TT (mean : ExcName → Option Value) (mg mb : Str → Option Value) (h : Heap) : Prop :=
  Top hd.view_39 (looseW hd.view_39 [Str.ofString "b2a_base64", Str.ofString "b64encode"]) mean mg mb h

/-- what a call needs of the heap g (the heap at the call, the changed objects hidden) -/
structure Site (w : World) (mean : ExcName → Option Value) (mg mb : Str → Option Value) (A : Around) (g : Heap) : Prop where
  handled : A.handled = none
  below : ∃ base frs, Below A base frs g
  X : (hd.heap_39 w.params).In g
  T : Top hd.view_39 (looseW hd.view_39 [Str.ofString "b2a_base64", Str.ofString "b64encode"]) mean mg mb g

/-- all but the addresses in hid stands as it stood -/
noncomputable def Kept (hid : List Addr) (h h' : Heap) : Prop := ∀ b o, b ∉ hid → h.get? b = some o → h'.get? b = some o

theorem Kept.refl {hid : List Addr} {h : Heap} : Kept hid h h := fun _ _ _ e => e
theorem Kept.trans {hid : List Addr} {h h' h'' : Heap} (x : Kept hid h h') (y : Kept hid h' h'') : Kept hid h h'' :=
  fun b o hb e => y b o hb (x b o hb e)
theorem Kept.mono {hid hid' : List Addr} {h h' : Heap} (x : Kept hid h h') (hs : ∀ b ∈ hid, b ∈ hid') : Kept hid' h h' :=
  fun b o hb e => x b o (fun q => hb (hs b q)) e

section
variable {prog : Program} {w : World} {mean : ExcName → Option Value} {mg mb : Str → Option Value} {A A₀ : Around} {s : Shared} {Q E : Value → Shared → Prop}

theorem site_of {base h₀ : Heap} {outer : List Env} {env : Env} {L : Addr} {m : Str → Option Value} {news : List (Addr × Obj)}
    (B : Below A₀ base outer h₀) (F : Fr h₀ L s.heap m) (X : (hd.heap_39 w.params).In h₀) (T : Top hd.view_39 (looseW hd.view_39 [Str.ofString "b2a_base64", Str.ofString "b64encode"]) mean mg mb h₀) (N : News h₀ L s.heap news)
    (hA : A.frames = some (env :: outer)) (hf : env.frame = some L) (hk : env.scope.kind = .function) (hh : A.handled = none) :
    Site w mean mg mb A (hideAll s.heap (news.map (·.1))) := by
  obtain ⟨_, BG, st, _⟩ := groundX (R := fun _ _ => True) B F N hA hf hk
  exact ⟨hh, ⟨_, _, BG⟩, X.keeps st, T.keeps st⟩

/-- a def is entered: its base heap g is the heap at the call without the hidden objects -/
theorem enter {name qual : Str} {params : Arguments} {body : List Stmt} {scope : Scope} {dV kV doc pm cdv ct oc : Value} {an od : Option Addr} {osl : Array (Option Value)} {f : Addr}
    {args : List Value} {kw : List (Str × Value)} {binds : List (Str × Value)} (news : List (Addr × Obj))
    (S : Site w mean mg mb A (hideAll s.heap (news.map (·.1)))) (hn : ∀ p ∈ news, s.heap.get? p.1 = some p.2)
    (ho : (hd.heap_39 w.params).lookup f = some ⟨oc, od, .func (fnOf name qual params body scope dV kV doc pm an cdv ct), osl⟩) (hcd : codeIn (hd.heap_39 w.params) cdv qual = true) (hroom : A.depth < recursionLimit)
    (hbind : BindsTo s (fnOf name qual params body scope dV kV doc pm an cdv ct) ⟨args, kw⟩ binds) (hloc : ∀ y ∈ binds, scope.names.lookup y.1 = some .local)
    (hcell : ∀ x ∈ scope.names, x.2 ≠ .cell) (hco : scope.isCoroutine = false) (hgen : scope.isGenerator = false) (hk : scope.kind = .function)
    (h : ∀ base frs g L' h₁, Kept (news.map (·.1)) s.heap g → (∀ b o, g.get? b = some o → s.heap.get? b = some o) → g.objs.size = s.heap.objs.size → Fr g L' h₁ (fun y => binds.reverse.lookup y) → News g L' h₁ news → (∀ p ∈ news, p.1 < L') → Below A base frs g → (hd.heap_39 w.params).In g → Top hd.view_39 (looseW hd.view_39 [Str.ofString "b2a_base64", Str.ofString "b64encode"]) mean mg mb g →
      wpAny (model prog w) (A.deeper (envOf qual scope L' f cdv)) (execs body (envOf qual scope L' f cdv))
        (fun fl s' => Q (match fl with | .ret v => v | _ => .none) s')
        (fun e s' => wpAny (model prog w) (A.deeper (envOf qual scope L' f cdv)) (leaving (envOf qual scope L' f cdv) e) (fun _ s'' => E e s'') (fun e' s'' => E e' s'') s')
        { s with heap := h₁, toks := s.toks + binds.length }) :
    wpAny (model prog w) A (call (.ref f) args kw) Q E s := by
  obtain ⟨_, ⟨base, frs, B⟩, X, T⟩ := S
  have st : ∀ b o, (hideAll s.heap (news.map (·.1))).get? b = some o → s.heap.get? b = some o := fun b o e => of_hideAll _ e
  refine wpAny_call ?_
  refine codeAny_call_def (fd := fnOf name qual params body scope dV kV doc pm an cdv ct) (body := body) (binds := binds) hroom (st _ _ (X _ _ ho)) rfl
    (T.nolimit.keeps st) (codeRec_of (X.keeps st) hcd) rfl hbind hcell hloc (fun h₁ hns hk₁ => ?_) hco hgen hk
  exact h base frs _ s.heap.objs.size h₁ (fun b o hb e => hideAll_get _ e hb) st (hideAll_size _ _) ⟨hns, fun b o e => hk₁ b o (st b o e), Nat.le_of_eq (hideAll_size _ _)⟩
    (fun p hp => ⟨hk₁ _ _ (hn p hp), Nat.ne_of_lt (Heap.lt_size (hn p hp)), hideAll_none _ (List.mem_map_of_mem hp)⟩) (fun p hp => Heap.lt_size (hn p hp)) B X T

/-- the caller's frame behind a call -/
theorem fr_back {h₀ h h' : Heap} {L : Addr} {m : Str → Option Value} {hid : List Addr} (F : Fr h₀ L h m) (K : Kept hid h h') (hL : L ∉ hid) (h0 : ∀ b ∈ hid, h₀.get? b = none) : Fr h₀ L h' m := by
  obtain ⟨oL, es, ep, hLg, r⟩ := F.ns
  refine ⟨⟨oL, es, ep, K _ _ hL hLg, r⟩, fun b o e => K b o (fun q => ?_) (F.keep b o e), F.above⟩
  rw [h0 b q] at e; cases e
theorem fr_back0 {h₀ h h' : Heap} {L : Addr} {m : Str → Option Value} (F : Fr h₀ L h m) (K : Kept [] h h') : Fr h₀ L h' m :=
  fr_back F K (fun q => nomatch q) (fun _ q => nomatch q)
theorem news_back0 {h₀ h h' : Heap} {L : Addr} {news : List (Addr × Obj)} (N : News h₀ L h news) (K : Kept [] h h') : News h₀ L h' news :=
  fun p hp => ⟨K _ _ (fun q => nomatch q) (N p hp).1, (N p hp).2⟩
theorem fr_back1 {h₀ h h' : Heap} {L a : Addr} {m : Str → Option Value} {o o' : Obj} {news news' : List (Addr × Obj)} (F : Fr h₀ L h m) (N : News h₀ L h news) (U : Upd a o o' news news') (K : Kept [a] h h') : Fr h₀ L h' m := by
  obtain ⟨pre, post, rfl, rfl, _, _⟩ := U.split
  have z := N (a, o) (by simp)
  refine fr_back F K (fun q => ?_) (fun b hb => ?_)
  · have e : L = a := by simpa using q
    exact z.2.1 e.symm
  · have e : b = a := by simpa using hb
    rw [e]; exact z.2.2
theorem news_back1 {h₀ h h' : Heap} {L a : Addr} {o o' : Obj} {news news' : List (Addr × Obj)} (N : News h₀ L h news) (U : Upd a o o' news news') (K : Kept [a] h h') (ha : h'.get? a = some o') : News h₀ L h' news' := by
  obtain ⟨pre, post, rfl, rfl, h1, h2⟩ := U.split
  have z := N (a, o) (by simp)
  intro p hp
  rcases List.mem_append.mp hp with q | q
  · have P := N p (List.mem_append_left _ q)
    exact ⟨K _ _ (by simpa using h1 p q) P.1, P.2⟩
  · rcases List.mem_cons.mp q with rfl | q
    · exact ⟨ha, z.2⟩
    · have P := N p (List.mem_append_right _ (.tail _ q))
      exact ⟨K _ _ (by simpa using h2 p q) P.1, P.2⟩
end
end Mine
namespace Mine
theorem kept0 {h g h' : Heap} {L : Addr} {m : Str → Option Value} (hK : Kept (List.map (fun x => x.1) ([] : List (Addr × Obj))) h g) (F : Fr g L h' m) : Kept [] h h' :=
  fun b o hb e => F.keep b o (hK b o hb e)
theorem kept1 {h g h' : Heap} {L a : Addr} {ob : Obj} {m : Str → Option Value} (hK : Kept (List.map (fun x => x.1) [(a, ob)]) h g) (F : Fr g L h' m) : Kept [a] h h' :=
  fun b o hb e => F.keep b o (hK b o hb e)
theorem got1 {g h' : Heap} {L a : Addr} {ob : Obj} (N : News g L h' [(a, ob)]) : h'.get? a = some ob := (N _ (.head _)).1
end Mine
namespace Mine
section
variable {prog : Program} {w : World} {mean : ExcName → Option Value} {mg mb : Str → Option Value} {A : Around} {s : Shared}
theorem site_in {base h₀ : Heap} {outer : List Env} {q : Str} {sc : Scope} {L f : Addr} {cd : Value} {m : Str → Option Value} (news : List (Addr × Obj))
    (B : Below A base outer h₀) (F : Fr h₀ L s.heap m) (X : (hd.heap_39 w.params).In h₀)
    (T : Top hd.view_39 (looseW hd.view_39 [Str.ofString "b2a_base64", Str.ofString "b64encode"]) mean mg mb h₀) (N : News h₀ L s.heap news)
    (hk : sc.kind = .function) (hh : A.handled = none) : Site w mean mg mb (A.deeper (envOf q sc L f cd)) (hideAll s.heap (news.map (·.1))) := by
  refine site_of (env := envOf q sc L f cd) (outer := outer) B F X T N ?_ rfl hk hh
  show A.frames.map _ = _
  rw [B.stack]; rfl
theorem news_one {h₀ h : Heap} {L a : Addr} {o : Obj} {news : List (Addr × Obj)} (N : News h₀ L h news) (hm : (a, o) ∈ news) : News h₀ L h [(a, o)] :=
  fun p hp => by
    have e : p = (a, o) := by simpa using hp
    rw [e]; exact N _ hm
end
end Mine
namespace Mine
theorem back_head {h₀ h h' : Heap} {L a : Addr} {m : Str → Option Value} {o o' : Obj} {r : List (Addr × Obj)} (K : Kept [a] h h') (ha : h'.get? a = some o') (F : Fr h₀ L h m) (N : News h₀ L h ((a, o) :: r)) (hr : ∀ p ∈ r, p.1 ≠ a) :
    Fr h₀ L h' m ∧ News h₀ L h' ((a, o') :: r) := by
  have U : Upd a o o' ((a, o) :: r) ((a, o') :: r) := Upd.head hr
  exact ⟨fr_back1 F N U K, news_back1 N U K ha⟩
theorem back_none {h₀ h h' : Heap} {L : Addr} {m : Str → Option Value} {news : List (Addr × Obj)} (K : Kept [] h h') (F : Fr h₀ L h m) (N : News h₀ L h news) :
    Fr h₀ L h' m ∧ News h₀ L h' news := ⟨fr_back0 F K, news_back0 N K⟩
end Mine
end
section
open PySem PySem.W PyProof.Rows PySem.Calls
set_option maxRecDepth 100000
set_option maxHeartbeats 8000000
namespace Mine
section
variable {prog : Program} {w : World} {mean : ExcName → Option Value} {mg mb : Str → Option Value} {A A₀ : Around} {s : Shared} {Q E : Value → Shared → Prop}
/-- a def with cells is entered -/
theorem enterC {name qual : Str} {params : Arguments} {body : List Stmt} {scope : Scope} {dV kV doc pm cdv ct oc : Value} {an od : Option Addr} {osl : Array (Option Value)} {f : Addr}
    {args : List Value} {kw : List (Str × Value)} {binds : List (Str × Value)} (news : List (Addr × Obj))
    (S : Site w mean mg mb A (hideAll s.heap (news.map (·.1)))) (hn : ∀ p ∈ news, s.heap.get? p.1 = some p.2)
    (ho : (hd.heap_39 w.params).lookup f = some ⟨oc, od, .func (fnOf name qual params body scope dV kV doc pm an cdv ct), osl⟩) (hcd : codeIn (hd.heap_39 w.params) cdv qual = true) (hroom : A.depth < recursionLimit)
    (hbind : BindsTo s (fnOf name qual params body scope dV kV doc pm an cdv ct) ⟨args, kw⟩ binds) (hkind : (binds.all fun y => scope.names.lookup y.1 == some .local || scope.names.lookup y.1 == some .cell) = true)
    (hnd : ((cellsFrom 0 scope.names []).map (·.1)).Nodup) (hco : scope.isCoroutine = false) (hgen : scope.isGenerator = false) (hk : scope.kind = .function)
    (h : ∀ base frs g L' h₁ tk cells, Kept (news.map (·.1)) s.heap g → (∀ b o, g.get? b = some o → s.heap.get? b = some o) → g.objs.size = s.heap.objs.size → Fr g L' h₁ (bindL (envOfC qual scope L' f cdv).kindOf binds fun _ => none) → News g L' h₁ (cells ++ news) →
      CellsAre (bindC (envOfC qual scope L' f cdv).kindOf binds fun _ => none) (cellsFrom (L' + 1) scope.names []) cells → (∀ p ∈ news, p.1 < L') → Below A base frs g → (hd.heap_39 w.params).In g → Top hd.view_39 (looseW hd.view_39 [Str.ofString "b2a_base64", Str.ofString "b64encode"]) mean mg mb g →
      wpAny (model prog w) (A.deeper (envOfC qual scope L' f cdv)) (execs body (envOfC qual scope L' f cdv))
        (fun fl s' => Q (match fl with | .ret v => v | _ => .none) s')
        (fun e s' => wpAny (model prog w) (A.deeper (envOfC qual scope L' f cdv)) (leaving (envOfC qual scope L' f cdv) e) (fun _ s'' => E e s'') (fun e' s'' => E e' s'') s')
        { s with heap := h₁, toks := tk }) :
    wpAny (model prog w) A (call (.ref f) args kw) Q E s := by
  obtain ⟨_, ⟨base, frs, B⟩, X, T⟩ := S
  have st : ∀ b o, (hideAll s.heap (news.map (·.1))).get? b = some o → s.heap.get? b = some o := fun b o e => of_hideAll _ e
  refine wpAny_call ?_
  refine codeAny_call_function hroom (st _ _ (X _ _ ho)) rfl hco hgen rfl (codeRec_of (X.keeps st) hcd) (hbind _ _ _ _ ?_)
  refine wpAny_newFunctionEnv_cells hk (kindsX hkind _) fun env' he s' x => ?_
  subst he
  refine ⟨(T.nolimit.keeps st).keeps x.toInCall.keep, codeAny_func ?_⟩
  obtain ⟨h₁, tk, rfl, _⟩ := x.done
  have hk₁ := x.toInCall.keep
  obtain ⟨cells, NC, Y⟩ := Cl.news (h₀ := s.heap) (Nat.le_refl _) fun n c hm => ⟨x.cell n c (lookup_of_mem_nodup (cellsFrom_names scope.names 0 (s.heap.objs.size + 1) [] [] rfl ▸ hnd) hm), x.above n c hm⟩
  refine h base frs _ s.heap.objs.size h₁ tk cells (fun b o hb e => hideAll_get _ e hb) st (hideAll_size _ _) ⟨x.toInCall.ns, fun b o e => hk₁ b o (st b o e), Nat.le_of_eq (hideAll_size _ _)⟩ (fun p hp => ?_) Y
    (fun p hp => Heap.lt_size (hn p hp)) B X T
  rcases List.mem_append.mp hp with hp | hp
  · refine ⟨(NC p hp).1, (NC p hp).2.1, ?_⟩
    cases q : (hideAll s.heap (news.map (·.1))).get? p.1 with
    | none => rfl
    | some o => have := of_hideAll _ q; rw [(NC p hp).2.2] at this; cases this
  · exact ⟨hk₁ _ _ (hn p hp), Nat.ne_of_lt (Heap.lt_size (hn p hp)), hideAll_none _ (List.mem_map_of_mem hp)⟩
end
end Mine
namespace Mine
section
variable {prog : Program} {w : World} {mean : ExcName → Option Value} {mg mb : Str → Option Value} {A : Around} {s : Shared}
theorem fresh0 {h g h' : Heap} {L a : Addr} {o : Obj} {news : List (Addr × Obj)} (hK : Kept (List.map (fun x => x.1) ([] : List (Addr × Obj))) h g) (N : News g L h' news) (hm : (a, o) ∈ news) : h.get? a = none := by
  cases q : h.get? a with
  | none => rfl
  | some o' => have := hK a o' (fun q => nomatch q) q; rw [(N _ hm).2.2] at this; cases this
theorem back_new {h₀ h h' : Heap} {L a : Addr} {m : Str → Option Value} {o : Obj} {news : List (Addr × Obj)} (K : Kept [] h h') (ha : h'.get? a = some o) (hn : h.get? a = none) (F : Fr h₀ L h m) (N : News h₀ L h news) :
    Fr h₀ L h' m ∧ News h₀ L h' ((a, o) :: news) := by
  refine ⟨fr_back0 F K, fun p hp => ?_⟩
  rcases List.mem_cons.mp hp with rfl | hp
  · refine ⟨ha, fun q => ?_, ?_⟩
    · obtain ⟨oL, es, ep, hLg, r⟩ := F.ns
      rw [← q, hn] at hLg; cases hLg
    · cases q : h₀.get? a with
      | none => rfl
      | some o' => have := F.keep a o' q; rw [hn] at this; cases this
  · exact news_back0 N K p hp
theorem site_inC {base h₀ : Heap} {outer : List Env} {q : Str} {sc : Scope} {L f : Addr} {cd : Value} {m : Str → Option Value} (news : List (Addr × Obj))
    (B : Below A base outer h₀) (F : Fr h₀ L s.heap m) (X : (hd.heap_39 w.params).In h₀)
    (T : Top hd.view_39 (looseW hd.view_39 [Str.ofString "b2a_base64", Str.ofString "b64encode"]) mean mg mb h₀) (N : News h₀ L s.heap news)
    (hk : sc.kind = .function) (hh : A.handled = none) : Site w mean mg mb (A.deeper (envOfC q sc L f cd)) (hideAll s.heap (news.map (·.1))) := by
  refine site_of (env := envOfC q sc L f cd) (outer := outer) B F X T N ?_ rfl hk hh
  show A.frames.map _ = _
  rw [B.stack]; rfl
end
end Mine
namespace Mine
/-- the walk stands still here -/
noncomputable def Stop (P : Prop) : Prop := P
theorem Stop.halt {P : Prop} (h : Stop P) : P := h
theorem Stop.go {P : Prop} (h : P) : Stop P := h
end Mine
end
section
open PySem PySem.W PyProof.Rows PySem.Calls
set_option maxRecDepth 100000
set_option maxHeartbeats 8000000
namespace Mine
example : (True ∨ (PySem.Challenge.rw_rt0003_01 = PySem.Challenge.rw_rt0003_01 ∧ hd.heap_39 = hd.heap_39)) := by
  k_with_none
  w_top off
  k_fill
  exact .inl trivial

noncomputable def sd (item : Int) (start : Nat) (ns : List Int) (pos : Nat) : List Int :=
  if start < pos then
    if item < ns.getD ((pos - 1) / 2) 0 then sd item start (ns.set pos (ns.getD ((pos - 1) / 2) 0)) ((pos - 1) / 2) else ns.set pos item
  else ns.set pos item
termination_by pos
decreasing_by omega

theorem sd_turn {item st p : Int} {xs xs₀ : List Int} {p₀ : Int} (h0 : 0 ≤ p) (h1 : p < (xs.length : Int)) (hl : xs.length = xs₀.length) (he : sd item st.toNat xs p.toNat = sd item st.toNat xs₀ p₀.toNat)
    (hst : 0 ≤ st) (hs : st < p) (hlt : item < xs.getD ((p - 1) / 2).toNat 0) :
    0 ≤ (p - 1) / 2 ∧ (p - 1) / 2 < ((xs.set p.toNat (xs.getD ((p - 1) / 2).toNat 0)).length : Int) ∧ (xs.set p.toNat (xs.getD ((p - 1) / 2).toNat 0)).length = xs₀.length ∧
      sd item st.toNat (xs.set p.toNat (xs.getD ((p - 1) / 2).toNat 0)) ((p - 1) / 2).toNat = sd item st.toNat xs₀ p₀.toNat := by
  have e : ((p - 1) / 2).toNat = (p.toNat - 1) / 2 := by omega
  refine ⟨by omega, by rw [List.length_set]; omega, by rw [List.length_set]; exact hl, ?_⟩
  rw [← he, e]
  rw [e] at hlt
  conv => rhs; rw [sd]
  rw [if_pos (by omega), if_pos hlt]

theorem sd_stop1 {item st p : Int} {xs xs₀ : List Int} {p₀ : Int} {vs : List Value} (hi : IntsAre vs (xs.set p.toNat item)) (h0 : 0 ≤ p) (hst : 0 ≤ st) (hs : ¬ st < p) (he : sd item st.toNat xs p.toNat = sd item st.toNat xs₀ p₀.toNat) :
    IntsAre vs (sd item st.toNat xs₀ p₀.toNat) := by
  rw [← he, sd, if_neg (by omega)]
  exact hi
theorem sd_stop2 {item st p : Int} {xs xs₀ : List Int} {p₀ : Int} {vs : List Value} (hi : IntsAre vs (xs.set p.toNat item)) (h0 : 0 ≤ p) (hs : st < p) (hst : 0 ≤ st) (hlt : ¬ item < xs.getD ((p - 1) / 2).toNat 0) (he : sd item st.toNat xs p.toNat = sd item st.toNat xs₀ p₀.toNat) :
    IntsAre vs (sd item st.toNat xs₀ p₀.toNat) := by
  have e : ((p - 1) / 2).toNat = (p.toNat - 1) / 2 := by omega
  rw [e] at hlt
  rw [← he, sd, if_pos (by omega), if_neg hlt]
  exact hi

section
variable {prog : Program} {w : World} {A : Around} {s : Shared} {Q E : Value → Shared → Prop}
theorem rshift_one {a : Int} {t u : Tok} (h : Q (.int (a / 2) s.toks) { s with toks := s.toks + 1 }) : wpAny (model prog w) A (binaryOp .RShift (.int a t) (.int 1 u)) Q E s := by
  refine rshift_int (by decide) ?_
  have e : a.fdiv (2 ^ Int.toNat 1) = a / 2 := by
    rw [Int.fdiv_eq_ediv_of_nonneg _ (by decide)]
    rfl
  rw [e]
  exact h
end
local macro_rules | `(tactic| walk_at "binaryOp RShift int int") => `(tactic| (with_reducible refine rshift_one ?_))

section
variable {prog : Program} {w : World} {mean : ExcName → Option Value} {mg mb : Str → Option Value} {A A₀ : Around} {s : Shared} {Q E : Value → Shared → Prop}

theorem siftdown_spec {a : Addr} {vs : List Value} {n : Nat} {ns : List Int} {st p : Int} {t u : Tok} (S : Site w mean mg mb A (hideAll s.heap [a])) (ha : s.heap.get? a = some (listOf vs.toArray n)) (hi : IntsAre vs ns)
    (hst : 0 ≤ st) (hp0 : 0 ≤ p) (hp1 : p < ns.length) (hlen : ns.length < 1000)
    (hdp : A.depth + 1 < recursionLimit) (hu : A.units + 8 < cLine)
    (ret : ∀ h' tk' vs' n', Kept [a] s.heap h' → h'.get? a = some (listOf vs'.toArray n') → IntsAre vs' (sd (ns.getD p.toNat 0) st.toNat ns p.toNat) → Q .none { s with heap := h', toks := tk' }) :
    wpAny (model prog w) A (call (.ref 63) [.ref a, .int st t, .int p u]) Q E s := by
  refine' enter (news := [(a, listOf vs.toArray n)]) S (by simpa using ha) ?k6 ?k7 ?k8 ?k9 ?kB ?c5 ?c2 ?c3 ?c4 ?_
  (case k6 => k_is)
  (case k7 => k_is)
  (case k8 => ktr_room)
  (case k9 => exact BindsTo.of_eq rfl)
  (case c5 => decide)
  (case kB => exact locs rfl)
  (case c2 => exact rfl)
  (case c3 => exact rfl)
  (case c4 => exact rfl)
  intro base frs g L' h' hK hG hsz F' N' hlt B' X' T'
  k_with "exec While Compare cons nil" => k_while_given ["startpos", "newitem", "heap!", "pos!"] (fun st item xs₀ p₀ script p xs => 0 ≤ p ∧ p < (xs.length : Int) ∧ xs.length = xs₀.length ∧ sd item st.toNat xs p.toNat = sd item st.toNat xs₀ p₀.toNat) (fun st item xs₀ p₀ script p xs => p.toNat) "pos" "heap"
  k_with "state" => exact sd_turn (by assumption) (by assumption) (by assumption) (by assumption) (by assumption) (by assumption) (by assumption)
  k_steps
  all_goals refine ret _ _ _ _ (kept1 hK (by assumption)) (got1 (by assumption)) ?_
  · exact sd_stop2 (by assumption) (by assumption) (by assumption) (by assumption) (by assumption) (by assumption)
  · exact sd_stop1 (by assumption) (by assumption) (by assumption) (by assumption) (by assumption)
end
end Mine
end
section
local macro_rules | `(tactic| walk_at "no such key") => `(tactic| skip)
local macro_rules | `(tactic| walk_at "no such key") => `(tactic| skip)
local macro_rules | `(tactic| walk_at "no such key") => `(tactic| skip)
local macro_rules | `(tactic| walk_at "no such key") => `(tactic| skip)
local macro_rules | `(tactic| walk_at "no such key") => `(tactic| skip)
local macro_rules | `(tactic| walk_at "no such key") => `(tactic| skip)
local macro_rules | `(tactic| walk_at "no such key") => `(tactic| skip)
local macro_rules | `(tactic| walk_at "no such key") => `(tactic| skip)
local macro_rules | `(tactic| walk_at "no such key") => `(tactic| skip)
local macro_rules | `(tactic| walk_at "no such key") => `(tactic| skip)
open PySem PySem.W PyProof.Rows PySem.Calls
set_option maxRecDepth 100000
set_option maxHeartbeats 1000000
namespace Mine
example : (True ∨ (PySem.Challenge.rw_rt0003_01 = PySem.Challenge.rw_rt0003_01 ∧ hd.heap_39 = hd.heap_39)) := by
  k_with_none
  w_top off
  k_fill
  exact .inl trivial
noncomputable def suC (n : Nat) (ns : List Int) (c : Nat) : Nat := if c + 1 < n ∧ ¬ (ns.getD c 0 < ns.getD (c + 1) 0) then c + 1 else c
theorem suC_ge {n : Nat} {ns : List Int} {c : Nat} : c ≤ suC n ns c := by unfold suC; split <;> omega
theorem suC_lt {n : Nat} {ns : List Int} {c : Nat} (h : c < n) : suC n ns c < n := by unfold suC; split <;> omega
noncomputable def su (n : Nat) (ns : List Int) (pos : Nat) : List Int × Nat :=
  if 2 * pos + 1 < n then su n (ns.set pos (ns.getD (suC n ns (2 * pos + 1)) 0)) (suC n ns (2 * pos + 1)) else (ns, pos)
termination_by n - pos
decreasing_by
  have := @suC_ge n ns (2 * pos + 1)
  have := @suC_lt n ns (2 * pos + 1) (by omega)
  omega
noncomputable def siftup (ns : List Int) (pos : Nat) : List Int :=
  sd (ns.getD pos 0) pos ((su ns.length ns pos).1.set (su ns.length ns pos).2 (ns.getD pos 0)) (su ns.length ns pos).2

theorem su_unf {n : Nat} {xs : List Int} {p : Nat} (h : 2 * p + 1 < n) : su n xs p = su n (xs.set p (xs.getD (suC n xs (2 * p + 1)) 0)) (suC n xs (2 * p + 1)) := by
  rw [su, if_pos h]
theorem su_any {p c c' : Int} {xs xs₀ : List Int} {p₀ : Int} (h0 : 0 ≤ p) (h1 : p < (xs.length : Int)) (hc : c = 2 * p + 1) (hl : xs.length = xs₀.length) (he : su xs₀.length xs p.toNat = su xs₀.length xs₀ p₀.toNat)
    (hn : c < (xs₀.length : Int)) (h0' : 0 ≤ c') (hn' : c' < (xs₀.length : Int)) (hs : suC xs₀.length xs (2 * p.toNat + 1) = c'.toNat) :
    0 ≤ c' ∧ c' < ((xs.set p.toNat (xs.getD c'.toNat 0)).length : Int) ∧ 2 * c' + 1 = 2 * c' + 1 ∧ (xs.set p.toNat (xs.getD c'.toNat 0)).length = xs₀.length ∧
      su xs₀.length (xs.set p.toNat (xs.getD c'.toNat 0)) c'.toNat = su xs₀.length xs₀ p₀.toNat := by
  refine ⟨h0', by rw [List.length_set]; omega, rfl, by rw [List.length_set]; exact hl, ?_⟩
  rw [← he, su_unf (xs := xs) (p := p.toNat) (by omega), hs]
theorem su_turn1 {p c : Int} {xs xs₀ : List Int} {p₀ : Int} (h0 : 0 ≤ p) (h1 : p < (xs.length : Int)) (hc : c = 2 * p + 1) (hl : xs.length = xs₀.length) (he : su xs₀.length xs p.toNat = su xs₀.length xs₀ p₀.toNat)
    (hn : c < (xs₀.length : Int)) (hr : c + 1 < (xs₀.length : Int)) (hlt : ¬ xs.getD c.toNat 0 < xs.getD (c + 1).toNat 0) :
    0 ≤ c + 1 ∧ c + 1 < ((xs.set p.toNat (xs.getD (c + 1).toNat 0)).length : Int) ∧ 2 * (c + 1) + 1 = 2 * (c + 1) + 1 ∧ (xs.set p.toNat (xs.getD (c + 1).toNat 0)).length = xs₀.length ∧
      su xs₀.length (xs.set p.toNat (xs.getD (c + 1).toNat 0)) (c + 1).toNat = su xs₀.length xs₀ p₀.toNat := by
  refine su_any h0 h1 hc hl he hn (by omega) (by omega) ?_
  have e : 2 * p.toNat + 1 = c.toNat := by omega
  have e' : (c + 1).toNat = c.toNat + 1 := by omega
  rw [e'] at hlt
  rw [e, suC, if_pos ⟨by omega, hlt⟩, e']
theorem su_turn2 {p c : Int} {xs xs₀ : List Int} {p₀ : Int} (h0 : 0 ≤ p) (h1 : p < (xs.length : Int)) (hc : c = 2 * p + 1) (hl : xs.length = xs₀.length) (he : su xs₀.length xs p.toNat = su xs₀.length xs₀ p₀.toNat)
    (hn : c < (xs₀.length : Int)) (hlt : xs.getD c.toNat 0 < xs.getD (c + 1).toNat 0) :
    0 ≤ c ∧ c < ((xs.set p.toNat (xs.getD c.toNat 0)).length : Int) ∧ 2 * c + 1 = 2 * c + 1 ∧ (xs.set p.toNat (xs.getD c.toNat 0)).length = xs₀.length ∧
      su xs₀.length (xs.set p.toNat (xs.getD c.toNat 0)) c.toNat = su xs₀.length xs₀ p₀.toNat := by
  refine su_any h0 h1 hc hl he hn (by omega) (by omega) ?_
  have e : 2 * p.toNat + 1 = c.toNat := by omega
  have e' : (c + 1).toNat = c.toNat + 1 := by omega
  rw [e'] at hlt
  rw [e, suC, if_neg (fun q => q.2 hlt)]
theorem su_turn3 {p c : Int} {xs xs₀ : List Int} {p₀ : Int} (h0 : 0 ≤ p) (h1 : p < (xs.length : Int)) (hc : c = 2 * p + 1) (hl : xs.length = xs₀.length) (he : su xs₀.length xs p.toNat = su xs₀.length xs₀ p₀.toNat)
    (hn : c < (xs₀.length : Int)) (hr : ¬ c + 1 < (xs₀.length : Int)) :
    0 ≤ c ∧ c < ((xs.set p.toNat (xs.getD c.toNat 0)).length : Int) ∧ 2 * c + 1 = 2 * c + 1 ∧ (xs.set p.toNat (xs.getD c.toNat 0)).length = xs₀.length ∧
      su xs₀.length (xs.set p.toNat (xs.getD c.toNat 0)) c.toNat = su xs₀.length xs₀ p₀.toNat := by
  refine su_any h0 h1 hc hl he hn (by omega) (by omega) ?_
  have e : 2 * p.toNat + 1 = c.toNat := by omega
  rw [e, suC, if_neg (fun q => hr (by omega))]
theorem getD_set_self {xs : List Int} {p : Nat} {x d : Int} (h : p < xs.length) : (xs.set p x).getD p d = x := by
  simp [List.getD, h]
theorem su_end {p c : Int} {xs xs₀ : List Int} {p₀ : Int} {vs : List Value} (hi : IntsAre vs (sd ((xs.set p.toNat (xs₀.getD p₀.toNat 0)).getD p.toNat 0) p₀.toNat (xs.set p.toNat (xs₀.getD p₀.toNat 0)) p.toNat))
    (h0 : 0 ≤ p) (h1 : p < (xs.length : Int)) (hc : c = 2 * p + 1) (he : su xs₀.length xs p.toNat = su xs₀.length xs₀ p₀.toNat) (hn : ¬ c < (xs₀.length : Int)) : IntsAre vs (siftup xs₀ p₀.toNat) := by
  have e : su xs₀.length xs p.toNat = (xs, p.toNat) := by rw [su, if_neg (by omega)]
  rw [getD_set_self (by omega)] at hi
  rw [siftup, ← he, e]
  exact hi

section
variable {prog : Program} {w : World} {mean : ExcName → Option Value} {mg mb : Str → Option Value} {A A₀ : Around} {s : Shared} {Q E : Value → Shared → Prop}
theorem siftup_spec {a : Addr} {vs : List Value} {n : Nat} {ns : List Int} {p : Int} {u : Tok} (S : Site w mean mg mb A (hideAll s.heap [a])) (ha : s.heap.get? a = some (listOf vs.toArray n)) (hi : IntsAre vs ns)
    (hp0 : 0 ≤ p) (hp1 : p < ns.length) (hlen : ns.length < 1000)
    (hdp : A.depth + 2 < recursionLimit) (hu : A.units + 16 < cLine)
    (ret : ∀ h' tk' vs' n', Kept [a] s.heap h' → h'.get? a = some (listOf vs'.toArray n') → IntsAre vs' (siftup ns p.toNat) → Q .none { s with heap := h', toks := tk' }) :
    wpAny (model prog w) A (call (.ref 70) [.ref a, .int p u]) Q E s := by
  refine' enter (news := [(a, listOf vs.toArray n)]) S (by simpa using ha) ?k6 ?k7 ?k8 ?k9 ?kB ?c5 ?c2 ?c3 ?c4 ?_
  (case k6 => k_is)
  (case k7 => k_is)
  (case k8 => ktr_room)
  (case k9 => exact BindsTo.of_eq rfl)
  (case c5 => decide)
  (case kB => exact locs rfl)
  (case c2 => exact rfl)
  (case c3 => exact rfl)
  (case c4 => exact rfl)
  intro base frs g L' h' hK hG hsz F' N' hlt B' X' T'
  k_with "exec While Compare cons nil" => k_while_given ["endpos", "heap!", "pos!"] (fun e xs₀ p₀ script p c xs => 0 ≤ p ∧ p < (xs.length : Int) ∧ c = 2 * p + 1 ∧ xs.length = xs₀.length ∧ su xs₀.length xs p.toNat = su xs₀.length xs₀ p₀.toNat) (fun e xs₀ p₀ script p c xs => xs₀.length - p.toNat) "pos" "childpos" "heap"
  k_with "state" => first
    | exact su_turn1 (by assumption) (by assumption) (by assumption) (by assumption) (by assumption) (by assumption) (by assumption) (by assumption)
    | exact su_turn2 (by assumption) (by assumption) (by assumption) (by assumption) (by assumption) (by assumption) (by assumption)
    | exact su_turn3 (by assumption) (by assumption) (by assumption) (by assumption) (by assumption) (by assumption) (by assumption)
  k_steps
  refine siftdown_spec (site_in [(a, _)] B' (by assumption) X' T' (by assumption) rfl S.handled) (got1 (by assumption)) (by assumption) hp0 (by assumption) (by rw [List.length_set]; assumption) (by rw [List.length_set]; omega) ?_ ?_ ?_
  · show A.depth + 1 + 1 < _
    omega
  · show A.units + 3 + 8 < _
    omega
  · intro h2 tk2 vs2 n2 K2 g2 I2
    obtain ⟨F2, N2⟩ := back_head K2 g2 (by assumption) (by assumption) (List.forall_mem_nil _)
    k_steps
    refine ret _ _ _ _ (kept1 hK (by assumption)) (got1 (by assumption)) ?_
    exact su_end (by assumption) (by assumption) (by assumption) (by assumption) (by assumption) (by assumption)
end
end Mine
end
section
open PySem PySem.W PyProof.Rows PySem.Calls
set_option maxRecDepth 100000
set_option maxHeartbeats 8000000
namespace Mine
example : (True ∨ (PySem.Challenge.rw_rt0003_01 = PySem.Challenge.rw_rt0003_01 ∧ hd.heap_39 = hd.heap_39)) := by
  k_with_none
  w_top off
  k_fill
  exact .inl trivial

theorem intsAre_snoc {vs : List Value} {ns : List Int} {x : Int} {t : Tok} (h : IntsAre vs ns) : IntsAre (vs ++ [.int x t]) (ns ++ [x]) := by
  induction h with
  | nil => exact .cons _ _ .nil
  | cons k t _ ih => exact .cons k t ih
section
variable {prog : Program} {w : World} {mean : ExcName → Option Value} {mg mb : Str → Option Value} {A A₀ : Around} {s : Shared} {Q E : Value → Shared → Prop}

theorem push_spec {a : Addr} {vs : List Value} {n : Nat} {ns : List Int} {x : Int} {t : Tok} (S : Site w mean mg mb A (hideAll s.heap [a])) (ha : s.heap.get? a = some (listOf vs.toArray n)) (hi : IntsAre vs ns)
    (hlen : ns.length < 900)
    (hdp : A.depth + 4 < recursionLimit) (hu : A.units + 30 < cLine)
    (ret : ∀ h' tk' vs' n', Kept [a] s.heap h' → h'.get? a = some (listOf vs'.toArray n') → IntsAre vs' (sd x 0 (ns ++ [x]) ns.length) → Q .none { s with heap := h', toks := tk' }) :
    wpAny (model prog w) A (call (.ref 28) [.ref a, .int x t]) Q E s := by
  refine' enter (binds := [(Str.ofString "heap", .ref a), (Str.ofString "item", .int x t)]) (news := [(a, listOf vs.toArray n)]) S (by simpa using ha) ?k6 ?k7 ?k8 ?k9 ?kB ?c5 ?c2 ?c3 ?c4 ?_
  (case k6 => k_is)
  (case k7 => k_is)
  (case k8 => ktr_room)
  (case k9 => exact BindsTo.of_eq rfl)
  (case c5 => decide)
  (case kB => exact locs rfl)
  (case c2 => exact rfl)
  (case c3 => exact rfl)
  (case c4 => exact rfl)
  intro base frs g L' h' hK hG hsz F' N' hlt B' X' T'
  obtain ⟨hA1, dp, fr, gd, un⟩ := A
  have hH1 : hA1 = none := S.handled
  have hF1 : fr = some frs := B'.stack
  subst hH1 hF1
  have hdp : dp + 4 < recursionLimit := hdp
  have hu : un + 30 < cLine := hu
  k_steps
  refine siftdown_spec (ns := ns ++ [x]) (site_in [(a, _)] B' (by assumption) X' T' (by assumption) rfl rfl) (got1 (by assumption)) (intsAre_snoc hi) (by decide) (by lia) (by rw [List.length_append, List.length_singleton]; lia) (by rw [List.length_append, List.length_singleton]; lia) ?_ ?_ ?_
  · show dp + 1 + 1 < _
    lia
  · show un + 3 + 8 < _
    lia
  · intro h2 tk2 vs2 n2 K2 g2 I2
    obtain ⟨F2, N2⟩ := back_head K2 g2 (by assumption) (by assumption) (List.forall_mem_nil _)
    k_steps
    refine ret _ _ _ _ (kept1 hK (by assumption)) (got1 (by assumption)) ?_
    have e : ((((ns.length + 1 : Nat) : Int)) - 1).toNat = ns.length := by lia
    rw [e] at I2
    simpa [List.getD] using I2

/-- what heappop leaves -/
noncomputable def popL (ns : List Int) : List Int := if ns.dropLast.length = 0 then [] else siftup (ns.dropLast.set 0 (ns.getLastD 0)) 0

theorem pop_spec {a : Addr} {vs : List Value} {n : Nat} {ns : List Int} (S : Site w mean mg mb A (hideAll s.heap [a])) (ha : s.heap.get? a = some (listOf vs.toArray n)) (hi : IntsAre vs ns)
    (hlen : ns.length < 900) (hne : 0 < ns.length)
    (hdp : A.depth + 4 < recursionLimit) (hu : A.units + 30 < cLine)
    (ret : ∀ h' tk' vs' n' t', Kept [a] s.heap h' → h'.get? a = some (listOf vs'.toArray n') → IntsAre vs' (popL ns) → Q (.int (ns.getD 0 0) t') { s with heap := h', toks := tk' }) :
    wpAny (model prog w) A (call (.ref 35) [.ref a]) Q E s := by
  refine' enter (binds := [(Str.ofString "heap", .ref a)]) (news := [(a, listOf vs.toArray n)]) S (by simpa using ha) ?k6 ?k7 ?k8 ?k9 ?kB ?c5 ?c2 ?c3 ?c4 ?_
  (case k6 => k_is)
  (case k7 => k_is)
  (case k8 => ktr_room)
  (case k9 => exact BindsTo.of_eq rfl)
  (case c5 => decide)
  (case kB => exact locs rfl)
  (case c2 => exact rfl)
  (case c3 => exact rfl)
  (case c4 => exact rfl)
  intro base frs g L' h' hK hG hsz F' N' hlt B' X' T'
  obtain ⟨hA1, dp, fr, gd, un⟩ := A
  have hH1 : hA1 = none := S.handled
  have hF1 : fr = some frs := B'.stack
  subst hH1 hF1
  have hdp : dp + 4 < recursionLimit := hdp
  have hu : un + 30 < cLine := hu
  have hvl : vs.length = ns.length := hi.length
  have hdl : ns.dropLast.length = ns.length - 1 := List.length_dropLast
  have e0 : 0 < ns.dropLast.length → ns.dropLast.getD (Int.toNat 0) 0 = ns.getD 0 0 := fun h => by
    show ns.dropLast.getD 0 0 = _
    simp only [List.getD, List.getElem?_dropLast]
    rw [if_pos (by lia)]
  have e1 : ns.dropLast.length = 0 → ns.getLastD 0 = ns.getD 0 0 := fun h => by
    match ns, h, hne with
    | [x], _, _ => rfl
    | x :: y :: r, h, _ => simp at h

  k_steps
  · refine siftup_spec (site_in [(a, _)] B' (by assumption) X' T' (by assumption) rfl rfl) (got1 (by assumption)) (by assumption) (by decide) (by rw [List.length_set, List.length_dropLast]; lia) (by rw [List.length_set, List.length_dropLast]; lia) ?_ ?_ ?_
    · show dp + 1 + 2 < _
      lia
    · show un + 3 + 16 < _
      lia
    · intro h2 tk2 vs2 n2 K2 g2 I2
      obtain ⟨F2, N2⟩ := back_head K2 g2 (by assumption) (by assumption) (List.forall_mem_nil _)
      k_steps
      have R := fun tk9 t9 => ret _ tk9 vs2 n2 t9 (kept1 hK (by assumption)) (got1 (by assumption)) (by rw [popL, if_neg (by lia)]; exact I2)
      rw [← e0 (by lia)] at R
      exact R _ _
  · have R := fun tk9 t9 => ret _ tk9 vs.dropLast (n + 1) t9 (kept1 hK (by assumption)) (got1 (by assumption)) (by
      rw [popL, if_pos (by lia)]
      have z : ns.dropLast = [] := List.eq_nil_of_length_eq_zero (by lia)
      rw [← z]; assumption)
    rw [← e1 (by lia)] at R
    exact R _ _

theorem replace_spec {a : Addr} {vs : List Value} {n : Nat} {ns : List Int} {x : Int} {t : Tok} (S : Site w mean mg mb A (hideAll s.heap [a])) (ha : s.heap.get? a = some (listOf vs.toArray n)) (hi : IntsAre vs ns)
    (hlen : ns.length < 900) (hne : 0 < ns.length)
    (hdp : A.depth + 4 < recursionLimit) (hu : A.units + 30 < cLine)
    (ret : ∀ h' tk' vs' n' t', Kept [a] s.heap h' → h'.get? a = some (listOf vs'.toArray n') → IntsAre vs' (siftup (ns.set 0 x) 0) → Q (.int (ns.getD 0 0) t') { s with heap := h', toks := tk' }) :
    wpAny (model prog w) A (call (.ref 42) [.ref a, .int x t]) Q E s := by
  refine' enter (binds := [(Str.ofString "heap", .ref a), (Str.ofString "item", .int x t)]) (news := [(a, listOf vs.toArray n)]) S (by simpa using ha) ?k6 ?k7 ?k8 ?k9 ?kB ?c5 ?c2 ?c3 ?c4 ?_
  (case k6 => k_is)
  (case k7 => k_is)
  (case k8 => ktr_room)
  (case k9 => exact BindsTo.of_eq rfl)
  (case c5 => decide)
  (case kB => exact locs rfl)
  (case c2 => exact rfl)
  (case c3 => exact rfl)
  (case c4 => exact rfl)
  intro base frs g L' h' hK hG hsz F' N' hlt B' X' T'
  obtain ⟨hA1, dp, fr, gd, un⟩ := A
  have hH1 : hA1 = none := S.handled
  have hF1 : fr = some frs := B'.stack
  subst hH1 hF1
  have hdp : dp + 4 < recursionLimit := hdp
  have hu : un + 30 < cLine := hu
  k_steps
  · refine siftup_spec (site_in [(a, _)] B' (by assumption) X' T' (by assumption) rfl rfl) (got1 (by assumption)) (by assumption) (by decide) (by rw [List.length_set]; lia) (by rw [List.length_set]; lia) ?_ ?_ ?_
    · show dp + 1 + 2 < _
      lia
    · show un + 3 + 16 < _
      lia
    · intro h2 tk2 vs2 n2 K2 g2 I2
      obtain ⟨F2, N2⟩ := back_head K2 g2 (by assumption) (by assumption) (List.forall_mem_nil _)
      k_steps
      refine ret _ _ _ _ _ (kept1 hK (by assumption)) (got1 (by assumption)) ?_
      exact I2

theorem pushpop_spec {a : Addr} {vs : List Value} {n : Nat} {ns : List Int} {x : Int} {t : Tok} (S : Site w mean mg mb A (hideAll s.heap [a])) (ha : s.heap.get? a = some (listOf vs.toArray n)) (hi : IntsAre vs ns)
    (hlen : ns.length < 900)
    (hdp : A.depth + 4 < recursionLimit) (hu : A.units + 30 < cLine)
    (ret1 : 0 < ns.length → ns.getD 0 0 < x → ∀ h' tk' vs' n' t', Kept [a] s.heap h' → h'.get? a = some (listOf vs'.toArray n') → IntsAre vs' (siftup (ns.set 0 x) 0) → Q (.int (ns.getD 0 0) t') { s with heap := h', toks := tk' })
    (ret2 : (0 < ns.length → ¬ ns.getD 0 0 < x) → ∀ h' tk' vs' n' t', Kept [a] s.heap h' → h'.get? a = some (listOf vs'.toArray n') → IntsAre vs' ns → Q (.int x t') { s with heap := h', toks := tk' }) :
    wpAny (model prog w) A (call (.ref 49) [.ref a, .int x t]) Q E s := by
  refine' enter (binds := [(Str.ofString "heap", .ref a), (Str.ofString "item", .int x t)]) (news := [(a, listOf vs.toArray n)]) S (by simpa using ha) ?k6 ?k7 ?k8 ?k9 ?kB ?c5 ?c2 ?c3 ?c4 ?_
  (case k6 => k_is)
  (case k7 => k_is)
  (case k8 => ktr_room)
  (case k9 => exact BindsTo.of_eq rfl)
  (case c5 => decide)
  (case kB => exact locs rfl)
  (case c2 => exact rfl)
  (case c3 => exact rfl)
  (case c4 => exact rfl)
  intro base frs g L' h' hK hG hsz F' N' hlt B' X' T'
  obtain ⟨hA1, dp, fr, gd, un⟩ := A
  have hH1 : hA1 = none := S.handled
  have hF1 : fr = some frs := B'.stack
  subst hH1 hF1
  have hdp : dp + 4 < recursionLimit := hdp
  have hu : un + 30 < cLine := hu
  k_steps
  · refine siftup_spec (site_in [(a, _)] B' (by assumption) X' T' (news_one (by assumption) (.tail _ (.head _))) rfl rfl) (got1 (news_one (by assumption) (.tail _ (.head _)))) (by assumption) (by decide) (by rw [List.length_set]; lia) (by rw [List.length_set]; lia) ?_ ?_ ?_
    · show dp + 1 + 2 < _
      lia
    · show un + 3 + 16 < _
      lia
    · intro h2 tk2 vs2 n2 K2 g2 I2
      obtain ⟨F2, N2⟩ := back_head K2 g2 (by assumption) (news_one (by assumption) (.tail _ (.head _))) (List.forall_mem_nil _)
      k_steps
      refine ret1 (by assumption) (by assumption) _ _ _ _ _ (kept1 hK (by assumption)) (got1 (by assumption)) ?_
      exact I2
  · exact ret2 (fun _ => by assumption) _ _ _ _ _ (kept1 hK (by assumption)) (got1 (by assumption)) hi
  · exact ret2 (fun _ => by lia) _ _ _ _ _ (kept1 hK (by assumption)) (got1 (by assumption)) hi
end
end Mine
end
section
local macro_rules | `(tactic| walk_at "no such key") => `(tactic| skip)
local macro_rules | `(tactic| walk_at "no such key") => `(tactic| skip)
local macro_rules | `(tactic| walk_at "no such key") => `(tactic| skip)
local macro_rules | `(tactic| walk_at "no such key") => `(tactic| skip)
local macro_rules | `(tactic| walk_at "no such key") => `(tactic| skip)
local macro_rules | `(tactic| walk_at "no such key") => `(tactic| skip)
local macro_rules | `(tactic| walk_at "no such key") => `(tactic| skip)
local macro_rules | `(tactic| walk_at "no such key") => `(tactic| skip)
local macro_rules | `(tactic| walk_at "no such key") => `(tactic| skip)
local macro_rules | `(tactic| walk_at "no such key") => `(tactic| skip)
open PySem PySem.W PyProof.Rows PySem.Calls
set_option maxRecDepth 100000
set_option maxHeartbeats 8000000
namespace Mine
example : (True ∨ (PySem.Challenge.rw_rt0003_01 = PySem.Challenge.rw_rt0003_01 ∧ hd.heap_39 = hd.heap_39)) := by
  k_with_none
  w_top off
  k_fill
  exact .inl trivial

theorem sd_length {item : Int} {st : Nat} : ∀ (ns : List Int) (p : Nat), (sd item st ns p).length = ns.length := by
  intro ns p
  induction p using Nat.strongRecOn generalizing ns with
  | ind p ih =>
    rw [sd]
    split
    · split
      · rw [ih _ (by lia), List.length_set]
      · rw [List.length_set]
    · rw [List.length_set]
theorem su_length {n : Nat} : ∀ (k : Nat) (ns : List Int) (p : Nat), n - p = k → (su n ns p).1.length = ns.length := by
  intro k
  induction k using Nat.strongRecOn with
  | ind k ih =>
    intro ns p hk
    rw [su]
    split
    · have h1 := @suC_ge n ns (2 * p + 1)
      have h2 := @suC_lt n ns (2 * p + 1) (by assumption)
      rw [ih (n - suC n ns (2 * p + 1)) (by lia) _ _ rfl, List.length_set]
    · rfl
theorem siftup_length (ns : List Int) (p : Nat) : (siftup ns p).length = ns.length := by
  rw [siftup, sd_length, List.length_set, su_length _ _ _ rfl]
/-- what heapify leaves: siftup at k - 1, k - 2, .. (i turns) -/
noncomputable def hfy (ns : List Int) (k : Nat) : Nat → List Int
  | 0 => ns
  | i + 1 => siftup (hfy ns k i) (k - 1 - i)
theorem hfy_length (ns : List Int) (k : Nat) : ∀ i, (hfy ns k i).length = ns.length
  | 0 => rfl
  | i + 1 => by rw [hfy, siftup_length, hfy_length ns k i]
section
variable {prog : Program} {w : World} {A : Around} {E : Value → Shared → Prop} {s : Shared}
abbrev revIt (n : Nat) : Obj := { cls := .type "range_iterator", data := .fields #[rawInt ((n : Int) - 1), rawInt (n : Int), rawInt (-1)] }
theorem rev_meets (r : Addr) (a b c : Int) (t u v : Tok) (hc0 : ¬(!(Builtin.Range.rangeFitsLong a && Builtin.Range.rangeFitsLong b && Builtin.Range.rangeFitsLong c && Builtin.Range.rangeFitsLong (-c) && Builtin.Range.rangeFitsLong (a - c) && Builtin.Range.rangeFitsLong (Builtin.Range.rangeSize a b c))) = true) :
    Meets (Builtin.«range.__reversed__» ⟨[.ref r], []⟩) (fun _ R s => s.heap.get? r = some { cls := .type "range", dict := none, data := .fields #[.int a t, .int b u, .int c v], slots := #[] } ∧ R (.ok (.ret (Value.ref s.heap.objs.size))) { s with heap := s.heap.push { cls := Value.type (if (Builtin.Range.rangeFitsLong a && Builtin.Range.rangeFitsLong b && Builtin.Range.rangeFitsLong c && Builtin.Range.rangeFitsLong (-c) && Builtin.Range.rangeFitsLong (a - c) && Builtin.Range.rangeFitsLong (Builtin.Range.rangeSize a b c)) = true then "range_iterator" else "longrange_iterator"), data := Data.fields #[rawInt (a + (Builtin.Range.rangeSize a b c - 1) * c), rawInt (Builtin.Range.rangeSize a b c), rawInt (-c)] }, toks := s.toks }) :=
  .of_wp fun prog w A R s h => by obtain ⟨hp, g, d, tk, os⟩ := s; obtain ⟨hl, h⟩ := h; wp_walk; exact ⟨_, rfl, h⟩
theorem call_range_rev {r : Addr} {n : Nat} {t u v : Tok} {Q : Value → Shared → Prop} (hr : IsRange s.heap r 0 (n : Int) 1 t u v) (hn : n < 1000)
    (h : Q (.ref s.heap.objs.size) { s with heap := s.heap.push (revIt n) }) : wpAny (model prog w) A (call (.builtin "range.__reversed__") [.ref r]) Q E s := by
  have hT : s.TypeIs (.ref r) "range" := ⟨_, hr, rfl⟩
  have e1 : Builtin.Range.rangeSize 0 (n : Int) 1 = n := by
    unfold Builtin.Range.rangeSize
    simp only [show (1 : Int) > 0 from by decide, if_true, Int.ediv_one]
    split <;> lia
  have e2 : (Builtin.Range.rangeFitsLong 0 && Builtin.Range.rangeFitsLong (n : Int) && Builtin.Range.rangeFitsLong 1 && Builtin.Range.rangeFitsLong (-1) && Builtin.Range.rangeFitsLong (0 - 1) && Builtin.Range.rangeFitsLong (Builtin.Range.rangeSize 0 (n : Int) 1)) = true := by
    rw [e1]
    simp only [Builtin.Range.rangeFitsLong, Bool.and_eq_true, decide_eq_true_eq]
    lia
  refine call_meets F.slot_range_reversed hT F.entry_range_reversed (F.args_range_reversed_1 _) (rev_meets r 0 n 1 t u v (by rw [e2]; decide)) ⟨hr, ?_⟩
  rw [e2, e1]
  have e3 : (0 : Int) + ((n : Int) - 1) * 1 = (n : Int) - 1 := by lia
  rw [e3]
  exact h
theorem code_reversed_newR {r : Addr} {n : Nat} {t u v : Tok} {Q₁ : Value → Shared → Prop} (hr : IsRange s.heap r 0 (n : Int) 1 t u v) (hn : n < 1000)
    (h : Q₁ (.ref s.heap.objs.size) { s with heap := s.heap.push (revIt n) }) :
    codeAny (model prog w) A (.call (.builtin "reversed.__new__") ⟨[.type "reversed", .ref r], []⟩) (wants Q₁ E) s := by
  have hT : s.TypeIs (.ref r) "range" := ⟨_, hr, rfl⟩
  refine codeAny_of_tree ?_
  show wpAny _ A.in1 (do checkBuiltinCall "reversed.__new__" ⟨[.type "reversed", .ref r], []⟩; again (.builtin "reversed.__new__" ⟨[.type "reversed", .ref r], []⟩)) _ _ s
  refine wpAny_bind (wpAny_of_eq (F.newCall_reversed_1 _) (wpAny_pure ⟨plainId_quiet F.plain_reversed_new _, codeAny_builtin F.entry_reversed_new ?_⟩))
  rw [Around.under_plainId F.plain_reversed_new _]
  unfold Builtin.«reversed.__new__»
  refine wpAny_bind (wpAny_of_eq (newClass_reversed _) ?_)
  try dsimp only
  refine wpAny_bind (wpAny_of_eq (a := ()) (by first | rfl | kernel_rfl) ?_)
  refine wpAny_bind (wpAny_of_eq (a := ()) (by first | rfl | kernel_rfl) ?_)
  try dsimp only
  refine wpAny_bind (wpAny_specialOf hT F.slot_range_reversed.lookup ?_)
  try dsimp only
  refine wpAny_bind (wpAny_of_eq (F.slot_range_reversed.bind _) ?_)
  try dsimp only
  first
  | rw [if_neg (show ¬ ((Value.builtin "range.__reversed__" == Value.none) = true) from Bool.false_ne_true)]
  | (show wpAny _ _ (if (Value.builtin "range.__reversed__" == Value.none) = true then _ else _) _ _ _; rw [if_neg (show ¬ ((Value.builtin "range.__reversed__" == Value.none) = true) from Bool.false_ne_true)])
  refine wpAny_bind (wpAny_rule ?_)
  refine wpAny_bind (m := runValue (.call (.builtin "range.__reversed__") ⟨[.ref r], []⟩)) (show wpAny _ _ (call (.builtin "range.__reversed__") [.ref r]) _ _ _ from call_range_rev hr hn ?_)
  first
  | exact wpAny_pure h
  | exact wpAny_bind (wpAny_pure (wpAny_pure h))
theorem sub_ri_reversed : isSubtype (.type "range_iterator") (.type "reversed") = pure false := by rw [isSubtype_type]; kernel_rfl
theorem call_reversed_range {r : Addr} {n : Nat} {t u v : Tok} {Q : Value → Shared → Prop} (hr : IsRange s.heap r 0 (n : Int) 1 t u v) (hn : n < 1000)
    (h : Q (.ref s.heap.objs.size) { s with heap := s.heap.push (revIt n) }) : wpAny (model prog w) A (call (.type "reversed") [.ref r]) Q E s := by
  refine callType_other (U := "range_iterator") (Q₁ := fun obj s₁ => obj = .ref s.heap.objs.size ∧ s₁ = { s with heap := s.heap.push (revIt n) }) (by decide +kernel) F.create_reversed ⟨_, _, F.mro_reversed⟩ F.made_reversed sub_ri_reversed (F.typeCall_reversed_1 _) (code_reversed_newR hr hn ⟨rfl, rfl⟩) ?_
  rintro obj s₁ ⟨rfl, rfl⟩
  exact ⟨⟨_, Heap.get?_push_size _ rfl, rfl⟩, h⟩
end
end Mine
end
section
open PySem PySem.W PyProof.Rows PySem.Calls
set_option maxRecDepth 100000
set_option maxHeartbeats 8000000
namespace Mine
example : (True ∨ (PySem.Challenge.rw_rt0003_01 = PySem.Challenge.rw_rt0003_01 ∧ hd.heap_39 = hd.heap_39)) := by
  k_with_none
  w_top off
  k_fill
  exact .inl trivial

local macro_rules | `(tactic| walk_at "call type:reversed") => `(tactic| (k_here; refine Stop.halt ?_))
section
variable {prog : Program} {w : World} {A : Around} {s : Shared} {E : Value → Shared → Prop} {env : Env} {h₀ : Heap} {x : Str} {body : List Stmt} {Q : Flow → Shared → Prop}
theorem iter_rev {I : Addr} {k : Nat} {m₀ : Str → Option Value} {news : List (Addr × Obj)} (J : Nat → (Str → Option Value) → List (Addr × Obj) → Prop) (hh : A.handled = none)
    (hI : IsRangeIter s.heap I ((k : Int) - 1) (k : Int) (-1)) (hL : env.locals ≠ I) (h0 : h₀.get? I = none) (hn : ∀ p ∈ news, p.1 ≠ I) (F : Fr h₀ env.locals s.heap m₀) (N : News h₀ env.locals s.heap news) (hj : J 0 m₀ news)
    (turn : ∀ (i : Nat) t m₁ news₁ h tk own, i < k → news₁.map (·.1) = news.map (·.1) → OwnOff own (news.map (·.1)) → J i m₁ news₁ → Fr h₀ env.locals h (fun y => if y = x then some (.int ((k : Int) - 1 - i) t) else m₁ y) → News h₀ env.locals h (news₁ ++ own) →
      wpAny (model prog w) A (execs body env) (InvPostN h₀ env.locals (J (i + 1)) own (news.map (·.1)) { s with heap := h, toks := tk } Q) E { s with heap := h, toks := tk })
    (done : ∀ m₁ news₁ h tk, J k m₁ news₁ → Fr h₀ env.locals h m₁ → News h₀ env.locals h news₁ → Q .next { s with heap := h, toks := tk }) :
    wpAny (model prog w) A (pyIter (.ref I)) (fun it s₂ => LoopAtV prog w A h₀ env x body Q E it s₂) E s := by
  have W := (Walks.range (prog := prog) (w := w) (A := A) hh I ((k : Int) - 1) (-1) k).bound
  have st0 : IsRangeIter s.heap I ((k : Int) - 1 + ((0 : Nat) : Int) * (-1)) ((k : Int) - ((0 : Nat) : Int)) (-1) := by
    have e1 : (k : Int) - 1 + ((0 : Nat) : Int) * (-1) = (k : Int) - 1 := by lia
    have e2 : (k : Int) - ((0 : Nat) : Int) = k := by lia
    rw [e1, e2]
    exact hI
  refine W.self 0 _ _ _ st0 ?_
  refine loop_invN J W (fun q => hL (List.mem_singleton.mp q)) (fun b hb => by rw [List.mem_singleton.mp hb]; exact h0) (fun p hp hb => hn p hp (List.mem_singleton.mp hb)) (fun p hp hb => hn p hp (List.mem_singleton.mp hb)) st0 F N hj ?_ done
  rintro i v m₁ news₁ h tk own hi ⟨_, t, rfl⟩ hm ho hJ F₁ N₁
  have e1 : (k : Int) - 1 + (i : Int) * (-1) = (k : Int) - 1 - (i : Int) := by lia
  rw [e1] at F₁
  exact turn i t m₁ news₁ h tk own hi hm ho hJ F₁ N₁
end
section
variable {prog : Program} {w : World} {mean : ExcName → Option Value} {mg mb : Str → Option Value} {A A₀ : Around} {s : Shared} {Q E : Value → Shared → Prop}

theorem heapify_spec {a : Addr} {vs : List Value} {n : Nat} {ns : List Int} (S : Site w mean mg mb A (hideAll s.heap [a])) (ha : s.heap.get? a = some (listOf vs.toArray n)) (hi : IntsAre vs ns)
    (hlen : ns.length < 900)
    (hdp : A.depth + 5 < recursionLimit) (hu : A.units + 40 < cLine)
    (ret : ∀ h' tk' vs' n', Kept [a] s.heap h' → h'.get? a = some (listOf vs'.toArray n') → IntsAre vs' (hfy ns (ns.length / 2) (ns.length / 2)) → Q .none { s with heap := h', toks := tk' }) :
    wpAny (model prog w) A (call (.ref 56) [.ref a]) Q E s := by
  refine' enter (binds := [(Str.ofString "x", .ref a)]) (news := [(a, listOf vs.toArray n)]) S (by simpa using ha) ?k6 ?k7 ?k8 ?k9 ?kB ?c5 ?c2 ?c3 ?c4 ?_
  (case k6 => k_is)
  (case k7 => k_is)
  (case k8 => ktr_room)
  (case k9 => exact BindsTo.of_eq rfl)
  (case c5 => decide)
  (case kB => exact locs rfl)
  (case c2 => exact rfl)
  (case c3 => exact rfl)
  (case c4 => exact rfl)
  intro base frs g L' h' hK hG hsz F' N' hlt B' X' T'
  obtain ⟨hA1, dp, fr, gd, un⟩ := A
  have hH1 : hA1 = none := S.handled
  have hF1 : fr = some frs := B'.stack
  subst hH1 hF1
  have hdp : dp + 5 < recursionLimit := hdp
  have hu : un + 40 < cLine := hu
  have hvl : vs.length = ns.length := hi.length
  k_steps
  refine Stop.go ?_
  have hk : ((ns.length : Int)).fdiv 2 = ((ns.length / 2 : Nat) : Int) := by
    rw [Int.fdiv_eq_ediv_of_nonneg _ (by decide)]; lia
  obtain ⟨k, hkk⟩ : ∃ k, k = ns.length / 2 := ⟨_, rfl⟩
  rw [← hkk] at hk ret
  have hk2 : k < 450 := by lia
  (rename Fr _ _ _ _ => F1)
  (rename News _ _ _ _ => N1)
  (rename IsRange _ _ _ _ _ _ _ _ => R1)
  rw [hk] at R1
  refine call_reversed_range R1 (by lia) ?_
  have FP := F1.push (revIt k)
  have NP : News g L' _ [(a, listOf vs.toArray n)] := fun p hp => ⟨Heap.get?_push_of_some (revIt k) (N1 p hp).1, (N1 p hp).2⟩
  refine iter_rev (fun i m nx => ∃ (u : Str → Option Value) (vs' : List Value) (n' : Nat) (t' : Tok), m = (fun y => if y = Str.ofString "i" then u y else if y = Str.ofString "n" then some (.int (ns.length : Int) t') else if y = Str.ofString "x" then some (.ref a) else none) ∧ nx = [(a, listOf vs'.toArray n')] ∧ IntsAre vs' (hfy ns k i)) rfl (Heap.get?_push_size _ rfl) (Nat.ne_of_lt F1.ns.lt) (next_is_new F1) (fun p hp => Nat.ne_of_lt (Heap.lt_size (N1 p hp).1)) FP NP ?hj ?turn ?done
  · refine ⟨fun y => none, vs, n, s.toks + 1 + 1, funext fun y => ?_, rfl, hi⟩
    by_cases h1 : y = Str.ofString "i"
    · subst h1; rfl
    · rw [if_neg h1]
      by_cases h2 : y = Str.ofString "n"
      · rw [if_pos h2, if_pos h2]
      · rw [if_neg h2, if_neg h2]
        by_cases h3 : y = Str.ofString "x"
        · subst h3; rfl
        · rw [if_neg h3]
          show List.lookup y [(Str.ofString "x", Value.ref a)] = none
          rw [List.lookup_cons, beq_false_of_ne h3]
          rfl
  · rintro i t m₁ nx h tk own hik - hoff ⟨u, vs', n', t', rfl, rfl, hi'⟩ F₁ N₁
    have hl9 := hfy_length ns k i
    k_steps
    have hp9 : ((k : Int) - 1 - (i : Int)).toNat = k - 1 - i := by lia
    refine siftup_spec (site_in [(a, listOf vs'.toArray n')] B' F₁ X' T' (news_one N₁ (.head _)) rfl rfl) (N₁.get (.head _)) hi' (by lia) (by lia) (by lia) ?_ ?_ ?_
    · show dp + 1 + 2 < _
      lia
    · show un + 3 + 16 < _
      lia
    · intro h2 tk2 vs2 n2 K2 g2 I2
      obtain ⟨F2, N2⟩ := back_head K2 g2 F₁ N₁ (fun p hp => hoff p hp a (.head _))
      k_steps
      rw [hp9] at I2
      refine ⟨h2, tk2, _, _, [(a, listOf vs2.toArray n2)], rfl, F2, N2, fun p hp => ?_, fun p hp => .tail _ hp, rfl, ⟨fun y => if y = Str.ofString "i" then some (.int ((k : Int) - 1 - i) t) else u y, vs2, n2, t', ?_, rfl, I2⟩⟩
      · rw [List.mem_singleton.mp hp]; exact .head _
      · funext y
        by_cases h1 : y = Str.ofString "i"
        · simp only [if_pos h1]
        · simp only [if_neg h1]
  · rintro m₁ nx h tk ⟨u, vs', n', t', rfl, rfl, hi'⟩ F₁ N₁
    k_steps
    exact ret _ _ _ _ (kept1 hK F₁) (got1 N₁) hi'
end
end Mine
end
section
local macro_rules | `(tactic| walk_at "no such key") => `(tactic| skip)
local macro_rules | `(tactic| walk_at "no such key") => `(tactic| skip)
local macro_rules | `(tactic| walk_at "no such key") => `(tactic| skip)
local macro_rules | `(tactic| walk_at "no such key") => `(tactic| skip)
local macro_rules | `(tactic| walk_at "no such key") => `(tactic| skip)
local macro_rules | `(tactic| walk_at "no such key") => `(tactic| skip)
local macro_rules | `(tactic| walk_at "no such key") => `(tactic| skip)
local macro_rules | `(tactic| walk_at "no such key") => `(tactic| skip)
local macro_rules | `(tactic| walk_at "no such key") => `(tactic| skip)
local macro_rules | `(tactic| walk_at "no such key") => `(tactic| skip)
open PySem PySem.W PyProof.Rows PySem.Calls
set_option maxRecDepth 100000
set_option maxHeartbeats 8000000
namespace Mine
example : (True ∨ (PySem.Challenge.rw_rt0003_01 = PySem.Challenge.rw_rt0003_01 ∧ hd.heap_39 = hd.heap_39)) := by
  k_with_none
  w_top off
  k_fill
  exact .inl trivial
local macro_rules | `(tactic| k_room) => `(tactic| ktr_room)

noncomputable def b64L : List UInt8 := [65,66,67,68,69,70,71,72,73,74,75,76,77,78,79,80,81,82,83,84,85,86,87,88,89,90,97,98,99,100,101,102,103,104,105,106,107,108,109,110,111,112,113,114,115,116,117,118,119,120,121,122,48,49,50,51,52,53,54,55,56,57,43,47]
noncomputable def b64c (i : Int) : Int := (((b64L.getD i.toNat 0).toNat : Nat) : Int)
theorem b64c_in (i : Int) : 0 ≤ b64c i ∧ b64c i < 256 := by
  unfold b64c
  have := (b64L.getD i.toNat 0).toNat_lt
  omega
section
variable {prog : Program} {w : World} {A : Around} {s : Shared} {Q E : Value → Shared → Prop} {a b : Int} {t u : Tok}
theorem sh8 (h0 : 0 ≤ a) (h1 : a < 1099511627776) (h : Q (.int (a * 256) s.toks) { s with toks := s.toks + 1 }) : wpAny (model prog w) A (binaryOp .LShift (.int a t) (.int 8 u)) Q E s :=
  lshift_int_small (by decide) (by decide) (by omega) h
theorem or8_eq (h0 : 0 ≤ a) (h1 : 0 ≤ b) (h2 : b < 256) : Builtin.bitOr (a * 256) b = a * 256 + b := by
  rw [bitOr_and]
  have e : Builtin.bitAnd (a * 256) b = 0 := by
    rw [bitAnd_pp (by omega) h1]
    have e2 : (a * 256).toNat = 2 ^ 8 * a.toNat := by omega
    have e3 : (2 ^ 8 * a.toNat) &&& b.toNat = 0 := by
      apply Nat.eq_of_testBit_eq
      intro i
      rw [Nat.testBit_and, Nat.testBit_two_pow_mul, Nat.zero_testBit]
      by_cases hi : 8 ≤ i
      · rw [Nat.testBit_lt_two_pow (x := b.toNat) (Nat.lt_of_lt_of_le (by omega : b.toNat < 2 ^ 8) (Nat.pow_le_pow_right (by decide) hi))]
        simp
      · simp [hi]
    rw [e2, e3]; rfl
  omega
theorem or8 (h0 : 0 ≤ a) (h1 : 0 ≤ b) (h2 : b < 256) (h : Q (.int (a * 256 + b) s.toks) { s with toks := s.toks + 1 }) : wpAny (model prog w) A (binaryOp .BitOr (.int (a * 256) t) (.int b u)) Q E s := by
  refine or_int ?_
  rw [or8_eq h0 h1 h2]
  exact h
theorem an16 (h : Q (.int (a % 65536) s.toks) { s with toks := s.toks + 1 }) : wpAny (model prog w) A (binaryOp .BitAnd (.int a t) (.int 65535 u)) Q E s := by
  refine and_int ?_
  rw [bitAnd_m16]
  exact h
theorem an6 (h : Q (.int (a % 64) s.toks) { s with toks := s.toks + 1 }) : wpAny (model prog w) A (binaryOp .BitAnd (.int a t) (.int 63 u)) Q E s := by
  refine and_int ?_
  rw [bitAnd_m6]
  exact h
theorem rsN {n m : Int} (hn : 0 ≤ n) (hm : (2 : Int) ^ n.toNat = m) (hp : 0 < m) (h : Q (.int (a / m) s.toks) { s with toks := s.toks + 1 }) : wpAny (model prog w) A (binaryOp .RShift (.int a t) (.int n u)) Q E s := by
  refine rshift_int hn ?_
  rw [hm, Int.fdiv_eq_ediv_of_nonneg _ (by omega)]
  exact h
end
local macro_rules | `(tactic| walk_at "binaryOp LShift int int") => `(tactic| (with_reducible refine sh8 (by omega) (by omega) ?_))
local macro_rules | `(tactic| walk_at "binaryOp BitOr int int") => `(tactic| (with_reducible refine or8 (by omega) (by omega) (by omega) ?_))
local macro_rules | `(tactic| walk_at "binaryOp BitAnd int int") => `(tactic| first | (with_reducible refine an16 ?_) | (with_reducible refine an6 ?_))
local macro_rules | `(tactic| walk_at "binaryOp RShift int int") => `(tactic| first | (with_reducible refine rsN (m := 4) (by decide) (by decide) (by decide) ?_) | (with_reducible refine rsN (m := 16) (by decide) (by decide) (by decide) ?_) | (with_reducible refine rsN (m := 64) (by decide) (by decide) (by decide) ?_) | (with_reducible refine rsN (m := 1) (by decide) (by decide) (by decide) ?_))
theorem b64_in4 {a b c d : Int} : KBa.In [b64c a, b64c b, b64c c, b64c d] := by
  intro n hn
  simp only [List.mem_cons, List.not_mem_nil, or_false] at hn
  rcases hn with rfl | rfl | rfl | rfl <;> exact b64c_in _
/-- the four signs of three octets -/
noncomputable def b2aF (x0 x1 x2 : Int) : List Int := [b64c (x0 / 4), b64c (x0 % 4 * 16 + x1 / 16), b64c (x1 % 16 * 4 + x2 / 64), b64c (x2 % 64)]
theorem b2aF_eq {x0 x1 x2 : Int} (h0 : 0 ≤ x0 ∧ x0 < 256) (h1 : 0 ≤ x1 ∧ x1 < 256) (h2 : 0 ≤ x2 ∧ x2 < 256) :
    [b64c ((0 * 256 + x0) % 65536 / 4 % 64), b64c (((0 * 256 + x0) % 65536 * 256 + x1) % 65536 / 16 % 64), b64c ((((0 * 256 + x0) % 65536 * 256 + x1) % 65536 * 256 + x2) % 65536 / 64 % 64), b64c ((((0 * 256 + x0) % 65536 * 256 + x1) % 65536 * 256 + x2) % 65536 / 1 % 64)] = b2aF x0 x1 x2 := by
  have e1 : (0 * 256 + x0) % 65536 / 4 % 64 = x0 / 4 := by omega
  have e2 : ((0 * 256 + x0) % 65536 * 256 + x1) % 65536 / 16 % 64 = x0 % 4 * 16 + x1 / 16 := by omega
  have e3 : (((0 * 256 + x0) % 65536 * 256 + x1) % 65536 * 256 + x2) % 65536 / 64 % 64 = x1 % 16 * 4 + x2 / 64 := by omega
  have e4 : (((0 * 256 + x0) % 65536 * 256 + x1) % 65536 * 256 + x2) % 65536 / 1 % 64 = x2 % 64 := by omega
  rw [e1, e2, e3, e4]; rfl
local macro_rules | `(tactic| walk_at "call type:bytes") => `(tactic| (k_here; refine Stop.halt ?_))
local macro_rules | `(tactic| walk_at "call type:type") => `(tactic| ((with_reducible show wpAny _ _ (call _ [Value.bytes _ _]) _ _ _); refine call_type_of (Tx := "bytes") rfl (by decide +kernel) ?_))
theorem b64_item {x : List UInt8} (ex : x = b64L) {prog : Program} {w : World} {A : Around} {s : Shared} {Q E : Value → Shared → Prop} {i : Int} {t ui : Tok} {value slice : PySem.Expr} (h0 : 0 ≤ i) (h1 : i < 64)
    (h : Q (.int (b64c i) s.toks) { s with toks := s.toks + 1 })
    (hs : subscripted slice false (.bytes x.toArray t) (.int i ui) = operate [.bytes x.toArray t, .int i ui] (getItem (.bytes x.toArray t) (.int i ui)))
    (ht : ∀ r, letTemporaryGo value (.bytes x.toArray t) r = pure ()) : wpAny (model prog w) A (subscriptTail value slice (.bytes x.toArray t) (.int i ui)) Q E s := by
  subst ex
  exact bytes_item_K (by decide) h0 (by show i < 64; exact h1) rfl h hs ht
local macro_rules | `(tactic| walk_at "subscriptTail") => `(tactic| (k_here; (with_reducible show wpAny _ _ (subscriptTail _ _ (Value.bytes (List.toArray _) _) (Value.int _ _)) _ _ _); k_dflt (refine' b64_item ?z ?a ?b ?_ ?c ?d; (case z => exact rfl); (case a => omega); (case b => omega); (case c => with_unfolding_all rfl); (case d => (intro _; with_unfolding_all rfl)))))
local macro_rules | `(tactic| walk_at "pyIter bytes") => `(tactic| ((with_reducible show wpAny _ _ (pyIter (Value.bytes _ _)) (fun it s₂ => LoopAtV _ _ _ _ _ _ _ _ _ it s₂) _ _); (rename Fr _ _ _ _ => kF); (rename News _ _ _ _ => kN); (with_unfolding_all refine' iter_bytesUnr rfl kF kN (KBa.ints_make (by assumption)) ?_); intro I' l1'; (try k_lt l1')))
section
variable {prog : Program} {w : World} {mean : ExcName → Option Value} {mg mb : Str → Option Value} {A A₀ : Around} {s : Shared} {Q E : Value → Shared → Prop}

theorem b2a_spec {x0 x1 x2 : Int} {t : Tok} (S : Site w mean mg mb A (hideAll s.heap [])) 
    (h0 : 0 ≤ x0 ∧ x0 < 256) (h1 : 0 ≤ x1 ∧ x1 < 256) (h2 : 0 ≤ x2 ∧ x2 < 256)
    (hdp : A.depth + 4 < recursionLimit) (hu : A.units + 40 < cLine)
    (ret : ∀ h' tk' (b : Array UInt8) t', Kept [] s.heap h' → b = byteArr (b2aF x0 x1 x2) → Q (.bytes b t') { s with heap := h', toks := tk' }) :
    wpAny (model prog w) A (call (.ref 92) [.bytes (byteArr [x0, x1, x2]) t] [(Str.ofString "newline", .bool false)]) Q E s := by
  have hIn : KBa.In [x0, x1, x2] := by
    intro n hn
    simp only [List.mem_cons, List.not_mem_nil, or_false] at hn
    rcases hn with rfl | rfl | rfl <;> assumption
  refine' enter (binds := [(Str.ofString "data", .bytes (byteArr [x0, x1, x2]) t), (Str.ofString "newline", .bool false)]) (news := []) S (fun p hp => nomatch hp) ?k6 ?k7 ?k8 ?k9 ?kB ?c5 ?c2 ?c3 ?c4 ?_
  (case k6 => k_is)
  (case k7 => k_is)
  (case k8 => ktr_room)
  (case k9 => exact BindsTo.of_eq rfl)
  (case c5 => decide)
  (case kB => exact locs rfl)
  (case c2 => exact rfl)
  (case c3 => exact rfl)
  (case c4 => exact rfl)
  intro base frs g L' h' hK hG hsz F' N' hlt B' X' T'
  obtain ⟨hA1, dp, fr, gd, un⟩ := A
  have hH1 : hA1 = none := S.handled
  have hF1 : fr = some frs := B'.stack
  subst hH1 hF1
  have hdp : dp + 4 < recursionLimit := hdp
  have hu : un + 40 < cLine := hu
  k_steps
  refine Stop.go ?_
  (rename News _ _ _ _ => N9)
  refine KBa.make_K (by assumption) (by assumption) rfl (News.isList N9 (.head _)) (ns := [b64c _, b64c _, b64c _, b64c _]) (.cons _ _ (.cons _ _ (.cons _ _ (.cons _ _ .nil)))) b64_in4 (by show 4 ≤ 16777216; decide) ?_
  intro _ _ _ F' N' _
  refine ret _ _ _ _ (kept0 hK (by assumption)) ?_
  rw [b2aF_eq h0 h1 h2]
end
end Mine
end
section
open PySem PySem.W PyProof.Rows PySem.Calls
set_option maxRecDepth 100000
set_option maxHeartbeats 8000000
namespace Mine
abbrev lc2 (elt iter iter2 : PySem.Expr) (x y : Str) (px py : Pos) (scope : Scope) (pos : Pos) : PySem.Expr := .ListComp elt [⟨.Name x px, iter, [], 0⟩, ⟨.Name y py, iter2, [], 0⟩] scope pos
theorem compTurn_in (elt iter iter2 : PySem.Expr) (x y : Str) (px py : Pos) (scope : Scope) (pos : Pos) (it acc : Value) (env : Env) :
    compTurn (lc2 elt iter iter2 x y px py scope pos) 1 it acc env = (standAt iter2.pos >>= fun _ => pyNext it >>= fun r => match r with
      | none => pure (.done .next)
      | some v => letOwnedTupleGo (.Name y py) it v >>= fun _ => assign (.Name y py) env v >>= fun _ =>
        (eval elt env >>= fun z => call (.builtin "list.append") [acc, z] >>= fun _ => pure ()) >>= fun _ =>
          again (.compLoop (lc2 elt iter iter2 x y px py scope pos) 1 it acc env)) := by rfl
theorem compTurn_out (elt iter iter2 : PySem.Expr) (x y : Str) (px py : Pos) (scope : Scope) (pos : Pos) (it acc : Value) (env : Env) :
    compTurn (lc2 elt iter iter2 x y px py scope pos) 0 it acc env = (standAt iter.pos >>= fun _ => pyNext it >>= fun r => match r with
      | none => pure (.done .next)
      | some v => letOwnedTupleGo (.Name x px) it v >>= fun _ => assign (.Name x px) env v >>= fun _ =>
        eval iter2 env >>= fun z => standAt iter2.pos >>= fun _ => foldedSetIterable iter2 env z >>= fun z => holding [z] (pyIter z) >>= fun i2 => runOwn (.compStart (lc2 elt iter iter2 x y px py scope pos) 1 i2 acc env) env >>= fun _ =>
          again (.compLoop (lc2 elt iter iter2 x y px py scope pos) 0 it acc env)) := by
  rfl
theorem intsAre_snoc' {vs : List Value} {ns : List Int} {x : Int} {t : Tok} (h : IntsAre vs ns) : IntsAre (vs ++ [.int x t]) (ns ++ [x]) := by
  induction h with
  | nil => exact .cons _ _ .nil
  | cons k t _ ih => exact .cons k t ih
section
variable {prog : Program} {w : World} {A : Around} {s : Shared} {R : Result → Shared → Prop} {env : Env} {elt iter iter2 : PySem.Expr} {x y : Str} {px py : Pos} {scope : Scope} {pos : Pos}
theorem codeAny_compStart_in {it acc : Value}
    (h0 : codeAny (model prog w) A (.compLoop (lc2 elt iter iter2 x y px py scope pos) 1 it acc env) R s)
    (h : wpAny (model prog w) A (pyIter it) (fun it' s' => codeAny (model prog w) A (.compLoop (lc2 elt iter iter2 x y px py scope pos) 1 it' acc env) R s')
      (notedBy (model prog w) A env fun x s' => R (.error x) s') s) :
    codeAny (model prog w) A (.compStart (lc2 elt iter iter2 x y px py scope pos) 1 it acc env) R s := by
  refine codeAny_of_tree ?_
  show wpAny _ _ ((compStart (lc2 elt iter iter2 x y px py scope pos) 1 it acc env).onRaise (fun x => do noteFrame x env; standAt theWindowsPlace)) _ _ s
  refine wpAny_notedAt ?_
  unfold compStart
  show wpAny _ _ (ask >>= _) _ _ s
  refine wpAny_bind (wpAny_askSetting (wpAny_ite ?_))
  split
  · first
      | exact wpAny_bind (wpAny_pure (wpAny_pure (And.intro rfl h0)))
      | exact wpAny_pure (And.intro rfl h0)
  · first
      | exact wpAny_bind (wpAny_rule (wpAny_bind (wpAny_standAt (wpAny_bind (wpAny_mono h (fun it' s' h' => wpAny_pure (And.intro rfl h')) fun _ _ x => x)))))
      | (refine wpAny_bind (wpAny_rule ?_); show wpAny _ _ (standAt iter2.pos >>= _) _ _ s; exact wpAny_bind (wpAny_standAt (wpAny_bind (wpAny_mono h (fun it' s' h' => wpAny_pure (And.intro rfl h')) fun _ _ x => x))))

theorem sizeLine_ge {n : Nat} (h : n ≤ 1000) : n ≤ sizeLine := Nat.le_trans h (by rw [sizeLine_eq]; decide)
theorem inner_loop {C D I2 : Addr} {cl : List (Str × Addr)} {ys : List Value} {ns0 : List Int} {m2 : Str → Option Value} {v : Int} {t : Tok} {g : Int → Int → Int}
    (hh : A.handled = none) (hkind : scope.kind = .function) (hy : scope.names.lookup y = some .local) (hxy : x ≠ y)
    (hCD : C ≠ D) (hCI : C ≠ I2) (hDI : D ≠ I2)
    (hD : s.heap.get? D = some (LCg.lst ys)) (hC : s.heap.Ns C m2) (hx : m2 x = some (.int v t)) (hI : IsRangeIter s.heap I2 0 6 1) (hys : IntsAre ys ns0) (hlen : ns0.length + 6 ≤ 900)
    (helt : ∀ (k : Int) u m3 s' Q E, 0 ≤ k → k < 6 → s'.heap.Ns C m3 → m3 x = some (.int v t) → m3 y = some (.int k u) → (∀ tk u', Q (.int (g v k) u') { s' with toks := tk }) → wpAny (model prog w) A (eval elt (compEnvC scope cl C env)) Q E s')
    (hR : ∀ h' tk ys' m', (∀ b o, b ∉ [D, C, I2] → s.heap.get? b = some o → h'.get? b = some o) → h'.get? D = some (LCg.lst ys') → h'.Ns C m' → IntsAre ys' (ns0 ++ (List.range 6).map fun (i : Nat) => g v (i : Int)) → R (.ok .next) { s with heap := h', toks := tk }) :
    codeAny (model prog w) A (.compLoop (lc2 elt iter iter2 x y px py scope pos) 1 (.ref I2) (.ref D) (compEnvC scope cl C env)) R s := by
  have W := LCg.range_walks (prog := prog) (w := w) (A := A) (I := I2) hh 0 6
  refine codeAny_loop rfl (fun k s' => ∃ h' tk i ys' m', s' = { s with heap := h', toks := tk } ∧ i ≤ 6 ∧ k = 7 - i ∧ IntsAre ys' (ns0 ++ (List.range i).map fun (i : Nat) => g v (i : Int)) ∧ h'.get? D = some (LCg.lst ys') ∧ h'.Ns C m' ∧ m' x = some (.int v t) ∧
      IsRangeIter h' I2 (0 + (i : Nat) * 1) (((6 : Nat) : Int) - (i : Nat)) 1 ∧ (∀ b o, b ∉ [D, C, I2] → s.heap.get? b = some o → h'.get? b = some o)) ?_ 7
    ⟨s.heap, s.toks, 0, ys, m2, rfl, Nat.zero_le _, rfl, by simpa using hys, hD, hC, hx, by simpa using hI, fun _ _ _ e => e⟩
  rintro k s' ⟨h', tk, i, ys', m', rfl, hi, rfl, hys', hD', hC', hx', hI', hk'⟩
  show wpAny _ _ ((compTurn (lc2 elt iter iter2 x y px py scope pos) 1 (.ref I2) (.ref D) (compEnvC scope cl C env)).onRaise (fun x => do noteFrame x (compEnvC scope cl C env); theTreesLotGoes x)) _ _ _
  refine wpAny_noted ?_
  rw [compTurn_in]
  refine wpAny_bind (wpAny_standAt (wpAny_bind ?_))
  by_cases hlt : i < 6
  · refine W.item i _ _ _ hlt hI' fun v' h₂ tk₂ hP hst₂ hk₂ => ?_
    obtain ⟨u, rfl⟩ := hP
    dsimp only
    refine wpAny_bind (wpAny_of_eq (a := ()) rfl ?_)
    have hC2 : h₂.Ns C m' := hC'.at' fun o e => hk₂ _ o (by simpa using hCI) e
    refine wpAny_bind (wpAny_assign_Name (wpAny_storeName_local (lookup_relabel_local hy) hC2 (fun h₃ hn₃ hs₃ => ?_) (by simp [compEnvC, relabel, hkind])))
    have e0 : (0 : Int) + (i : Int) = (i : Int) := by lia
    rw [e0] at hn₃
    refine wpAny_bind (wpAny_bind ?_)
    refine helt (i : Int) u _ _ _ _ (by lia) (by lia) hn₃ (by simp only [if_neg hxy]; exact hx') (by simp) fun tk₄ u' => ?_
    have hD3 : h₃.get? D = some (LCg.lst ys') := hs₃.extBut D _ (Ne.symm hCD) (hk₂ _ _ (by simpa using hDI) hD')
    have hlen' : ys'.length = ns0.length + i := by rw [hys'.length]; simp
    refine wpAny_bind (append_at (hsz := by show ys'.toArray.size ≤ sizeLine; rw [List.size_toArray]; exact sizeLine_ge (by lia)) hD3 fun h₅ hs₅ hD₅ => ?_)
    refine wpAny_pure (wpAny_pure ⟨rfl, 7 - (i + 1), by lia, h₅, tk₄, i + 1, ys' ++ [.int (g v i) u'], _, rfl, by lia, rfl, ?_, hD₅.trans (congrArg some (LCg.lst_snoc ys' _)), hn₃.sameBut hs₅ hCD, by simp only [if_neg hxy]; exact hx', ?_, ?_⟩)
    · rw [List.range_succ, List.map_append, ← List.append_assoc]
      exact intsAre_snoc' hys'
    · have z : IsRangeIter h₃ I2 (0 + ((i + 1 : Nat) : Int) * 1) (((6 : Nat) : Int) - ((i + 1 : Nat) : Int)) 1 := hs₃.extBut I2 _ (Ne.symm hCI) hst₂
      exact hs₅.extBut I2 _ (Ne.symm hDI) z
    · intro b o hb e
      simp only [List.mem_cons, List.not_mem_nil, or_false, not_or] at hb
      exact hs₅.extBut b o hb.1 (hs₃.extBut b o hb.2.1 (hk₂ b o (by simpa using hb.2.2) (hk' b o (by simp [hb]) e)))
  · obtain rfl : i = 6 := by lia
    refine W.done _ _ _ hI' fun h₂ tk₂ hk₂ => ?_
    refine wpAny_pure (hR h₂ tk₂ ys' m' (fun b o hb e => ?_) (hk₂ _ _ (by simpa using hDI) hD') (hC'.at' fun o e => hk₂ _ o (by simpa using hCI) e) hys')
    have hb' := hb
    simp only [List.mem_cons, List.not_mem_nil, or_false, not_or] at hb'
    exact hk₂ b o (by simpa using hb'.2.2) (hk' b o hb e)

abbrev RangeSix (prog : Program) (w : World) (A : Around) (e : PySem.Expr) (env : Env) (g : Heap) : Prop :=
  ∀ (s' : Shared) (Q : Value → Shared → Prop) (E : Value → Shared → Prop), (∀ b o, g.get? b = some o → s'.heap.get? b = some o) →
    (∀ R h' tk t u v, IsRange h' R 0 6 1 t u v → (∀ b o, s'.heap.get? b = some o → h'.get? b = some o) → Q (.ref R) { s' with heap := h', toks := tk }) → wpAny (model prog w) A (eval e env) Q E s'
abbrev EltTwo (prog : Program) (w : World) (A : Around) (e : PySem.Expr) (x y : Str) (env : Env) (C : Addr) (P : Int → Prop) (g : Int → Int → Int) : Prop :=
  ∀ (v k : Int) (t u : Tok) m3 (s' : Shared) (Q : Value → Shared → Prop) (E : Value → Shared → Prop), P v → 0 ≤ k → k < 6 → s'.heap.Ns C m3 → m3 x = some (.int v t) → m3 y = some (.int k u) → (∀ tk u', Q (.int (g v k) u') { s' with toks := tk }) → wpAny (model prog w) A (eval e env) Q E s'
theorem outer_loop {C D I l : Addr} {cl : List (Str × Addr)} {vs : List Value} {ns : List Int} {m2 : Str → Option Value} {P : Int → Prop} {g : Int → Int → Int} {hb : Heap}
    (hh : A.handled = none) (hkind : scope.kind = .function) (hx : scope.names.lookup x = some .local) (hy : scope.names.lookup y = some .local) (hxy : x ≠ y)
    (hs2 : ∀ z, foldedSetIterable iter2 (compEnvC scope cl C env) z = pure z)
    (hCD : C ≠ D) (hCI : C ≠ I) (hDI : D ≠ I) (hlI : l ≠ I) (hlC : l ≠ C) (hlD : l ≠ D)
    (hD : s.heap.get? D = some (LCg.lst [])) (hC : s.heap.Ns C m2) (hI : s.heap.IsListIter I l 0) (hl : s.heap.IsList l vs.toArray) (hns : IntsAre vs ns) (hlen : ns.length ≤ 100) (hPv : ∀ v ∈ ns, P v)
    (hbs : ∀ b o, hb.get? b = some o → s.heap.get? b = some o) (hb1 : hb.get? D = none) (hb2 : hb.get? C = none) (hb3 : hb.get? I = none)
    (hit : RangeSix prog w (A.under (.compLoop (lc2 elt iter iter2 x y px py scope pos) 0 (.ref I) (.ref D) (compEnvC scope cl C env))) iter2 (compEnvC scope cl C env) hb)
    (helt : ∀ B : Around, EltTwo prog w B elt x y (compEnvC scope cl C env) C P g)
    (hR : ∀ h' tk ys' m', (∀ b o, hb.get? b = some o → h'.get? b = some o) → h'.get? D = some (LCg.lst ys') → h'.Ns C m' → IntsAre ys' (ns.flatMap fun v => (List.range 6).map fun (i : Nat) => g v (i : Int)) → R (.ok .next) { s with heap := h', toks := tk }) :
    codeAny (model prog w) A (.compLoop (lc2 elt iter iter2 x y px py scope pos) 0 (.ref I) (.ref D) (compEnvC scope cl C env)) R s := by
  have W := Walks.list (prog := prog) (w := w) (A := A) hh I l hlI vs.toArray
  have hn : vs.toArray.size = ns.length := by rw [List.size_toArray]; exact hns.length
  rw [hn] at W
  refine codeAny_loop rfl (fun k s' => ∃ h' tk i ys' m', s' = { s with heap := h', toks := tk } ∧ i ≤ ns.length ∧ k = ns.length + 1 - i ∧ IntsAre ys' ((ns.take i).flatMap fun v => (List.range 6).map fun (i : Nat) => g v (i : Int)) ∧ h'.get? D = some (LCg.lst ys') ∧ h'.Ns C m' ∧
      (h'.IsListIter I l i ∧ h'.IsList l vs.toArray) ∧ (∀ b o, hb.get? b = some o → h'.get? b = some o)) ?_ (ns.length + 1)
    ⟨s.heap, s.toks, 0, [], m2, rfl, Nat.zero_le _, rfl, .nil, hD, hC, ⟨hI, hl⟩, hbs⟩
  rintro k s' ⟨h', tk, i, ys', m', rfl, hi, rfl, hys', hD', hC', hI', hk'⟩
  show wpAny _ _ ((compTurn (lc2 elt iter iter2 x y px py scope pos) 0 (.ref I) (.ref D) (compEnvC scope cl C env)).onRaise (fun x => do noteFrame x (compEnvC scope cl C env); theTreesLotGoes x)) _ _ _
  refine wpAny_noted ?_
  rw [compTurn_out]
  refine wpAny_bind (wpAny_standAt (wpAny_bind ?_))
  by_cases hlt : i < ns.length
  · refine W.item i _ _ _ hlt hI' fun v' h₂ tk₂ hP hst₂ hk₂ => ?_
    have hv : ∃ v t, ns[i]? = some v ∧ v' = .int v t := by
      have hP' : vs[i]? = some v' := by simpa using hP
      obtain ⟨v, t, e1, e2⟩ := IntsAre.at hns i v' hP'
      exact ⟨v, t, e2, e1⟩
    obtain ⟨v, t, hvi, rfl⟩ := hv
    dsimp only
    refine wpAny_bind (wpAny_of_eq (a := ()) rfl ?_)
    have hC2 : h₂.Ns C m' := hC'.at' fun o e => hk₂ _ o (by simpa using hCI) e
    refine wpAny_bind (wpAny_assign_Name (wpAny_storeName_local (lookup_relabel_local hx) hC2 (fun h₃ hn₃ hs₃ => ?_) (by simp [compEnvC, relabel, hkind])))
    have hD3 : h₃.get? D = some (LCg.lst ys') := hs₃.extBut D _ (Ne.symm hCD) (hk₂ _ _ (by simpa using hDI) hD')
    have hI3 : h₃.IsListIter I l (i + 1) ∧ h₃.IsList l vs.toArray := ⟨hst₂.1.at fun o e => hs₃.extBut I o (Ne.symm hCI) e, hst₂.2.at fun o e => hs₃.extBut l o hlC e⟩
    have hb3' : ∀ b o, hb.get? b = some o → h₃.get? b = some o := fun b o e => by
      have h1 : b ≠ I := fun q => by rw [q, hb3] at e; cases e
      have h2 : b ≠ C := fun q => by rw [q, hb2] at e; cases e
      exact hs₃.extBut b o h2 (hk₂ b o (by simpa using h1) (hk' b o e))
    refine wpAny_bind (hit _ _ _ hb3' fun Rg h₄ tk₄ t4 u4 v4 hr4 hk4 => ?_)
    refine wpAny_bind (wpAny_standAt (wpAny_bind (wpAny_of_eq (hs2 _) (wpAny_bind (wpAny_holding ?_)))))
    have hD4 := hk4 _ _ hD3
    have hC4 := hn₃.at' fun o e => hk4 _ o e
    have hlD4 : D < h₄.objs.size := Heap.lt_size hD4
    have hlC4 : C < h₄.objs.size := hC4.lt
    refine wpAny_pyIter_range hr4 (by decide) ?_
    refine wpAny_bind (wpAny_runOwn ?_)
    have up : ∀ b o, h₄.get? b = some o → (h₄.push { cls := .type "range_iterator", data := .fields #[rawInt 0, rawInt (Builtin.Range.rangeSize 0 6 1), rawInt 1] }).get? b = some o := fun b o e => Heap.get?_push_of_some _ e
    have hI2 : IsRangeIter (h₄.push { cls := .type "range_iterator", data := .fields #[rawInt 0, rawInt (Builtin.Range.rangeSize 0 6 1), rawInt 1] }) h₄.objs.size 0 6 1 := Heap.get?_push_size _ rfl
    have hlen' : ((ns.take i).flatMap fun v => (List.range 6).map fun (i : Nat) => g v (i : Int)).length ≤ 600 := by
      rw [List.length_flatMap]
      have : ((ns.take i).map fun v => ((List.range 6).map fun (i : Nat) => g v (i : Int)).length) = List.replicate (ns.take i).length 6 := by
        rw [List.eq_replicate_iff]
        refine ⟨List.length_map _, fun b hb => ?_⟩
        obtain ⟨_, _, rfl⟩ := List.mem_map.mp hb
        simp
      rw [this, List.sum_replicate_nat, List.length_take]
      lia
    have inner := fun (B : Around) (hB : B.handled = none) (R' : Result → Shared → Prop) hR' => inner_loop (prog := prog) (w := w) (A := B) (R := R') (env := env) (elt := elt) (iter := iter) (iter2 := iter2) (px := px) (py := py) (pos := pos) (cl := cl)
      (s := { s with heap := h₄.push { cls := .type "range_iterator", data := .fields #[rawInt 0, rawInt (Builtin.Range.rangeSize 0 6 1), rawInt 1] }, toks := tk₄ }) (g := g)
      hB hkind hy hxy hCD (Nat.ne_of_lt hlC4) (Nat.ne_of_lt hlD4) (up _ _ hD4) (hC4.at' fun o e => up _ o e) (by simp) hI2 hys' (by lia) (fun k u m3 s' Q E a1 a2 a3 a4 a5 a6 => helt _ v k t u m3 s' Q E (hPv v (List.mem_of_getElem? hvi)) a1 a2 a3 a4 a5 a6) hR'
    have fin : ∀ (h' : Heap) (tk0 : Nat) (ys2 : List Value) (m' : Str → Option Value), (∀ b o, b ∉ [D, C, h₄.objs.size] → (h₄.push { cls := .type "range_iterator", data := .fields #[rawInt 0, rawInt (Builtin.Range.rangeSize 0 6 1), rawInt 1] }).get? b = some o → h'.get? b = some o) → h'.get? D = some (LCg.lst ys2) → h'.Ns C m' →
        IntsAre ys2 (((ns.take i).flatMap fun v => (List.range 6).map fun (i : Nat) => g v (i : Int)) ++ (List.range 6).map fun (i : Nat) => g v (i : Int)) →
        ∃ mm, mm < ns.length + 1 - i ∧ ∃ h'' tk i ys' m', ({ s with heap := h', toks := tk0 } : Shared) = { s with heap := h'', toks := tk } ∧ i ≤ ns.length ∧ mm = ns.length + 1 - i ∧ IntsAre ys' ((ns.take i).flatMap fun v => (List.range 6).map fun (i : Nat) => g v (i : Int)) ∧ h''.get? D = some (LCg.lst ys') ∧ h''.Ns C m' ∧
          (h''.IsListIter I l i ∧ h''.IsList l vs.toArray) ∧ (∀ b o, hb.get? b = some o → h''.get? b = some o) := by
      intro h5 tk5 ys2 m5 k5 d5 c5 i5
      have old : ∀ b o, b ≠ D → b ≠ C → h₄.get? b = some o → h5.get? b = some o := fun b o e1 e2 e => k5 b o (by
        have : b ≠ h₄.objs.size := Nat.ne_of_lt (Heap.lt_size e)
        simp [e1, e2, this]) (up _ _ e)
      refine ⟨ns.length + 1 - (i + 1), by lia, h5, tk5, i + 1, ys2, m5, rfl, hlt, rfl, ?_, d5, c5, ⟨hI3.1.at fun o e => old I o (Ne.symm hDI) (Ne.symm hCI) (hk4 _ _ e), hI3.2.at fun o e => old l o hlD hlC (hk4 _ _ e)⟩, fun b o e => ?_⟩
      · rw [List.take_add_one, hvi, List.flatMap_append]
        simpa using i5
      · have h1 : b ≠ D := fun q => by rw [q, hb1] at e; cases e
        have h2 : b ≠ C := fun q => by rw [q, hb2] at e; cases e
        exact old b o h1 h2 (hk4 _ _ (hb3' b o e))
    refine codeAny_compStart_in ?_ ?_
    · refine inner _ hh _ fun h5 tk5 ys5 m5 k5 d5 c5 i5 => ?_
      exact wpAny_pure ⟨rfl, fin h5 tk5 ys5 m5 k5 d5 c5 i5⟩
    · have W2 := LCg.range_walks (prog := prog) (w := w) (A := A) (I := h₄.objs.size) hh 0 6
      refine W2.self 0 _ _ _ (by simpa using hI2) ?_
      refine inner _ hh _ fun h5 tk5 ys5 m5 k5 d5 c5 i5 => ?_
      exact wpAny_pure ⟨rfl, fin h5 tk5 ys5 m5 k5 d5 c5 i5⟩
  · obtain rfl : i = ns.length := by lia
    refine W.done _ _ _ hI' fun h₂ tk₂ hk₂ => ?_
    rw [List.take_length] at hys'
    refine wpAny_pure (hR h₂ tk₂ ys' m' (fun b o e => ?_) (hk₂ _ _ (by simpa using hDI) hD') (hC'.at' fun o e => hk₂ _ o (by simpa using hCI) e) hys')
    have h1 : b ≠ I := fun q => by rw [q, hb3] at e; cases e
    exact hk₂ b o (by simpa using h1) (hk' b o e)

theorem none_of_ge {h : Heap} {a : Addr} (ha : h.objs.size ≤ a) : h.get? a = none := by
  cases e : h.get? a with
  | none => rfl
  | some o' => exact absurd (Heap.lt_size e) (Nat.not_lt.mpr ha)
theorem ListComp_two {E : Value → Shared → Prop} {cl : List (Str × Addr)} {Q : Value → Shared → Prop} {P : Int → Prop} {g : Int → Int → Int} (hh : A.handled = none)
    (hclos : closureFor scope env = pure cl) (hcell : ∀ z ∈ scope.names, z.2 ≠ .cell) (hkind : scope.kind = .function)
    (hnames : ∀ z ∈ scope.names, z.2 = .local → scope.names.lookup z.1 = some .local) (hx : scope.names.lookup x = some .local) (hy : scope.names.lookup y = some .local) (hxy : x ≠ y)
    (hs : ∀ z, foldedSetIterable iter env z = pure z) (hs2 : ∀ C z, foldedSetIterable iter2 (compEnvC scope cl C env) z = pure z)
    (helt : ∀ (C : Addr) (B : Around), EltTwo prog w B elt x y (compEnvC scope cl C env) C P g)
    (h : wpAny (model prog w) A (eval iter env) (fun xv s₁ => Stop (∃ l vs ns, xv = .ref l ∧ s₁.heap.IsList l vs.toArray ∧ IntsAre vs ns ∧ ns.length ≤ 100 ∧ (∀ v ∈ ns, P v) ∧
      (∀ (B : Around) (C : Addr), RangeSix prog w B iter2 (compEnvC scope cl C env) s₁.heap) ∧
      (∀ h' tk D ys, (∀ b o, s₁.heap.get? b = some o → h'.get? b = some o) → h'.get? D = some (LCg.lst ys) → s₁.heap.get? D = none → IntsAre ys (ns.flatMap fun v => (List.range 6).map fun (i : Nat) => g v (i : Int)) → Q (.ref D) { s₁ with heap := h', toks := tk }))) E s) :
    wpAny (model prog w) A (eval (lc2 elt iter iter2 x y px py scope pos) env) Q E s := by
  rw [lc2, eval_ListComp]
  refine wpAny_comprehension_free (use := none) rfl hs hclos hkind hnames (wpAny_mono h (fun xv s₁ h₁ => ?_) fun _ _ e => e)
  unfold Stop at h₁
  obtain ⟨l, vs, ns, rfl, hl, hi, hlen, hP, hit, hQ⟩ := h₁
  refine wpAny_pyIter_list hl ?_
  have hll : @LT.lt Nat _ l s₁.heap.objs.size := by obtain ⟨_, e, _⟩ := hl; exact Heap.lt_size e
  refine wpAny_newObj_type (wpAny_newFunctionEnv hcell (by intro y hy; simp at hy) (fun h₁ hns₁ hsb₁ => ?_) hkind)
  dsimp only at hns₁ hsb₁ ⊢
  generalize hH1 : s₁.heap.push { cls := .type "list_iterator", data := .fields #[.ref l, .int 0 0] } = H1 at hns₁ hsb₁ ⊢
  generalize hH2 : H1.push { cls := .type "list", dict := none, data := .seq ([] : List Value).toArray } = H2 at hns₁ hsb₁ ⊢
  have hs1 : H1.objs.size = s₁.heap.objs.size + 1 := by rw [← hH1, Heap.size_push]
  have hs2' : H2.objs.size = H1.objs.size + 1 := by rw [← hH2, Heap.size_push]
  have up1 : ∀ b o, s₁.heap.get? b = some o → H1.get? b = some o := fun b o e => hH1 ▸ Heap.get?_push_of_some _ e
  have up2 : ∀ b o, H1.get? b = some o → H2.get? b = some o := fun b o e => hH2 ▸ Heap.get?_push_of_some _ e
  have up3 : ∀ b o, H2.get? b = some o → h₁.get? b = some o := fun b o e => hsb₁.extBut b o (Nat.ne_of_lt (Heap.lt_size e)) (Heap.get?_push_of_some _ e)
  have gI : H1.get? s₁.heap.objs.size = some { cls := .type "list_iterator", data := .fields #[.ref l, .int 0 0] } := hH1 ▸ Heap.get?_push_size _ rfl
  have gD : H2.get? H1.objs.size = some (LCg.lst []) := hH2 ▸ Heap.get?_push_size _ rfl
  have hst : h₁.IsListIter s₁.heap.objs.size l 0 ∧ h₁.IsList l vs.toArray := ⟨⟨_, up3 _ _ (up2 _ _ gI), rfl, rfl⟩, hl.at fun o e => up3 _ _ (up2 _ _ (up1 _ _ e))⟩
  have loop : codeAny (model prog w) A (.compLoop (lc2 elt iter iter2 x y px py scope pos) 0 (.ref s₁.heap.objs.size) (.ref H1.objs.size) (compEnvC scope cl H2.objs.size env))
      (compPost (model prog w) A E none Q (.ref H1.objs.size) H2.objs.size) { s₁ with heap := h₁, toks := s₁.toks + ([] : List (Str × Value)).length } := by
    refine outer_loop (hb := s₁.heap) (s := { s₁ with heap := h₁, toks := s₁.toks + ([] : List (Str × Value)).length }) hh hkind hx hy hxy (hs2 _) (neN (by lia)) (neN (by lia)) (neN (by lia)) (neN (by lia)) (neN (by lia)) (neN (by lia)) (up3 _ _ gD) hns₁ hst.1 hst.2 hi hlen hP
      (fun b o e => up3 _ _ (up2 _ _ (up1 _ _ e))) (none_of_ge (by lia)) (none_of_ge (by lia)) (none_of_ge (by lia)) (hit _ _) (fun B => helt _ B) ?_
    intro h' tk ys' m' k1 k2 k3 k4
    refine ⟨m', k3, fun h'' hs'' => hQ h'' tk _ ys' (fun b o e => hs''.extBut b o (fun q => ?_) (k1 b o e)) (hs''.extBut _ _ (fun q => ?_) k2) (none_of_ge (by lia)) k4⟩
    · have z : @LT.lt Nat _ b _ := Heap.lt_size e
      have q' : @Eq Nat b H2.objs.size := q
      lia
    · have q' : @Eq Nat H1.objs.size H2.objs.size := q
      lia
  have W := Walks.list (prog := prog) (w := w) (A := A) hh s₁.heap.objs.size l (neN (by lia)) vs.toArray
  exact codeAny_compStart_list loop (W.self 0 _ _ _ hst loop)

theorem elt_worth {B : Around} {C : Addr} {cl : List (Str × Addr)} {p1 p2 p3 p4 p5 p6 p7 : Pos} (hk : (compEnvC scope cl C env).scope.kind = .function) (hlx : (compEnvC scope cl C env).kindOf (Str.ofString "worth") = some .local) (hly : (compEnvC scope cl C env).kindOf (Str.ofString "k") = some .local) :
    EltTwo prog w B (.BinOp (.BinOp (.Name (Str.ofString "worth") p1) .FloorDiv (.BinOp (.Constant (.int 2) 0 p2) .Pow (.Name (Str.ofString "k") p3) p4) p5) .Mod (.Constant (.int 2) 0 p6) p7) (Str.ofString "worth") (Str.ofString "k") (compEnvC scope cl C env) C
      (fun v => 0 ≤ v ∧ v < 64) (fun v k => v / 2 ^ k.toNat % 2) := by
  intro v k t u m3 s' Q E hP hk0 hk5 hC hx hy hQ
  refine wpAny_BinOp ?_
  refine wpAny_BinOp ?_
  refine ldVarK hC hx ?_ hk hlx
  refine wpAny_BinOp ?_
  refine wpAny_Constant_int ?_
  refine ldVarK hC hy ?_ hk hly
  refine pow_int_small hk0 (by lia) (by decide) ?_
  have hQ' : ∀ tk u', Q (.int (v / 2 ^ k.toNat % 2) u') { s' with toks := tk } := hQ
  clear hQ
  have hp : (0 : Int) < 2 ^ k.toNat := Int.pow_pos (by decide)
  have hp2 : (2 : Int) ^ k.toNat ≤ 2 ^ 6 := by
    have e : ((2 ^ k.toNat : Nat) : Int) ≤ ((2 ^ 6 : Nat) : Int) := Int.ofNat_le.mpr (Nat.pow_le_pow_right (by decide) (by lia))
    simpa using e
  generalize (2 : Int) ^ k.toNat = m at hp hp2 hQ' ⊢
  refine floordiv_int (by lia) ?_
  refine wpAny_Constant_int ?_
  refine mod_int' (by decide) ?_
  rw [Int.fdiv_eq_ediv_of_nonneg _ (Int.le_of_lt hp), Int.fmod_eq_emod_of_nonneg _ (by decide)]
  exact hQ' _ _
end
end Mine
end
section
open PySem PySem.W PyProof.Rows PySem.Calls
set_option maxRecDepth 100000
set_option maxHeartbeats 8000000
namespace Mine
section
variable {prog : Program} {w : World} {A : Around} {s : Shared} {R : Result → Shared → Prop} {env : Env} {elt iter : PySem.Expr} {x y : Str} {px py : Pos} {scope : Scope} {pos spos : Pos}
abbrev lc1 (elt iter : PySem.Expr) (x : Str) (px : Pos) (scope : Scope) (pos : Pos) : PySem.Expr := .ListComp elt [⟨.Name x px, iter, [], 0⟩] scope pos
abbrev EltOne (prog : Program) (w : World) (A : Around) (e : PySem.Expr) (x : Str) (env : Env) (C : Addr) (hb : Heap) (P : Int → Prop) (g : Int → Int) : Prop :=
  ∀ (v : Int) (t : Tok) m3 (s' : Shared) (Q : Value → Shared → Prop) (E : Value → Shared → Prop), P v → hb.get? C = none → s'.heap.Ns C m3 → m3 x = some (.int v t) → (∀ b o, hb.get? b = some o → s'.heap.get? b = some o) → (∀ tk u', Q (.int (g v) u') { s' with toks := tk }) → wpAny (model prog w) A (eval e env) Q E s'
theorem bytes_loop {C D I : Addr} {cl : List (Str × Addr)} {b : Array UInt8} {tb : Tok} {m2 : Str → Option Value} {g : Int → Int} {hb : Heap} {P : Int → Prop}
    (hh : A.handled = none) (hkind : scope.kind = .function) (hx : scope.names.lookup x = some .local)
    (hCD : C ≠ D) (hCI : C ≠ I) (hDI : D ≠ I)
    (hD : s.heap.get? D = some (LCg.lst [])) (hC : s.heap.Ns C m2) (hI : KBw.IsBytesIter s.heap I b tb 0) (hlen : b.size ≤ 900) (hP : ∀ v ∈ KBw.bInts b, P v)
    (hbs : ∀ b o, hb.get? b = some o → s.heap.get? b = some o) (hb1 : hb.get? D = none) (hb2 : hb.get? C = none) (hb3 : hb.get? I = none)
    (helt : ∀ B : Around, EltOne prog w B elt x (compEnvC scope cl C env) C hb P g)
    (hR : ∀ h' tk ys' m', (∀ b o, hb.get? b = some o → h'.get? b = some o) → h'.get? D = some (LCg.lst ys') → h'.Ns C m' → IntsAre ys' ((KBw.bInts b).map g) → R (.ok .next) { s with heap := h', toks := tk }) :
    codeAny (model prog w) A (.compLoop (lc1 elt iter x px scope pos) 0 (.ref I) (.ref D) (compEnvC scope cl C env)) R s := by
  have W := KBw.walks (prog := prog) (w := w) (A := A) hh I b tb
  refine codeAny_loop rfl (fun k s' => ∃ h' tk i ys' m', s' = { s with heap := h', toks := tk } ∧ i ≤ b.size ∧ k = b.size + 1 - i ∧ IntsAre ys' (((KBw.bInts b).take i).map g) ∧ h'.get? D = some (LCg.lst ys') ∧ h'.Ns C m' ∧
      KBw.IsBytesIter h' I b tb i ∧ (∀ b o, hb.get? b = some o → h'.get? b = some o)) ?_ (b.size + 1)
    ⟨s.heap, s.toks, 0, [], m2, rfl, Nat.zero_le _, rfl, .nil, hD, hC, hI, hbs⟩
  rintro k s' ⟨h', tk, i, ys', m', rfl, hi, rfl, hys', hD', hC', hI', hk'⟩
  show wpAny _ _ ((compTurn (lc1 elt iter x px scope pos) 0 (.ref I) (.ref D) (compEnvC scope cl C env)).onRaise (fun x => do noteFrame x (compEnvC scope cl C env); theTreesLotGoes x)) _ _ _
  refine wpAny_noted ?_
  rw [compTurn_list1]
  refine wpAny_bind (wpAny_standAt (wpAny_bind ?_))
  have hbl := KBw.ints_length b
  by_cases hlt : i < b.size
  · refine W.item i _ _ _ hlt hI' fun v' h₂ tk₂ hPv hst₂ hk₂ => ?_
    obtain ⟨c, u, hc, rfl⟩ := hPv
    have hv := KBw.ints_get hc
    generalize (c.toNat : Int) = v at hv
    dsimp only
    refine wpAny_bind (wpAny_of_eq (a := ()) rfl ?_)
    have hC2 : h₂.Ns C m' := hC'.at' fun o e => hk₂ _ o (by simpa using hCI) e
    refine wpAny_bind (wpAny_assign_Name (wpAny_storeName_local (lookup_relabel_local hx) hC2 (fun h₃ hn₃ hs₃ => ?_) (by simp [compEnvC, relabel, hkind])))
    have hD3 : h₃.get? D = some (LCg.lst ys') := hs₃.extBut D _ (Ne.symm hCD) (hk₂ _ _ (by simpa using hDI) hD')
    have hI3 : KBw.IsBytesIter h₃ I b tb (i + 1) := by
      obtain ⟨o, ho, r⟩ := hst₂
      exact ⟨o, hs₃.extBut I o (Ne.symm hCI) ho, r⟩
    have hb3' : ∀ b o, hb.get? b = some o → h₃.get? b = some o := fun b o e => by
      have h1 : b ≠ I := fun q => by rw [q, hb3] at e; cases e
      have h2 : b ≠ C := fun q => by rw [q, hb2] at e; cases e
      exact hs₃.extBut b o h2 (hk₂ b o (by simpa using h1) (hk' b o e))
    refine wpAny_bind (wpAny_bind ?_)
    refine helt _ v u _ _ _ _ (hP v (List.mem_of_getElem? hv)) hb2 hn₃ (by simp) hb3' fun tk₄ u' => ?_
    have hlen' : ys'.length ≤ i := by rw [hys'.length, List.length_map, List.length_take]; lia
    refine wpAny_bind (append_at (hsz := by show ys'.toArray.size ≤ sizeLine; rw [List.size_toArray]; exact sizeLine_ge (by lia)) hD3 fun h₅ hs₅ hD₅ => ?_)
    refine wpAny_pure (wpAny_pure ⟨rfl, b.size + 1 - (i + 1), by lia, h₅, tk₄, i + 1, ys' ++ [.int (g v) u'], _, rfl, by lia, rfl, ?_, hD₅.trans (congrArg some (LCg.lst_snoc ys' _)), hn₃.sameBut hs₅ hCD, ?_, ?_⟩)
    · rw [List.take_add_one, hv, List.map_append]
      exact intsAre_snoc' hys'
    · obtain ⟨o, ho, r⟩ := hI3
      exact ⟨o, hs₅.extBut I o (Ne.symm hDI) ho, r⟩
    · intro b o e
      have h1 : b ≠ D := fun q => by rw [q, hb1] at e; cases e
      exact hs₅.extBut b o h1 (hb3' b o e)
  · obtain rfl : i = b.size := by lia
    refine W.done _ _ _ hI' fun h₂ tk₂ hk₂ => ?_
    rw [List.take_of_length_le (Nat.le_of_eq hbl)] at hys'
    refine wpAny_pure (hR h₂ tk₂ ys' m' (fun b o e => ?_) (hk₂ _ _ (by simpa using hDI) hD') (hC'.at' fun o e => hk₂ _ o (by simpa using hCI) e) hys')
    have h1 : b ≠ I := fun q => by rw [q, hb3] at e; cases e
    exact hk₂ b o (by simpa using h1) (hk' b o e)

theorem Assign_ListComp_B {E : Value → Shared → Prop} {h₀ : Heap} {L : Addr} {m : Str → Option Value} {cl : List (Str × Addr)} {Q : Flow → Shared → Prop} {g : Int → Int} {P : Int → Prop} (F₀x : Fr h₀ L s.heap m) (hh : A.handled = none) (hLe : env.locals = L)
    (hsw : swapsWith (lc1 elt iter x px scope pos) (some (.Name y py)) spos.line env = pure true)
    (hclos : closureFor scope env = pure cl) (hcell : ∀ z ∈ scope.names, z.2 ≠ .cell) (hkind : scope.kind = .function)
    (hnames : ∀ z ∈ scope.names, z.2 = .local → scope.names.lookup z.1 = some .local) (hx : scope.names.lookup x = some .local)
    (hy : env.kindOf y = some .local) (hp : (env.scope.kind == .class || (env.scope.kind == .module && env.locals != env.globals)) = false)
    (hs : ∀ z, foldedSetIterable iter env z = pure z)
    (h : wpAny (model prog w) A (eval iter env) (fun xv s₁ => ∃ b t, xv = .bytes b t ∧ b.size ≤ 900 ∧ (∀ v ∈ KBw.bInts b, P v) ∧ Fr h₀ L s₁.heap m ∧
      (∀ (B : Around) (C : Addr), EltOne prog w B elt x (compEnvC scope cl C env) C s₁.heap P g) ∧
      (∀ h' tk D ys, Fr h₀ L h' (fun z => if z = y then some (.ref D) else m z) → (∀ b o, b ≠ L → s₁.heap.get? b = some o → h'.get? b = some o) → h'.get? D = some (LCg.lst ys) → s₁.heap.get? D = none → IntsAre ys ((KBw.bInts b).map g) → Q .next { s₁ with heap := h', toks := tk })) E s) :
    wpAny (model prog w) A (exec (.Assign [.Name y py] (lc1 elt iter x px scope pos) spos) env) Q E s := by
  subst hLe
  rw [lc1, exec_Assign_Name_used _ _ _ _ hsw]
  refine wpAny_bind (wpAny_standAt (wpAny_bind ?_))
  show wpAny _ A (do let _ ← comprehension (.ListComp elt [⟨.Name x px, iter, [], 0⟩] scope pos) scope env _ (newList []) false (eval iter env) (some (assign (.Name y py) env))) _ _ s
  refine wpAny_bind (wpAny_mono (wpAny_comprehension_free (use := some (assign (.Name y py) env)) (Q := fun _ s' => Q .next s') rfl hs hclos hkind hnames
    (wpAny_mono h (fun xv s₁ h₁ => ?_) fun _ _ e => e)) (fun _ s' hq => wpAny_pure (wpAny_pure hq)) fun _ _ e => e)
  obtain ⟨b, tb, rfl, hlen, hPb, F, hit, hQ⟩ := h₁
  refine KBw.pyIter_bytes ?_
  refine wpAny_newObj_type (wpAny_newFunctionEnv hcell (by intro y hy; simp at hy) (fun h₁ hns₁ hsb₁ => ?_) hkind)
  dsimp only at hns₁ hsb₁ ⊢
  generalize hH1 : s₁.heap.push { cls := .type "bytes_iterator", data := .fields #[.bytes b tb, .int 0 0] } = H1 at hns₁ hsb₁ ⊢
  generalize hH2 : H1.push { cls := .type "list", dict := none, data := .seq ([] : List Value).toArray } = H2 at hns₁ hsb₁ ⊢
  have hs1 : H1.objs.size = s₁.heap.objs.size + 1 := by rw [← hH1, Heap.size_push]
  have hs2' : H2.objs.size = H1.objs.size + 1 := by rw [← hH2, Heap.size_push]
  have up1 : ∀ b o, s₁.heap.get? b = some o → H1.get? b = some o := fun b o e => hH1 ▸ Heap.get?_push_of_some _ e
  have up2 : ∀ b o, H1.get? b = some o → H2.get? b = some o := fun b o e => hH2 ▸ Heap.get?_push_of_some _ e
  have up3 : ∀ b o, H2.get? b = some o → h₁.get? b = some o := fun b o e => hsb₁.extBut b o (Nat.ne_of_lt (Heap.lt_size e)) (Heap.get?_push_of_some _ e)
  have gI : H1.get? s₁.heap.objs.size = some { cls := .type "bytes_iterator", data := .fields #[.bytes b tb, .int 0 0] } := hH1 ▸ Heap.get?_push_size _ rfl
  have gD : H2.get? H1.objs.size = some (LCg.lst []) := hH2 ▸ Heap.get?_push_size _ rfl
  have hst : KBw.IsBytesIter h₁ s₁.heap.objs.size b tb 0 := ⟨_, up3 _ _ (up2 _ _ gI), rfl, rfl⟩
  have loop : codeAny (model prog w) A (.compLoop (lc1 elt iter x px scope pos) 0 (.ref s₁.heap.objs.size) (.ref H1.objs.size) (compEnvC scope cl H2.objs.size env))
      (compPost (model prog w) A E (some (assign (.Name y py) env)) (fun _ s' => Q .next s') (.ref H1.objs.size) H2.objs.size) { s₁ with heap := h₁, toks := s₁.toks + ([] : List (Str × Value)).length } := by
    refine bytes_loop (hb := s₁.heap) (P := P) (s := { s₁ with heap := h₁, toks := s₁.toks + ([] : List (Str × Value)).length }) hh hkind hx (neN (by lia)) (neN (by lia)) (neN (by lia)) (up3 _ _ gD) hns₁ hst hlen hPb
      (fun b o e => up3 _ _ (up2 _ _ (up1 _ _ e))) (none_of_ge (by lia)) (none_of_ge (by lia)) (none_of_ge (by lia)) (fun B => hit B _) ?_
    intro h' tk ys' m' k1 k2 k3 k4
    have hLlt : @LT.lt Nat _ env.locals s₁.heap.objs.size := F.ns.lt
    have hL0 : h₀.get? env.locals = none := Heap.get?_none_of_le F.above
    show wpAny _ A (assign (.Name y py) env (.ref H1.objs.size)) _ _ _
    refine wpAny_assign_Name (wpAny_storeName_local hy (F.ns.at' fun o e => k1 _ o e) (fun h₂ hn₂ hs₂ => ?_) hp)
    refine ⟨m', k3.sameBut hs₂ (neN (by lia)), fun h'' hs'' => ?_⟩
    have old : ∀ b o, b ≠ env.locals → s₁.heap.get? b = some o → h''.get? b = some o := fun b o hb e => hs''.extBut b o (fun q => by
      have z : @LT.lt Nat _ b _ := Heap.lt_size e
      have q' : @Eq Nat b H2.objs.size := q
      lia) (hs₂.extBut b o hb (k1 b o e))
    refine hQ h'' _ H1.objs.size ys' ⟨hn₂.at' fun o e => hs''.extBut _ o (neN (by lia)) e, fun b o e => old b o (fun q => by rw [q, hL0] at e; cases e) (F.keep b o e), F.above⟩ old ?_ (none_of_ge (by lia)) k4
    exact hs''.extBut _ _ (neN (by lia)) (hs₂.extBut _ _ (neN (by lia)) k2)
  have W := KBw.walks (prog := prog) (w := w) (A := A) hh s₁.heap.objs.size b tb
  exact codeAny_compStart_list loop (W.self 0 _ _ _ hst loop)
end
end Mine
end
section
open PySem PySem.W PyProof.Rows PySem.Calls
set_option maxRecDepth 100000
set_option maxHeartbeats 8000000
namespace Mine
example : (True ∨ (PySem.Challenge.rw_rt0003_01 = PySem.Challenge.rw_rt0003_01 ∧ hd.heap_39 = hd.heap_39)) := by
  k_with_none
  w_top off
  k_fill
  exact .inl trivial
local macro_rules | `(tactic| k_room) => `(tactic| ktr_room)
local macro_rules | `(tactic| walk_at "eval ListComp") => `(tactic| (k_here; refine Stop.halt ?_))
local macro_rules | `(tactic| walk_at "eval ListComp") => `(tactic| (k_here; lcf_look; lcg_calm; k_dflt (refine LCg.ListComp_U (F₀ := by k_asm) (by with_unfolding_all rfl) (by decide) (by rfl) (by decide) (by rfl) ?_); k_dflt lcg_toSrc))
local macro_rules | `(tactic| walk_at "CompSrc") => `(tactic| (k_here; k_dflt (refine LCg.CompSrc.ledger (by rfl) (by k_asm) (by k_asm) (by k_mem) (by first | size_fits | exact Nat.le_of_ble_eq_true rfl) ?_; intro g'; lcg_lit)))
local macro_rules | `(tactic| walk_at "call type:bytes") => `(tactic| (k_here; refine Stop.halt ?_))
local macro_rules | `(tactic| walk_at "exec Assign cons ListComp") => `(tactic| (k_here; refine Stop.halt ?_))
local macro_rules | `(tactic| walk_at "call ref") => `(tactic| (k_here; (with_reducible show wpAny _ _ (call (Value.ref 92) _ _) _ _ _); refine Stop.halt ?_))

theorem oct_eq {n : Int} (h : 0 ≤ n) (k : Nat) : (Builtin.bitAnd n (255 * 2 ^ k)).fdiv (2 ^ k) = n / 2 ^ k % 256 := by
  have p2 : (0 : Int) < 2 ^ k := Int.pow_pos (by decide)
  rw [Int.fdiv_eq_ediv_of_nonneg _ (Int.le_of_lt p2), bitAnd_pp h (Int.mul_nonneg (by decide) (Int.le_of_lt p2))]
  obtain ⟨m, rfl⟩ := Int.eq_ofNat_of_zero_le h
  have e1 : ((255 : Int) * 2 ^ k).toNat = 255 * 2 ^ k := by
    have : ((255 : Int) * 2 ^ k) = ((255 * 2 ^ k : Nat) : Int) := by simp
    rw [this, Int.toNat_natCast]
  have e2 : ((m : Int)).toNat = m := Int.toNat_natCast m
  rw [e1, e2]
  have e3 : (m &&& (255 * 2 ^ k)) / 2 ^ k = m / 2 ^ k % 256 := by
    rw [← Nat.shiftRight_eq_div_pow, ← Nat.shiftRight_eq_div_pow, Nat.shiftRight_and_distrib, Nat.shiftRight_eq_div_pow (255 * 2 ^ k), Nat.mul_div_cancel _ (Nat.two_pow_pos k)]
    exact Nat.and_two_pow_sub_one_eq_mod _ 8
  have e4 : (((m &&& (255 * 2 ^ k) : Nat) : Int)) / 2 ^ k = (((m &&& (255 * 2 ^ k)) / 2 ^ k : Nat) : Int) := by simp
  rw [e4, e3]
  simp
theorem oct16 {n : Int} (h : 0 ≤ n) : (Builtin.bitAnd n (255 * 2 ^ Int.toNat 16)).fdiv (2 ^ Int.toNat 16) = n / 65536 % 256 := oct_eq h 16
theorem oct8 {n : Int} (h : 0 ≤ n) : (Builtin.bitAnd n (255 * 2 ^ Int.toNat 8)).fdiv (2 ^ Int.toNat 8) = n / 256 % 256 := oct_eq h 8
theorem oct0 {n : Int} (h : 0 ≤ n) : (Builtin.bitAnd n (255 * 2 ^ Int.toNat 0)).fdiv (2 ^ Int.toNat 0) = n % 256 := by
  have e := oct_eq h 0
  rw [show (2 : Int) ^ 0 = 1 from rfl, Int.ediv_one] at e
  exact e
theorem oct_in {n : Int} : KBa.In [n / 65536 % 256, n / 256 % 256, n % 256] := by
  intro k hk
  simp only [List.mem_cons, List.not_mem_nil, or_false] at hk
  rcases hk with rfl | rfl | rfl <;> lia
theorem ints4 {ys : List Value} {a b c d : Int} (h : IntsAre ys [a, b, c, d]) : ∃ t0 t1 t2 t3, ys = [.int a t0, .int b t1, .int c t2, .int d t3] := by
  cases h with
  | cons _ t0 h =>
    cases h with
    | cons _ t1 h =>
      cases h with
      | cons _ t2 h =>
        cases h with
        | cons _ t3 h =>
          cases h
          exact ⟨_, _, _, _, rfl⟩
/-- the bits of a number, the lowest first -/
noncomputable def bitsF (n : Int) : List Int := [n % 64, n / 64 % 64, n / 4096 % 64, n / 262144].flatMap fun v => (List.range 6).map fun (i : Nat) => v / 2 ^ (i : Int).toNat % 2
noncomputable def alpha64 : Str := Str.ofString "ABCDEFGHIJKLMNOPQRSTUVWXYZabcdefghijklmnopqrstuvwxyz0123456789+/"
theorem find64 : ∀ i : Fin 64, Txt.find alpha64 ⟨#[(b64c (i.val : Int)).toNat]⟩ = (i.val : Int) := by decide +kernel
noncomputable def unb64 (v : Int) : Int := Txt.find alpha64 ⟨#[v.toNat]⟩
theorem unb64_c {i : Int} (h0 : 0 ≤ i) (h1 : i < 64) : unb64 (b64c i) = i := by
  have h := find64 ⟨i.toNat, by lia⟩
  have e : ((i.toNat : Nat) : Int) = i := by lia
  simp only [e] at h
  exact h
theorem b2aF_in (x0 x1 x2 : Int) : KBa.In (b2aF x0 x1 x2) := b64_in4
/-- the four worths of a number below 2 ^ 24 -/
noncomputable def worthsF (n : Int) : List Int := [n / 262144, n / 4096 % 64, n / 64 % 64, n % 64]
theorem worths_eq {n : Int} (hn0 : 0 ≤ n) (hn1 : n < 16777216) : (KBw.bInts (byteArr (b2aF (n / 65536 % 256) (n / 256 % 256) (n % 256)))).map unb64 = worthsF n := by
  rw [KBa.ints_make (b2aF_in _ _ _)]
  simp only [b2aF, List.map_cons, List.map_nil]
  rw [unb64_c (by lia) (by lia), unb64_c (by lia) (by lia), unb64_c (by lia) (by lia), unb64_c (by lia) (by lia)]
  unfold worthsF
  have e1 : n / 65536 % 256 / 4 = n / 262144 := by lia
  have e2 : n / 65536 % 256 % 4 * 16 + n / 256 % 256 / 16 = n / 4096 % 64 := by lia
  have e3 : n / 256 % 256 % 16 * 4 + n % 256 / 64 = n / 64 % 64 := by lia
  have e4 : n % 256 % 64 = n % 64 := by lia
  rw [e1, e2, e3, e4]
theorem signs_ok {n : Int} : ∀ v ∈ KBw.bInts (byteArr (b2aF (n / 65536 % 256) (n / 256 % 256) (n % 256))), ∃ i : Int, 0 ≤ i ∧ i < 64 ∧ v = b64c i := by
  rw [KBa.ints_make (b2aF_in _ _ _)]
  intro v hv
  simp only [b2aF, List.mem_cons, List.not_mem_nil, or_false] at hv
  rcases hv with rfl | rfl | rfl | rfl <;> exact ⟨_, by lia, by lia, rfl⟩
section
variable {prog : Program} {w : World} {mean : ExcName → Option Value} {mg mb : Str → Option Value} {A A₀ : Around} {s : Shared} {Q E : Value → Shared → Prop}

theorem bits_spec {n : Int} {t : Tok} (S : Site w mean mg mb A (hideAll s.heap [])) 
    (hn0 : 0 ≤ n) (hn1 : n < 16777216)
    (hdp : A.depth + 8 < recursionLimit) (hu : A.units + 60 < cLine)
    (ret : ∀ h' tk' a (vs : List Value) n', Kept [] s.heap h' → h'.get? a = some (listOf vs.toArray n') → s.heap.get? a = none → IntsAre vs (bitsF n) → Q (.ref a) { s with heap := h', toks := tk' }) :
    wpAny (model prog w) A (call (.ref 161) [.int n t]) Q E s := by
  refine' enterC (binds := [(Str.ofString "number", .int n t)]) (news := []) S (fun p hp => nomatch hp) ?k6 ?k7 ?k8 ?k9 ?kB ?kD ?c2 ?c3 ?c4 ?_
  (case k6 => k_is)
  (case k7 => k_is)
  (case k8 => ktr_room)
  (case k9 => exact BindsTo.of_eq rfl)
  (case kB => exact rfl)
  (case kD => decide +kernel)
  (case c2 => exact rfl)
  (case c3 => exact rfl)
  (case c4 => exact rfl)
  intro base frs g L' h' tk1 cells hK hG hsz F' N' Y' hlt B' X' T'
  obtain ⟨hA1, dp, fr, gd, un⟩ := A
  have hH1 : hA1 = none := S.handled
  have hF1 : fr = some frs := B'.stack
  subst hH1 hF1
  have hdp : dp + 8 < recursionLimit := hdp
  have hu : un + 60 < cLine := hu
  obtain ⟨c1, c2, hE, d1, d2⟩ := CellsAre.two Y'
  subst hE
  clear Y'
  replace F' : Fr g L' h' (fun _ => none) := F'
  replace d1 : c1.data = .cell none := d1
  replace d2 : c2.data = .cell (some (.int n t)) := d2
  simp only [List.cons_append, List.nil_append] at N'
  k_steps
  refine Stop.go ?_
  (rename Fr _ _ _ _ => F9)
  (rename News _ _ _ _ => N9)
  simp only [oct16 hn0, oct8 hn0, oct0 hn0, List.nil_append, List.cons_append] at N9
  refine KBa.make_K F9 N9 rfl (News.isList N9 (.head _)) (ns := [n / 65536 % 256, n / 256 % 256, n % 256]) (.cons _ _ (.cons _ _ (.cons _ _ .nil))) oct_in (by show 3 ≤ 16777216; decide) ?_
  clear F9 N9
  intro h9 t9 tk9 F9 N9 _
  k_steps
  refine Stop.go ?_
  (rename Fr _ _ _ _ => F8)
  (rename News _ _ _ _ => N8)
  refine b2a_spec (site_in [] (by assumption) F8 (by assumption) (by assumption) News.nil rfl rfl) (by lia) (by lia) (by lia) (by ktr_room) (by ktr_units) ?_
  intro h7 tk7 b7 t7 K7 hb7
  subst hb7
  obtain ⟨F7, N7⟩ := back_none K7 F8 N8
  clear F8 N8
  k_steps
  refine Stop.go ?_
  (rename Fr _ _ _ _ => F6)
  (rename News _ _ _ _ => N6)
  refine Assign_ListComp_B (h₀ := g) (P := fun v => ∃ i : Int, 0 ≤ i ∧ i < 64 ∧ v = b64c i) (g := unb64) F6 rfl rfl (by with_unfolding_all rfl) (by with_unfolding_all rfl) (by decide) rfl (by decide) rfl rfl rfl (fun _ => rfl) ?_
  refine nameX_L F6 rfl ?_
  refine ⟨_, _, rfl, by rw [byteArr_size]; show 4 ≤ 900; decide, signs_ok, F6, ?_, ?_⟩
  · intro B C v9 t9 m9 s9 Q9 E9 hP9 hC9 hn9 hm9 hk9 hQ9
    obtain ⟨i9, hi0, hi1, hv9⟩ := hP9
    have hv0 : 0 ≤ v9 := by have := b64c_in i9; lia
    have hv1 : v9 < 256 := by have := b64c_in i9; lia
    obtain ⟨oC, hoC, hNs⟩ := LCg.ns_obj hn9
    have F5 : Fr g L' s9.heap _ := F6.keeps hk9
    have N5 : News g L' s9.heap ((C, oC) :: _) := fun p hp => by
      rcases List.mem_cons.mp hp with rfl | hp
      · refine ⟨hoC, fun q => ?_, ?_⟩
        · obtain ⟨oL, es, ep, hLg, r⟩ := F6.ns
          have q' : C = L' := q
          rw [q'] at hC9
          rw [hC9] at hLg; cases hLg
        · cases q : g.get? C with
          | none => rfl
          | some o' => have := F6.keep C o' q; rw [hC9] at this; cases this
      · exact ⟨hk9 _ _ (N6 p hp).1, (N6 p hp).2⟩
    k_steps
    exact hQ9 _ _
  · intro h5 tk5 D5 ys5 F5 K5 g5 n5 I5
    rw [worths_eq hn0 hn1] at I5
    have N5 : News g L' h5 ((D5, LCg.lst ys5) :: _) := fun p hp => by
      rcases List.mem_cons.mp hp with rfl | hp
      · refine ⟨g5, fun q => ?_, ?_⟩
        · obtain ⟨oL, es, ep, hLg, r⟩ := F6.ns
          have q' : D5 = L' := q
          rw [q'] at n5
          rw [n5] at hLg; cases hLg
        · cases q : g.get? D5 with
          | none => rfl
          | some o' => have := F6.keep D5 o' q; rw [n5] at this; cases this
      · exact ⟨K5 _ _ (N6 p hp).2.1 (N6 p hp).1, (N6 p hp).2⟩
    unfold worthsF at I5
    obtain ⟨t0, t1, t2, t3, rfl⟩ := ints4 I5
    clear I5
    k_steps
    · (rename List.any _ _ = true => hA9)
      exfalso
      simp only [List.any_cons, List.any_nil, Bool.or_false, Bool.or_eq_true, beq_iff_eq] at hA9
      lia
    · refine Stop.go ?_
      (rename Fr _ _ _ _ => F3)
      (rename News _ _ _ _ => N3)
      refine ListComp_two (P := fun v => 0 ≤ v ∧ v < 64) (g := fun v k => v / 2 ^ k.toNat % 2) rfl (by with_unfolding_all rfl) (by decide) rfl (by decide) rfl rfl (by decide) (fun _ => rfl) (fun _ _ => rfl) ?_ ?_
      · exact fun C B => elt_worth rfl rfl rfl
      · k_steps
        refine Stop.go ?_
        (rename Fr _ _ _ _ => F2)
        (rename News _ _ _ _ => N2)
        refine ⟨_, _, [n % 64, n / 64 % 64, n / 4096 % 64, n / 262144], rfl, News.isList N2 (.head _), .cons _ _ (.cons _ _ (.cons _ _ (.cons _ _ .nil))), by show 4 ≤ 100; decide, ?_, ?_, ?_⟩
        · intro v hv
          simp only [List.mem_cons, List.not_mem_nil, or_false] at hv
          rcases hv with rfl | rfl | rfl | rfl <;> lia
        · intro B C s8 Q8 E8 hk8 hQ8
          have F8 : Fr g L' s8.heap _ := F2.keeps hk8
          have N8 : News g L' s8.heap [] := News.nil
          k_steps
          exact hQ8 _ _ _ _ _ _ (by assumption) (by assumption)
        · intro h8 tk8 D8 ys8 K8 g8 n8 I8
          refine ret h8 tk8 D8 ys8 _ (fun b o hb e => K8 _ _ (F2.keep _ _ (hK _ _ (fun q => nomatch q) e))) g8 ?_ I8
          cases q : s.heap.get? D8 with
          | none => rfl
          | some o' => have := F2.keep _ _ (hK _ _ (fun q => nomatch q) q); rw [n8] at this; cases this
end
end Mine
end
section
local macro_rules | `(tactic| walk_at "no such key") => `(tactic| skip)
local macro_rules | `(tactic| walk_at "no such key") => `(tactic| skip)
local macro_rules | `(tactic| walk_at "no such key") => `(tactic| skip)
local macro_rules | `(tactic| walk_at "no such key") => `(tactic| skip)
local macro_rules | `(tactic| walk_at "no such key") => `(tactic| skip)
local macro_rules | `(tactic| walk_at "no such key") => `(tactic| skip)
local macro_rules | `(tactic| walk_at "no such key") => `(tactic| skip)
local macro_rules | `(tactic| walk_at "no such key") => `(tactic| skip)
local macro_rules | `(tactic| walk_at "no such key") => `(tactic| skip)
local macro_rules | `(tactic| walk_at "no such key") => `(tactic| skip)
open PySem PySem.W PyProof.Rows PySem.Calls
set_option maxRecDepth 100000
set_option maxHeartbeats 8000000
namespace Mine
example : (True ∨ (PySem.Challenge.rw_rt0003_01 = PySem.Challenge.rw_rt0003_01 ∧ hd.heap_39 = hd.heap_39)) := by
  k_with_none
  w_top off
  k_fill
  exact .inl trivial
local macro_rules | `(tactic| k_room) => `(tactic| ktr_room)

/-- the places of x in ns, as the walk gives them -/
noncomputable def whereF (ns : List Int) (x : Int) : List Int := List.foldl (fun l' k' => if ns.getD k'.toNat 0 = x then l' ++ [k'] else l') [] (rangeKs 0 ((ns.length : Int) - 0).toNat)
section
variable {prog : Program} {w : World} {mean : ExcName → Option Value} {mg mb : Str → Option Value} {A A₀ : Around} {s : Shared} {Q E : Value → Shared → Prop}

theorem where_spec {a : Addr} {vs : List Value} {n : Nat} {ns : List Int} {x : Int} {t : Tok} (S : Site w mean mg mb A (hideAll s.heap [])) (ha : s.heap.get? a = some (listOf vs.toArray n)) (hi : IntsAre vs ns)
    (hlen : ns.length < 1000)
    (hdp : A.depth + 4 < recursionLimit) (hu : A.units + 40 < cLine)
    (ret : ∀ h' tk' a' (vs' : List Value) n', Kept [] s.heap h' → h'.get? a' = some (listOf vs'.toArray n') → s.heap.get? a' = none → IntsAre vs' (whereF ns x) → Q (.ref a') { s with heap := h', toks := tk' }) :
    wpAny (model prog w) A (call (.ref 166) [.ref a, .int x t]) Q E s := by
  refine' enterC (binds := [(Str.ofString "bits", .ref a), (Str.ofString "wanted", .int x t)]) (news := []) S (fun p hp => nomatch hp) ?k6 ?k7 ?k8 ?k9 ?kB ?kD ?c2 ?c3 ?c4 ?_
  (case k6 => k_is)
  (case k7 => k_is)
  (case k8 => ktr_room)
  (case k9 => exact BindsTo.of_eq rfl)
  (case kB => exact rfl)
  (case kD => decide +kernel)
  (case c2 => exact rfl)
  (case c3 => exact rfl)
  (case c4 => exact rfl)
  intro base frs g L' h' tk1 cells hK hG hsz F' N' Y' hlt B' X' T'
  obtain ⟨hA1, dp, fr, gd, un⟩ := A
  have hH1 : hA1 = none := S.handled
  have hF1 : fr = some frs := B'.stack
  subst hH1 hF1
  have hdp : dp + 4 < recursionLimit := hdp
  have hu : un + 40 < cLine := hu
  obtain ⟨c1, c2, hE, d1, d2⟩ := CellsAre.two Y'
  subst hE
  clear Y'
  replace F' : Fr g L' h' (fun _ => none) := F'
  replace d1 : c1.data = .cell (some (.int x t)) := d1
  replace d2 : c2.data = .cell (some (.ref a)) := d2
  simp only [List.cons_append, List.nil_append] at N'
  have hl : g.IsList a vs.toArray := ⟨_, hK _ _ (fun q => nomatch q) ha, rfl, _, rfl⟩
  k_steps
  rename_i N9 _
  exact ret _ _ _ _ _ (kept0 hK (by assumption)) (N9.get (.head _)) (fresh0 hK N9 (.head _)) (by assumption)
end
end Mine
end
section
open PySem PySem.W PyProof.Rows PySem.Calls
set_option maxRecDepth 100000
set_option maxHeartbeats 8000000
namespace Mine
example : (True ∨ (PySem.Challenge.rw_rt0003_01 = PySem.Challenge.rw_rt0003_01 ∧ hd.heap_39 = hd.heap_39)) := by
  k_with_none
  w_top off
  k_fill
  exact .inl trivial
local macro_rules | `(tactic| k_room) => `(tactic| ktr_room)

local macro_rules | `(tactic| walk_at "call ref") => `(tactic| (k_here; (with_reducible show wpAny _ _ (call (Value.ref 161) _ _) _ _ _); refine Stop.halt ?_))
local macro_rules | `(tactic| walk_at "call ref") => `(tactic| (k_here; (with_reducible show wpAny _ _ (call (Value.ref 166) _ _) _ _ _); refine Stop.halt ?_))
local macro_rules | `(tactic| walk_at "binaryOp LShift int int") => `(tactic| (k_here; (with_reducible refine lshift_int_small (by omega) (by omega) (by decide) ?_)))
/-- a one at place p, what stood from there on moves up -/
noncomputable def putF (n p : Int) : Int := n + (n - Builtin.bitAnd n (1 * 2 ^ p.toNat - 1)) + 1 * 2 ^ p.toNat
section
variable {prog : Program} {w : World} {mean : ExcName → Option Value} {mg mb : Str → Option Value} {A A₀ : Around} {s : Shared} {Q E : Value → Shared → Prop}

theorem put_spec {n v p : Int} {t u : Tok} (S : Site w mean mg mb A (hideAll s.heap []))
    (hn0 : 0 ≤ n) (hn1 : n < 16777216) (hv0 : 0 ≤ v + 7) (hv1 : v + 7 < (whereF (bitsF n) 0).length) (hlen : (bitsF n).length = 24) (hwl : (whereF (bitsF n) 0).length ≤ 24)
    (hp : p = (whereF (bitsF n) 0).getD (v + 7).toNat 0) (hp0 : 0 ≤ p) (hp1 : p < 24)
    (hdp : A.depth + 12 < recursionLimit) (hu : A.units + 80 < cLine)
    (ret : ∀ h' tk' t', Kept [] s.heap h' → Q (.int (putF n p) t') { s with heap := h', toks := tk' }) :
    wpAny (model prog w) A (call (.ref 173) [.int n t, .int v u]) Q E s := by
  refine' enter (binds := [(Str.ofString "number", .int n t), (Str.ofString "value", .int v u)]) (news := []) S (fun p hp => nomatch hp) ?k6 ?k7 ?k8 ?k9 ?kB ?c5 ?c2 ?c3 ?c4 ?_
  (case k6 => k_is)
  (case k7 => k_is)
  (case k8 => ktr_room)
  (case k9 => exact BindsTo.of_eq rfl)
  (case c5 => decide)
  (case kB => exact locs rfl)
  (case c2 => exact rfl)
  (case c3 => exact rfl)
  (case c4 => exact rfl)
  intro base frs g L' h' hK hG hsz F' N' hlt B' X' T'
  obtain ⟨hA1, dp, fr, gd, un⟩ := A
  have hH1 : hA1 = none := S.handled
  have hF1 : fr = some frs := B'.stack
  subst hH1 hF1
  have hdp : dp + 12 < recursionLimit := hdp
  have hu : un + 80 < cLine := hu
  k_steps
  refine Stop.go ?_
  (rename Fr _ _ _ _ => F1)
  (rename News _ _ _ _ => N1)
  refine bits_spec (site_in [] B' F1 X' T' News.nil rfl rfl) hn0 hn1 (by ktr_room) (by ktr_units) ?_
  intro h2 tk2 a2 vs2 n2 K2 g2 nn2 I2
  obtain ⟨F2, N2⟩ := back_new K2 g2 nn2 F1 N1
  clear F1 N1
  k_steps
  refine Stop.go ?_
  (rename Fr _ _ _ _ => F3)
  (rename News _ _ _ _ => N3)
  refine where_spec (site_in [] B' F3 X' T' News.nil rfl rfl) (N3.get (.head _)) I2 (by omega) (by ktr_room) (by ktr_units) ?_
  intro h4 tk4 a4 vs4 n4 K4 g4 nn4 I4
  obtain ⟨F4, N4⟩ := back_new K4 g4 nn4 F3 N3
  clear F3 N3
  k_steps
  subst hp
  exact ret _ _ _ (kept0 hK (by assumption))
end
end Mine
end
section
local macro_rules | `(tactic| walk_at "no such key") => `(tactic| skip)
local macro_rules | `(tactic| walk_at "no such key") => `(tactic| skip)
local macro_rules | `(tactic| walk_at "no such key") => `(tactic| skip)
local macro_rules | `(tactic| walk_at "no such key") => `(tactic| skip)
local macro_rules | `(tactic| walk_at "no such key") => `(tactic| skip)
local macro_rules | `(tactic| walk_at "no such key") => `(tactic| skip)
local macro_rules | `(tactic| walk_at "no such key") => `(tactic| skip)
local macro_rules | `(tactic| walk_at "no such key") => `(tactic| skip)
local macro_rules | `(tactic| walk_at "no such key") => `(tactic| skip)
local macro_rules | `(tactic| walk_at "no such key") => `(tactic| skip)
open PySem PySem.W PyProof.Rows PySem.Calls
set_option maxRecDepth 100000
set_option maxHeartbeats 8000000
namespace Mine
example : (True ∨ (PySem.Challenge.rw_rt0003_01 = PySem.Challenge.rw_rt0003_01 ∧ hd.heap_39 = hd.heap_39)) := by
  k_with_none
  w_top off
  k_fill
  exact .inl trivial
local macro_rules | `(tactic| k_room) => `(tactic| ktr_room)

local macro_rules | `(tactic| walk_at "binaryOp LShift int int") => `(tactic| (k_here; (with_reducible refine lshift_int_small (by omega) (by omega) (by decide) ?_)))
/-- the lowest one falls, all move down by a place -/
noncomputable def takenF (n : Int) : Int := (Builtin.bitAnd n (n - 1)).fdiv (2 ^ Int.toNat 1)
section
variable {prog : Program} {w : World} {mean : ExcName → Option Value} {mg mb : Str → Option Value} {A A₀ : Around} {s : Shared} {Q E : Value → Shared → Prop}

theorem taken_spec {n : Int} {t : Tok} (S : Site w mean mg mb A (hideAll s.heap []))
    (hdp : A.depth + 4 < recursionLimit) (hu : A.units + 40 < cLine)
    (ret : ∀ h' tk' t', Kept [] s.heap h' → Q (.int (takenF n) t') { s with heap := h', toks := tk' }) :
    wpAny (model prog w) A (call (.ref 180) [.int n t]) Q E s := by
  refine' enter (binds := [(Str.ofString "number", .int n t)]) (news := []) S (fun p hp => nomatch hp) ?k6 ?k7 ?k8 ?k9 ?kB ?c5 ?c2 ?c3 ?c4 ?_
  (case k6 => k_is)
  (case k7 => k_is)
  (case k8 => ktr_room)
  (case k9 => exact BindsTo.of_eq rfl)
  (case c5 => decide)
  (case kB => exact locs rfl)
  (case c2 => exact rfl)
  (case c3 => exact rfl)
  (case c4 => exact rfl)
  intro base frs g L' h' hK hG hsz F' N' hlt B' X' T'
  obtain ⟨hA1, dp, fr, gd, un⟩ := A
  have hH1 : hA1 = none := S.handled
  have hF1 : fr = some frs := B'.stack
  subst hH1 hF1
  have hdp : dp + 4 < recursionLimit := hdp
  have hu : un + 40 < cLine := hu
  k_steps
  exact ret _ _ _ (kept0 hK (by assumption))

theorem least_spec {n a : Int} {t u : Tok} (S : Site w mean mg mb A (hideAll s.heap []))
    (hn : n ≠ 0) (ha0 : 0 ≤ 7 - -a) (ha1 : 7 - -a < 64) (he : 1 * 2 ^ (7 - -a).toNat = Builtin.bitAnd n (-n))
    (hdp : A.depth + 4 < recursionLimit) (hu : A.units + 40 < cLine)
    (ret : ∀ h' tk', Kept [] s.heap h' → Q (.bool true) { s with heap := h', toks := tk' }) :
    wpAny (model prog w) A (call (.ref 187) [.int n t, .int a u]) Q E s := by
  refine' enter (binds := [(Str.ofString "number", .int n t), (Str.ofString "answer", .int a u)]) (news := []) S (fun p hp => nomatch hp) ?k6 ?k7 ?k8 ?k9 ?kB ?c5 ?c2 ?c3 ?c4 ?_
  (case k6 => k_is)
  (case k7 => k_is)
  (case k8 => ktr_room)
  (case k9 => exact BindsTo.of_eq rfl)
  (case c5 => decide)
  (case kB => exact locs rfl)
  (case c2 => exact rfl)
  (case c3 => exact rfl)
  (case c4 => exact rfl)
  intro base frs g L' h' hK hG hsz F' N' hlt B' X' T'
  obtain ⟨hA1, dp, fr, gd, un⟩ := A
  have hH1 : hA1 = none := S.handled
  have hF1 : fr = some frs := B'.stack
  subst hH1 hF1
  have hdp : dp + 4 < recursionLimit := hdp
  have hu : un + 40 < cLine := hu
  k_steps
  · rw [he, beq_self_eq_true]
    exact ret _ _ (kept0 hK (by assumption))
  · exfalso
    have hb : (n != 0) = true := by simpa using hn
    first
    | omega
    | (simp only [hb] at *; first | contradiction | omega)
    | simp_all
end
end Mine
end
section
set_option maxHeartbeats 1000000
namespace Mine
/-! ## the heap's laws, on lists of ints -/
theorem gset {ns : List Int} {p j : Nat} {x : Int} : (ns.set p x).getD j 0 = if p = j ∧ j < ns.length then x else ns.getD j 0 := by
  simp only [List.getD_eq_getElem?_getD, List.getElem?_set]
  by_cases h : p = j
  · subst h
    by_cases h2 : p < ns.length
    · simp [h2]
    · simp [h2, List.getElem?_eq_none (Nat.le_of_not_lt h2)]
  · simp [h]
theorem gset_ne {ns : List Int} {p j : Nat} {x : Int} (h : p ≠ j) : (ns.set p x).getD j 0 = ns.getD j 0 := by
  rw [gset, if_neg (fun q => h q.1)]
theorem gset_eq {ns : List Int} {p : Nat} {x : Int} (h : p < ns.length) : (ns.set p x).getD p 0 = x := by
  rw [gset, if_pos ⟨rfl, h⟩]
noncomputable def HeapFrom (k : Nat) (ns : List Int) : Prop := ∀ j, 0 < j → j < ns.length → k ≤ (j - 1) / 2 → ns.getD ((j - 1) / 2) 0 ≤ ns.getD j 0
inductive Desc (s : Nat) : Nat → Prop
  | self : Desc s s
  | left {q : Nat} : Desc s q → Desc s (2 * q + 1)
  | right {q : Nat} : Desc s q → Desc s (2 * q + 2)
theorem Desc.ge {s p : Nat} (h : Desc s p) : s ≤ p := by induction h <;> lia
theorem Desc.par {s p : Nat} (h : Desc s p) (hp : p ≠ s) : Desc s ((p - 1) / 2) := by
  cases h with
  | self => exact absurd rfl hp
  | @left q h =>
    have e : (2 * q + 1 - 1) / 2 = q := by lia
    rw [e]; exact h
  | @right q h =>
    have e : (2 * q + 2 - 1) / 2 = q := by lia
    rw [e]; exact h

theorem sd_heap {item : Int} {st : Nat} : ∀ (p : Nat) (ns : List Int), p < ns.length → Desc st p →
    (∀ j, 0 < j → j < ns.length → st ≤ (j - 1) / 2 → j ≠ p → (j - 1) / 2 ≠ p → ns.getD ((j - 1) / 2) 0 ≤ ns.getD j 0) →
    (∀ j, 0 < j → j < ns.length → (j - 1) / 2 = p → item ≤ ns.getD j 0) →
    (st < p → ∀ j, 0 < j → j < ns.length → (j - 1) / 2 = p → ns.getD ((p - 1) / 2) 0 ≤ ns.getD j 0) →
    HeapFrom st (sd item st ns p) := by
  intro p
  induction p using Nat.strongRecOn with
  | ind p ih =>
    intro ns hp hD h1 h2 h3
    have hge := hD.ge
    have stop : (st < p → ns.getD ((p - 1) / 2) 0 ≤ item) → HeapFrom st (ns.set p item) := by
      intro hs j j0 j1 j2
      rw [List.length_set] at j1
      by_cases e : j = p
      · subst e
        rw [gset_eq hp, gset_ne (by lia)]
        exact hs (by lia)
      · rw [gset_ne (p := p) (j := j) (Ne.symm e)]
        by_cases e2 : (j - 1) / 2 = p
        · rw [e2, gset_eq hp]
          exact h2 j j0 j1 e2
        · rw [gset_ne (Ne.symm e2)]
          exact h1 j j0 j1 j2 e e2
    rw [sd]
    by_cases hs : st < p
    · rw [if_pos hs]
      by_cases hlt : item < ns.getD ((p - 1) / 2) 0
      · rw [if_pos hlt]
        have hq : (p - 1) / 2 < p := by lia
        refine ih ((p - 1) / 2) hq _ (by rw [List.length_set]; lia) (hD.par (by lia)) ?_ ?_ ?_
        · intro j j0 j1 j2 j3 j4
          rw [List.length_set] at j1
          have e : j ≠ p := fun q => j4 (by rw [q])
          rw [gset_ne (p := p) (j := j) (Ne.symm e)]
          by_cases e2 : (j - 1) / 2 = p
          · rw [e2, gset_eq hp]
            exact h3 hs j j0 j1 e2
          · rw [gset_ne (Ne.symm e2)]
            exact h1 j j0 j1 j2 e e2
        · intro j j0 j1 j2
          rw [List.length_set] at j1
          by_cases e : j = p
          · subst e
            rw [gset_eq hp]; lia
          · rw [gset_ne (Ne.symm e)]
            have := h1 j j0 j1 (by rw [j2]; have := (hD.par (by lia)).ge; lia) e (by lia)
            rw [j2] at this; lia
        · intro hs2 j j0 j1 j2
          rw [List.length_set] at j1
          have hge2 := (hD.par (by lia)).ge
          have hge3 := ((hD.par (by lia)).par (by lia)).ge
          have up := h1 ((p - 1) / 2) (by lia) (by lia) hge3 (by lia) (by lia)
          rw [gset_ne (p := p) (j := ((p - 1) / 2 - 1) / 2) (by lia)]
          by_cases e : j = p
          · subst e
            rw [gset_eq hp]; exact up
          · rw [gset_ne (Ne.symm e)]
            have := h1 j j0 j1 (by rw [j2]; lia) e (by lia)
            rw [j2] at this
            lia
      · rw [if_neg hlt]
        exact stop (fun _ => by lia)
    · rw [if_neg hs]
      exact stop (fun q => absurd q hs)

theorem cnt_set (a b : Int) : ∀ (xs : List Int) (i : Nat), i < xs.length → (xs.set i a).count b + (if xs.getD i 0 = b then 1 else 0) = xs.count b + (if a = b then 1 else 0)
  | [], i, h => by simp at h
  | x :: xs, 0, _ => by
    simp only [List.set_cons_zero, List.count_cons, List.getD_cons_zero, beq_iff_eq]
    lia
  | x :: xs, i + 1, h => by
    have := cnt_set a b xs i (by simpa using h)
    simp only [List.set_cons_succ, List.count_cons, List.getD_cons_succ, beq_iff_eq]
    lia
theorem cnt_move (a b : Int) (ns : List Int) (p q : Nat) (hp : p < ns.length) (hq : q < ns.length) (hpq : p ≠ q) : ((ns.set p (ns.getD q 0)).set q a).count b = (ns.set p a).count b := by
  have h1 := cnt_set (ns.getD q 0) b ns p hp
  have h2 := cnt_set a b (ns.set p (ns.getD q 0)) q (by rw [List.length_set]; exact hq)
  have h3 := cnt_set a b ns p hp
  rw [gset_ne hpq] at h2
  lia
theorem sd_count {item : Int} {st : Nat} (b : Int) : ∀ (p : Nat) (ns : List Int), p < ns.length → (sd item st ns p).count b = (ns.set p item).count b := by
  intro p
  induction p using Nat.strongRecOn with
  | ind p ih =>
    intro ns hp
    rw [sd]
    split
    · split
      · rw [ih ((p - 1) / 2) (by lia) _ (by rw [List.length_set]; lia), cnt_move _ _ _ _ _ hp (by lia) (by lia)]
      · rfl
    · rfl

theorem suC_le {n : Nat} {ns : List Int} {c : Nat} (h : c < n) : ns.getD (suC n ns c) 0 ≤ ns.getD c 0 ∧ (c + 1 < n → ns.getD (suC n ns c) 0 ≤ ns.getD (c + 1) 0) ∧ (suC n ns c = c ∨ suC n ns c = c + 1) := by
  unfold suC
  split
  · refine ⟨by lia, fun _ => by lia, .inr rfl⟩
  · rename_i hh
    refine ⟨by lia, fun h2 => ?_, .inl rfl⟩
    by_cases h3 : ns.getD c 0 < ns.getD (c + 1) 0
    · lia
    · exact absurd ⟨h2, h3⟩ hh
theorem su_spec {n st : Nat} : ∀ (k : Nat) (ns : List Int) (p : Nat), n - p = k → ns.length = n → p < n → Desc st p →
    (∀ j, 0 < j → j < n → st ≤ (j - 1) / 2 → ((j - 1) / 2 ≠ p ∨ p ≠ st) → ns.getD ((j - 1) / 2) 0 ≤ ns.getD j 0) →
    (su n ns p).2 < n ∧ Desc st (su n ns p).2 ∧ n ≤ 2 * (su n ns p).2 + 1 ∧ HeapFrom st (su n ns p).1 ∧ (∀ x b, ((su n ns p).1.set (su n ns p).2 x).count b = (ns.set p x).count b) := by
  intro k
  induction k using Nat.strongRecOn with
  | ind k ih =>
    intro ns p hk hl hp hD hH
    by_cases h : 2 * p + 1 < n
    · rw [su_unf h]
      obtain ⟨c1, c2, c3⟩ := suC_le (ns := ns) h
      have hc := @suC_lt n ns (2 * p + 1) h
      generalize suC n ns (2 * p + 1) = c at c1 c2 c3 hc
      have hD2 : Desc st c := by
        rcases c3 with e | e
        · rw [e]; exact hD.left
        · rw [e]; exact hD.right
      have full : ∀ j, 0 < j → j < n → st ≤ (j - 1) / 2 → (ns.set p (ns.getD c 0)).getD ((j - 1) / 2) 0 ≤ (ns.set p (ns.getD c 0)).getD j 0 := by
        intro j j0 j1 j2
        by_cases e : j = p
        · subst e
          rw [gset_eq (by lia), gset_ne (by lia)]
          have a1 := hH j j0 j1 j2 (.inl (by lia))
          have ge := hD.ge
          have a2 := hH c (by lia) hc (by rcases c3 with e | e <;> lia) (.inr (by lia))
          have e2 : (c - 1) / 2 = j := by rcases c3 with e | e <;> lia
          rw [e2] at a2
          lia
        · rw [gset_ne (p := p) (j := j) (Ne.symm e)]
          by_cases e2 : (j - 1) / 2 = p
          · rw [e2, gset_eq (by lia)]
            have e3 : j = 2 * p + 1 ∨ j = 2 * p + 1 + 1 := by lia
            rcases e3 with e3 | e3
            · rw [e3]; exact c1
            · rw [e3]; exact c2 (by lia)
          · rw [gset_ne (Ne.symm e2)]
            exact hH j j0 j1 j2 (.inl e2)
      obtain ⟨r1, r2, r3, r4, r5⟩ := ih (n - c) (by rcases c3 with e | e <;> lia) (ns.set p (ns.getD c 0)) c rfl (by rw [List.length_set]; exact hl) hc hD2 (fun j j0 j1 j2 _ => full j j0 j1 j2)
      refine ⟨r1, r2, r3, r4, fun x b => ?_⟩
      rw [r5, cnt_move _ _ _ _ _ (by lia) (by lia) (by rcases c3 with e | e <;> lia)]
    · have e : su n ns p = (ns, p) := by rw [su, if_neg h]
      rw [e]
      refine ⟨hp, hD, by show n ≤ 2 * p + 1; lia, fun j j0 j1 j2 => ?_, fun _ _ => rfl⟩
      have j1' : j < ns.length := j1
      refine hH j j0 (by lia) j2 (.inl ?_)
      show (j - 1) / 2 ≠ p
      lia
theorem siftup_heap {ns : List Int} {p : Nat} (hp : p < ns.length) (h : HeapFrom (p + 1) ns) : HeapFrom p (siftup ns p) := by
  obtain ⟨r1, r2, r3, r4, r5⟩ := su_spec (n := ns.length) (st := p) _ ns p rfl rfl hp .self (fun j j0 j1 j2 j3 => h j j0 j1 (by lia))
  have hl := su_length (n := ns.length) _ ns p rfl
  unfold siftup
  generalize su ns.length ns p = r at r1 r2 r3 r4 r5 hl
  refine sd_heap _ _ (by rw [List.length_set]; lia) r2 ?_ ?_ ?_
  · intro j j0 j1 j2 j3 j4
    rw [List.length_set] at j1
    rw [gset_ne (Ne.symm j3), gset_ne (Ne.symm j4)]
    exact r4 j j0 j1 j2
  · intro j j0 j1 j2
    rw [List.length_set] at j1
    lia
  · intro _ j j0 j1 j2
    rw [List.length_set] at j1
    lia
theorem siftup_count {ns : List Int} {p : Nat} (hp : p < ns.length) (h : HeapFrom (p + 1) ns) (b : Int) : (siftup ns p).count b = ns.count b := by
  obtain ⟨r1, r2, r3, r4, r5⟩ := su_spec (n := ns.length) (st := p) _ ns p rfl rfl hp .self (fun j j0 j1 j2 j3 => h j j0 j1 (by lia))
  have hl := su_length (n := ns.length) _ ns p rfl
  unfold siftup
  generalize su ns.length ns p = r at r1 r2 r3 r4 r5 hl
  rw [sd_count _ _ _ (by rw [List.length_set]; lia), List.set_set, r5]
  have := cnt_set (ns.getD p 0) b ns p hp
  lia
theorem hfy_heap (ns : List Int) : ∀ i, i ≤ ns.length / 2 → HeapFrom (ns.length / 2 - i) (hfy ns (ns.length / 2) i) ∧ ∀ b, (hfy ns (ns.length / 2) i).count b = ns.count b := by
  intro i
  induction i with
  | zero =>
    intro _
    refine ⟨fun j j0 j1 j2 => ?_, fun _ => rfl⟩
    have j1' : j < ns.length := j1
    lia
  | succ i ih =>
    intro hi
    obtain ⟨h1, h2⟩ := ih (by lia)
    have hl := hfy_length ns (ns.length / 2) i
    have e : ns.length / 2 - 1 - i + 1 = ns.length / 2 - i := by lia
    have e2 : ns.length / 2 - (i + 1) = ns.length / 2 - 1 - i := by lia
    rw [hfy, e2]
    exact ⟨siftup_heap (by lia) (by rw [e]; exact h1), fun b => by rw [siftup_count (by lia) (by rw [e]; exact h1), h2]⟩

/-- the first is the least -/
theorem heap_min {ns : List Int} (h : HeapFrom 0 ns) : ∀ j, j < ns.length → ns.getD 0 0 ≤ ns.getD j 0 := by
  intro j
  induction j using Nat.strongRecOn with
  | ind j ih =>
    intro hj
    by_cases h0 : j = 0
    · subst h0; exact Int.le_refl _
    · exact Int.le_trans (ih ((j - 1) / 2) (by lia) (by lia)) (h j (by lia) hj (Nat.zero_le _))
end Mine
end
section
open PySem PySem.W PyProof.Rows
set_option maxHeartbeats 1000000
namespace Mine
/-! ## the number -/
noncomputable def NN : Int → List Int → Nat
  | _, [] => 0
  | b, x :: xs => 2 ^ (x - b).toNat * (1 + 2 * NN x xs)
noncomputable def Srt : Int → List Int → Prop
  | _, [] => True
  | b, x :: xs => b ≤ x ∧ Srt x xs
noncomputable def ins (v : Int) : List Int → List Int
  | [] => [v]
  | x :: xs => if v < x then v :: x :: xs else x :: ins v xs
noncomputable def cntLe (v : Int) (xs : List Int) : Nat := xs.countP fun x => decide (x ≤ v)
theorem cntLe_nil {v : Int} : cntLe v [] = 0 := rfl
theorem cntLe_cons {v x : Int} {xs : List Int} : cntLe v (x :: xs) = cntLe v xs + if x ≤ v then 1 else 0 := by
  unfold cntLe
  rw [List.countP_cons]
  simp only [decide_eq_true_eq]
theorem cntLe_le {v : Int} {xs : List Int} : cntLe v xs ≤ xs.length := List.countP_le_length
theorem Srt.weak {b c : Int} : ∀ {xs : List Int}, Srt c xs → b ≤ c → Srt b xs
  | [], _, _ => trivial
  | _ :: _, h, hb => ⟨Int.le_trans hb h.1, h.2⟩
theorem Srt.ge {b : Int} : ∀ {xs : List Int}, Srt b xs → ∀ x ∈ xs, b ≤ x
  | [], _, _, hx => nomatch hx
  | y :: ys, h, x, hx => by
    rcases List.mem_cons.mp hx with rfl | hx
    · exact h.1
    · exact Int.le_trans h.1 (h.2.ge x hx)
theorem cntLe_zero {b v : Int} {xs : List Int} (h : Srt b xs) (hv : v < b) : cntLe v xs = 0 := by
  unfold cntLe
  rw [List.countP_eq_zero]
  intro x hx
  have := h.ge x hx
  simp only [decide_eq_true_eq]
  lia
theorem ins_srt {b v : Int} : ∀ {xs : List Int}, Srt b xs → b ≤ v → Srt b (ins v xs)
  | [], _, hv => ⟨hv, trivial⟩
  | x :: xs, h, hv => by
    rw [ins]
    split
    · exact ⟨hv, by lia, h.2⟩
    · exact ⟨h.1, ins_srt h.2 (by lia)⟩
theorem ins_count {v b : Int} : ∀ {xs : List Int}, (ins v xs).count b = (v :: xs).count b
  | [] => rfl
  | x :: xs => by
    rw [ins]
    split
    · rfl
    · have := @ins_count v b xs
      simp only [List.count_cons] at this ⊢
      lia
theorem srt_unique : ∀ {xs ys : List Int} {b c : Int}, Srt b xs → Srt c ys → (∀ v, xs.count v = ys.count v) → xs = ys
  | [], [], _, _, _, _, _ => rfl
  | [], y :: ys, _, _, _, _, h => by
    have := h y
    simp at this
  | x :: xs, [], _, _, _, _, h => by
    have := h x
    simp at this
  | x :: xs, y :: ys, b, c, hx, hy, h => by
    have e : x = y := by
      have h1 : x ∈ y :: ys := by
        rw [← List.count_pos_iff, ← h x]; simp
      have h2 : y ∈ x :: xs := by
        rw [← List.count_pos_iff, h y]; simp
      have h3 : y ≤ x := by
        rcases List.mem_cons.mp h1 with q | q
        · lia
        · exact hy.2.ge x q
      have h4 : x ≤ y := by
        rcases List.mem_cons.mp h2 with q | q
        · lia
        · exact hx.2.ge y q
      lia
    subst e
    congr 1
    refine srt_unique hx.2 hy.2 fun v => ?_
    have := h v
    simp only [List.count_cons] at this
    lia

theorem NN_lt {m : Int} : ∀ {xs : List Int} {b : Int}, Srt b xs → (∀ x ∈ xs, x ≤ m) → b ≤ m → NN b xs < 2 ^ ((m - b).toNat + xs.length)
  | [], _, _, _, _ => Nat.two_pow_pos _
  | x :: xs, b, h, hm, hb => by
    have ih := NN_lt (m := m) h.2 (fun y hy => hm y (.tail _ hy)) (hm x (.head _))
    have hx := hm x (.head _)
    have e : (m - b).toNat + (x :: xs).length = (x - b).toNat + ((m - x).toNat + xs.length + 1) := by
      have := h.1
      rw [List.length_cons]; lia
    rw [NN, e, Nat.pow_add 2 (x - b).toNat]
    refine Nat.mul_lt_mul_of_pos_left ?_ (Nat.two_pow_pos _)
    rw [Nat.pow_succ]
    lia

theorem NN_put : ∀ {xs : List Int} {b v : Int}, Srt b xs → b ≤ v →
    NN b xs % 2 ^ ((v - b).toNat + cntLe v xs) + 2 * (NN b xs - NN b xs % 2 ^ ((v - b).toNat + cntLe v xs)) + 2 ^ ((v - b).toNat + cntLe v xs) = NN b (ins v xs)
  | [], b, v, _, _ => by simp [NN, ins, cntLe_nil]
  | x :: xs, b, v, h, hv => by
    have hbx := h.1
    rw [ins]
    by_cases hvx : v < x
    · rw [if_pos hvx, cntLe_cons, cntLe_zero h.2 hvx, if_neg (by lia), NN, NN, NN]
      have e : (x - b).toNat = (v - b).toNat + (x - v).toNat := by lia
      rw [e, Nat.pow_add]
      generalize (v - b).toNat = k
      have hk : (x - v).toNat = ((x - v).toNat - 1) + 1 := by lia
      rw [hk, Nat.pow_succ]
      generalize (x - v).toNat - 1 = j
      generalize NN x xs = M
      have hdiv : 2 ^ k * (2 ^ j * 2) * (1 + 2 * M) % 2 ^ (k + (0 + 0)) = 0 := by
        simp only [Nat.add_zero]
        rw [Nat.mul_assoc, Nat.mul_mod_right]
      rw [hdiv]
      simp only [Nat.add_zero, Nat.zero_add, Nat.sub_zero]
      have : 2 ^ k * (2 ^ j * 2) * (1 + 2 * M) = 2 ^ k * (2 ^ j * 2 * (1 + 2 * M)) := Nat.mul_assoc ..
      rw [this]
      generalize 2 ^ j * 2 * (1 + 2 * M) = z
      rw [Nat.mul_add, Nat.mul_one]
      have : 2 ^ k * (2 * z) = 2 * (2 ^ k * z) := by rw [Nat.mul_left_comm]
      lia
    · rw [if_neg hvx, cntLe_cons, if_pos (by lia), NN, NN]
      have ih := NN_put (b := x) (v := v) h.2 (by lia)
      have e : (v - b).toNat + (cntLe v xs + 1) = (x - b).toNat + 1 + ((v - x).toNat + cntLe v xs) := by lia
      rw [e, ← ih]
      generalize (v - x).toNat + cntLe v xs = p
      generalize (x - b).toNat = k
      generalize NN x xs = M
      have e2 : 2 ^ (k + 1 + p) = 2 ^ k * (2 * 2 ^ p) := by rw [Nat.pow_add, Nat.pow_succ, Nat.mul_assoc]
      have e3 : 2 ^ k * (1 + 2 * M) % (2 ^ k * (2 * 2 ^ p)) = 2 ^ k * (1 + 2 * (M % 2 ^ p)) := by
        rw [Nat.mul_mod_mul_left]
        congr 1
        have hp := Nat.two_pow_pos p
        have h1 := Nat.div_add_mod M (2 ^ p)
        have hlt := Nat.mod_lt M hp
        have h2 : 1 + 2 * M = (1 + 2 * (M % 2 ^ p)) + 2 * 2 ^ p * (M / 2 ^ p) := by
          have : 2 * 2 ^ p * (M / 2 ^ p) = 2 * (2 ^ p * (M / 2 ^ p)) := Nat.mul_assoc ..
          lia
        rw [h2, Nat.add_mul_mod_self_left, Nat.mod_eq_of_lt (by lia)]
      rw [e2, e3]
      have hle : M % 2 ^ p ≤ M := Nat.mod_le _ _
      generalize M % 2 ^ p = r at hle
      generalize 2 ^ p = q
      generalize 2 ^ k = K
      have a1 : K * (1 + 2 * M) = K + 2 * (K * M) := by rw [Nat.mul_add, Nat.mul_one, Nat.mul_left_comm]
      have a2 : K * (1 + 2 * r) = K + 2 * (K * r) := by rw [Nat.mul_add, Nat.mul_one, Nat.mul_left_comm]
      have a3 : K * (2 * q) = 2 * (K * q) := Nat.mul_left_comm ..
      have a4 : K * (1 + 2 * (r + 2 * (M - r) + q)) = K + 2 * (K * r + 2 * (K * M - K * r) + K * q) := by
        rw [Nat.mul_add, Nat.mul_one, Nat.mul_left_comm K 2, Nat.mul_add K, Nat.mul_add K, Nat.mul_left_comm K 2, Nat.mul_sub]
      have a5 : K * r ≤ K * M := Nat.mul_le_mul_left _ hle
      rw [a1, a2, a3, a4]
      lia
theorem NN_pop {b x : Int} {xs : List Int} (h : Srt b (x :: xs)) : NN b xs = 2 ^ (x - b).toNat * NN x xs := by
  match xs, h with
  | [], _ => simp [NN]
  | y :: ys, h =>
    have h1 := h.1
    have h2 := h.2.1
    rw [NN, NN]
    have e : (y - b).toNat = (x - b).toNat + (y - x).toNat := by lia
    rw [e, Nat.pow_add, Nat.mul_assoc]

/-! ## the bits, the places -/
noncomputable def bitsR : Nat → Nat → List Int
  | 0, _ => []
  | l + 1, n => ((n % 2 : Nat) : Int) :: bitsR l (n / 2)
theorem bitsR_length : ∀ {l n : Nat}, (bitsR l n).length = l
  | 0, _ => rfl
  | l + 1, n => by rw [bitsR, List.length_cons, bitsR_length]
noncomputable def posR (x : Int) : Nat → List Int → List Int
  | _, [] => []
  | o, b :: r => if b = x then (o : Int) :: posR x (o + 1) r else posR x (o + 1) r
theorem posR_append {x : Int} : ∀ {l r : List Int} {o : Nat}, posR x o (l ++ r) = posR x o l ++ posR x (o + l.length) r
  | [], _, _ => rfl
  | b :: l, r, o => by
    have e : o + (l.length + 1) = o + 1 + l.length := by lia
    rw [List.cons_append, posR, posR, List.length_cons, e]
    split
    · rw [posR_append]; rfl
    · rw [posR_append]
theorem bitsR_shift {l m : Nat} : ∀ {k : Nat}, bitsR (k + l) (2 ^ k * m) = List.replicate k 0 ++ bitsR l m
  | 0 => by simp
  | k + 1 => by
    have e : k + 1 + l = (k + l) + 1 := by lia
    have e2 : 2 ^ (k + 1) * m = 2 * (2 ^ k * m) := by rw [Nat.pow_succ, Nat.mul_right_comm, Nat.mul_comm]
    rw [e, bitsR, e2, Nat.mul_mod_right, Nat.mul_div_cancel_left _ (by decide), bitsR_shift, List.replicate_succ]
    rfl
theorem bitsR_odd {l m : Nat} : bitsR (l + 1) (1 + 2 * m) = 1 :: bitsR l m := by
  have e1 : (1 + 2 * m) % 2 = 1 := by lia
  have e2 : (1 + 2 * m) / 2 = m := by lia
  rw [bitsR, e1, e2]
  rfl
theorem posR_noughts : ∀ {k o : Nat}, posR 0 o (List.replicate k 0) = (List.range k).map fun (i : Nat) => ((o + i : Nat) : Int)
  | 0, _ => rfl
  | k + 1, o => by
    rw [List.replicate_succ, posR, if_pos rfl, posR_noughts, List.range_succ_eq_map, List.map_cons, List.map_map]
    congr 1
    refine List.map_congr_left fun i _ => ?_
    show ((o + 1 + i : Nat) : Int) = ((o + (i + 1) : Nat) : Int)
    congr 1
    lia
theorem posR_no_ones : ∀ {k o : Nat}, posR 1 o (List.replicate k 0) = []
  | 0, _ => rfl
  | k + 1, o => by
    rw [List.replicate_succ, posR, if_neg (by decide), posR_no_ones]
theorem bitsR_zero {l : Nat} : bitsR l 0 = List.replicate l 0 := by
  have := @bitsR_shift 0 0 l
  simpa [bitsR] using this
noncomputable def onesL : Int → Int → List Int → List Int
  | _, _, [] => []
  | o, b, x :: xs => (o + (x - b)) :: onesL (o + (x - b) + 1) x xs
theorem onesL_length : ∀ {xs : List Int} {o b : Int}, (onesL o b xs).length = xs.length
  | [], _, _ => rfl
  | _ :: xs, _, _ => by rw [onesL, List.length_cons, List.length_cons, onesL_length]
theorem onesL_get : ∀ {xs : List Int} {o b : Int} {i : Nat}, i < xs.length → (onesL o b xs).getD i 0 = o + (xs.getD i 0 - b) + i
  | [], _, _, _, h => by simp at h
  | x :: xs, o, b, 0, _ => by simp [onesL]
  | x :: xs, o, b, i + 1, h => by
    rw [onesL, List.getD_cons_succ, List.getD_cons_succ, onesL_get (by simpa using h)]
    lia
theorem bits_split {m b x : Int} {xs : List Int} {l : Nat} (h : Srt b (x :: xs)) (hm : ∀ y ∈ x :: xs, y ≤ m) (hl : (m - b).toNat + (x :: xs).length ≤ l) :
    ∃ l', l = (x - b).toNat + (l' + 1) ∧ (m - x).toNat + xs.length ≤ l' ∧ bitsR l (NN b (x :: xs)) = List.replicate (x - b).toNat 0 ++ 1 :: bitsR l' (NN x xs) := by
  have h1 := h.1
  have h2 := hm x (.head _)
  rw [List.length_cons] at hl
  refine ⟨l - (x - b).toNat - 1, by lia, by lia, ?_⟩
  have e : l = (x - b).toNat + (l - (x - b).toNat - 1 + 1) := by lia
  conv => lhs; rw [e]
  rw [NN, bitsR_shift, bitsR_odd]
theorem ones_are {m : Int} : ∀ {xs : List Int} {b : Int} {l o : Nat}, Srt b xs → (∀ y ∈ xs, y ≤ m) → (m - b).toNat + xs.length ≤ l → posR 1 o (bitsR l (NN b xs)) = onesL (o : Int) b xs
  | [], b, l, o, _, _, _ => by rw [NN, bitsR_zero, posR_no_ones]; rfl
  | x :: xs, b, l, o, h, hm, hl => by
    obtain ⟨l', e1, e2, e3⟩ := bits_split h hm hl
    rw [e3, posR_append, posR_no_ones, List.nil_append, posR, if_pos rfl, ones_are h.2 (fun y hy => hm y (.tail _ hy)) e2, List.length_replicate, onesL]
    have h1 := h.1
    have a1 : ((o + (x - b).toNat : Nat) : Int) = (o : Int) + (x - b) := by lia
    have a2 : ((o + (x - b).toNat + 1 : Nat) : Int) = (o : Int) + (x - b) + 1 := by lia
    rw [a1, a2]
theorem noughts_are {m : Int} : ∀ {xs : List Int} {b : Int} {l o : Nat}, Srt b xs → (∀ y ∈ xs, y ≤ m) → (m - b).toNat + xs.length ≤ l →
    (posR 0 o (bitsR l (NN b xs))).length = l - xs.length ∧ ∀ j : Nat, j < l - xs.length → (posR 0 o (bitsR l (NN b xs))).getD j 0 = ((o + j + cntLe (b + j) xs : Nat) : Int)
  | [], b, l, o, _, _, _ => by
    rw [NN, bitsR_zero, posR_noughts]
    refine ⟨by simp, fun j hj => ?_⟩
    have hj' : j < l := by simpa using hj
    simp [List.getD_eq_getElem?_getD, hj', cntLe_nil]
  | x :: xs, b, l, o, h, hm, hl => by
    obtain ⟨l', e1, e2, e3⟩ := bits_split h hm hl
    obtain ⟨i1, i2⟩ := noughts_are (o := o + (x - b).toNat + 1) h.2 (fun y hy => hm y (.tail _ hy)) e2
    have h1 := h.1
    have hll : xs.length ≤ l' := by lia
    rw [e3, posR_append, posR_noughts, posR, if_neg (by decide), List.length_replicate]
    refine ⟨?_, fun j hj => ?_⟩
    · rw [List.length_append, List.length_map, List.length_range, i1, List.length_cons]
      lia
    · rw [List.length_cons] at hj
      by_cases hjk : j < (x - b).toNat
      · rw [List.getD_eq_getElem?_getD, List.getElem?_append_left (by simpa using hjk)]
        have : cntLe (b + j) (x :: xs) = 0 := cntLe_zero (b := x) ⟨Int.le_refl _, h.2⟩ (by lia)
        rw [this]
        simp [hjk]
      · rw [List.getD_eq_getElem?_getD, List.getElem?_append_right (by simpa using Nat.le_of_not_lt hjk), ← List.getD_eq_getElem?_getD]
        rw [List.length_map, List.length_range, i2 _ (by lia)]
        have e4 : x + ((j - (x - b).toNat : Nat) : Int) = b + j := by lia
        rw [e4, cntLe_cons, if_pos (by lia)]
        congr 1
        lia
end Mine
end
section
open PySem PySem.W PyProof.Rows
set_option maxHeartbeats 4000000
namespace Mine
/-! ## from the walk's values to the laws' -/
theorem foldl_if {p : Int → Prop} [DecidablePred p] : ∀ (ks init : List Int), List.foldl (fun l' k' => if p k' then l' ++ [k'] else l') init ks = init ++ ks.filter fun k => decide (p k)
  | [], init => by simp
  | k :: ks, init => by
    rw [List.foldl_cons, foldl_if ks, List.filter_cons]
    by_cases h : p k <;> simp [h]
theorem posR_filter {x : Int} : ∀ {ns : List Int} {o : Nat}, posR x o ns = ((List.range ns.length).filter fun i => decide (ns.getD i 0 = x)).map fun (i : Nat) => ((o + i : Nat) : Int)
  | [], _ => rfl
  | b :: r, o => by
    have e : ((List.range r.length).map Nat.succ).filter (fun i => decide ((b :: r).getD i 0 = x)) = ((List.range r.length).filter fun i => decide (r.getD i 0 = x)).map Nat.succ := by
      rw [List.filter_map]
      rfl
    have e2 : (((List.range r.length).filter fun i => decide (r.getD i 0 = x)).map Nat.succ).map (fun (i : Nat) => ((o + i : Nat) : Int)) = ((List.range r.length).filter fun i => decide (r.getD i 0 = x)).map fun (i : Nat) => ((o + 1 + i : Nat) : Int) := by
      rw [List.map_map]
      refine List.map_congr_left fun i _ => ?_
      show ((o + (i + 1) : Nat) : Int) = ((o + 1 + i : Nat) : Int)
      congr 1
      omega
    rw [posR, List.length_cons, List.range_succ_eq_map, List.filter_cons, e, posR_filter]
    by_cases h : b = x
    · simp only [List.getD_cons_zero, h, decide_true, if_true, List.map_cons, e2, Nat.add_zero]
    · simp only [List.getD_cons_zero, h, decide_false, Bool.false_eq_true, if_false, e2]
theorem whereF_eq {ns : List Int} {x : Int} : whereF ns x = posR x 0 ns := by
  unfold whereF
  rw [foldl_if, List.nil_append, posR_filter]
  have e : ((ns.length : Int) - 0).toNat = ns.length := by omega
  rw [e]
  unfold rangeKs
  rw [List.filter_map]
  have e2 : ((fun k => decide (ns.getD (Int.toNat k) 0 = x)) ∘ fun (i : Nat) => (0 : Int) + (i : Int)) = fun (i : Nat) => decide (ns.getD i 0 = x) := by
    funext i
    show decide (ns.getD (Int.toNat (0 + (i : Int))) 0 = x) = _
    have : Int.toNat (0 + (i : Int)) = i := by omega
    rw [this]
  rw [e2]
  refine List.map_congr_left fun i _ => ?_
  show (0 : Int) + (i : Int) = ((0 + i : Nat) : Int)
  omega
theorem dg0 {m c : Nat} (h : ∀ M : Nat, M % 64 / c % 2 = M / c % 2) : (m : Int) % 64 / (c : Int) % 2 = ((m / c % 2 : Nat) : Int) := by
  rw [← h m]; rfl
theorem dga {m a c : Nat} (h : ∀ M : Nat, M % 64 / c % 2 = M / c % 2) : (m : Int) / (a : Int) % 64 / (c : Int) % 2 = ((m / (a * c) % 2 : Nat) : Int) := by
  rw [← Nat.div_div_eq_div_mul, ← h (m / a)]; rfl
theorem dgz {m a c : Nat} : (m : Int) / (a : Int) / (c : Int) % 2 = ((m / (a * c) % 2 : Nat) : Int) := by
  rw [← Nat.div_div_eq_div_mul]; rfl
theorem dg1 {M : Nat} : (M : Int) % 64 % 2 = ((M % 2 : Nat) : Int) := by omega
theorem d2 : ∀ M : Nat, M % 64 / 2 % 2 = M / 2 % 2 := fun M => by omega
theorem d4 : ∀ M : Nat, M % 64 / 4 % 2 = M / 4 % 2 := fun M => by omega
theorem d8 : ∀ M : Nat, M % 64 / 8 % 2 = M / 8 % 2 := fun M => by omega
theorem d16 : ∀ M : Nat, M % 64 / 16 % 2 = M / 16 % 2 := fun M => by omega
theorem d32 : ∀ M : Nat, M % 64 / 32 % 2 = M / 32 % 2 := fun M => by omega
theorem cons2 {α : Type} {a b : α} {l r : List α} (h : a = b) (k : l = r) : a :: l = b :: r := by rw [h, k]
theorem bitsF_eq {m : Nat} : bitsF (m : Int) = bitsR 24 m := by
  unfold bitsF
  have r6 : List.range 6 = [0, 1, 2, 3, 4, 5] := rfl
  rw [r6]
  simp only [List.flatMap_cons, List.flatMap_nil, List.map_cons, List.map_nil, List.cons_append, List.nil_append, List.append_nil, bitsR, Nat.div_div_eq_div_mul, Nat.reduceMul]
  have p0 : (2 : Int) ^ (((0 : Nat) : Int)).toNat = 1 := rfl
  rw [p0]
  simp only [Int.ediv_one]
  refine cons2 dg1 (cons2 (dg0 (c := 2) d2) (cons2 (dg0 (c := 4) d4) (cons2 (dg0 (c := 8) d8) (cons2 (dg0 (c := 16) d16) (cons2 (dg0 (c := 32) d32) ?_)))))
  refine cons2 (dg1 (M := m / 64)) (cons2 (dga (a := 64) (c := 2) d2) (cons2 (dga (a := 64) (c := 4) d4) (cons2 (dga (a := 64) (c := 8) d8) (cons2 (dga (a := 64) (c := 16) d16) (cons2 (dga (a := 64) (c := 32) d32) ?_)))))
  refine cons2 (dg1 (M := m / 4096)) (cons2 (dga (a := 4096) (c := 2) d2) (cons2 (dga (a := 4096) (c := 4) d4) (cons2 (dga (a := 4096) (c := 8) d8) (cons2 (dga (a := 4096) (c := 16) d16) (cons2 (dga (a := 4096) (c := 32) d32) ?_)))))
  exact cons2 rfl (cons2 (dgz (a := 262144) (c := 2)) (cons2 (dgz (a := 262144) (c := 4)) (cons2 (dgz (a := 262144) (c := 8)) (cons2 (dgz (a := 262144) (c := 16)) (cons2 (dgz (a := 262144) (c := 32)) rfl)))))
theorem putF_eq {n q N' : Nat} (h : n % 2 ^ q + 2 * (n - n % 2 ^ q) + 2 ^ q = N') : putF (n : Int) (q : Int) = (N' : Int) := by
  unfold putF
  have e1 : ((q : Int)).toNat = q := Int.toNat_natCast q
  rw [e1, Int.one_mul, kbt_mask]
  have hle := Nat.mod_le n (2 ^ q)
  have e2 : (n : Int) % 2 ^ q = ((n % 2 ^ q : Nat) : Int) := by simp
  have e3 : (2 : Int) ^ q = ((2 ^ q : Nat) : Int) := by simp
  rw [e2, e3]
  omega
theorem bitAnd_self' {n : Nat} : Builtin.bitAnd (n : Int) (n : Int) = n := by
  rw [bitAnd_pp (Int.natCast_nonneg _) (Int.natCast_nonneg _), Nat.and_self]
  simp
theorem drop_low {M : Nat} : ∀ k : Nat, Builtin.bitAnd ((2 ^ k * (1 + 2 * M) : Nat) : Int) (((2 ^ k * (1 + 2 * M) : Nat) : Int) - 1) = ((2 ^ k * (2 * M) : Nat) : Int)
  | 0 => by
    rw [kbt_halves]
    have e1 : ((2 ^ 0 * (1 + 2 * M) : Nat) : Int) / 2 = (M : Int) := by omega
    have e2 : (((2 ^ 0 * (1 + 2 * M) : Nat) : Int) - 1) / 2 = (M : Int) := by omega
    rw [e1, e2, bitAnd_self', if_neg (by omega)]
    omega
  | k + 1 => by
    have e0 : ∀ z, 2 ^ (k + 1) * z = 2 * (2 ^ k * z) := fun z => by rw [Nat.pow_succ, Nat.mul_right_comm, Nat.mul_comm]
    rw [kbt_halves, e0, e0]
    have hp : 0 < 2 ^ k * (1 + 2 * M) := Nat.mul_pos (Nat.two_pow_pos k) (by omega)
    have e1 : ((2 * (2 ^ k * (1 + 2 * M)) : Nat) : Int) / 2 = ((2 ^ k * (1 + 2 * M) : Nat) : Int) := by omega
    have e2 : (((2 * (2 ^ k * (1 + 2 * M)) : Nat) : Int) - 1) / 2 = ((2 ^ k * (1 + 2 * M) : Nat) : Int) - 1 := by omega
    rw [e1, e2, drop_low k, if_neg (by omega)]
    omega
theorem takenF_eq {b x : Int} {xs : List Int} (h : Srt b (x :: xs)) : takenF (NN b (x :: xs) : Int) = (NN b xs : Int) := by
  unfold takenF
  rw [NN_pop h, NN, drop_low, Int.fdiv_eq_ediv_of_nonneg _ (by decide)]
  have e : (2 : Int) ^ Int.toNat 1 = 2 := rfl
  have e2 : 2 ^ (x - b).toNat * (2 * NN x xs) = 2 * (2 ^ (x - b).toNat * NN x xs) := Nat.mul_left_comm ..
  rw [e, e2]
  omega
theorem low_eq {b x : Int} {xs : List Int} : Builtin.bitAnd (NN b (x :: xs) : Int) (-(NN b (x :: xs) : Int)) = 2 ^ (x - b).toNat := by
  have e : (NN b (x :: xs) : Int) = 2 ^ (x - b).toNat * (2 * (NN x xs : Int) + 1) := by
    rw [NN]
    simp only [Int.natCast_mul, Int.natCast_add, Int.natCast_pow]
    congr 1
    omega
  rw [e, kbt_low]
theorem NN_pos {b x : Int} {xs : List Int} : 0 < NN b (x :: xs) := Nat.mul_pos (Nat.two_pow_pos _) (by omega)
end Mine
end
section
open PySem PySem.W PyProof.Rows PySem.Calls
set_option maxRecDepth 100000
set_option maxHeartbeats 8000000
namespace Mine

/-- the number n tells the items ss (in order) -/
structure Num (ss : List Int) (n : Int) : Prop where
  srt : Srt (-7) ss
  top : ∀ x ∈ ss, x ≤ 7
  eq : n = (NN (-7) ss : Int)
theorem Num.lt {ss : List Int} {n : Int} (h : Num ss n) (hl : ss.length ≤ 10) : 0 ≤ n ∧ n < 16777216 := by
  have e := NN_lt (m := 7) h.srt h.top (by decide)
  have e2 : (7 - (-7) : Int).toNat = 14 := rfl
  rw [e2] at e
  have e3 : 2 ^ (14 + ss.length) ≤ 2 ^ 24 := Nat.pow_le_pow_right (by decide) (by lia)
  have e4 : (2 : Nat) ^ 24 = 16777216 := rfl
  have := h.eq
  lia
theorem Num.bits {ss : List Int} {n : Int} (h : Num ss n) (hl : ss.length ≤ 10) : bitsF n = bitsR 24 (NN (-7) ss) := by
  have e := h.lt hl
  have e2 := h.eq
  rw [e2]
  exact bitsF_eq
theorem Num.noughts {ss : List Int} {n : Int} (h : Num ss n) (hl : ss.length ≤ 10) :
    (whereF (bitsF n) 0).length = 24 - ss.length ∧ ∀ j : Nat, j < 24 - ss.length → (whereF (bitsF n) 0).getD j 0 = ((j + cntLe (-7 + j) ss : Nat) : Int) := by
  have e2 : (7 - (-7) : Int).toNat = 14 := rfl
  obtain ⟨h1, h2⟩ := noughts_are (m := 7) (l := 24) (o := 0) h.srt h.top (by rw [e2]; lia)
  rw [h.bits hl, whereF_eq]
  refine ⟨h1, fun j hj => ?_⟩
  rw [h2 j hj, Nat.zero_add]
theorem Num.ones {ss : List Int} {n : Int} (h : Num ss n) (hl : ss.length ≤ 10) : whereF (bitsF n) 1 = onesL 0 (-7) ss := by
  have e2 : (7 - (-7) : Int).toNat = 14 := rfl
  rw [h.bits hl, whereF_eq]
  exact ones_are (m := 7) (l := 24) (o := 0) h.srt h.top (by rw [e2]; lia)
theorem Num.put {ss : List Int} {n v : Int} (h : Num ss n) (hl : ss.length ≤ 9) (h0 : -7 ≤ v) (h1 : v ≤ 7) :
    v + 7 < (whereF (bitsF n) 0).length ∧ (bitsF n).length = 24 ∧ (whereF (bitsF n) 0).length ≤ 24 ∧ 0 ≤ (whereF (bitsF n) 0).getD (v + 7).toNat 0 ∧ (whereF (bitsF n) 0).getD (v + 7).toNat 0 < 24 ∧ Num (ins v ss) (putF n ((whereF (bitsF n) 0).getD (v + 7).toNat 0)) := by
  obtain ⟨e1, e2⟩ := h.noughts (by lia)
  have e3 := e2 (v + 7).toNat (by lia)
  have e4 : (-7 + (((v + 7).toNat : Nat) : Int)) = v := by lia
  rw [e4] at e3
  have hc := @cntLe_le v ss
  refine ⟨by lia, by rw [h.bits (by lia), bitsR_length], by lia, by rw [e3]; lia, by rw [e3]; lia, ?_, ?_, ?_⟩
  · exact ins_srt h.srt h0
  · intro x hx
    have : (ins v ss).count x ≠ 0 := by
      have := List.count_pos_iff.mpr hx
      lia
    rw [ins_count] at this
    have hm : x ∈ v :: ss := List.count_pos_iff.mp (by lia)
    rcases List.mem_cons.mp hm with rfl | hm
    · exact h1
    · exact h.top x hm
  · rw [e3, h.eq]
    have e5 := NN_put h.srt h0
    have e6 : (v - (-7)).toNat = (v + 7).toNat := by lia
    rw [e6] at e5
    exact putF_eq e5
theorem Num.tail {x : Int} {ss : List Int} {n : Int} (h : Num (x :: ss) n) : Num ss (takenF n) :=
  ⟨h.srt.2.weak h.srt.1, fun y hy => h.top y (.tail _ hy), by rw [h.eq, takenF_eq h.srt]⟩
theorem Num.low {x : Int} {ss : List Int} {n : Int} (h : Num (x :: ss) n) : n ≠ 0 ∧ 0 < n ∧ 0 ≤ 7 - -x ∧ 7 - -x < 64 ∧ 1 * 2 ^ (7 - -x).toNat = Builtin.bitAnd n (-n) := by
  have h1 := h.srt.1
  have h2 := h.top x (.head _)
  have h3 := @NN_pos (-7) x ss
  have h4 := h.eq
  refine ⟨by lia, by lia, by lia, by lia, ?_⟩
  rw [h.eq, low_eq, Int.one_mul]
  have e : (7 - -x).toNat = (x - -7).toNat := by lia
  rw [e]
theorem Num.nil : Num [] 0 := ⟨trivial, fun _ h => (nomatch h), rfl⟩
theorem Num.zero {ss : List Int} {n : Int} (h : Num ss n) : n = 0 ↔ ss = [] := by
  constructor
  · intro e
    match ss, h with
    | [], _ => rfl
    | x :: ss, h => exact absurd e h.low.1
  · rintro rfl
    exact h.eq
theorem Num.nonneg {ss : List Int} {n : Int} (h : Num ss n) : 0 ≤ n := by
  rw [h.eq]; exact Int.natCast_nonneg _
section
variable {prog : Program} {w : World} {mean : ExcName → Option Value} {mg mb : Str → Option Value} {A A₀ : Around} {s : Shared} {Q E : Value → Shared → Prop}

theorem put_sem {ss : List Int} {n v : Int} {t u : Tok} (S : Site w mean mg mb A (hideAll s.heap [])) (hN : Num ss n) (hl : ss.length ≤ 9) (h0 : -7 ≤ v) (h1 : v ≤ 7)
    (hdp : A.depth + 12 < recursionLimit) (hu : A.units + 80 < cLine)
    (ret : ∀ h' tk' n' t', Kept [] s.heap h' → Num (ins v ss) n' → Q (.int n' t') { s with heap := h', toks := tk' }) :
    wpAny (model prog w) A (call (.ref 173) [.int n t, .int v u]) Q E s := by
  obtain ⟨a1, a2, a3, a4, a5, a6⟩ := hN.put hl h0 h1
  obtain ⟨b1, b2⟩ := hN.lt (by lia)
  exact put_spec S b1 b2 (by lia) a1 a2 a3 rfl a4 a5 hdp hu fun h' tk' t' K => ret h' tk' _ t' K a6
theorem taken_sem {x : Int} {ss : List Int} {n : Int} {t : Tok} (S : Site w mean mg mb A (hideAll s.heap [])) (hN : Num (x :: ss) n)
    (hdp : A.depth + 4 < recursionLimit) (hu : A.units + 40 < cLine)
    (ret : ∀ h' tk' n' t', Kept [] s.heap h' → Num ss n' → Q (.int n' t') { s with heap := h', toks := tk' }) :
    wpAny (model prog w) A (call (.ref 180) [.int n t]) Q E s :=
  taken_spec S hdp hu fun h' tk' t' K => ret h' tk' _ t' K hN.tail
theorem least_sem {x : Int} {ss : List Int} {n : Int} {t u : Tok} (S : Site w mean mg mb A (hideAll s.heap [])) (hN : Num (x :: ss) n)
    (hdp : A.depth + 4 < recursionLimit) (hu : A.units + 40 < cLine)
    (ret : ∀ h' tk', Kept [] s.heap h' → Q (.bool true) { s with heap := h', toks := tk' }) :
    wpAny (model prog w) A (call (.ref 187) [.int n t, .int x u]) Q E s := by
  obtain ⟨a1, _, a2, a3, a4⟩ := hN.low
  exact least_spec S a1 a2 a3 a4 hdp hu ret
end

/-- the heap ns and the number n belong together -/
structure Inv (ns : List Int) (n : Int) : Prop where
  heap : HeapFrom 0 ns
  num : ∃ ss, Num ss n ∧ ∀ v, ss.count v = ns.count v
theorem cnt_length {xs ys : List Int} (h : ∀ v, xs.count v = ys.count v) : xs.length = ys.length := (List.perm_iff_count.mpr h).length_eq
theorem cnt_mem {xs ys : List Int} (h : ∀ v, xs.count v = ys.count v) {x : Int} (hx : x ∈ ys) : x ∈ xs := by
  rw [← List.count_pos_iff, h x]; exact List.count_pos_iff.mpr hx
/-- the least is the first: the order's list begins with it -/
theorem Inv.split {ns : List Int} {n : Int} (h : Inv ns n) (hne : 0 < ns.length) : ∃ ss, Num (ns.getD 0 0 :: ss) n ∧ ∀ v, (ns.getD 0 0 :: ss).count v = ns.count v := by
  obtain ⟨ss, h1, h2⟩ := h.num
  match ss, h1, h2 with
  | [], _, h2 => have := cnt_length h2; simp at this; lia
  | x :: ss, h1, h2 =>
    have e : x = ns.getD 0 0 := by
      have a1 : ns.getD 0 0 ∈ x :: ss := cnt_mem h2 (by
        rw [List.getD_eq_getElem?_getD, List.getElem?_eq_getElem hne]; exact List.getElem_mem hne)
      have a2 : x ∈ ns := cnt_mem (fun v => (h2 v).symm) (.head _)
      have a3 : x ≤ ns.getD 0 0 := by
        rcases List.mem_cons.mp a1 with q | q
        · lia
        · exact h1.srt.2.ge _ q
      obtain ⟨i, hi, hx⟩ := List.mem_iff_getElem.mp a2
      have a4 := heap_min h.heap i hi
      rw [List.getD_eq_getElem?_getD (i := i), List.getElem?_eq_getElem hi, Option.getD_some, hx] at a4
      lia
    subst e
    exact ⟨ss, h1, h2⟩
theorem Inv.items {ns : List Int} {n : Int} (h : Inv ns n) : ∀ x ∈ ns, -7 ≤ x ∧ x ≤ 7 := fun x hx => by
  obtain ⟨ss, h1, h2⟩ := h.num
  have hm := cnt_mem h2 hx
  exact ⟨h1.srt.ge x hm, h1.top x hm⟩
theorem set0_count (ns : List Int) (x v : Int) (hne : 0 < ns.length) : (ns.set 0 x).count v + (if ns.getD 0 0 = v then 1 else 0) = ns.count v + (if x = v then 1 else 0) := cnt_set x v ns 0 hne
theorem set0_heap {ns : List Int} {x : Int} (h : HeapFrom 0 ns) : HeapFrom 1 (ns.set 0 x) := by
  intro j j0 j1 j2
  rw [List.length_set] at j1
  rw [gset_ne (by lia), gset_ne (by lia)]
  exact h j j0 j1 (Nat.zero_le _)
/-- heappush -/
theorem Inv.push {ns ss : List Int} {n x : Int} (h : HeapFrom 0 ns) (hc : ∀ v, ss.count v = ns.count v) (hN : Num (ins x ss) n) : Inv (sd x 0 (ns ++ [x]) ns.length) n := by
  have hg : ∀ j, j < ns.length → (ns ++ [x]).getD j 0 = ns.getD j 0 := fun j hj => by
    rw [List.getD_eq_getElem?_getD, List.getElem?_append_left hj, ← List.getD_eq_getElem?_getD]
  have hD : ∀ p, Desc 0 p := fun p => by
    induction p using Nat.strongRecOn with
    | ind p ih =>
      match p with
      | 0 => exact .self
      | p + 1 =>
        have hp := ih (p / 2) (by lia)
        rcases Nat.mod_two_eq_zero_or_one p with e | e
        · have : p + 1 = 2 * (p / 2) + 1 := by lia
          rw [this]; exact hp.left
        · have : p + 1 = 2 * (p / 2) + 2 := by lia
          rw [this]; exact hp.right
  have hlen : (ns ++ [x]).length = ns.length + 1 := by simp
  refine ⟨sd_heap _ _ (by lia) (hD _) ?_ ?_ ?_, _, hN, fun v => ?_⟩
  · intro j j0 j1 j2 j3 j4
    rw [hg _ (by lia), hg _ (by lia)]
    exact h j j0 (by lia) (Nat.zero_le _)
  · intro j j0 j1 j2; lia
  · intro _ j j0 j1 j2; lia
  · rw [ins_count, sd_count _ _ _ (by lia)]
    have e : (ns ++ [x]).set ns.length x = ns ++ [x] := by
      rw [List.set_append_right _ _ (Nat.le_refl _)]; simp
    rw [e, List.count_append, List.count_cons, List.count_cons, hc v, List.count_nil]
    lia
/-- heapreplace -/
theorem Inv.repl {ns ss : List Int} {n x : Int} (h : HeapFrom 0 ns) (hne : 0 < ns.length) (hc : ∀ v, (ns.getD 0 0 :: ss).count v = ns.count v) (hN : Num (ins x ss) n) : Inv (siftup (ns.set 0 x) 0) n := by
  refine ⟨siftup_heap (by rw [List.length_set]; exact hne) (set0_heap h), _, hN, fun v => ?_⟩
  rw [ins_count, siftup_count (by rw [List.length_set]; exact hne) (set0_heap h)]
  have e1 := set0_count ns x v hne
  have e2 := hc v
  rw [List.count_cons] at e2 ⊢
  simp only [beq_iff_eq] at e2 ⊢
  lia
/-- heappop -/
theorem Inv.pop {ns ss : List Int} {n : Int} (h : HeapFrom 0 ns) (hne : 0 < ns.length) (hc : ∀ v, (ns.getD 0 0 :: ss).count v = ns.count v) (hN : Num ss n) : Inv (popL ns) n ∧ (popL ns).length + 1 = ns.length := by
  have hdl : ns.dropLast.length = ns.length - 1 := List.length_dropLast
  have hsp : ns = ns.dropLast ++ [ns.getLastD 0] := by
    match ns, hne with
    | y :: r, _ =>
      have e := (List.dropLast_concat_getLast (l := y :: r) (by simp)).symm
      rw [List.getLast_eq_getLastD] at e
      rw [List.getLastD_cons]
      exact e
  have hcd : ∀ v, ns.count v = ns.dropLast.count v + (if ns.getLastD 0 = v then 1 else 0) := fun v => by
    conv => lhs; rw [hsp]
    rw [List.count_append, List.count_cons, List.count_nil]
    simp only [beq_iff_eq]
    lia
  unfold popL
  by_cases h0 : ns.dropLast.length = 0
  · rw [if_pos h0]
    refine ⟨⟨fun j j0 j1 _ => (by simp at j1), ss, hN, fun v => ?_⟩, by rw [List.length_nil]; lia⟩
    have := cnt_length hc
    rw [List.length_cons] at this
    have : ss = [] := List.eq_nil_of_length_eq_zero (by lia)
    rw [this]
  · rw [if_neg h0]
    have hg : ∀ j, j < ns.dropLast.length → ns.dropLast.getD j 0 = ns.getD j 0 := fun j hj => by
      simp only [List.getD_eq_getElem?_getD, List.getElem?_dropLast]
      rw [if_pos (by lia)]
    have hh : HeapFrom 1 (ns.dropLast.set 0 (ns.getLastD 0)) := by
      intro j j0 j1 j2
      rw [List.length_set] at j1
      rw [gset_ne (by lia), gset_ne (by lia), hg _ (by lia), hg _ (by lia)]
      exact h j j0 (by lia) (Nat.zero_le _)
    refine ⟨⟨siftup_heap (by rw [List.length_set]; lia) hh, ss, hN, fun v => ?_⟩, by rw [siftup_length, List.length_set]; lia⟩
    rw [siftup_count (by rw [List.length_set]; lia) hh]
    have e1 := set0_count ns.dropLast (ns.getLastD 0) v (by lia)
    have e2 := hc v
    have e3 := hcd v
    rw [hg 0 (by lia)] at e1
    rw [List.count_cons] at e2
    simp only [beq_iff_eq] at e2
    lia
/-- heappushpop: the item is not beyond the least -/
theorem ins_head {ss : List Int} {v : Int} (h : ∀ x ∈ ss.head?, ¬ x < v) : ∃ rest, ins v ss = v :: rest ∧ ∀ u, rest.count u = ss.count u := by
  match ss, h with
  | [], _ => exact ⟨[], rfl, fun _ => rfl⟩
  | x :: ss, h =>
    have hx := h x (by simp)
    by_cases e : v < x
    · exact ⟨x :: ss, by rw [ins, if_pos e], fun _ => rfl⟩
    · have e2 : x = v := by lia
      subst e2
      exact ⟨ins x ss, by rw [ins, if_neg e], fun u => ins_count⟩
end Mine
end
section
open PySem PySem.W PyProof.Rows PySem.Calls
set_option maxRecDepth 100000
set_option maxHeartbeats 8000000
namespace Mine
example : (True ∨ (PySem.Challenge.rw_rt0003_01 = PySem.Challenge.rw_rt0003_01 ∧ hd.heap_39 = hd.heap_39)) := by
  k_with_none
  w_top off
  k_fill
  exact .inl trivial
local macro_rules | `(tactic| k_room) => `(tactic| ktr_room)
local macro_rules | `(tactic| walk_at "call ref") => `(tactic| (k_here; (with_reducible show wpAny _ _ (call (Value.ref 28) _ _) _ _ _); refine Stop.halt ?_))
local macro_rules | `(tactic| walk_at "call ref") => `(tactic| (k_here; (with_reducible show wpAny _ _ (call (Value.ref 35) _ _) _ _ _); refine Stop.halt ?_))
local macro_rules | `(tactic| walk_at "call ref") => `(tactic| (k_here; (with_reducible show wpAny _ _ (call (Value.ref 42) _ _) _ _ _); refine Stop.halt ?_))
local macro_rules | `(tactic| walk_at "call ref") => `(tactic| (k_here; (with_reducible show wpAny _ _ (call (Value.ref 49) _ _) _ _ _); refine Stop.halt ?_))
local macro_rules | `(tactic| walk_at "call ref") => `(tactic| (k_here; (with_reducible show wpAny _ _ (call (Value.ref 173) _ _) _ _ _); refine Stop.halt ?_))
local macro_rules | `(tactic| walk_at "call ref") => `(tactic| (k_here; (with_reducible show wpAny _ _ (call (Value.ref 180) _ _) _ _ _); refine Stop.halt ?_))
local macro_rules | `(tactic| walk_at "call ref") => `(tactic| (k_here; (with_reducible show wpAny _ _ (call (Value.ref 187) _ _) _ _ _); refine Stop.halt ?_))
section
variable {prog : Program} {w : World} {mean : ExcName → Option Value} {mg mb : Str → Option Value} {A A₀ : Around} {s : Shared} {Q E : Value → Shared → Prop}

theorem call0 {a : Addr} {vs : List Value} {n : Nat} {ns : List Int} {num v : Int} {t td u : Tok} (S : Site w mean mg mb A (hideAll s.heap [a])) (ha : s.heap.get? a = some (listOf vs.toArray n)) (hi : IntsAre vs ns) (hI : Inv ns num) (hl : ns.length ≤ 8) (h0 : -7 ≤ v) (h1 : v ≤ 7)
    (hdp : A.depth + 16 < recursionLimit) (hu : A.units + 120 < cLine)
    (ret : ∀ h' tk' vs' n' ns' num' t', Kept [a] s.heap h' → h'.get? a = some (listOf vs'.toArray n') → IntsAre vs' ns' → Inv ns' num' → ns'.length = ns.length + 1 → Q (.int num' t') { s with heap := h', toks := tk' }) :
    wpAny (model prog w) A (call (.ref 194) [.ref a, .int num t, .int 0 td, .int v u]) Q E s := by
  refine' enter (binds := [(Str.ofString "heap", .ref a), (Str.ofString "number", .int num t), (Str.ofString "deed", .int 0 td), (Str.ofString "value", .int v u)]) (news := [(a, listOf vs.toArray n)]) S (by simpa using ha) ?k6 ?k7 ?k8 ?k9 ?kB ?c5 ?c2 ?c3 ?c4 ?_
  (case k6 => k_is)
  (case k7 => k_is)
  (case k8 => ktr_room)
  (case k9 => exact BindsTo.of_eq rfl)
  (case c5 => decide)
  (case kB => exact locs rfl)
  (case c2 => exact rfl)
  (case c3 => exact rfl)
  (case c4 => exact rfl)
  intro base frs g L' h' hK hG hsz F' N' hlt B' X' T'
  obtain ⟨hA1, dp, fr, gd, un⟩ := A
  have hH1 : hA1 = none := S.handled
  have hF1 : fr = some frs := B'.stack
  subst hH1 hF1
  have hdp : dp + 16 < recursionLimit := hdp
  have hu : un + 120 < cLine := hu
  k_steps
  refine Stop.go ?_
  (rename Fr _ _ _ _ => F1)
  (rename News _ _ _ _ => N1)
  refine push_spec (site_in [(a, _)] B' F1 X' T' N1 rfl rfl) (got1 N1) hi (by lia) (by ktr_room) (by ktr_units) ?_
  intro h2 tk2 vs2 n2 K2 g2 I2
  obtain ⟨F2, N2⟩ := back_head K2 g2 F1 N1 (List.forall_mem_nil _)
  clear F1 N1
  k_steps
  refine Stop.go ?_
  (rename Fr _ _ _ _ => F3)
  (rename News _ _ _ _ => N3)
  obtain ⟨ss, b1, b2⟩ := hI.num
  have b3 := cnt_length b2
  refine put_sem (site_in [] B' F3 X' T' News.nil rfl rfl) b1 (by lia) h0 h1 (by ktr_room) (by ktr_units) ?_
  intro h4 tk4 n4 t4 K4 hN4
  obtain ⟨F4, N4⟩ := back_none K4 F3 N3
  clear F3 N3
  k_steps
  exact ret _ _ vs2 n2 _ n4 t4 (kept1 hK F4) (N4.get (.head _)) I2 (Inv.push hI.heap b2 hN4) (by rw [sd_length, List.length_append, List.length_singleton])

theorem call3 {a : Addr} {vs : List Value} {n : Nat} {ns : List Int} {num v : Int} {t td u : Tok} (S : Site w mean mg mb A (hideAll s.heap [a])) (ha : s.heap.get? a = some (listOf vs.toArray n)) (hi : IntsAre vs ns) (hI : Inv ns num) (hl : ns.length ≤ 9) (h0 : -7 ≤ v) (h1 : v ≤ 7)
    (hdp : A.depth + 16 < recursionLimit) (hu : A.units + 120 < cLine)
    (ret : ∀ h' tk' vs' n' ns' num' t', Kept [a] s.heap h' → h'.get? a = some (listOf vs'.toArray n') → IntsAre vs' ns' → Inv ns' num' → ns'.length = ns.length → Q (.int num' t') { s with heap := h', toks := tk' }) :
    wpAny (model prog w) A (call (.ref 194) [.ref a, .int num t, .int 3 td, .int v u]) Q E s := by
  refine' enter (binds := [(Str.ofString "heap", .ref a), (Str.ofString "number", .int num t), (Str.ofString "deed", .int 3 td), (Str.ofString "value", .int v u)]) (news := [(a, listOf vs.toArray n)]) S (by simpa using ha) ?k6 ?k7 ?k8 ?k9 ?kB ?c5 ?c2 ?c3 ?c4 ?_
  (case k6 => k_is)
  (case k7 => k_is)
  (case k8 => ktr_room)
  (case k9 => exact BindsTo.of_eq rfl)
  (case c5 => decide)
  (case kB => exact locs rfl)
  (case c2 => exact rfl)
  (case c3 => exact rfl)
  (case c4 => exact rfl)
  intro base frs g L' h' hK hG hsz F' N' hlt B' X' T'
  obtain ⟨hA1, dp, fr, gd, un⟩ := A
  have hH1 : hA1 = none := S.handled
  have hF1 : fr = some frs := B'.stack
  subst hH1 hF1
  have hdp : dp + 16 < recursionLimit := hdp
  have hu : un + 120 < cLine := hu
  k_steps
  refine Stop.go ?_
  (rename Fr _ _ _ _ => F1)
  (rename News _ _ _ _ => N1)
  obtain ⟨ss, b1, b2⟩ := hI.num
  have b3 := cnt_length b2
  refine put_sem (site_in [] B' F1 X' T' News.nil rfl rfl) b1 (by lia) h0 h1 (by ktr_room) (by ktr_units) ?_
  intro h2 tk2 n2 t2 K2 hN2
  obtain ⟨F2, N2⟩ := back_none K2 F1 N1
  clear F1 N1
  k_steps
  refine Stop.go ?_
  (rename Fr _ _ _ _ => F3)
  (rename News _ _ _ _ => N3)
  refine pushpop_spec (site_in [(a, _)] B' F3 X' T' N3 rfl rfl) (got1 N3) hi (by lia) (by ktr_room) (by ktr_units) ?_ ?_
  · intro c1 c2 h4 tk4 vs4 n4 t4 K4 g4 I4
    obtain ⟨F4, N4⟩ := back_head K4 g4 F3 N3 (List.forall_mem_nil _)
    clear F3 N3
    obtain ⟨ss', b4, b5⟩ := hI.split c1
    have b6 : ss = ns.getD 0 0 :: ss' := srt_unique b1.srt b4.srt (fun u => by rw [b2 u, b5 u])
    rw [b6, ins, if_neg (by lia)] at hN2
    k_steps
    refine Stop.go ?_
    (rename Fr _ _ _ _ => F5)
    (rename News _ _ _ _ => N5)
    refine least_sem (site_in [] B' F5 X' T' News.nil rfl rfl) hN2 (by ktr_room) (by ktr_units) ?_
    intro h6 tk6 K6
    obtain ⟨F6, N6⟩ := back_none K6 F5 N5
    clear F5 N5
    k_steps
    refine Stop.go ?_
    (rename Fr _ _ _ _ => F7)
    (rename News _ _ _ _ => N7)
    refine taken_sem (site_in [] B' F7 X' T' News.nil rfl rfl) hN2 (by ktr_room) (by ktr_units) ?_
    intro h8 tk8 n8 t8 K8 hN8
    obtain ⟨F8, N8⟩ := back_none K8 F7 N7
    clear F7 N7
    k_steps
    exact ret _ _ vs4 n4 _ n8 t8 (kept1 hK F8) (N8.get (.head _)) I4 (Inv.repl hI.heap c1 b5 hN8) (by rw [siftup_length, List.length_set])
  · intro c1 h4 tk4 vs4 n4 t4 K4 g4 I4
    obtain ⟨F4, N4⟩ := back_head K4 g4 F3 N3 (List.forall_mem_nil _)
    clear F3 N3
    obtain ⟨rest, b4, b5⟩ : ∃ rest, ins v ss = v :: rest ∧ ∀ u, rest.count u = ss.count u := by
      refine ins_head fun x hx => ?_
      by_cases hne : 0 < ns.length
      · obtain ⟨ss', c4, c5⟩ := hI.split hne
        have c6 : ss = ns.getD 0 0 :: ss' := srt_unique b1.srt c4.srt (fun u => by rw [b2 u, c5 u])
        rw [c6] at hx
        have hx' : ns.getD 0 0 = x := by simpa using hx
        have := c1 hne
        lia
      · have : ss = [] := List.eq_nil_of_length_eq_zero (by lia)
        rw [this] at hx
        simp at hx
    rw [b4] at hN2
    k_steps
    refine Stop.go ?_
    (rename Fr _ _ _ _ => F5)
    (rename News _ _ _ _ => N5)
    refine least_sem (site_in [] B' F5 X' T' News.nil rfl rfl) hN2 (by ktr_room) (by ktr_units) ?_
    intro h6 tk6 K6
    obtain ⟨F6, N6⟩ := back_none K6 F5 N5
    clear F5 N5
    k_steps
    refine Stop.go ?_
    (rename Fr _ _ _ _ => F7)
    (rename News _ _ _ _ => N7)
    refine taken_sem (site_in [] B' F7 X' T' News.nil rfl rfl) hN2 (by ktr_room) (by ktr_units) ?_
    intro h8 tk8 n8 t8 K8 hN8
    obtain ⟨F8, N8⟩ := back_none K8 F7 N7
    clear F7 N7
    k_steps
    exact ret _ _ vs4 n4 _ n8 t8 (kept1 hK F8) (N8.get (.head _)) I4 ⟨hI.heap, _, hN8, fun u => by rw [b5 u, b2 u]⟩ rfl

theorem call1 {a : Addr} {vs : List Value} {n : Nat} {ns : List Int} {num v : Int} {t td u : Tok} (S : Site w mean mg mb A (hideAll s.heap [a])) (ha : s.heap.get? a = some (listOf vs.toArray n)) (hi : IntsAre vs ns) (hI : Inv ns num) (hl : ns.length ≤ 9) (hne : 0 < ns.length)
    (hdp : A.depth + 16 < recursionLimit) (hu : A.units + 120 < cLine)
    (ret : ∀ h' tk' vs' n' ns' num' t', Kept [a] s.heap h' → h'.get? a = some (listOf vs'.toArray n') → IntsAre vs' ns' → Inv ns' num' → ns'.length + 1 = ns.length → Q (.int num' t') { s with heap := h', toks := tk' }) :
    wpAny (model prog w) A (call (.ref 194) [.ref a, .int num t, .int 1 td, .int v u]) Q E s := by
  refine' enter (binds := [(Str.ofString "heap", .ref a), (Str.ofString "number", .int num t), (Str.ofString "deed", .int 1 td), (Str.ofString "value", .int v u)]) (news := [(a, listOf vs.toArray n)]) S (by simpa using ha) ?k6 ?k7 ?k8 ?k9 ?kB ?c5 ?c2 ?c3 ?c4 ?_
  (case k6 => k_is)
  (case k7 => k_is)
  (case k8 => ktr_room)
  (case k9 => exact BindsTo.of_eq rfl)
  (case c5 => decide)
  (case kB => exact locs rfl)
  (case c2 => exact rfl)
  (case c3 => exact rfl)
  (case c4 => exact rfl)
  intro base frs g L' h' hK hG hsz F' N' hlt B' X' T'
  obtain ⟨hA1, dp, fr, gd, un⟩ := A
  have hH1 : hA1 = none := S.handled
  have hF1 : fr = some frs := B'.stack
  subst hH1 hF1
  have hdp : dp + 16 < recursionLimit := hdp
  have hu : un + 120 < cLine := hu
  k_steps
  refine Stop.go ?_
  (rename Fr _ _ _ _ => F1)
  (rename News _ _ _ _ => N1)
  obtain ⟨ss, b1, b2⟩ := hI.split hne
  refine pop_spec (site_in [(a, _)] B' F1 X' T' N1 rfl rfl) (got1 N1) hi (by lia) hne (by ktr_room) (by ktr_units) ?_
  intro h4 tk4 vs4 n4 t4 K4 g4 I4
  obtain ⟨F4, N4⟩ := back_head K4 g4 F1 N1 (List.forall_mem_nil _)
  clear F1 N1
  k_steps
  refine Stop.go ?_
  (rename Fr _ _ _ _ => F5)
  (rename News _ _ _ _ => N5)
  refine least_sem (site_in [] B' F5 X' T' News.nil rfl rfl) b1 (by ktr_room) (by ktr_units) ?_
  intro h6 tk6 K6
  obtain ⟨F6, N6⟩ := back_none K6 F5 N5
  clear F5 N5
  k_steps
  refine Stop.go ?_
  (rename Fr _ _ _ _ => F7)
  (rename News _ _ _ _ => N7)
  refine taken_sem (site_in [] B' F7 X' T' News.nil rfl rfl) b1 (by ktr_room) (by ktr_units) ?_
  intro h8 tk8 n8 t8 K8 hN8
  obtain ⟨F8, N8⟩ := back_none K8 F7 N7
  clear F7 N7
  k_steps
  (rename Fr _ _ _ _ => F9)
  (rename News _ _ _ _ => N9)
  obtain ⟨p1, p2⟩ := Inv.pop hI.heap hne b2 hN8
  exact ret _ _ vs4 n4 _ n8 t8 (kept1 hK F9) (N9.get (.head _)) I4 p1 p2

theorem call2 {a : Addr} {vs : List Value} {n : Nat} {ns : List Int} {num v : Int} {t td u : Tok} (S : Site w mean mg mb A (hideAll s.heap [a])) (ha : s.heap.get? a = some (listOf vs.toArray n)) (hi : IntsAre vs ns) (hI : Inv ns num) (hl : ns.length ≤ 9) (hne : 0 < ns.length) (h0 : -7 ≤ v) (h1 : v ≤ 7)
    (hdp : A.depth + 16 < recursionLimit) (hu : A.units + 120 < cLine)
    (ret : ∀ h' tk' vs' n' ns' num' t', Kept [a] s.heap h' → h'.get? a = some (listOf vs'.toArray n') → IntsAre vs' ns' → Inv ns' num' → ns'.length = ns.length → Q (.int num' t') { s with heap := h', toks := tk' }) :
    wpAny (model prog w) A (call (.ref 194) [.ref a, .int num t, .int 2 td, .int v u]) Q E s := by
  refine' enter (binds := [(Str.ofString "heap", .ref a), (Str.ofString "number", .int num t), (Str.ofString "deed", .int 2 td), (Str.ofString "value", .int v u)]) (news := [(a, listOf vs.toArray n)]) S (by simpa using ha) ?k6 ?k7 ?k8 ?k9 ?kB ?c5 ?c2 ?c3 ?c4 ?_
  (case k6 => k_is)
  (case k7 => k_is)
  (case k8 => ktr_room)
  (case k9 => exact BindsTo.of_eq rfl)
  (case c5 => decide)
  (case kB => exact locs rfl)
  (case c2 => exact rfl)
  (case c3 => exact rfl)
  (case c4 => exact rfl)
  intro base frs g L' h' hK hG hsz F' N' hlt B' X' T'
  obtain ⟨hA1, dp, fr, gd, un⟩ := A
  have hH1 : hA1 = none := S.handled
  have hF1 : fr = some frs := B'.stack
  subst hH1 hF1
  have hdp : dp + 16 < recursionLimit := hdp
  have hu : un + 120 < cLine := hu
  k_steps
  refine Stop.go ?_
  (rename Fr _ _ _ _ => F1)
  (rename News _ _ _ _ => N1)
  obtain ⟨ss, b1, b2⟩ := hI.split hne
  have b3 := cnt_length b2
  rw [List.length_cons] at b3
  refine replace_spec (site_in [(a, _)] B' F1 X' T' N1 rfl rfl) (got1 N1) hi (by lia) hne (by ktr_room) (by ktr_units) ?_
  intro h4 tk4 vs4 n4 t4 K4 g4 I4
  obtain ⟨F4, N4⟩ := back_head K4 g4 F1 N1 (List.forall_mem_nil _)
  clear F1 N1
  k_steps
  refine Stop.go ?_
  (rename Fr _ _ _ _ => F5)
  (rename News _ _ _ _ => N5)
  refine least_sem (site_in [] B' F5 X' T' News.nil rfl rfl) b1 (by ktr_room) (by ktr_units) ?_
  intro h6 tk6 K6
  obtain ⟨F6, N6⟩ := back_none K6 F5 N5
  clear F5 N5
  k_steps
  refine Stop.go ?_
  (rename Fr _ _ _ _ => F7)
  (rename News _ _ _ _ => N7)
  refine taken_sem (site_in [] B' F7 X' T' News.nil rfl rfl) b1 (by ktr_room) (by ktr_units) ?_
  intro h8 tk8 n8 t8 K8 hN8
  obtain ⟨F8, N8⟩ := back_none K8 F7 N7
  clear F7 N7
  k_steps
  refine Stop.go ?_
  (rename Fr _ _ _ _ => F9)
  (rename News _ _ _ _ => N9)
  refine put_sem (site_in [] B' F9 X' T' News.nil rfl rfl) hN8 (by lia) h0 h1 (by ktr_room) (by ktr_units) ?_
  intro h10 tk10 n10 t10 K10 hN10
  obtain ⟨F10, N10⟩ := back_none K10 F9 N9
  clear F9 N9
  k_steps
  exact ret _ _ vs4 n4 _ n10 t10 (kept1 hK F10) (N10.get (.head _)) I4 (Inv.repl hI.heap hne b2 hN10) (by rw [siftup_length, List.length_set])
end
end Mine
end
section
open PySem PySem.W PyProof.Rows PySem.Calls
set_option maxRecDepth 100000
set_option maxHeartbeats 8000000
namespace Mine
theorem pop_empty {prog : Program} {w : World} {A : Around} {s : Shared} {Q E : Value → Shared → Prop} {D : Addr} {n : Nat} (hh : A.handled = none) (ho : s.heap.get? D = some (listOf ([] : List Value).toArray n))
    (hE : ∀ h' tk e, Heap.NewExc s.heap h' e "IndexError" → E (.ref e) { s with heap := h', toks := tk }) :
    wpAny (model prog w) A (call (.builtin "list.pop") [.ref D]) Q E s := by
  refine wpAny_call_entry F.slot_list_pop ⟨_, ho, rfl⟩ F.entry_list_pop ?_ (F.args_list_pop_1 _)
  unfold Builtin.«list.pop»
  refine wpAny_bind (wpAny_of_eq (a := (Value.ref D, [])) rfl ?_)
  dsimp only
  refine wpAny_bind (wpAny_pure ?_)
  rw [if_neg (show ¬ ((!Builtin.List.listFitsIndex (-1)) = true) by decide)]
  refine wpAny_bind (wpAny_listItems ho rfl ?_)
  refine wpAny_bind (wpAny_rule ?_)
  first
    | exact wpAny_bind (wpAny_raiseErrorWords plainExc_IndexError hh hE)
    | exact wpAny_raiseErrorWords plainExc_IndexError hh hE
end Mine
end
section
local macro_rules | `(tactic| walk_at "no such key") => `(tactic| skip)
local macro_rules | `(tactic| walk_at "no such key") => `(tactic| skip)
local macro_rules | `(tactic| walk_at "no such key") => `(tactic| skip)
local macro_rules | `(tactic| walk_at "no such key") => `(tactic| skip)
local macro_rules | `(tactic| walk_at "no such key") => `(tactic| skip)
local macro_rules | `(tactic| walk_at "no such key") => `(tactic| skip)
local macro_rules | `(tactic| walk_at "no such key") => `(tactic| skip)
local macro_rules | `(tactic| walk_at "no such key") => `(tactic| skip)
local macro_rules | `(tactic| walk_at "no such key") => `(tactic| skip)
local macro_rules | `(tactic| walk_at "no such key") => `(tactic| skip)
open PySem PySem.W PyProof.Rows PySem.Calls
set_option maxRecDepth 100000
set_option maxHeartbeats 8000000
namespace Mine
example : (True ∨ (PySem.Challenge.rw_rt0003_01 = PySem.Challenge.rw_rt0003_01 ∧ hd.heap_39 = hd.heap_39)) := by
  k_with_none
  w_top off
  k_fill
  exact .inl trivial

local macro_rules | `(tactic| walk_at "call builtin:list.pop") => `(tactic| (k_here; (with_reducible show wpAny _ _ (call (Value.builtin _) [Value.ref _]) _ _ _); (rename News _ _ _ _ => kN); k_dflt (refine pop_empty rfl (kN.get (.head _)) ?_); intro h' tk' e' x'))
section
variable {prog : Program} {w : World} {mean : ExcName → Option Value} {mg mb : Str → Option Value} {A A₀ : Around} {s : Shared} {Q E : Value → Shared → Prop}

theorem call1e {H : Heap} {L fa a : Addr} {m : Str → Option Value} {cn : Str} {nm : List (Str × NameKind)} {gg cc : Bool} {mo : List (Str × Const)} {ccd : Value} {news : List (Addr × Obj)} {n : Nat} {v : Int} {t td u : Tok}
    (B : Below callerA H [] H) (F : Fr H L s.heap m) (X : (hd.heap_39 w.params).In H) (T : Top hd.view_39 (looseW hd.view_39 [Str.ofString "b2a_base64", Str.ofString "b64encode"]) mean mg mb H)
    (N : News H L s.heap ((a, listOf ([] : List Value).toArray n) :: news))
    (ret : ∀ h' tk' t', Fr H L h' m → News H L h' ((a, listOf ([] : List Value).toArray n) :: news) → Q (.int 0 t') { s with heap := h', toks := tk' }) :
    wpAny (model prog w) (callerA.deeper (envOf cn { kind := .function, names := nm, isGenerator := gg, isCoroutine := cc, more := mo } L fa ccd)) (call (.ref 194) [.ref a, .int 0 t, .int 1 td, .int v u]) Q E s := by
  k_steps
  exact ret _ _ _ (by assumption) (by assumption)

theorem call2e {H : Heap} {L fa a : Addr} {m : Str → Option Value} {cn : Str} {nm : List (Str × NameKind)} {gg cc : Bool} {mo : List (Str × Const)} {ccd : Value} {news : List (Addr × Obj)} {n : Nat} {v : Int} {t td u : Tok}
    (B : Below callerA H [] H) (F : Fr H L s.heap m) (X : (hd.heap_39 w.params).In H) (T : Top hd.view_39 (looseW hd.view_39 [Str.ofString "b2a_base64", Str.ofString "b64encode"]) mean mg mb H)
    (N : News H L s.heap ((a, listOf ([] : List Value).toArray n) :: news))
    (ret : ∀ h' tk' t', Fr H L h' m → News H L h' ((a, listOf ([] : List Value).toArray n) :: news) → Q (.int 0 t') { s with heap := h', toks := tk' }) :
    wpAny (model prog w) (callerA.deeper (envOf cn { kind := .function, names := nm, isGenerator := gg, isCoroutine := cc, more := mo } L fa ccd)) (call (.ref 194) [.ref a, .int 0 t, .int 2 td, .int v u]) Q E s := by
  k_steps
  exact ret _ _ _ (by assumption) (by assumption)
end
end Mine
end
section
open PySem PySem.W PyProof.Rows PySem.Calls
set_option maxRecDepth 100000
set_option maxHeartbeats 8000000
namespace Mine
example : (True ∨ (PySem.Challenge.rw_rt0003_01 = PySem.Challenge.rw_rt0003_01 ∧ hd.heap_39 = hd.heap_39)) := by
  k_with_none
  w_top off
  k_fill
  exact .inl trivial
local macro_rules | `(tactic| k_room) => `(tactic| ktr_room)
local macro_rules | `(tactic| walk_at "call ref") => `(tactic| (k_here; (with_reducible show wpAny _ _ (call (Value.ref 161) _ _) _ _ _); refine Stop.halt ?_))
local macro_rules | `(tactic| walk_at "call ref") => `(tactic| (k_here; (with_reducible show wpAny _ _ (call (Value.ref 166) _ _) _ _ _); refine Stop.halt ?_))
local macro_rules | `(tactic| walk_at "call ref") => `(tactic| (k_here; (with_reducible show wpAny _ _ (call (Value.ref 187) _ _) _ _ _); refine Stop.halt ?_))

theorem ones_list {ss : List Int} : List.map (fun k' => (onesL 0 (-7) ss).getD k'.toNat 0 - (k' + 7)) (rangeKs 0 (((onesL 0 (-7) ss).length : Int) - 0).toNat) = ss := by
  have e : (((onesL 0 (-7) ss).length : Int) - 0).toNat = ss.length := by rw [onesL_length]; lia
  rw [e]
  refine List.ext_getElem (by simp [rangeKs]) fun i h1 h2 => ?_
  simp only [rangeKs, List.getElem_map, List.getElem_range]
  have e2 : ((0 : Int) + (i : Int)).toNat = i := by lia
  rw [e2, onesL_get h2, List.getD_eq_getElem?_getD, List.getElem?_eq_getElem h2, Option.getD_some]
  lia
theorem srt_of {b : Int} : ∀ {l : List Int}, l.Pairwise (· ≤ ·) → (∀ x ∈ l, b ≤ x) → Srt b l
  | [], _, _ => trivial
  | x :: xs, hp, hb => by
    rw [List.pairwise_cons] at hp
    exact ⟨hb x (.head _), srt_of hp.2 hp.1⟩
theorem sorted_ss {ss ns ms : List Int} {n : Int} (h : Num ss n) (hc : ∀ v, ss.count v = ns.count v) (hp : ms.Perm ns) (ho : ms.Pairwise (· ≤ ·)) : ss = ms := by
  have hc2 : ∀ v, ss.count v = ms.count v := fun v => by rw [hc v, hp.count_eq]
  exact srt_unique h.srt (srt_of (b := -7) ho fun x hx => h.srt.ge x (cnt_mem hc2 hx)) hc2
section
variable {prog : Program} {w : World} {mean : ExcName → Option Value} {mg mb : Str → Option Value} {A A₀ : Around} {s : Shared} {Q E : Value → Shared → Prop}

theorem stands_spec {a : Addr} {vs : List Value} {n : Nat} {ns : List Int} {num : Int} {t : Tok} (S : Site w mean mg mb A (hideAll s.heap [])) (ha : s.heap.get? a = some (listOf vs.toArray n)) (hi : IntsAre vs ns)
    (hI : Inv ns num) (hl : ns.length ≤ 10)
    (hdp : A.depth + 14 < recursionLimit) (hu : A.units + 100 < cLine)
    (ret : ∀ h' tk', Kept [] s.heap h' → Q (.bool true) { s with heap := h', toks := tk' }) :
    wpAny (model prog w) A (call (.ref 199) [.ref a, .int num t]) Q E s := by
  refine' enterC (binds := [(Str.ofString "heap", .ref a), (Str.ofString "number", .int num t)]) (news := []) S (fun p hp => nomatch hp) ?k6 ?k7 ?k8 ?k9 ?kB ?kD ?c2 ?c3 ?c4 ?_
  (case k6 => k_is)
  (case k7 => k_is)
  (case k8 => ktr_room)
  (case k9 => exact BindsTo.of_eq rfl)
  (case kB => exact rfl)
  (case kD => decide +kernel)
  (case c2 => exact rfl)
  (case c3 => exact rfl)
  (case c4 => exact rfl)
  intro base frs g L' h' tk1 cells hK hG hsz F' N' Y' hlt B' X' T'
  obtain ⟨hA1, dp, fr, gd, un⟩ := A
  have hH1 : hA1 = none := S.handled
  have hF1 : fr = some frs := B'.stack
  subst hH1 hF1
  have hdp : dp + 14 < recursionLimit := hdp
  have hu : un + 100 < cLine := hu
  obtain ⟨c1, hE, d1⟩ := CellsAre.one Y'
  subst hE
  clear Y'
  replace F' : Fr g L' h' (fun y => if y = Str.ofString "number" then some (.int num t) else if y = Str.ofString "heap" then some (.ref a) else none) := F'
  replace d1 : c1.data = .cell none := d1
  simp only [List.cons_append, List.nil_append] at N'
  have hl9 : g.IsList a vs.toArray := ⟨_, hK _ _ (fun q => nomatch q) ha, rfl, _, rfl⟩
  obtain ⟨ss, b1, b2⟩ := hI.num
  have b3 := cnt_length b2
  obtain ⟨b4, b5⟩ := b1.lt (by lia)
  k_steps
  refine Stop.go ?_
  (rename Fr _ _ _ _ => F1)
  (rename News _ _ _ _ => N1)
  refine bits_spec (site_inC [] B' F1 X' T' News.nil rfl rfl) b4 b5 (by ktr_room) (by ktr_units) ?_
  intro h2 tk2 a2 vs2 n2 K2 g2 nn2 I2
  obtain ⟨F2, N2⟩ := back_new K2 g2 nn2 F1 N1
  clear F1 N1
  have b6 : (bitsF num).length = 24 := by rw [b1.bits (by lia), bitsR_length]
  k_steps
  refine Stop.go ?_
  (rename Fr _ _ _ _ => F3)
  (rename News _ _ _ _ => N3)
  refine where_spec (site_inC [] B' F3 X' T' News.nil rfl rfl) (N3.get (.head _)) I2 (by lia) (by ktr_room) (by ktr_units) ?_
  intro h4 tk4 a4 vs4 n4 K4 g4 nn4 I4
  obtain ⟨F4, N4⟩ := back_new K4 g4 nn4 F3 N3
  clear F3 N3
  rw [b1.ones (by lia)] at I4
  have b7 : (onesL 0 (-7) ss).length = ss.length := onesL_length
  k_steps
  · exfalso
    lia
  · (rename decide (ns = []) = true => hd9)
    rw [hd9]
    exact ret _ _ (kept0 hK (by assumption))
  · (rename decide (ns = []) = false => hd9)
    have hne : 0 < ns.length := by
      rcases ns with _ | ⟨y, ys⟩
      · simp at hd9
      · simp
    obtain ⟨ss', b8, b9⟩ := hI.split hne
    k_steps
    refine Stop.go ?_
    (rename Fr _ _ _ _ => F5)
    (rename News _ _ _ _ => N5)
    refine least_sem (site_inC [] B' F5 X' T' News.nil rfl rfl) b8 (by ktr_room) (by ktr_units) ?_
    intro h6 tk6 K6
    obtain ⟨F6, N6⟩ := back_none K6 F5 N5
    clear F5 N5
    k_steps
    exact ret _ _ (kept0 hK F6)
  · (rename ¬ (List.map _ _ = _) => hd9)
    (rename List.Perm _ _ => hp9)
    (rename List.Pairwise _ _ => ho9)
    exact absurd (ones_list.trans (sorted_ss b1 b2 hp9 ho9)) hd9
end
end Mine
end
section
open PySem PySem.W PyProof.Rows PySem.Calls
set_option maxRecDepth 100000
set_option maxHeartbeats 8000000
namespace Mine
/-- a for over a range whose name is a cell -/
theorem For_cell {prog : Program} {w : World} {A : Around} {s : Shared} {env : Env} {h₀ : Heap} {x stored : Str} {px pos : Pos} {iter : PySem.Expr} {body : List Stmt} {Q : Flow → Shared → Prop} {E : Value → Shared → Prop}
    {c : Addr} {n : Nat} {m : Str → Option Value} {rest : List (Addr × Obj)}
    (F₀x : Fr h₀ env.locals s.heap m) (hh : A.handled = none) (hk : env.scope.kind = .function) (hl : env.kindOf x = some .cell) (hc : env.cells.lookup x = some c)
    (hs : ∀ z, foldedSetIterable iter env z = pure z) (hn : n < 1000) (hcr : ∀ p ∈ rest, p.1 ≠ c)
    (h : wpAny (model prog w) A (eval iter env) (fun xv s₁ => Stop (∃ r t u v h tk oc v₀, xv = .ref r ∧ s₁ = { s with heap := h, toks := tk } ∧ IsRange h r 0 (n : Int) 1 t u v ∧ Fr h₀ env.locals h m ∧ oc.data = .cell v₀ ∧ News h₀ env.locals h ((c, oc) :: rest))) E s)
    (turn : ∀ (i : Nat) (t : Tok) (I : Addr) (oI oc : Obj) (h : Heap) (tk : Nat) (u : Str → Option Value), i < n → oc.data = .cell (some (.int (i : Int) t)) → I ≠ c → (∀ p ∈ rest, p.1 ≠ I) → Fr h₀ env.locals h (fun y => if y = stored then u y else m y) → News h₀ env.locals h ((I, oI) :: (c, oc) :: rest) →
      wpAny (model prog w) A (execs body env) (fun f s₃ => match f with
        | .next | .cont => Stop (∃ (h' : Heap) (tk' : Nat) (u' : Str → Option Value), s₃ = { s with heap := h', toks := tk' } ∧ Fr h₀ env.locals h' (fun y => if y = stored then u' y else m y) ∧ News h₀ env.locals h' ((I, oI) :: (c, oc) :: rest))
        | .brk => Q .next s₃
        | .ret v => Q (.ret v) s₃) E { s with heap := h, toks := tk })
    (done : ∀ (h' : Heap) (tk' : Nat) (u : Str → Option Value), Fr h₀ env.locals h' (fun y => if y = stored then u y else m y) → News h₀ env.locals h' rest → Q .next { s with heap := h', toks := tk' })
    (hE : PassesOwn (model prog w) A env E) :
    wpAny (model prog w) A (exec (.For (.Name x px) iter body [] pos) env) Q E s := by
  refine wpAny_For (wpAny_mono h (fun xv s₁ h₁ => ?_) fun _ _ e => e) hs
  unfold Stop at h₁
  obtain ⟨r, t, u, v, h, tk, oc, v₀, rfl, rfl, hr, F, hoc, N⟩ := h₁
  have hsz : Builtin.Range.rangeSize 0 (n : Int) 1 = (n : Int) := by
    unfold Builtin.Range.rangeSize
    simp only [show (1 : Int) > 0 from by decide, if_true, Int.ediv_one]
    split <;> omega
  have hsm : Builtin.Range.small 0 (n : Int) 1 = true := by
    unfold Builtin.Range.small
    rw [hsz, if_pos (by decide)]
    have f : ∀ z : Int, 0 ≤ z → z < 2000 → Builtin.Range.rangeFitsLong z = true := fun z h0 h1 => by
      simp only [Builtin.Range.rangeFitsLong, Bool.and_eq_true, decide_eq_true_eq]
      omega
    rw [f 0 (by decide) (by decide), f n (by omega) (by omega), f 1 (by decide) (by decide), f _ (by omega) (by omega)]
    simp
  refine wpAny_pyIter_range hr hsm ?_
  rw [hsz]
  dsimp only
  generalize hH1 : h.push { cls := .type "range_iterator", data := .fields #[rawInt 0, rawInt (n : Int), rawInt 1] } = H1
  have gI : IsRangeIter H1 h.objs.size 0 (n : Int) 1 := hH1 ▸ Heap.get?_push_size _ rfl
  have up : ∀ b o, h.get? b = some o → H1.get? b = some o := fun b o e => hH1 ▸ Heap.get?_push_of_some _ e
  have hIL : env.locals ≠ h.objs.size := Nat.ne_of_lt F.ns.lt
  have hI0 : h₀.get? h.objs.size = none := next_is_new F
  have hcI : h.objs.size ≠ c := Ne.symm (Nat.ne_of_lt (Heap.lt_size (N _ (.head _)).1))
  have hrI : ∀ p ∈ rest, p.1 ≠ h.objs.size := fun p hp => Nat.ne_of_lt (Heap.lt_size (N p (.tail _ hp)).1)
  generalize h.objs.size = I at gI hIL hI0 hcI hrI
  have W := (Walks.range (prog := prog) (w := w) (A := A) hh I 0 1 n).bound
  refine codeAny_forLoop_any (fun k s' => ∃ (h' : Heap) (tk : Nat) (i : Nat) (u : Str → Option Value) (oc : Obj) (v₀ : Option Value), s' = { s with heap := h', toks := tk } ∧ i ≤ n ∧ k = n + 1 - i ∧ IsRangeIter h' I (0 + (i : Nat) * 1) ((n : Int) - (i : Nat)) 1 ∧ Fr h₀ env.locals h' (fun y => if y = stored then u y else m y) ∧ oc.data = .cell v₀ ∧ News h₀ env.locals h' ((c, oc) :: rest)) ?_ (n + 1)
    ⟨H1, tk, 0, m, oc, v₀, rfl, Nat.zero_le _, rfl, by simpa using gI, ?_, hoc, fun p hp => ⟨up _ _ (N p hp).1, (N p hp).2⟩⟩
  · rintro k s' ⟨h', tk', i, u', oc', v', rfl, hi, rfl, hI', F', hoc', N'⟩
    by_cases hlt : i < n
    · refine W.item i _ _ _ hlt hI' fun vv h₂ tk₂ hP hst₂ hk₂ => ?_
      obtain ⟨_, tt, rfl⟩ := hP
      have ev : (0 : Int) + (i : Int) * 1 = (i : Int) := by omega
      rw [ev]
      dsimp only
      refine wpAny_of_eq (a := ()) rfl ?_
      have k2 : ∀ b o, b ≠ I → h'.get? b = some o → h₂.get? b = some o := fun b o hb e => hk₂ b o (by simpa using hb) e
      refine wpAny_assign_Name (wpAny_storeName_cell hk hl hc ⟨oc', k2 _ _ (Ne.symm hcI) (N' _ (.head _)).1, hoc'⟩ fun h₃ hc3 hs3 => ?_)
      obtain ⟨oc3, goc3, doc3⟩ := hc3
      have k3 : ∀ b o, b ≠ I → b ≠ c → h'.get? b = some o → h₃.get? b = some o := fun b o hb hb2 e => hs3.extBut b o hb2 (k2 b o hb e)
      have hcL := (N' _ (.head _)).2.1
      have hc0 := (N' _ (.head _)).2.2
      have gI3 : IsRangeIter h₃ I (0 + ((i + 1 : Nat) : Int) * 1) ((n : Int) - ((i + 1 : Nat) : Int)) 1 := hs3.extBut I _ hcI hst₂
      have F3 : Fr h₀ env.locals h₃ (fun y => if y = stored then u' y else m y) := ⟨F'.ns.at' fun o e => k3 _ o hIL (Ne.symm hcL) e, fun b o e => k3 b o (fun q => by rw [q, hI0] at e; cases e) (fun q => by rw [q, hc0] at e; cases e) (F'.keep b o e), F'.above⟩
      obtain ⟨oI3, g3, g3'⟩ : ∃ oI3, h₃.get? I = some oI3 ∧ ∀ h5 : Heap, h5.get? I = some oI3 → IsRangeIter h5 I (0 + ((i + 1 : Nat) : Int) * 1) ((n : Int) - ((i + 1 : Nat) : Int)) 1 := ⟨_, gI3, fun _ e => e⟩
      have N3 : News h₀ env.locals h₃ ((I, oI3) :: (c, oc3) :: rest) := fun p hp => by
        rcases List.mem_cons.mp hp with rfl | hp
        · exact ⟨g3, Ne.symm hIL, hI0⟩
        · rcases List.mem_cons.mp hp with rfl | hp
          · exact ⟨goc3, hcL, hc0⟩
          · exact ⟨k3 _ _ (hrI p hp) (hcr p hp) (N' p (.tail _ hp)).1, (N' p (.tail _ hp)).2⟩
      refine wpAny_mono (wpAny_passesOwn hE (turn i tt I oI3 oc3 h₃ _ u' hlt doc3 hcI hrI F3 N3)) (fun f s₃ p => ?_) fun _ _ e => e
      have fin : Stop (∃ (h' : Heap) (tk' : Nat) (u' : Str → Option Value), s₃ = { s with heap := h', toks := tk' } ∧ Fr h₀ env.locals h' (fun y => if y = stored then u' y else m y) ∧ News h₀ env.locals h' ((I, oI3) :: (c, oc3) :: rest)) →
          ∃ mm, mm < n + 1 - i ∧ ∃ (h' : Heap) (tk : Nat) (i : Nat) (u : Str → Option Value) (oc : Obj) (v₀ : Option Value), s₃ = { s with heap := h', toks := tk } ∧ i ≤ n ∧ mm = n + 1 - i ∧ IsRangeIter h' I (0 + (i : Nat) * 1) ((n : Int) - (i : Nat)) 1 ∧ Fr h₀ env.locals h' (fun y => if y = stored then u y else m y) ∧ oc.data = .cell v₀ ∧ News h₀ env.locals h' ((c, oc) :: rest) := by
        intro hf
        unfold Stop at hf
        obtain ⟨h5, tk5, u5, rfl, F5, N5⟩ := hf
        exact ⟨n + 1 - (i + 1), by omega, h5, tk5, i + 1, u5, oc3, _, rfl, hlt, rfl, g3' _ (N5 _ (.head _)).1, F5, doc3, fun p hp => N5 p (.tail _ hp)⟩
      cases f with
      | next => exact fin p
      | cont => exact fin p
      | brk => exact p
      | ret v => exact p
    · obtain rfl : i = n := by omega
      refine W.done _ _ _ hI' fun h₂ tk₂ hk₂ => ?_
      have k2 : ∀ b o, b ≠ I → h'.get? b = some o → h₂.get? b = some o := fun b o hb e => hk₂ b o (by simpa using hb) e
      exact wpAny_execs_nil (done h₂ tk₂ u' ⟨F'.ns.at' fun o e => k2 _ o hIL e, fun b o e => k2 b o (fun q => by rw [q, hI0] at e; cases e) (F'.keep b o e), F'.above⟩ fun p hp => ⟨k2 _ _ (hrI p hp) (N' p (.tail _ hp)).1, (N' p (.tail _ hp)).2⟩)
  · have em : (fun y => if y = stored then m y else m y) = m := by funext y; split <;> rfl
    rw [em]
    exact ⟨F.ns.at' fun o e => up _ o e, fun b o e => up b o (F.keep b o e), F.above⟩
end Mine
end
section
open PySem PySem.W PyProof.Rows PySem.Calls
set_option maxRecDepth 100000
set_option maxHeartbeats 8000000
namespace Mine
section
variable {prog : Program} {w : World} {A : Around} {s : Shared} {R : Result → Shared → Prop} {env : Env} {elt iter cond : PySem.Expr} {x y : Str} {px py : Pos} {scope : Scope} {pos spos : Pos}
abbrev EltV (prog : Program) (w : World) (A : Around) (e : PySem.Expr) (x : Str) (env : Env) (C : Addr) (hb : Heap) (vs : List Value) (gv : Value → Value) : Prop :=
  ∀ (v : Value) m3 (s' : Shared) (Q : Value → Shared → Prop) (E : Value → Shared → Prop), v ∈ vs → hb.get? C = none → s'.heap.Ns C m3 → m3 x = some v → (∀ b o, hb.get? b = some o → s'.heap.get? b = some o) →
    (∀ h' tk, (∀ b o, s'.heap.get? b = some o → h'.get? b = some o) → Q (gv v) { s' with heap := h', toks := tk }) → wpAny (model prog w) A (eval e env) Q E s'
theorem list_loop {C D I l : Addr} {cl : List (Str × Addr)} {vs : List Value} {m2 : Str → Option Value} {gv : Value → Value} {hb : Heap}
    (hh : A.handled = none) (hkind : scope.kind = .function) (hx : scope.names.lookup x = some .local)
    (hCD : C ≠ D) (hCI : C ≠ I) (hDI : D ≠ I) (hlI : l ≠ I) (hlC : l ≠ C) (hlD : l ≠ D)
    (hD : s.heap.get? D = some (LCg.lst [])) (hC : s.heap.Ns C m2) (hI : s.heap.IsListIter I l 0) (hl : s.heap.IsList l vs.toArray) (hlen : vs.length ≤ 900)
    (hbs : ∀ b o, hb.get? b = some o → s.heap.get? b = some o) (hb1 : hb.get? D = none) (hb2 : hb.get? C = none) (hb3 : hb.get? I = none)
    (helt : EltV prog w A elt x (compEnvC scope cl C env) C hb vs gv)
    (hR : ∀ h' tk m', (∀ b o, hb.get? b = some o → h'.get? b = some o) → h'.get? D = some (LCg.lst (vs.map gv)) → h'.Ns C m' → R (.ok .next) { s with heap := h', toks := tk }) :
    codeAny (model prog w) A (.compLoop (lc1 elt iter x px scope pos) 0 (.ref I) (.ref D) (compEnvC scope cl C env)) R s := by
  have W := Walks.list (prog := prog) (w := w) (A := A) hh I l hlI vs.toArray
  have hn : vs.toArray.size = vs.length := List.size_toArray
  rw [hn] at W
  refine codeAny_loop rfl (fun k s' => ∃ h' tk i m', s' = { s with heap := h', toks := tk } ∧ i ≤ vs.length ∧ k = vs.length + 1 - i ∧ h'.get? D = some (LCg.lst ((vs.take i).map gv)) ∧ h'.Ns C m' ∧
      (h'.IsListIter I l i ∧ h'.IsList l vs.toArray) ∧ (∀ b o, hb.get? b = some o → h'.get? b = some o)) ?_ (vs.length + 1)
    ⟨s.heap, s.toks, 0, m2, rfl, Nat.zero_le _, rfl, hD, hC, ⟨hI, hl⟩, hbs⟩
  rintro k s' ⟨h', tk, i, m', rfl, hi, rfl, hD', hC', hI', hk'⟩
  show wpAny _ A ((compTurn (lc1 elt iter x px scope pos) 0 (.ref I) (.ref D) (compEnvC scope cl C env)).onRaise (fun x => do noteFrame x (compEnvC scope cl C env); theTreesLotGoes x)) _ _ _
  refine wpAny_noted ?_
  rw [compTurn_list1]
  refine wpAny_bind (wpAny_standAt (wpAny_bind ?_))
  by_cases hlt : i < vs.length
  · refine W.item i _ _ _ hlt hI' fun v h₂ tk₂ hPv hst₂ hk₂ => ?_
    have hv : vs[i]? = some v := by simpa using hPv
    dsimp only
    refine wpAny_bind (wpAny_of_eq (a := ()) rfl ?_)
    have hC2 : h₂.Ns C m' := hC'.at' fun o e => hk₂ _ o (by simpa using hCI) e
    refine wpAny_bind (wpAny_assign_Name (wpAny_storeName_local (lookup_relabel_local hx) hC2 (fun h₃ hn₃ hs₃ => ?_) (by simp [compEnvC, relabel, hkind])))
    have hD3 : h₃.get? D = some (LCg.lst ((vs.take i).map gv)) := hs₃.extBut D _ (Ne.symm hCD) (hk₂ _ _ (by simpa using hDI) hD')
    have hI3 : h₃.IsListIter I l (i + 1) ∧ h₃.IsList l vs.toArray := ⟨hst₂.1.at fun o e => hs₃.extBut I o (Ne.symm hCI) e, hst₂.2.at fun o e => hs₃.extBut l o hlC e⟩
    have hb3' : ∀ b o, hb.get? b = some o → h₃.get? b = some o := fun b o e => by
      have h1 : b ≠ I := fun q => by rw [q, hb3] at e; cases e
      have h2 : b ≠ C := fun q => by rw [q, hb2] at e; cases e
      exact hs₃.extBut b o h2 (hk₂ b o (by simpa using h1) (hk' b o e))
    refine wpAny_bind (wpAny_bind ?_)
    refine helt v _ _ _ _ (List.mem_of_getElem? hv) hb2 hn₃ (by simp) hb3' fun h₄ tk₄ k₄ => ?_
    refine wpAny_bind (append_at (hsz := by show ((vs.take i).map gv).toArray.size ≤ sizeLine; rw [List.size_toArray, List.length_map, List.length_take]; exact sizeLine_ge (by lia)) (k₄ _ _ hD3) fun h₅ hs₅ hD₅ => ?_)
    refine wpAny_pure (wpAny_pure ⟨rfl, vs.length + 1 - (i + 1), by lia, h₅, tk₄, i + 1, _, rfl, by lia, rfl, ?_, (hn₃.at' fun o e => k₄ _ o e).sameBut hs₅ hCD, ?_, ?_⟩)
    · rw [List.take_add_one, hv, List.map_append]
      exact hD₅.trans (congrArg some (LCg.lst_snoc _ _))
    · exact ⟨hI3.1.at fun o e => hs₅.extBut I o (Ne.symm hDI) (k₄ _ _ e), hI3.2.at fun o e => hs₅.extBut l o hlD (k₄ _ _ e)⟩
    · intro b o e
      have h1 : b ≠ D := fun q => by rw [q, hb1] at e; cases e
      exact hs₅.extBut b o h1 (k₄ _ _ (hb3' b o e))
  · obtain rfl : i = vs.length := by lia
    refine W.done _ _ _ hI' fun h₂ tk₂ hk₂ => ?_
    rw [List.take_length] at hD'
    refine wpAny_pure (hR h₂ tk₂ m' (fun b o e => ?_) (hk₂ _ _ (by simpa using hDI) hD') (hC'.at' fun o e => hk₂ _ o (by simpa using hCI) e))
    have h1 : b ≠ I := fun q => by rw [q, hb3] at e; cases e
    exact hk₂ b o (by simpa using h1) (hk' b o e)

theorem Assign_ListComp_L {E : Value → Shared → Prop} {h₀ : Heap} {L : Addr} {m : Str → Option Value} {cl : List (Str × Addr)} {Q : Flow → Shared → Prop} {gv : Value → Value} (F₀x : Fr h₀ L s.heap m) (hh : A.handled = none) (hLe : env.locals = L)
    (hsw : swapsWith (lc1 elt iter x px scope pos) (some (.Name y py)) spos.line env = pure true)
    (hclos : closureFor scope env = pure cl) (hcell : ∀ z ∈ scope.names, z.2 ≠ .cell) (hkind : scope.kind = .function)
    (hnames : ∀ z ∈ scope.names, z.2 = .local → scope.names.lookup z.1 = some .local) (hx : scope.names.lookup x = some .local)
    (hy : env.kindOf y = some .local) (hp : (env.scope.kind == .class || (env.scope.kind == .module && env.locals != env.globals)) = false)
    (hs : ∀ z, foldedSetIterable iter env z = pure z)
    (h : wpAny (model prog w) A (eval iter env) (fun xv s₁ => ∃ l vs, xv = .ref l ∧ s₁.heap.IsList l vs.toArray ∧ vs.length ≤ 900 ∧ Fr h₀ L s₁.heap m ∧
      (∀ (C : Addr), EltV prog w A elt x (compEnvC scope cl C env) C s₁.heap vs gv) ∧
      (∀ h' tk D, Fr h₀ L h' (fun z => if z = y then some (.ref D) else m z) → (∀ b o, b ≠ L → s₁.heap.get? b = some o → h'.get? b = some o) → h'.get? D = some (LCg.lst (vs.map gv)) → s₁.heap.get? D = none → Q .next { s₁ with heap := h', toks := tk })) E s) :
    wpAny (model prog w) A (exec (.Assign [.Name y py] (lc1 elt iter x px scope pos) spos) env) Q E s := by
  subst hLe
  rw [lc1, exec_Assign_Name_used _ _ _ _ hsw]
  refine wpAny_bind (wpAny_standAt (wpAny_bind ?_))
  show wpAny _ A (do let _ ← comprehension (.ListComp elt [⟨.Name x px, iter, [], 0⟩] scope pos) scope env _ (newList []) false (eval iter env) (some (assign (.Name y py) env))) _ _ s
  refine wpAny_bind (wpAny_mono (wpAny_comprehension_free (use := some (assign (.Name y py) env)) (Q := fun _ s' => Q .next s') rfl hs hclos hkind hnames
    (wpAny_mono h (fun xv s₁ h₁ => ?_) fun _ _ e => e)) (fun _ s' hq => wpAny_pure (wpAny_pure hq)) fun _ _ e => e)
  obtain ⟨l, vs, rfl, hl, hlen, F, hit, hQ⟩ := h₁
  refine wpAny_pyIter_list hl ?_
  have hll : @LT.lt Nat _ l s₁.heap.objs.size := by obtain ⟨_, e, _⟩ := hl; exact Heap.lt_size e
  refine wpAny_newObj_type (wpAny_newFunctionEnv hcell (by intro y hy; simp at hy) (fun h₁ hns₁ hsb₁ => ?_) hkind)
  dsimp only at hns₁ hsb₁ ⊢
  generalize hH1 : s₁.heap.push { cls := .type "list_iterator", data := .fields #[.ref l, .int 0 0] } = H1 at hns₁ hsb₁ ⊢
  generalize hH2 : H1.push { cls := .type "list", dict := none, data := .seq ([] : List Value).toArray } = H2 at hns₁ hsb₁ ⊢
  have hs1 : H1.objs.size = s₁.heap.objs.size + 1 := by rw [← hH1, Heap.size_push]
  have hs2' : H2.objs.size = H1.objs.size + 1 := by rw [← hH2, Heap.size_push]
  have up1 : ∀ b o, s₁.heap.get? b = some o → H1.get? b = some o := fun b o e => hH1 ▸ Heap.get?_push_of_some _ e
  have up2 : ∀ b o, H1.get? b = some o → H2.get? b = some o := fun b o e => hH2 ▸ Heap.get?_push_of_some _ e
  have up3 : ∀ b o, H2.get? b = some o → h₁.get? b = some o := fun b o e => hsb₁.extBut b o (Nat.ne_of_lt (Heap.lt_size e)) (Heap.get?_push_of_some _ e)
  have gI : H1.get? s₁.heap.objs.size = some { cls := .type "list_iterator", data := .fields #[.ref l, .int 0 0] } := hH1 ▸ Heap.get?_push_size _ rfl
  have gD : H2.get? H1.objs.size = some (LCg.lst []) := hH2 ▸ Heap.get?_push_size _ rfl
  have hst : h₁.IsListIter s₁.heap.objs.size l 0 ∧ h₁.IsList l vs.toArray := ⟨⟨_, up3 _ _ (up2 _ _ gI), rfl, rfl⟩, hl.at fun o e => up3 _ _ (up2 _ _ (up1 _ _ e))⟩
  have loop : codeAny (model prog w) A (.compLoop (lc1 elt iter x px scope pos) 0 (.ref s₁.heap.objs.size) (.ref H1.objs.size) (compEnvC scope cl H2.objs.size env))
      (compPost (model prog w) A E (some (assign (.Name y py) env)) (fun _ s' => Q .next s') (.ref H1.objs.size) H2.objs.size) { s₁ with heap := h₁, toks := s₁.toks + ([] : List (Str × Value)).length } := by
    refine list_loop (hb := s₁.heap) (s := { s₁ with heap := h₁, toks := s₁.toks + ([] : List (Str × Value)).length }) hh hkind hx (neN (by lia)) (neN (by lia)) (neN (by lia)) (neN (by lia)) (neN (by lia)) (neN (by lia)) (up3 _ _ gD) hns₁ hst.1 hst.2 hlen
      (fun b o e => up3 _ _ (up2 _ _ (up1 _ _ e))) (none_of_ge (by lia)) (none_of_ge (by lia)) (none_of_ge (by lia)) (hit _) ?_
    intro h' tk m' k1 k2 k3
    have hLlt : @LT.lt Nat _ env.locals s₁.heap.objs.size := F.ns.lt
    have hL0 : h₀.get? env.locals = none := Heap.get?_none_of_le F.above
    show wpAny _ A (assign (.Name y py) env (.ref H1.objs.size)) _ _ _
    refine wpAny_assign_Name (wpAny_storeName_local hy (F.ns.at' fun o e => k1 _ o e) (fun h₂ hn₂ hs₂ => ?_) hp)
    refine ⟨m', k3.sameBut hs₂ (neN (by lia)), fun h'' hs'' => ?_⟩
    have old : ∀ b o, b ≠ env.locals → s₁.heap.get? b = some o → h''.get? b = some o := fun b o hb e => hs''.extBut b o (fun q => by
      have z : @LT.lt Nat _ b _ := Heap.lt_size e
      have q' : @Eq Nat b H2.objs.size := q
      lia) (hs₂.extBut b o hb (k1 b o e))
    refine hQ h'' _ H1.objs.size ⟨hn₂.at' fun o e => hs''.extBut _ o (neN (by lia)) e, fun b o e => old b o (fun q => by rw [q, hL0] at e; cases e) (F.keep b o e), F.above⟩ old ?_ (none_of_ge (by lia))
    exact hs''.extBut _ _ (neN (by lia)) (hs₂.extBut _ _ (neN (by lia)) k2)
  have W := Walks.list (prog := prog) (w := w) (A := A) hh s₁.heap.objs.size l (neN (by lia)) vs.toArray
  exact codeAny_compStart_list loop (W.self 0 _ _ _ hst loop)

/-! ## a comprehension whose test never holds -/
abbrev lct (elt iter cond : PySem.Expr) (x : Str) (px : Pos) (scope : Scope) (pos : Pos) : PySem.Expr := .ListComp elt [⟨.Name x px, iter, [cond], 0⟩] scope pos
abbrev EltF (prog : Program) (w : World) (A : Around) (c : PySem.Expr) (x : Str) (env : Env) (C : Addr) (hb : Heap) (vs : List Value) : Prop :=
  ∀ (v : Value) m3 (s' : Shared) (Q : Bool → Shared → Prop) (E : Value → Shared → Prop), v ∈ vs → hb.get? C = none → s'.heap.Ns C m3 → m3 x = some v → (∀ b o, hb.get? b = some o → s'.heap.get? b = some o) → (∀ tk, Q false { s' with toks := tk }) → wpAny (model prog w) A (isTrue c env (eval c env)) Q E s'
theorem ListComp_none {E : Value → Shared → Prop} {cl : List (Str × Addr)} {Q : Value → Shared → Prop} (hh : A.handled = none)
    (hclos : closureFor scope env = pure cl) (hcell : ∀ z ∈ scope.names, z.2 ≠ .cell) (hkind : scope.kind = .function)
    (hnames : ∀ z ∈ scope.names, z.2 = .local → scope.names.lookup z.1 = some .local) (hx : scope.names.lookup x = some .local)
    (hs : ∀ z, foldedSetIterable iter env z = pure z)
    (h : wpAny (model prog w) A (eval iter env) (fun xv s₁ => ∃ l vs, xv = .ref l ∧ s₁.heap.IsList l vs.toArray ∧
      (∀ (C : Addr), EltF prog w A cond x (compEnvC scope cl C env) C s₁.heap vs) ∧
      (∀ h' tk D, (∀ b o, s₁.heap.get? b = some o → h'.get? b = some o) → h'.get? D = some (LCg.lst []) → s₁.heap.get? D = none → Q (.ref D) { s₁ with heap := h', toks := tk })) E s) :
    wpAny (model prog w) A (eval (lct elt iter cond x px scope pos) env) Q E s := by
  rw [lct, eval_ListComp]
  refine wpAny_comprehension_free (use := none) rfl hs hclos hkind hnames (wpAny_mono h (fun xv s₁ h₁ => ?_) fun _ _ e => e)
  obtain ⟨l, vs, rfl, hl, hit, hQ⟩ := h₁
  refine wpAny_pyIter_list hl ?_
  have hll : @LT.lt Nat _ l s₁.heap.objs.size := by obtain ⟨_, e, _⟩ := hl; exact Heap.lt_size e
  refine wpAny_newObj_type (wpAny_newFunctionEnv hcell (by intro y hy; simp at hy) (fun h₁ hns₁ hsb₁ => ?_) hkind)
  dsimp only at hns₁ hsb₁ ⊢
  generalize hH1 : s₁.heap.push { cls := .type "list_iterator", data := .fields #[.ref l, .int 0 0] } = H1 at hns₁ hsb₁ ⊢
  generalize hH2 : H1.push { cls := .type "list", dict := none, data := .seq ([] : List Value).toArray } = H2 at hns₁ hsb₁ ⊢
  have hs1 : H1.objs.size = s₁.heap.objs.size + 1 := by rw [← hH1, Heap.size_push]
  have hs2' : H2.objs.size = H1.objs.size + 1 := by rw [← hH2, Heap.size_push]
  have up1 : ∀ b o, s₁.heap.get? b = some o → H1.get? b = some o := fun b o e => hH1 ▸ Heap.get?_push_of_some _ e
  have up2 : ∀ b o, H1.get? b = some o → H2.get? b = some o := fun b o e => hH2 ▸ Heap.get?_push_of_some _ e
  have up3 : ∀ b o, H2.get? b = some o → h₁.get? b = some o := fun b o e => hsb₁.extBut b o (Nat.ne_of_lt (Heap.lt_size e)) (Heap.get?_push_of_some _ e)
  have gI : H1.get? s₁.heap.objs.size = some { cls := .type "list_iterator", data := .fields #[.ref l, .int 0 0] } := hH1 ▸ Heap.get?_push_size _ rfl
  have gD : H2.get? H1.objs.size = some (LCg.lst []) := hH2 ▸ Heap.get?_push_size _ rfl
  have hst : h₁.IsListIter s₁.heap.objs.size l 0 ∧ h₁.IsList l vs.toArray := ⟨⟨_, up3 _ _ (up2 _ _ gI), rfl, rfl⟩, hl.at fun o e => up3 _ _ (up2 _ _ (up1 _ _ e))⟩
  have hk1 : ∀ b o, s₁.heap.get? b = some o → h₁.get? b = some o := fun b o e => up3 _ _ (up2 _ _ (up1 _ _ e))
  have gD1 := up3 _ _ gD
  have nI : s₁.heap.get? s₁.heap.objs.size = none := none_of_ge (by lia)
  have nD : s₁.heap.get? H1.objs.size = none := none_of_ge (by lia)
  have nC : s₁.heap.get? H2.objs.size = none := none_of_ge (by lia)
  have dCD : H2.objs.size ≠ H1.objs.size := neN (by lia)
  have dCI : H2.objs.size ≠ s₁.heap.objs.size := neN (by lia)
  have dDI : H1.objs.size ≠ s₁.heap.objs.size := neN (by lia)
  have dlI : l ≠ s₁.heap.objs.size := neN (by lia)
  have dlC : l ≠ H2.objs.size := neN (by lia)
  generalize s₁.heap.objs.size = I at *
  generalize H1.objs.size = D at *
  generalize H2.objs.size = C at *
  have W := Walks.list (prog := prog) (w := w) (A := A) hh I l dlI vs.toArray
  have hn : vs.toArray.size = vs.length := List.size_toArray
  rw [hn] at W
  have loop : codeAny (model prog w) A (.compLoop (lct elt iter cond x px scope pos) 0 (.ref I) (.ref D) (compEnvC scope cl C env))
      (compPost (model prog w) A E none Q (.ref D) C) { s₁ with heap := h₁, toks := s₁.toks + ([] : List (Str × Value)).length } := by
    refine codeAny_compLoop_tests (fun k s' => ∃ h' tk i m', s' = { s₁ with heap := h', toks := tk } ∧ i ≤ vs.length ∧ k = vs.length + 1 - i ∧ h'.get? D = some (LCg.lst []) ∧ h'.Ns C m' ∧
      (h'.IsListIter I l i ∧ h'.IsList l vs.toArray) ∧ (∀ b o, s₁.heap.get? b = some o → h'.get? b = some o)) ?_ (vs.length + 1)
      ⟨h₁, _, 0, _, rfl, Nat.zero_le _, rfl, gD1, hns₁, hst, hk1⟩
    rintro k s' ⟨h', tk, i, m', rfl, hi, rfl, hD', hC', hI', hk'⟩
    by_cases hlt : i < vs.length
    · refine W.item i _ _ _ hlt hI' fun v h₂ tk₂ hPv hst₂ hk₂ => ?_
      have hv : vs[i]? = some v := by simpa using hPv
      dsimp only
      have hC2 : h₂.Ns C m' := hC'.at' fun o e => hk₂ _ o (by simpa using dCI) e
      refine wpAny_assign_Name (wpAny_storeName_local (lookup_relabel_local hx) hC2 (fun h₃ hn₃ hs₃ => ?_) (by simp [compEnvC, relabel, hkind]))
      refine wpAny_tests_one ?_
      have hb3' : ∀ b o, s₁.heap.get? b = some o → h₃.get? b = some o := fun b o e => by
        have h1 : b ≠ I := fun q => by rw [q, nI] at e; cases e
        have h2 : b ≠ C := fun q => by rw [q, nC] at e; cases e
        exact hs₃.extBut b o h2 (hk₂ b o (by simpa using h1) (hk' b o e))
      refine hit C v _ _ _ _ (List.mem_of_getElem? hv) nC hn₃ (by simp) hb3' fun tk₄ => ?_
      simp only [Bool.false_eq_true, if_false]
      refine ⟨vs.length + 1 - (i + 1), by lia, h₃, tk₄, i + 1, _, rfl, by lia, rfl, hs₃.extBut D _ (Ne.symm dCD) (hk₂ _ _ (by simpa using dDI) hD'), hn₃, ⟨hst₂.1.at fun o e => hs₃.extBut I o (Ne.symm dCI) e, hst₂.2.at fun o e => hs₃.extBut l o dlC e⟩, fun b o e => ?_⟩
      have h1 : b ≠ I := fun q => by rw [q, nI] at e; cases e
      have h2 : b ≠ C := fun q => by rw [q, nC] at e; cases e
      exact hs₃.extBut b o h2 (hk₂ b o (by simpa using h1) (hk' b o e))
    · obtain rfl : i = vs.length := by lia
      refine W.done _ _ _ hI' fun h₂ tk₂ hk₂ => ?_
      refine ⟨m', hC'.at' fun o e => hk₂ _ o (by simpa using dCI) e, fun h'' hs'' => hQ h'' tk₂ D (fun b o e => ?_) ?_ nD⟩
      · have h1 : b ≠ I := fun q => by rw [q, nI] at e; cases e
        have h2 : b ≠ C := fun q => by rw [q, nC] at e; cases e
        exact hs''.extBut b o h2 (hk₂ b o (by simpa using h1) (hk' b o e))
      · exact hs''.extBut _ _ (Ne.symm dCD) (hk₂ _ _ (by simpa using dDI) hD')
  exact codeAny_compStart_list loop (W.self 0 _ _ _ hst loop)
end
end Mine
end
section
local macro_rules | `(tactic| walk_at "no such key") => `(tactic| skip)
local macro_rules | `(tactic| walk_at "no such key") => `(tactic| skip)
local macro_rules | `(tactic| walk_at "no such key") => `(tactic| skip)
local macro_rules | `(tactic| walk_at "no such key") => `(tactic| skip)
local macro_rules | `(tactic| walk_at "no such key") => `(tactic| skip)
local macro_rules | `(tactic| walk_at "no such key") => `(tactic| skip)
local macro_rules | `(tactic| walk_at "no such key") => `(tactic| skip)
local macro_rules | `(tactic| walk_at "no such key") => `(tactic| skip)
local macro_rules | `(tactic| walk_at "no such key") => `(tactic| skip)
local macro_rules | `(tactic| walk_at "no such key") => `(tactic| skip)
open PySem PySem.W PyProof.Rows PySem.Calls
set_option maxRecDepth 100000
set_option maxHeartbeats 8000000
namespace Mine
example : (True ∨ (PySem.Challenge.rw_rt0003_01 = PySem.Challenge.rw_rt0003_01 ∧ hd.heap_39 = hd.heap_39)) := by
  k_with_none
  w_top off
  k_fill
  exact .inl trivial
local macro_rules | `(tactic| k_room) => `(tactic| ktr_room)

local macro_rules | `(tactic| walk_at "compareOp Is bool int") => `(tactic| (refine wpAny_is_other (by rfl) (by intro x; cases x) ?_))
local macro_rules | `(tactic| walk_at "pyIter ref") => `(tactic| (k_here; refine Stop.halt ?_))
section
variable {prog : Program} {w : World} {A : Around} {s : Shared} {E : Value → Shared → Prop} {env : Env} {h₀ : Heap} {x : Str} {body : List Stmt} {Q : Flow → Shared → Prop}
theorem iter_vals {l : Addr} {vs : List Value} {m₀ : Str → Option Value} {news : List (Addr × Obj)} (J : Nat → (Str → Option Value) → List (Addr × Obj) → Prop) (hh : A.handled = none)
    (hl : h₀.IsList l vs.toArray) (F : Fr h₀ env.locals s.heap m₀) (N : News h₀ env.locals s.heap news) (hj : J 0 m₀ news)
    (turn : ∀ (i : Nat) v m₁ news₁ h tk own, vs[i]? = some v → news₁.map (·.1) = news.map (·.1) → OwnOff own (news.map (·.1)) → J i m₁ news₁ → Fr h₀ env.locals h (fun y => if y = x then some v else m₁ y) → News h₀ env.locals h (news₁ ++ own) →
      wpAny (model prog w) A (execs body env) (InvPostN h₀ env.locals (J (i + 1)) own (news.map (·.1)) { s with heap := h, toks := tk } Q) E { s with heap := h, toks := tk })
    (done : ∀ m₁ news₁ h tk, J vs.length m₁ news₁ → Fr h₀ env.locals h m₁ → News h₀ env.locals h news₁ → Q .next { s with heap := h, toks := tk }) :
    wpAny (model prog w) A (pyIter (.ref l)) (fun it s₂ => LoopAtV prog w A h₀ env x body Q E it s₂) E s := by
  have hls : s.heap.IsList l vs.toArray := hl.at fun o e => F.keep l o e
  obtain ⟨ol, hol, _⟩ := id hl
  have hlt : @LT.lt Nat _ l h₀.objs.size := Heap.lt_size hol
  have hlL : @LT.lt Nat _ l env.locals := Nat.lt_of_lt_of_le hlt F.above
  have hLs : @LT.lt Nat _ env.locals s.heap.objs.size := F.ns.lt
  refine wpAny_pyIter_list hls ?_
  have W := Walks.list (prog := prog) (w := w) (A := A) hh s.heap.objs.size l (neN (by omega)) vs.toArray
  have hn : vs.toArray.size = vs.length := List.size_toArray
  rw [hn] at W
  have up : ∀ b o, s.heap.get? b = some o → (s.heap.push { cls := .type "list_iterator", data := .fields #[.ref l, .int 0 0] }).get? b = some o := fun b o e => Heap.get?_push_of_some _ e
  refine loop_invN J W (fun q => ?_) (fun b hb => ?_) (fun p hp hb => ?_) (fun p hp hb => ?_) ⟨⟨_, Heap.get?_push_size _ rfl, rfl, rfl⟩, hls.at fun o e => up _ _ e⟩ (F.push _) (fun p hp => ⟨up _ _ (N p hp).1, (N p hp).2⟩) hj ?_ done
  · rcases List.mem_cons.mp q with q | q
    · have q' : @Eq Nat env.locals s.heap.objs.size := q
      omega
    · have q' : @Eq Nat env.locals l := List.mem_singleton.mp q
      omega
  · rw [List.mem_singleton.mp hb]; exact next_is_new F
  · have z : @LT.lt Nat _ p.1 _ := Heap.lt_size (N p hp).1
    have q' : @Eq Nat p.1 s.heap.objs.size := List.mem_singleton.mp hb
    omega
  · rcases List.mem_cons.mp hb with q | q
    · have z : @LT.lt Nat _ p.1 _ := Heap.lt_size (N p hp).1
      have q' : @Eq Nat p.1 s.heap.objs.size := q
      omega
    · have z := (N p hp).2.2
      rw [List.mem_singleton.mp q, hol] at z
      cases z
  · rintro i v m₁ news₁ h tk own hi hP hm ho hJ F₁ N₁
    exact turn i v m₁ news₁ h tk own (by simpa using hP) hm ho hJ F₁ N₁
end
noncomputable def cntF (bs : List Bool) : Int := ((bs.countP fun b => b == false : Nat) : Int)
theorem cntF_snoc {bs : List Bool} {b : Bool} : cntF (bs ++ [b]) = cntF bs + if b = false then 1 else 0 := by
  unfold cntF
  rw [List.countP_append, List.countP_cons, List.countP_nil]
  cases b <;> simp
section
variable {prog : Program} {w : World} {mean : ExcName → Option Value} {mg mb : Str → Option Value} {A A₀ : Around} {s : Shared} {Q E : Value → Shared → Prop}

theorem le_spec {a b : Int} {t u : Tok} (S : Site w mean mg mb A (hideAll s.heap []))
    (hdp : A.depth + 4 < recursionLimit) (hu : A.units + 40 < cLine)
    (ret : ∀ h' tk', Kept [] s.heap h' → Q (.bool (decide (a ≤ b))) { s with heap := h', toks := tk' }) :
    wpAny (model prog w) A (call (.ref 107) [.int a t, .int b u]) Q E s := by
  refine' enter (binds := [(Str.ofString "a", .int a t), (Str.ofString "b", .int b u)]) (news := []) S (fun p hp => nomatch hp) ?k6 ?k7 ?k8 ?k9 ?kB ?c5 ?c2 ?c3 ?c4 ?_
  (case k6 => k_is)
  (case k7 => k_is)
  (case k8 => ktr_room)
  (case k9 => exact BindsTo.of_eq rfl)
  (case c5 => decide)
  (case kB => exact locs rfl)
  (case c2 => exact rfl)
  (case c3 => exact rfl)
  (case c4 => exact rfl)
  intro base frs g L' h' hK hG hsz F' N' hlt B' X' T'
  obtain ⟨hA1, dp, fr, gd, un⟩ := A
  have hH1 : hA1 = none := S.handled
  have hF1 : fr = some frs := B'.stack
  subst hH1 hF1
  have hdp : dp + 4 < recursionLimit := hdp
  have hu : un + 40 < cLine := hu
  k_steps
  exact ret _ _ (kept0 hK (by assumption))

theorem countOf_spec {D : Addr} {bs : List Bool} {t : Tok} (S : Site w mean mg mb A (hideAll s.heap [])) (hD : s.heap.get? D = some (LCg.lst (bs.map Value.bool))) (hlen : bs.length ≤ 900)
    (hdp : A.depth + 4 < recursionLimit) (hu : A.units + 40 < cLine)
    (ret : ∀ h' tk' t', Kept [] s.heap h' → Q (.int (cntF bs) t') { s with heap := h', toks := tk' }) :
    wpAny (model prog w) A (call (.ref 156) [.ref D, .int 0 t]) Q E s := by
  refine' enter (binds := [(Str.ofString "a", .ref D), (Str.ofString "b", .int 0 t)]) (news := []) S (fun p hp => nomatch hp) ?k6 ?k7 ?k8 ?k9 ?kB ?c5 ?c2 ?c3 ?c4 ?_
  (case k6 => k_is)
  (case k7 => k_is)
  (case k8 => ktr_room)
  (case k9 => exact BindsTo.of_eq rfl)
  (case c5 => decide)
  (case kB => exact locs rfl)
  (case c2 => exact rfl)
  (case c3 => exact rfl)
  (case c4 => exact rfl)
  intro base frs g L' h' hK hG hsz F' N' hlt B' X' T'
  obtain ⟨hA1, dp, fr, gd, un⟩ := A
  have hH1 : hA1 = none := S.handled
  have hF1 : fr = some frs := B'.stack
  subst hH1 hF1
  have hdp : dp + 4 < recursionLimit := hdp
  have hu : un + 40 < cLine := hu
  have hl9 : g.IsList D (bs.map Value.bool).toArray := ⟨_, hK _ _ (fun q => nomatch q) hD, rfl, _, rfl⟩
  k_steps
  (rename Fr _ _ _ _ => F1)
  (rename News _ _ _ _ => N1)
  with_unfolding_all refine For_invVF F1 rfl rfl ?_
  refine ld F1 rfl ?_
  refine iter_vals (fun i m nx => ∃ (u : Str → Option Value) (t' : Tok), m = (fun y => if y = Str.ofString "i" then u y else if y = Str.ofString "count" then some (.int (cntF (bs.take i)) t') else if y = Str.ofString "a" then some (.ref D) else if y = Str.ofString "b" then some (.int 0 t) else none) ∧ nx = []) rfl hl9 F1 N1 ?hj ?turn ?done
  · refine ⟨fun _ => none, s.toks + [(Str.ofString "a", Value.ref D), (Str.ofString "b", Value.int 0 t)].length, funext fun y => ?_, rfl⟩
    by_cases h1 : y = Str.ofString "i"
    · subst h1; rfl
    · rw [if_neg h1]
      by_cases h2 : y = Str.ofString "count"
      · rw [if_pos h2, if_pos h2]; rfl
      · rw [if_neg h2, if_neg h2]
        by_cases h3 : y = Str.ofString "a"
        · subst h3; rfl
        · rw [if_neg h3]
          by_cases h4 : y = Str.ofString "b"
          · subst h4; rfl
          · rw [if_neg h4]
            show List.lookup y [(Str.ofString "b", _), (Str.ofString "a", _)] = none
            rw [List.lookup_cons, beq_false_of_ne h4, List.lookup_cons, beq_false_of_ne h3]
            rfl
  · rintro i v m₁ nx h tk own hv - hoff ⟨u, t', rfl, rfl⟩ F₁ N₁
    have hb9 : ∃ b, bs[i]? = some b ∧ v = .bool b := by
      rw [List.getElem?_map] at hv
      obtain ⟨b, e1, e2⟩ := Option.map_eq_some_iff.mp hv
      exact ⟨b, e1, e2.symm⟩
    obtain ⟨b9, e9, rfl⟩ := hb9
    have hci : cntF (bs.take (i + 1)) = cntF (bs.take i) + if b9 = false then 1 else 0 := by
      rw [List.take_add_one, e9]
      exact cntF_snoc
    have hcb : 0 ≤ cntF (bs.take i) ∧ cntF (bs.take i) ≤ 900 := by
      unfold cntF
      have z := (List.countP_le_length (l := bs.take i) (p := fun b => b == false))
      rw [List.length_take] at z
      omega
    cases b9 with
    | false =>
      k_steps
      (rename Fr _ _ _ _ => F9)
      have key : ∀ T : Tok, (fun y => if y = Str.ofString "count" then some (Value.int (cntF (bs.take i) + 1) T) else if y = Str.ofString "i" then some (Value.bool false) else if y = Str.ofString "i" then u y else if y = Str.ofString "count" then some (Value.int (cntF (bs.take i)) t') else if y = Str.ofString "a" then some (Value.ref D) else if y = Str.ofString "b" then some (Value.int 0 t) else none) =
          (fun y => if y = Str.ofString "i" then (fun _ => some (Value.bool false)) y else if y = Str.ofString "count" then some (Value.int (cntF (bs.take (i + 1))) T) else if y = Str.ofString "a" then some (Value.ref D) else if y = Str.ofString "b" then some (Value.int 0 t) else none) := by
        intro T
        funext y
        by_cases h1 : y = Str.ofString "i"
        · subst h1; rfl
        · by_cases h2 : y = Str.ofString "count"
          · rw [if_pos h2, if_neg h1, if_pos h2, hci]; rfl
          · simp only [if_neg h1, if_neg h2]
      exact ⟨_, _, _, _, [], rfl, F9, by assumption, fun p hp => (nomatch hp), fun p hp => hp, rfl, ⟨_, _, key _, rfl⟩⟩
    | true =>
      k_steps
      (rename Fr _ _ _ _ => F9)
      have key : (fun y => if y = Str.ofString "i" then some (Value.bool true) else if y = Str.ofString "i" then u y else if y = Str.ofString "count" then some (Value.int (cntF (bs.take i)) t') else if y = Str.ofString "a" then some (Value.ref D) else if y = Str.ofString "b" then some (Value.int 0 t) else none) =
          (fun y => if y = Str.ofString "i" then (fun _ => some (Value.bool true)) y else if y = Str.ofString "count" then some (Value.int (cntF (bs.take (i + 1))) t') else if y = Str.ofString "a" then some (Value.ref D) else if y = Str.ofString "b" then some (Value.int 0 t) else none) := by
        have hci' : cntF (bs.take (i + 1)) = cntF (bs.take i) := by rw [hci]; simp
        rw [hci']
        funext y
        by_cases h1 : y = Str.ofString "i"
        · simp only [if_pos h1]
        · simp only [if_neg h1]
      exact ⟨_, _, _, _, [], rfl, F9, by assumption, fun p hp => (nomatch hp), fun p hp => hp, rfl, ⟨_, _, key, rfl⟩⟩
  · rintro m₁ nx h tk ⟨u, t', rfl, rfl⟩ F₁ N₁
    rw [List.length_map, List.take_length] at F₁
    k_steps
    exact ret _ _ _ (kept0 hK F₁)
end
end Mine
end
section
open PySem PySem.W PyProof.Rows PySem.Calls
set_option maxRecDepth 100000
set_option maxHeartbeats 8000000
namespace Mine
example : (True ∨ (PySem.Challenge.rw_rt0003_01 = PySem.Challenge.rw_rt0003_01 ∧ hd.heap_39 = hd.heap_39)) := by
  k_with_none
  w_top off
  k_fill
  exact .inl trivial
local macro_rules | `(tactic| k_room) => `(tactic| ktr_room)
local macro_rules | `(tactic| walk_at "call ref") => `(tactic| (k_here; (with_reducible show wpAny _ _ (call (Value.ref 161) _ _) _ _ _); refine Stop.halt ?_))
local macro_rules | `(tactic| walk_at "call ref") => `(tactic| (k_here; (with_reducible show wpAny _ _ (call (Value.ref 166) _ _) _ _ _); refine Stop.halt ?_))
local macro_rules | `(tactic| walk_at "call ref") => `(tactic| (k_here; (with_reducible show wpAny _ _ (call (Value.ref 156) _ _) _ _ _); refine Stop.halt ?_))
local macro_rules | `(tactic| walk_at "call ref") => `(tactic| (k_here; (with_reducible show wpAny _ _ (call (Value.ref 107) _ _) _ _ _); refine Stop.halt ?_))
local macro_rules | `(tactic| walk_at "exec For Name Call cons nil") => `(tactic| (k_here; refine Stop.halt ?_))
local macro_rules | `(tactic| walk_at "exec Assign cons ListComp") => `(tactic| (k_here; refine Stop.halt ?_))
local macro_rules | `(tactic| walk_at "eval ListComp") => `(tactic| (k_here; refine Stop.halt ?_))

noncomputable def geB (j : Int) (v : Value) : Value := match v with | .int k _ => .bool (decide (k ≤ j)) | v => v
noncomputable def bsL (j : Int) (ns : List Int) : List Bool := ns.map fun k => decide (k ≤ j)
theorem geB_map {j : Int} {vs : List Value} {ns : List Int} (h : IntsAre vs ns) : vs.map (geB j) = (bsL j ns).map Value.bool := by
  induction h with
  | nil => rfl
  | cons k t _ ih => rw [List.map_cons, ih]; rfl
theorem cntF_bsL {j : Int} : ∀ {ns : List Int}, cntF (bsL j ns) + (cntLe j ns : Int) = ns.length
  | [] => rfl
  | k :: ns => by
    have ih := @cntF_bsL j ns
    unfold cntF bsL at ih ⊢
    have e : List.countP (fun b => b == false) (List.map (fun k => decide (k ≤ j)) (k :: ns)) = List.countP (fun b => b == false) (List.map (fun k => decide (k ≤ j)) ns) + if k ≤ j then 0 else 1 := by
      rw [List.map_cons, List.countP_cons]
      by_cases h : k ≤ j <;> simp [h]
    rw [e, cntLe_cons, List.length_cons]
    split <;> lia
theorem cntLe_of {v : Int} {xs ys : List Int} (h : ∀ u, xs.count u = ys.count u) : cntLe v xs = cntLe v ys := (List.perm_iff_count.mpr h).countP_eq _
theorem fr_stored {g h : Heap} {L : Addr} {x : Str} {v : Value} {u m : Str → Option Value} (F : Fr g L h (fun z => if z = x then some v else (fun y => if y = x then u y else m y) z)) : Fr g L h (fun y => if y = x then (fun _ => some v) y else m y) := by
  have e : (fun z => if z = x then some v else (fun y => if y = x then u y else m y) z) = (fun y => if y = x then (fun _ => some v) y else m y) := by
    funext z
    by_cases h1 : z = x
    · simp only [if_pos h1]
    · simp only [if_neg h1]
  rw [← e]; exact F
theorem news_compL {g h h' : Heap} {L C : Addr} {m : Str → Option Value} {oC : Obj} {news : List (Addr × Obj)} (F : Fr g L h m) (N : News g L h news) (hC : h.get? C = none) (hk : ∀ b o, b ≠ L → h.get? b = some o → h'.get? b = some o) (hoC : h'.get? C = some oC) :
    News g L h' ((C, oC) :: news) := fun p hp => by
  rcases List.mem_cons.mp hp with rfl | hp
  · refine ⟨hoC, fun q => ?_, ?_⟩
    · obtain ⟨oL, es, ep, hLg, r⟩ := F.ns
      have q' : C = L := q
      rw [q'] at hC
      rw [hC] at hLg; cases hLg
    · cases q : g.get? C with
      | none => rfl
      | some o' => have := F.keep C o' q; rw [hC] at this; cases this
  · exact ⟨hk _ _ (N p hp).2.1 (N p hp).1, (N p hp).2⟩
theorem news_comp {g h h' : Heap} {L C : Addr} {m : Str → Option Value} {oC : Obj} {news : List (Addr × Obj)} (F : Fr g L h m) (N : News g L h news) (hC : h.get? C = none) (hk : ∀ b o, h.get? b = some o → h'.get? b = some o) (hoC : h'.get? C = some oC) :
    News g L h' ((C, oC) :: news) := fun p hp => by
  rcases List.mem_cons.mp hp with rfl | hp
  · refine ⟨hoC, fun q => ?_, ?_⟩
    · obtain ⟨oL, es, ep, hLg, r⟩ := F.ns
      have q' : C = L := q
      rw [q'] at hC
      rw [hC] at hLg; cases hLg
    · cases q : g.get? C with
      | none => rfl
      | some o' => have := F.keep C o' q; rw [hC] at this; cases this
  · exact ⟨hk _ _ (N p hp).1, (N p hp).2⟩
section
variable {prog : Program} {w : World} {mean : ExcName → Option Value} {mg mb : Str → Option Value} {A A₀ : Around} {s : Shared} {Q E : Value → Shared → Prop}

theorem counted_spec {a : Addr} {vs : List Value} {n : Nat} {ns : List Int} {num : Int} {t : Tok} (S : Site w mean mg mb A (hideAll s.heap [])) (ha : s.heap.get? a = some (listOf vs.toArray n)) (hi : IntsAre vs ns)
    (hI : Inv ns num) (hl : ns.length ≤ 9)
    (hdp : A.depth + 14 < recursionLimit) (hu : A.units + 100 < cLine)
    (ret : ∀ h' tk', Kept [] s.heap h' → Q (.bool true) { s with heap := h', toks := tk' }) :
    wpAny (model prog w) A (call (.ref 204) [.ref a, .int num t]) Q E s := by
  refine' enterC (binds := [(Str.ofString "heap", .ref a), (Str.ofString "number", .int num t)]) (news := []) S (fun p hp => nomatch hp) ?k6 ?k7 ?k8 ?k9 ?kB ?kD ?c2 ?c3 ?c4 ?_
  (case k6 => k_is)
  (case k7 => k_is)
  (case k8 => ktr_room)
  (case k9 => exact BindsTo.of_eq rfl)
  (case kB => exact rfl)
  (case kD => decide +kernel)
  (case c2 => exact rfl)
  (case c3 => exact rfl)
  (case c4 => exact rfl)
  intro base frs g L' h' tk1 cells hK hG hsz F' N' Y' hlt B' X' T'
  obtain ⟨hA1, dp, fr, gd, un⟩ := A
  have hH1 : hA1 = none := S.handled
  have hF1 : fr = some frs := B'.stack
  subst hH1 hF1
  have hdp : dp + 14 < recursionLimit := hdp
  have hu : un + 100 < cLine := hu
  obtain ⟨c1, hE, d1⟩ := CellsAre.one Y'
  subst hE
  clear Y'
  replace F' : Fr g L' h' (fun y => if y = Str.ofString "number" then some (.int num t) else if y = Str.ofString "heap" then some (.ref a) else none) := F'
  replace d1 : c1.data = .cell none := d1
  simp only [List.cons_append, List.nil_append] at N'
  have hl9 : g.IsList a vs.toArray := ⟨_, hK _ _ (fun q => nomatch q) ha, rfl, _, rfl⟩
  obtain ⟨ss, b1, b2⟩ := hI.num
  have b3 := cnt_length b2
  obtain ⟨b4, b5⟩ := b1.lt (by lia)
  have b6 : (bitsF num).length = 24 := by rw [b1.bits (by lia), bitsR_length]
  obtain ⟨b7, b8⟩ := b1.noughts (by lia)
  k_steps
  refine Stop.go ?_
  (rename Fr _ _ _ _ => F1)
  (rename News _ _ _ _ => N1)
  refine bits_spec (site_inC [] B' F1 X' T' News.nil rfl rfl) b4 b5 (by ktr_room) (by ktr_units) ?_
  intro h2 tk2 a2 vs2 n2 K2 g2 nn2 I2
  obtain ⟨F2, N2⟩ := back_new K2 g2 nn2 F1 N1
  clear F1 N1
  k_steps
  refine Stop.go ?_
  (rename Fr _ _ _ _ => F3)
  (rename News _ _ _ _ => N3)
  refine where_spec (site_inC [] B' F3 X' T' News.nil rfl rfl) (N3.get (.head _)) I2 (by lia) (by ktr_room) (by ktr_units) ?_
  intro h4 tk4 a4 vs4 n4 K4 g4 nn4 I4
  obtain ⟨F4, N4⟩ := back_new K4 g4 nn4 F3 N3
  have hac : a4 ≠ L' + 1 := fun q => by
    have z := N3.get (.tail _ (.head _))
    rw [← q] at z
    have z2 := nn4.symm.trans z
    cases z2
  clear F3 N3
  k_steps
  refine Stop.go ?_
  (rename Fr _ _ _ _ => F5)
  (rename News _ _ _ _ => N5)
  have N5' : News g L' _ ((L' + 1, c1) :: [(a4, listOf vs4.toArray n4)]) := fun p hp => by
    rcases List.mem_cons.mp hp with rfl | hp
    · exact N5 _ (.tail _ (.tail _ (.head _)))
    · rw [List.mem_singleton.mp hp]; exact N5 _ (.head _)
  refine For_cell (h₀ := g) (c := L' + 1) (n := 15) (stored := Str.ofString "answers") (rest := [(a4, listOf vs4.toArray n4)]) F5 rfl rfl rfl (by with_unfolding_all rfl) (fun _ => rfl) (by decide) (fun p hp => by rw [List.mem_singleton.mp hp]; exact hac) ?_ ?_ ?_ (by passes_own)
  · k_steps
    refine Stop.go ?_
    exact ⟨_, _, _, _, _, _, _, _, rfl, rfl, by assumption, by assumption, d1, by assumption⟩
  · intro i t6 I6 oI6 oc6 h6 tk6 u6 hi6 hoc6 hI6 hrI6 F6 N6
    k_steps
    refine Stop.go ?_
    refine Assign_ListComp_L (h₀ := g) (gv := geB ((i : Int) - 7)) F6 rfl rfl (by with_unfolding_all rfl) (by with_unfolding_all rfl) (by decide) rfl (by decide) rfl rfl rfl (fun _ => rfl) ?_
    refine nameX_L F6 rfl ?_
    have hvl : vs.length = ns.length := hi.length
    refine ⟨a, vs, rfl, hl9.at fun o e => F6.keep _ o e, by lia, F6, ?_, ?_⟩
    · intro C v9 m9 s9 Q9 E9 hv9 hC9 hn9 hm9 hk9 hQ9
      obtain ⟨k9, t9, rfl⟩ : ∃ k t, v9 = .int k t := by
        obtain ⟨j, hj, hjv⟩ := List.mem_iff_getElem.mp hv9
        obtain ⟨k, t, e1, e2⟩ := IntsAre.at hi j v9 (by rw [List.getElem?_eq_getElem hj, hjv])
        exact ⟨k, t, e1⟩
      obtain ⟨oC, hoC, hNs⟩ := LCg.ns_obj hn9
      have F9 : Fr g L' s9.heap _ := F6.keeps hk9
      have N9 := news_comp F6 N6 hC9 hk9 hoC
      k_steps
      refine Stop.go ?_
      (rename Fr _ _ _ _ => F10)
      refine le_spec (site_inC [] B' F10 X' T' News.nil rfl rfl) (by ktr_room) (by ktr_units) ?_
      intro h11 tk11 K11
      exact hQ9 h11 tk11 (fun b o e => K11 b o (fun q => nomatch q) e)
    · intro h8 tk8 D8 F8 K8 g8 n8
      rw [geB_map hi] at g8
      have N8 : News g L' h8 ((D8, LCg.lst ((bsL ((i : Int) - 7) ns).map Value.bool)) :: _) := news_compL F6 N6 n8 K8 g8
      have hla : g.IsList a vs.toArray := hl9
      k_steps
      refine Stop.go ?_
      refine ListComp_none rfl (by with_unfolding_all rfl) (by decide) rfl (by decide) rfl (fun _ => rfl) ?_
      refine nameX_L F8 rfl ?_
      refine ⟨D8, _, rfl, News.isList N8 (.head _), ?_, ?_⟩
      · intro C v9 m9 s9 Q9 E9 hv9 hC9 hn9 hm9 hk9 hQ9
        obtain ⟨b9, _, rfl⟩ := List.mem_map.mp hv9
        obtain ⟨oC, hoC, hNs⟩ := LCg.ns_obj hn9
        have F9 : Fr g L' s9.heap _ := F8.keeps hk9
        have N9 := news_comp F8 N8 hC9 hk9 hoC
        cases b9 with
        | false =>
          k_steps
          exact hQ9 _
        | true =>
          k_steps
          exact hQ9 _
      · intro h10 tk10 D10 K10 g10 n10
        have N10 := news_comp F8 N8 n10 K10 g10
        have F10 : Fr g L' h10 _ := F8.keeps K10
        k_steps
        refine Stop.go ?_
        (rename Fr _ _ _ _ => F12)
        (rename News _ _ _ _ => N12)
        refine countOf_spec (bs := bsL ((i : Int) - 7) ns) (site_inC [] B' F12 X' T' News.nil rfl rfl) (N12.get (by k_mem)) (by unfold bsL; rw [List.length_map]; lia) (by ktr_room) (by ktr_units) ?_
        intro h13 tk13 t13 K13
        obtain ⟨F13, N13⟩ := back_none K13 F12 N12
        clear F12 N12
        have hw9 : (whereF (bitsF num) 0).getD ((i : Int)).toNat 0 = (i : Int) + (cntLe ((i : Int) - 7) ns : Int) := by
          have z := b8 i (by lia)
          have e1 : ((i : Int)).toNat = i := Int.toNat_natCast i
          have e2 : (-7 + (i : Int)) = (i : Int) - 7 := by lia
          rw [e1, z, e2, cntLe_of b2]
          lia
        have hc9 := @cntF_bsL ((i : Int) - 7) ns
        k_steps
        · exfalso
          lia
        · (rename Fr _ _ _ _ => F14)
          (rename News _ _ _ _ => N14)
          refine Stop.go ⟨_, _, _, rfl, fr_stored F14, fun p hp => ?_⟩
          rcases List.mem_cons.mp hp with rfl | hp
          · exact N14 _ (by k_mem)
          · rcases List.mem_cons.mp hp with rfl | hp
            · exact N14 _ (by k_mem)
            · rw [List.mem_singleton.mp hp]
              exact N14 _ (by k_mem)
  · intro h7 tk7 u7 F7 N7
    k_steps
    exact ret _ _ (kept0 hK F7)
end
end Mine
end
section
open PySem PySem.W PyProof.Rows PySem.Calls
set_option maxRecDepth 100000
set_option maxHeartbeats 8000000
namespace Mine
section
variable {prog : Program} {w : World} {mean : ExcName → Option Value} {mg mb : Str → Option Value} {A A₀ : Around} {s : Shared} {Q E : Value → Shared → Prop}

theorem call_any {H : Heap} {L fa a : Addr} {m : Str → Option Value} {cn : Str} {nm : List (Str × NameKind)} {gg cc : Bool} {mo : List (Str × Const)} {ccd : Value} {news : List (Addr × Obj)} {vs : List Value} {n : Nat} {ns : List Int} {num v d : Int} {t td u : Tok}
    (B : Below callerA H [] H) (F : Fr H L s.heap m) (X : (hd.heap_39 w.params).In H) (T : Top hd.view_39 (looseW hd.view_39 [Str.ofString "b2a_base64", Str.ofString "b64encode"]) mean mg mb H)
    (N : News H L s.heap ((a, listOf vs.toArray n) :: news)) (hna : ∀ p ∈ news, p.1 ≠ a) (hi : IntsAre vs ns) (hI : Inv ns num) (hl : ns.length ≤ 9) (hd0 : d = 0 → ns.length ≤ 8) (hd1 : 0 ≤ d) (hd2 : d < 4) (h0 : -7 ≤ v) (h1 : v ≤ 7)
    (ret : ∀ h' tk' vs' n' ns' num' t', Fr H L h' m → News H L h' ((a, listOf vs'.toArray n') :: news) → IntsAre vs' ns' → Inv ns' num' → ns'.length ≤ ns.length + (if d = 0 then 1 else 0) → (d = 1 → 0 < ns.length → ns'.length + 1 = ns.length) → Q (.int num' t') { s with heap := h', toks := tk' }) :
    wpAny (model prog w) (callerA.deeper (envOf cn { kind := .function, names := nm, isGenerator := gg, isCoroutine := cc, more := mo } L fa ccd)) (call (.ref 194) [.ref a, .int num t, .int d td, .int v u]) Q E s := by
  have N1 : News H L s.heap [(a, listOf vs.toArray n)] := news_one N (.head _)
  have S : Site w mean mg mb (callerA.deeper (envOf cn { kind := .function, names := nm, isGenerator := gg, isCoroutine := cc, more := mo } L fa ccd)) (hideAll s.heap [a]) := site_in [(a, _)] B F X T N1 rfl rfl
  have ha := N1.get (.head _)
  have hroom : (callerA.deeper (envOf cn { kind := .function, names := nm, isGenerator := gg, isCoroutine := cc, more := mo } L fa ccd)).depth + 16 < recursionLimit := by ktr_room
  have hunit : (callerA.deeper (envOf cn { kind := .function, names := nm, isGenerator := gg, isCoroutine := cc, more := mo } L fa ccd)).units + 120 < cLine := by ktr_units
  have hd : d = 0 ∨ d = 1 ∨ d = 2 ∨ d = 3 := by lia
  have done : ∀ (h' : Heap) (tk' : Nat) (vs' : List Value) (n' : Nat) (ns' : List Int) (num' : Int) (t' : Tok), Kept [a] s.heap h' → h'.get? a = some (listOf vs'.toArray n') → IntsAre vs' ns' → Inv ns' num' → ns'.length ≤ ns.length + (if d = 0 then 1 else 0) → (d = 1 → 0 < ns.length → ns'.length + 1 = ns.length) → Q (.int num' t') { s with heap := h', toks := tk' } := by
    intro h' tk' vs' n' ns' num' t' K g I1 I2 I3 I4
    obtain ⟨F2, N2⟩ := back_head K g F N hna
    exact ret h' tk' vs' n' ns' num' t' F2 N2 I1 I2 I3 I4
  have hempty : ns = [] → vs = [] ∧ num = 0 := fun e => by
    subst e
    obtain ⟨ss, b1, b2⟩ := hI.num
    have b3 := cnt_length b2
    have b4 : ss = [] := List.eq_nil_of_length_eq_zero b3
    have b5 := hi.length
    exact ⟨List.eq_nil_of_length_eq_zero b5, b1.zero.mpr b4⟩
  rcases hd with rfl | rfl | rfl | rfl
  · exact call0 S ha hi hI (hd0 rfl) h0 h1 hroom hunit fun h' tk' vs' n' ns' num' t' K g I1 I2 I3 => done h' tk' vs' n' ns' num' t' K g I1 I2 (by simp; lia) (fun e => absurd e (by decide))
  · by_cases hne : 0 < ns.length
    · exact call1 S ha hi hI hl hne hroom hunit fun h' tk' vs' n' ns' num' t' K g I1 I2 I3 => done h' tk' vs' n' ns' num' t' K g I1 I2 (by simp; lia) (fun _ _ => I3)
    · have e : ns = [] := List.eq_nil_of_length_eq_zero (by lia)
      obtain ⟨e1, e2⟩ := hempty e
      subst e e1 e2
      exact call1e B F X T N fun h' tk' t' F2 N2 => ret h' tk' [] n [] 0 t' F2 N2 .nil hI (by simp) (fun _ h => absurd h (by simp))
  · by_cases hne : 0 < ns.length
    · exact call2 S ha hi hI hl hne h0 h1 hroom hunit fun h' tk' vs' n' ns' num' t' K g I1 I2 I3 => done h' tk' vs' n' ns' num' t' K g I1 I2 (by simp; lia) (fun e => absurd e (by decide))
    · have e : ns = [] := List.eq_nil_of_length_eq_zero (by lia)
      obtain ⟨e1, e2⟩ := hempty e
      subst e e1 e2
      exact call2e B F X T N fun h' tk' t' F2 N2 => ret h' tk' [] n [] 0 t' F2 N2 .nil hI (by simp) (fun _ h => absurd h (by simp))
  · exact call3 S ha hi hI hl h0 h1 hroom hunit fun h' tk' vs' n' ns' num' t' K g I1 I2 I3 => done h' tk' vs' n' ns' num' t' K g I1 I2 (by simp; lia) (fun e => absurd e (by decide))
end
end Mine
end
section
local macro_rules | `(tactic| walk_at "no such key") => `(tactic| skip)
local macro_rules | `(tactic| walk_at "no such key") => `(tactic| skip)
local macro_rules | `(tactic| walk_at "no such key") => `(tactic| skip)
local macro_rules | `(tactic| walk_at "no such key") => `(tactic| skip)
local macro_rules | `(tactic| walk_at "no such key") => `(tactic| skip)
local macro_rules | `(tactic| walk_at "no such key") => `(tactic| skip)
local macro_rules | `(tactic| walk_at "no such key") => `(tactic| skip)
local macro_rules | `(tactic| walk_at "no such key") => `(tactic| skip)
local macro_rules | `(tactic| walk_at "no such key") => `(tactic| skip)
local macro_rules | `(tactic| walk_at "no such key") => `(tactic| skip)
open PySem PySem.W PyProof.Rows PySem.Calls
set_option maxRecDepth 100000
set_option maxHeartbeats 8000000
namespace Mine
example : (True ∨ (PySem.Challenge.rw_rt0003_01 = PySem.Challenge.rw_rt0003_01 ∧ hd.heap_39 = hd.heap_39)) := by
  k_with_none
  w_top off
  k_fill
  exact .inl trivial
local macro_rules | `(tactic| walk_at "call ref") => `(tactic| (k_here; (with_reducible show wpAny _ _ (call (Value.ref 173) _ _) _ _ _); refine Stop.halt ?_))
local macro_rules | `(tactic| walk_at "call ref") => `(tactic| (k_here; (with_reducible show wpAny _ _ (call (Value.ref 56) _ _) _ _ _); refine Stop.halt ?_))
local macro_rules | `(tactic| walk_at "call ref") => `(tactic| (k_here; (with_reducible show wpAny _ _ (call (Value.ref 199) _ _) _ _ _); refine Stop.halt ?_))
local macro_rules | `(tactic| walk_at "call ref") => `(tactic| (k_here; (with_reducible show wpAny _ _ (call (Value.ref 194) _ _) _ _ _); refine Stop.halt ?_))
local macro_rules | `(tactic| walk_at "call ref") => `(tactic| (k_here; (with_reducible show wpAny _ _ (call (Value.ref 204) _ _) _ _ _); refine Stop.halt ?_))
local macro_rules | `(tactic| walk_at "binaryOp Add ref ref") => `(tactic| (k_here; refine Stop.halt ?_))
local macro_rules | `(tactic| walk_at "exec For Name Name cons nil") => `(tactic| (k_here; refine Stop.halt ?_))
local macro_rules | `(tactic| walk_at "exec For Name BinOp cons nil") => `(tactic| (k_here; refine Stop.halt ?_))

/-- the first items -/
noncomputable def firstL (xs : List Int) : List Int := (-2) :: (-5) :: ((List.filter (fun _ => true) (List.take 2 xs)).map fun a => (a.fdiv 60).fmod 15 - 7)
theorem firstL_in {xs : List Int} : ∀ x ∈ firstL xs, -7 ≤ x ∧ x ≤ 7 := by
  intro x hx
  simp only [firstL, List.mem_cons] at hx
  rcases hx with rfl | rfl | hx
  · decide
  · decide
  · obtain ⟨a, _, rfl⟩ := List.mem_map.mp hx
    have h1 := Int.fmod_nonneg_of_pos (a.fdiv 60) (show (0 : Int) < 15 by decide)
    have h2 := Int.fmod_lt_of_pos (a.fdiv 60) (show (0 : Int) < 15 by decide)
    lia
theorem firstL_len {xs : List Int} : (firstL xs).length ≤ 4 := by
  unfold firstL
  simp only [List.length_cons, List.length_map]
  have h1 := List.length_filter_le (fun _ => true) (List.take 2 xs)
  have h2 := List.length_take_le 2 xs
  lia
theorem ins_take {ss l : List Int} {i : Nat} {x : Int} (h : ∀ v, ss.count v = (l.take i).count v) (hx : l[i]? = some x) : ∀ v, (ins x ss).count v = (l.take (i + 1)).count v := by
  intro v
  rw [ins_count, List.count_cons, h v, List.take_add_one, hx, List.count_append]
  simp only [Option.toList_some, List.count_cons, List.count_nil]
  lia
abbrev frM {h₀ : Heap} {L : Addr} {h : Heap} {m : Str → Option Value} (_ : Fr h₀ L h m) : Str → Option Value := m
abbrev inM {vs : List Value} {ns : List Int} (_ : IntsAre vs ns) : List Int := ns
theorem upd2 {m : Str → Option Value} {x y : Str} {v : Value} (h : m y = some v) : m = fun z => if z = x then m z else if z = y then some v else m z := by
  funext z
  by_cases h1 : z = x
  · simp only [if_pos h1]
  · by_cases h2 : z = y
    · rw [if_neg h1, if_pos h2, h2, h]
    · rw [if_neg h1, if_neg h2]
theorem upd3 {m u : Str → Option Value} {x y : Str} {v v' w : Value} : (fun z => if z = y then some w else if z = x then some v else if z = x then u z else if z = y then some v' else m z) = fun z => if z = x then (fun z => if z = y then some w else some v) z else if z = y then some w else m z := by
  funext z
  by_cases h1 : z = x
  · by_cases h2 : z = y
    · simp only [if_pos h1, if_pos h2]
    · simp only [if_pos h1, if_neg h2]
  · by_cases h2 : z = y
    · simp only [if_neg h1, if_pos h2]
    · simp only [if_neg h1, if_neg h2]
noncomputable def pushN (l : List Int) : Nat := l.countP fun x => decide (x.fmod 4 = 0)
theorem pushN_all {xs : List Int} : pushN (List.take 5 xs ++ [3, 31]) ≤ 5 := by
  unfold pushN
  rw [List.countP_append]
  have h1 := List.countP_le_length (l := List.take 5 xs) (p := fun (x : Int) => decide (x.fmod 4 = 0))
  have h2 := List.length_take_le 5 xs
  have h3 : List.countP (fun (x : Int) => decide (x.fmod 4 = 0)) [3, 31] = 0 := by decide
  lia
theorem pushN_take {l : List Int} {i : Nat} : pushN (l.take i) ≤ pushN l := (List.take_sublist i l).countP_le
theorem pushN_snoc {l : List Int} {i : Nat} {x : Int} (h : l[i]? = some x) : pushN (l.take (i + 1)) = pushN (l.take i) + if x.fmod 4 = 0 then 1 else 0 := by
  unfold pushN
  rw [List.take_add_one, h, List.countP_append, Option.toList_some, List.countP_cons, List.countP_nil]
  simp
theorem item_v {x : Int} : -7 ≤ (x.fdiv 4).fmod 15 - 7 ∧ (x.fdiv 4).fmod 15 - 7 ≤ 7 := by
  have h1 := Int.fmod_nonneg_of_pos (x.fdiv 4) (show (0 : Int) < 15 by decide)
  have h2 := Int.fmod_lt_of_pos (x.fdiv 4) (show (0 : Int) < 15 by decide)
  lia
theorem Inv.nonneg {ns : List Int} {n : Int} (h : Inv ns n) : 0 ≤ n := h.num.elim fun _ h => h.1.nonneg
theorem Inv.nil_of {ns : List Int} {n : Int} (h : Inv ns n) (e : n = 0) : ns = [] := by
  obtain ⟨ss, b1, b2⟩ := h.num
  have b3 := cnt_length b2
  rw [b1.zero.mp e] at b3
  exact List.eq_nil_of_length_eq_zero b3.symm
theorem Inv.pos {ns : List Int} {n : Int} (h : Inv ns n) (hn : 0 < n) : 0 < ns.length := by
  obtain ⟨ss, b1, b2⟩ := h.num
  have b3 := cnt_length b2
  match ss, b1, b3 with
  | [], b1, _ => have := b1.eq; simp [NN] at this; lia
  | x :: ss, _, b3 => rw [List.length_cons] at b3; lia
theorem nil_values {vs : List Value} {ns : List Int} (h : IntsAre vs ns) (e : ns = []) : vs = [] := by
  subst e; cases h; rfl
theorem lawT : PySem.Challenge.rw_rt0003_01.Holds := hd (by
  k_go0
  all_goals try k_fold
  (rename Frag.In _ _ => X0)
  (rename Top _ _ _ _ _ _ => T0)
  (rename IntsAre _ _ => hxs)
  k_steps
  refine Stop.go ?_
  (rename Fr _ _ _ _ => F1)
  (rename News _ _ _ _ => N1)
  (rename CarriedAll _ _ => hc1)
  (rename Heap.IsList _ _ _ => hl1)
  have hj1 := CarriedAll.intsOf hc1
  refine kmk_add_ints F1 N1 (News.isList N1 (.tail _ (.head _))) hl1 (.cons (-2) _ (.cons (-5) _ .nil)) hj1 ?_ ?_
  · intro D2 us2 h2 F2 N2 l2 I2
    clear F1 N1
    have I2' : IntsAre us2 (firstL _) := I2
    clear I2
    k_steps
    refine Stop.go ?_
    (rename Fr _ _ _ _ => F3)
    (rename News _ _ _ _ => N3)
    have N3' := news_one N3 (.head _)
    clear N3 l2
    with_unfolding_all refine For_invVF F3 rfl rfl ?_
    refine ld F3 rfl ?_
    obtain ⟨t0, ht0⟩ : ∃ t0, frM F3 (Str.ofString "told") = some (.int 0 t0) := ⟨_, rfl⟩
    refine iter_invNL (fun i m nx => ∃ (u : Str → Option Value) (ss : List Int) (num : Int) (t : Tok), m = (fun y => if y = Str.ofString "start" then u y else if y = Str.ofString "told" then some (.int num t) else frM F3 y) ∧ nx = [(D2, listOf us2.toArray 0)] ∧ Num ss num ∧ ∀ v, ss.count v = ((inM I2').take i).count v) rfl (.head _) I2' F3 N3' ⟨frM F3, [], 0, t0, upd2 ht0, rfl, Num.nil, fun _ => rfl⟩ ?turn ?done
    · rintro i n t m₁ nx h tk own hi - hoff - ⟨u, ss, num, t', rfl, rfl, hN, hc⟩ F₁ N₁
      have hin := firstL_in n (List.mem_of_getElem? hi)
      have hsl : ss.length ≤ 4 := by
        have z := cnt_length hc
        have z2 := List.length_take_le i (inM I2')
        rw [List.length_take] at z
        have z3 := firstL_len (xs := inM hxs)
        have z4 : (inM I2').length ≤ 4 := z3
        lia
      k_steps
      refine Stop.go ?_
      (rename Fr _ _ _ _ => F5)
      (rename News _ _ _ _ => N5)
      refine put_sem (site_in [] (below_caller _) F5 X0 T0 News.nil rfl rfl) hN (by lia) hin.1 hin.2 (by ktr_room) (by ktr_units) ?_
      intro h6 tk6 n6 t6 K6 hN6
      obtain ⟨F6, N6⟩ := back_none K6 F5 N5
      clear F5 N5
      k_steps
      (rename Fr _ _ _ _ => F7)
      (rename News _ _ _ _ => N7)
      exact ⟨_, _, _, _, [(D2, listOf us2.toArray 0)], rfl, F7, N7, fun p hp => List.mem_append_left _ hp, fun p hp => List.mem_append_right _ hp, rfl, .head _, ⟨_, _, _, _, upd3, rfl, hN6, ins_take hc hi⟩⟩
    · rintro m₁ nx h tk - ⟨u, ss, num, t', rfl, rfl, hN, hc⟩ F₁ N₁
      rw [List.take_length] at hc
      k_steps
      refine Stop.go ?_
      (rename Fr _ _ _ _ => F5)
      (rename News _ _ _ _ => N5)
      have hql : (inM I2').length ≤ 4 := firstL_len (xs := inM hxs)
      refine heapify_spec (site_in [(D2, _)] (below_caller _) F5 X0 T0 N5 rfl rfl) (got1 N5) I2' (Nat.lt_of_le_of_lt hql (by decide)) (by ktr_room) (by ktr_units) ?_
      intro h6 tk6 vs6 n6 K6 g6 I6
      obtain ⟨F6, N6⟩ := back_head K6 g6 F5 N5 (List.forall_mem_nil _)
      clear F5 N5
      obtain ⟨hh1, hh2⟩ := hfy_heap (inM I2') ((inM I2').length / 2) (Nat.le_refl _)
      rw [Nat.sub_self] at hh1
      have hInv : Inv (hfy (inM I2') ((inM I2').length / 2) ((inM I2').length / 2)) num := ⟨hh1, ss, hN, fun v => by rw [hc v, hh2 v]⟩
      have hlen0 : (hfy (inM I2') ((inM I2').length / 2) ((inM I2').length / 2)).length ≤ 4 := by rw [hfy_length]; exact hql
      have I6' : IntsAre vs6 (hfy (inM I2') ((inM I2').length / 2) ((inM I2').length / 2)) := I6
      clear I6
      generalize hfy (inM I2') ((inM I2').length / 2) ((inM I2').length / 2) = q0 at hInv hlen0 I6'
      k_steps
      refine Stop.go ?_
      (rename Fr _ _ _ _ => F7)
      (rename News _ _ _ _ => N7)
      refine stands_spec (site_in [] (below_caller _) F7 X0 T0 News.nil rfl rfl) (N7.get (.head _)) I6' hInv (by lia) (by ktr_room) (by ktr_units) ?_
      intro h8 tk8 K8
      obtain ⟨F8, N8⟩ := back_none K8 F7 N7
      clear F7 N7
      k_steps
      refine Stop.go ?_
      (rename Fr _ _ _ _ => F9)
      (rename News _ _ _ _ => N9)
      with_unfolding_all refine For_invVF F9 rfl rfl ?_
      k_steps
      refine Stop.go ?_
      (rename Fr _ _ _ _ => F10)
      (rename News _ _ _ _ => N10)
      refine kmk_add_ints F10 N10 (News.isList N10 (.tail _ (.head _))) (News.isList N10 (.head _)) (by assumption) (.cons 3 _ (.cons 31 _ .nil)) ?_ ?_
      · intro D3 us3 h11 F11 N11 l11 I11
        have hD32 : D2 ≠ D3 := Nat.ne_of_lt (l11 _ (.tail _ (.tail _ (.head _))))
        have I11' : IntsAre us3 (List.take 5 (inM hxs) ++ [3, 31]) := I11
        have N11' : News _ _ h11 [(D2, listOf vs6.toArray n6), (D3, listOf us3.toArray 0)] := fun p hp => by
          rcases List.mem_cons.mp hp with rfl | hp
          · exact N11 _ (.tail _ (.tail _ (.tail _ (.head _))))
          · rw [List.mem_singleton.mp hp]
            exact N11 _ (.head _)
        clear N11 l11 I11 N10
        obtain ⟨t9, ht9⟩ : ∃ t9, frM F10 (Str.ofString "told") = some (.int num t9) := ⟨_, rfl⟩
        refine iter_invNL (fun i m nx => ∃ (u : Str → Option Value) (vs' : List Value) (n' : Nat) (ns : List Int) (num : Int) (t : Tok), m = (fun y => if y = Str.ofString "x" then u y else if y = Str.ofString "told" then some (.int num t) else frM F10 y) ∧ nx = [(D2, listOf vs'.toArray n'), (D3, listOf us3.toArray 0)] ∧ IntsAre vs' ns ∧ Inv ns num ∧ ns.length ≤ 4 + pushN ((inM I11').take i)) rfl (.tail _ (.head _)) I11' F11 N11' ⟨frM F10, vs6, n6, q0, num, t9, upd2 ht9, rfl, I6', hInv, hlen0⟩ ?turn2 ?done2
        · rintro i n t m₁ nx h tk own hi9 - hoff - ⟨u, vs', n', ns, num', t', rfl, rfl, hi, hI, hl⟩ F₁ N₁
          have p1 := pushN_snoc (l := inM I11') hi9
          have p2 := pushN_take (l := inM I11') (i := i + 1)
          have p3 : pushN (inM I11') ≤ 5 := pushN_all
          have q1 := Int.fmod_nonneg_of_pos n (show (0 : Int) < 4 by decide)
          have q2 := Int.fmod_lt_of_pos n (show (0 : Int) < 4 by decide)
          have hl9 : ns.length ≤ 9 := by lia
          have hl8 : n.fmod 4 = 0 → ns.length ≤ 8 := fun e => by
            rw [if_pos e] at p1
            lia
          have hna : ∀ p ∈ (D3, listOf us3.toArray 0) :: own, p.1 ≠ D2 := fun p hp => by
            rcases List.mem_cons.mp hp with rfl | hp
            · exact Ne.symm hD32
            · exact hoff p hp D2 (.head _)
          k_steps
          refine Stop.go ?_
          (rename Fr _ _ _ _ => F12)
          (rename News _ _ _ _ => N12)
          refine call_any (news := (D3, listOf us3.toArray 0) :: own) (below_caller _) F12 X0 T0 N12 hna hi hI hl9 hl8 q1 q2 item_v.1 item_v.2 ?_
          intro h13 tk13 vs13 n13 ns13 num13 t13 F13 N13 I13 Inv13 hl13 _
          clear F12 N12
          have hnn : 0 ≤ num13 := Inv13.num.elim fun ss h => h.1.nonneg
          have hl13' : ns13.length ≤ 4 + pushN ((inM I11').take (i + 1)) := by rw [p1]; lia
          k_steps
          refine Stop.go ?_
          (rename Fr _ _ _ _ => F14)
          (rename News _ _ _ _ => N14)
          refine stands_spec (site_in [] (below_caller _) F14 X0 T0 News.nil rfl rfl) (N14.get (.head _)) I13 Inv13 (by lia) (by ktr_room) (by ktr_units) ?_
          intro h15 tk15 K15
          obtain ⟨F15, N15⟩ := back_none K15 F14 N14
          clear F14 N14
          k_steps
          (rename Fr _ _ _ _ => F16)
          (rename News _ _ _ _ => N16)
          exact ⟨_, _, _, _, [(D2, listOf vs13.toArray n13), (D3, listOf us3.toArray 0)], rfl, F16, N16, fun p hp => List.mem_append_left own hp, fun p hp => List.mem_append_right [(D2, listOf vs13.toArray n13), (D3, listOf us3.toArray 0)] hp, rfl, .tail _ (.head _), ⟨_, vs13, n13, ns13, num13, _, upd3, rfl, I13, Inv13, hl13'⟩⟩
        · rintro m₁ nx h tk - ⟨u, vs', n', ns, num, t', rfl, rfl, hi, hI, hl⟩ F₁ N₁
          have p2 := pushN_take (l := inM I11') (i := (List.take 5 (inM hxs) ++ [3, 31]).length)
          have p3 : pushN (inM I11') ≤ 5 := pushN_all
          have hl9 : ns.length ≤ 9 := Nat.le_trans hl (by lia)
          clear hl p2 p3
          k_steps
          refine Stop.go ?_
          (rename Fr _ _ _ _ => F12)
          (rename News _ _ _ _ => N12)
          refine counted_spec (site_in [] (below_caller _) F12 X0 T0 News.nil rfl rfl) (N12.get (by k_mem)) hi hI hl9 (by ktr_room) (by ktr_units) ?_
          intro h13 tk13 K13
          obtain ⟨F13, N13⟩ := back_none K13 F12 N12
          clear F12 N12
          k_steps
          refine Stop.go ?_
          (rename List.Perm _ _ => hp9)
          (rename IntsAre _ (List.reverse _) => hf9)
          have N14 := news_one N13 (.head _)
          have hp8 := hp9.length_eq
          refine heapify_spec (site_in [(_, _)] (below_caller _) F13 X0 T0 N14 rfl rfl) (got1 N14) hf9 (by rw [List.length_reverse]; lia) (by ktr_room) (by ktr_units) ?_
          intro h15 tk15 vs15 n15 K15 g15 I15
          obtain ⟨F15, N15⟩ := back_head K15 g15 F13 N14 (List.forall_mem_nil _)
          obtain ⟨hh1, hh2⟩ := hfy_heap _ _ (Nat.le_refl ((List.reverse _).length / 2))
          rw [Nat.sub_self] at hh1
          have hInv2 : Inv _ num := ⟨hh1, by
            obtain ⟨ss, c1, c2⟩ := hI.num
            exact ⟨ss, c1, fun v => by rw [c2 v, hh2 v, List.count_reverse, hp9.count_eq]⟩⟩
          have hlen2 : (hfy (inM hf9) ((inM hf9).length / 2) ((inM hf9).length / 2)).length ≤ 9 := by rw [hfy_length]; show (List.reverse _).length ≤ 9; rw [List.length_reverse]; lia
          have hInv3 : Inv (hfy (inM hf9) ((inM hf9).length / 2) ((inM hf9).length / 2)) num := hInv2
          have I15' : IntsAre vs15 (hfy (inM hf9) ((inM hf9).length / 2) ((inM hf9).length / 2)) := I15
          clear I15 hInv2 hh1 hh2 F13 N14 N13
          generalize hfy (inM hf9) ((inM hf9).length / 2) ((inM hf9).length / 2) = q1 at hlen2 hInv3 I15'
          k_with "exec While Compare cons nil" => k_while (fun script told fallen => Inv fallen told ∧ fallen.length ≤ 9) (fun script told fallen => fallen.length) "told" "fallen"
          k_with "state" => exact ⟨by assumption, by assumption⟩
          k_steps
          all_goals first
            | (exfalso
               (rename Inv _ _ => hi20)
               have hz20 := Inv.nonneg hi20
               lia)
            | (exfalso
               (rename decide (_ = []) = false => hd20)
               (rename Inv _ _ => hi20)
               have e20 := Inv.nil_of hi20 (by lia)
               rw [e20] at hd20
               simp at hd20)
            | skip
          · refine Stop.go ?_
            (rename Fr _ _ _ _ => F20)
            (rename News _ _ _ _ => N20)
            (rename Inv _ _ => hi20)
            (rename IntsAre _ _ => hv20)
            refine call_any (below_caller _) F20 X0 T0 N20 (List.forall_mem_nil _) hv20 hi20 (by assumption) (fun e => absurd e (by decide)) (by decide) (by decide) (by decide) (by decide) ?_
            intro h21 tk21 vs21 n21 ns21 num21 t21 F21 N21 I21 Inv21 hl21 hl21'
            have hlen21 := hl21' rfl (Inv.pos hi20 (by assumption))
            have hl9' : ns21.length ≤ 9 := by lia
            clear F20 N20
            k_steps
          · refine Stop.go ?_
            (rename Fr _ _ _ _ => F20)
            (rename News _ _ _ _ => N20)
            (rename decide (_ = []) = true => hd20)
            (rename IntsAre _ _ => hv20)
            have e20 := nil_values hv20 (of_decide_eq_true hd20)
            subst e20
            have N21 := news_one N20 (.tail _ (.head _))
            clear N20
            refine call1e (below_caller _) F20 X0 T0 N21 ?_
            intro h22 tk22 t22 F22 N22
            clear F20 N21
            k_steps
            refine Stop.go ?_
            (rename Fr _ _ _ _ => F23)
            (rename News _ _ _ _ => N23)
            refine call2e (below_caller _) F23 X0 T0 N23 ?_
            intro h24 tk24 t24 F24 N24
            clear F23 N23
            k_steps
      · refine sizeLine_ge ?_
        have z := List.length_take_le 5 (inM hxs)
        simp only [List.length_cons, List.length_nil]
        have z2 : (List.take 5 (inM hxs)).length + 2 ≤ 1000 := by lia
        exact z2
  · have hz := @firstL_len
    refine sizeLine_ge (Nat.le_trans ?_ (show 4 ≤ 1000 by decide))
    have z := hz (xs := inM hxs)
    simp only [firstL, inM, List.length_cons, List.length_nil] at z ⊢
    lia)
end Mine
end
theorem PySem.Challenge.cw_rt0003_01_holds : PySem.Challenge.rw_rt0003_01.Holds :=
  Mine.lawT
