import PyProof.Rows.All
import Wide.All
import OpenK.AllK
import Wide.FinOn
import Lean
import PySem.Challenge.RW_bm0006_01
open PySem PySem.W PyProof.Rows PySem.Calls
set_option Elab.async false
set_option maxRecDepth 100000
set_option linter.unusedVariables false
set_option linter.unusedSimpArgs false
namespace Mine
section
set_option maxHeartbeats 8000000
local macro_rules
  | `(tactic| o_head (kmHook $k $a $p $ts)) =>
    match ts with
    | `($_ :: $_) => `(tactic| o_head (kmHook $k $a $p [768, 630]))
    | _ => Lean.Macro.throwUnsupported
open_top hd for PySem.Challenge.rw_bm0006_01
end
theorem fillIt (P : Params) : PySem.Challenge.rw_bm0006_01 = PySem.Challenge.rw_bm0006_01 ∧ hd.heap_39 P = hd.heap_39 P := by k_fill; exact ⟨rfl, rfl⟩
section
section
theorem depth_le0 {A : Around} {n m : Nat} (h : A.depth ≤ n) (hm : n ≤ m) : A.depth ≤ m := Nat.le_trans h hm
theorem depth_le1 {A : Around} {env : Env} {n m : Nat} (h : A.depth ≤ n) (hm : n + 1 ≤ m) : (A.deeper env).depth ≤ m := Nat.le_trans (Nat.add_le_add_right h 1) hm
theorem depth_lt0 {A : Around} {n : Nat} (h : A.depth ≤ n) (hm : n < recursionLimit) : A.depth < recursionLimit := Nat.lt_of_le_of_lt h hm
theorem depth_lt1 {A : Around} {env : Env} {n : Nat} (h : A.depth ≤ n) (hm : n + 1 < recursionLimit) : (A.deeper env).depth < recursionLimit := Nat.lt_of_le_of_lt (Nat.add_le_add_right h 1) hm

section
variable {prog : Program} {w : World} {A : Around} {s : Shared} {h₀ : Heap} {L : Addr} {m : Str → Option Value} {news : List (Addr × Obj)} {K : Frag}
  {R : Result → Shared → Prop} {name qual : Str} {params : Arguments} {body : List Stmt} {scope : Scope} {dV kV doc pm cdv ct oc : Value} {an od : Option Addr} {osl : Array (Option Value)} {f : Addr} {args : Args} {binds : List (Str × Value)}
  {p : Program} {loose : List Str} {mg mb : Str → Option Value}

theorem ground0 (F : Fr h₀ L s.heap m) (N : News h₀ L s.heap news) :
    Fr h₀ L (hideAll s.heap (news.map (·.1))) m ∧ h₀.StaysIn (hideAll s.heap (news.map (·.1))) ∧
      ∀ v s', LeaveK h₀ L m (hideAll s.heap (news.map (·.1))) R v s' → R (.ok (.ret v)) s' := by
  have nm : ∀ b o, h₀.get? b = some o → b ∉ news.map (·.1) := fun b o e q => by
    obtain ⟨p, hp, rfl⟩ := List.mem_map.mp q
    rw [(N p hp).2.2] at e; cases e
  have st : h₀.StaysIn (hideAll s.heap (news.map (·.1))) := fun b o e => hideAll_get _ (F.keep b o e) (nm b o e)
  obtain ⟨oL, es, ep, hL, hrest⟩ := F.ns
  have nL : L ∉ news.map (·.1) := fun q => by
    obtain ⟨p, hp, e⟩ := List.mem_map.mp q
    exact (N p hp).2.1 e
  have hLg := hideAll_get (news.map (·.1)) hL nL
  refine ⟨⟨⟨oL, es, ep, hLg, hrest⟩, st, F.above⟩, st, ?_⟩
  rintro v s' ⟨L', m', news', F', N', k⟩
  refine k ⟨⟨oL, es, ep, F'.keep L oL hLg, hrest⟩, fun b o e => F'.keep b o (st b o e), F.above⟩ fun p hp => ⟨(N' p hp).1, fun q => ?_, ?_⟩
  · have := (N' p hp).2.2; rw [q, hLg] at this; cases this
  · cases q : h₀.get? p.1 with
    | none => rfl
    | some o => have := (N' p hp).2.2; rw [st _ _ q] at this; cases this

/-- a plain def's call: the caller's made objects go along, its other objects stay -/
theorem enter_plain (F : Fr h₀ L s.heap m) (X₀ : K.In h₀) (N : News h₀ L s.heap news) (T : TopRead p loose mg mb h₀)
    (ho : K.lookup f = some ⟨oc, od, .func (fnOf name qual params body scope dV kV doc pm an cdv ct), osl⟩) (hcd : codeIn K cdv qual = true) (hroom : A.depth < recursionLimit)
    (hbind : BindsTo s (fnOf name qual params body scope dV kV doc pm an cdv ct) args binds) (hloc : ∀ y ∈ binds, scope.names.lookup y.1 = some .local)
    (h : ∀ g L' h₁, Fr h₀ L g m → Fr g L' h₁ (fun y => binds.reverse.lookup y) → News g L' h₁ news → K.In g → TopRead p loose mg mb g → (∀ p ∈ news, p.1 < L') →
      wpAny (model prog w) (A.deeper (envOf qual scope L' f cdv)) (execs body (envOf qual scope L' f cdv))
        (fun fl s' => LeaveK h₀ L m g R (match fl with | .ret v => v | _ => .none) s') (fun _ _ => False)
        { s with heap := h₁, toks := s.toks + binds.length })
    (hco : scope.isCoroutine = false) (hgen : scope.isGenerator = false) (hk : scope.kind = .function)
    (hcell : ∀ x ∈ scope.names, x.2 ≠ .cell) : codeAny (model prog w) A (.call (.ref f) args) R s := by
  obtain ⟨FG, st, lv⟩ := ground0 (R := R) F N
  refine codeAny_call_def (fd := fnOf name qual params body scope dV kV doc pm an cdv ct) (body := body) (binds := binds) hroom ((X₀.keeps F.keep) _ _ ho) rfl (T.nolimit.keeps F.keep) (codeRec_of (X₀.keeps F.keep) hcd) rfl hbind hcell hloc (fun h₁ hns hk₁ => ?_) hco hgen hk
  exact wpAny_mono (h _ s.heap.objs.size h₁ FG ⟨hns, fun b o e => hk₁ b o (of_hideAll _ e), Nat.le_of_eq (hideAll_size _ _)⟩
    (fun p hp => ⟨hk₁ _ _ (N p hp).1, Nat.ne_of_lt (Heap.lt_size (N p hp).1), hideAll_none _ (List.mem_map_of_mem hp)⟩) (X₀.keeps st) (T.keeps st) fun p hp => Heap.lt_size (N p hp).1)
    (fun fl s' hl => lv _ _ hl) fun _ _ y => y.elim

theorem enter_cells (F : Fr h₀ L s.heap m) (X₀ : K.In h₀) (N : News h₀ L s.heap news) (T : TopRead p loose mg mb h₀)
    (ho : K.lookup f = some ⟨oc, od, .func (fnOf name qual params body scope dV kV doc pm an cdv ct), osl⟩) (hcd : codeIn K cdv qual = true) (hroom : A.depth < recursionLimit)
    (hbind : BindsTo s (fnOf name qual params body scope dV kV doc pm an cdv ct) args binds) (hkind : (binds.all fun y => scope.names.lookup y.1 == some .local || scope.names.lookup y.1 == some .cell) = true)
    (hnd : ((cellsFrom 0 scope.names []).map (·.1)).Nodup)
    (h : ∀ g L' h₁ tk cells, Fr h₀ L g m → Fr g L' h₁ (bindL (envOfC qual scope L' f cdv).kindOf binds fun _ => none) → News g L' h₁ (cells ++ news) →
      CellsAre (bindC (envOfC qual scope L' f cdv).kindOf binds fun _ => none) (cellsFrom (L' + 1) scope.names []) cells → K.In g → TopRead p loose mg mb g → (∀ p ∈ news, p.1 < L') →
      wpAny (model prog w) (A.deeper (envOfC qual scope L' f cdv)) (execs body (envOfC qual scope L' f cdv))
        (fun fl s' => LeaveK h₀ L m g R (match fl with | .ret v => v | _ => .none) s') (fun _ _ => False)
        { s with heap := h₁, toks := tk })
    (hco : scope.isCoroutine = false) (hgen : scope.isGenerator = false) (hk : scope.kind = .function) : codeAny (model prog w) A (.call (.ref f) args) R s := by
  obtain ⟨FG, st, lv⟩ := ground0 (R := R) F N
  refine codeAny_call_function hroom ((X₀.keeps F.keep) _ _ ho) rfl hco hgen rfl (codeRec_of (X₀.keeps F.keep) hcd) (hbind _ _ _ _ ?_)
  refine wpAny_newFunctionEnv_cells hk (kindsX hkind _) fun env' he s' x => ?_
  subst he
  refine ⟨(T.nolimit.keeps F.keep).keeps x.toInCall.keep, codeAny_func ?_⟩
  obtain ⟨h₁, tk, rfl, _⟩ := x.done
  have hk₁ := x.toInCall.keep
  obtain ⟨cells, NC, Y⟩ := Cl.news (h₀ := s.heap) (Nat.le_refl _) fun n c hm => ⟨x.cell n c (lookup_of_mem_nodup (cellsFrom_names scope.names 0 (s.heap.objs.size + 1) [] [] rfl ▸ hnd) hm), x.above n c hm⟩
  refine wpAny_mono (h _ s.heap.objs.size h₁ tk cells FG ⟨x.toInCall.ns, fun b o e => hk₁ b o (of_hideAll _ e), Nat.le_of_eq (hideAll_size _ _)⟩ (fun p hp => ?_) Y (X₀.keeps st) (T.keeps st) fun p hp => Heap.lt_size (N p hp).1) (fun fl s' hl => lv _ _ hl) fun _ _ y => y.elim
  rcases List.mem_append.mp hp with hp | hp
  · refine ⟨(NC p hp).1, (NC p hp).2.1, ?_⟩
    cases q : (hideAll s.heap (news.map (·.1))).get? p.1 with
    | none => rfl
    | some o => have := of_hideAll _ q; rw [(NC p hp).2.2] at this; cases this
  · exact ⟨hk₁ _ _ (N p hp).1, Nat.ne_of_lt (Heap.lt_size (N p hp).1), hideAll_none _ (List.mem_map_of_mem hp)⟩

/-! contracts without a caller's frame -/

/-- the objects stand in h, none of them in g -/
def Has (g h : Heap) (objs : List (Addr × Obj)) : Prop := ∀ p ∈ objs, h.get? p.1 = some p.2 ∧ g.get? p.1 = none
/-- all that stood stands -/
abbrev Up (h h' : Heap) : Prop := ∀ b o, h.get? b = some o → h'.get? b = some o

variable {g h h' h'' : Heap} {objs objs' : List (Addr × Obj)}
theorem Up.trans (a : Up h h') (b : Up h' h'') : Up h h'' := fun x o e => b x o (a x o e)
theorem Has.nil : Has g h [] := fun _ hp => nomatch hp
theorem Has.cons {a : Addr} {o : Obj} (e : h.get? a = some o) (n : g.get? a = none) (H : Has g h objs) : Has g h ((a, o) :: objs) := fun q hq => by
  rcases List.mem_cons.mp hq with rfl | hq
  · exact ⟨e, n⟩
  · exact H q hq
theorem Has.up (H : Has g h objs) (k : Up h h') : Has g h' objs := fun p hp => ⟨k _ _ (H p hp).1, (H p hp).2⟩
theorem Has.sub (H : Has g h objs) (k : ∀ p ∈ objs', p ∈ objs) : Has g h objs' := fun p hp => H p (k p hp)
theorem Has.app (H : Has g h objs) (H' : Has g h objs') : Has g h (objs ++ objs') := fun p hp => (List.mem_append.mp hp).elim (H p) (H' p)
theorem none_of (k : Up g h) {a : Addr} (e : h.get? a = none) : g.get? a = none := by
  cases q : g.get? a with
  | none => rfl
  | some o => rw [k _ _ q] at e; cases e
theorem Has.low (H : Has h h' objs) (k : Up g h) : Has g h' objs := fun p hp => ⟨(H p hp).1, none_of k (H p hp).2⟩
theorem Has.of_news (N : News g L h news) (k : ∀ p ∈ objs, p ∈ news) : Has g h objs := fun p hp => ⟨(N p (k p hp)).1, (N p (k p hp)).2.2⟩
theorem News.add (F : Fr g L h m) (N : News g L h news) (k : Up h h') (H : Has h h' objs) : News g L h' (objs ++ news) := fun p hp => by
  rcases List.mem_append.mp hp with hp | hp
  · refine ⟨(H p hp).1, fun e => ?_, none_of F.keep (H p hp).2⟩
    obtain ⟨_, _, _, hL, _⟩ := F.ns
    have := (H p hp).2
    rw [e, hL] at this; cases this
  · exact ⟨k _ _ (N p hp).1, (N p hp).2⟩

def AllMem : List (Addr × Obj) → List (Addr × Obj) → Prop
  | [], _ => True
  | q :: r, l => q ∈ l ∧ AllMem r l
theorem AllMem.sub {l' : List (Addr × Obj)} : ∀ {l : List (Addr × Obj)}, AllMem l l' → ∀ q ∈ l, q ∈ l'
  | [], _, _, h => nomatch h
  | _ :: _, hm, q, h => (List.mem_cons.mp h).elim (fun e => e ▸ hm.1) (AllMem.sub hm.2 q)
/-- no place of the one list is a place of the other -/
def Apart (l l' : List (Addr × Obj)) : Prop := ∀ q ∈ l, ∀ p ∈ l', q.1 ≠ p.1
theorem Apart.nil {l : List (Addr × Obj)} : Apart l [] := fun _ _ _ h => nomatch h
def NeAll (d : Nat) : List (Addr × Obj) → Prop
  | [] => True
  | p :: r => @Ne Nat d p.1 ∧ NeAll d r
def ApartL : List (Addr × Obj) → List (Addr × Obj) → Prop
  | [], _ => True
  | q :: r, l => NeAll q.1 l ∧ ApartL r l
theorem NeAll.of {d : Addr} : ∀ {l : List (Addr × Obj)}, (∀ p ∈ l, d ≠ p.1) → NeAll d l
  | [], _ => trivial
  | _ :: _, h => ⟨h _ (.head _), NeAll.of fun p hp => h p (.tail _ hp)⟩
theorem NeAll.at {d : Addr} : ∀ {l : List (Addr × Obj)}, NeAll d l → ∀ p ∈ l, d ≠ p.1
  | [], _, _, h => nomatch h
  | _ :: _, hm, p, h => (List.mem_cons.mp h).elim (fun e => e ▸ hm.1) (NeAll.at hm.2 p)
theorem ApartL.of {l' : List (Addr × Obj)} : ∀ {l : List (Addr × Obj)}, Apart l l' → ApartL l l'
  | [], _ => trivial
  | _ :: _, h => ⟨NeAll.of fun p hp => h _ (.head _) p hp, ApartL.of fun q hq => h q (.tail _ hq)⟩
theorem ApartL.apart {l' : List (Addr × Obj)} : ∀ {l : List (Addr × Obj)}, ApartL l l' → Apart l l'
  | [], _, _, h => nomatch h
  | _ :: _, hm, q, h => (List.mem_cons.mp h).elim (fun e => e ▸ hm.1.at) (ApartL.apart hm.2 q)
/-- what is new stands at no place that stood -/
theorem apart_news {h h' : Heap} {new : List (Addr × Obj)} (H : Has h h' new) (N : News g L h news) : ApartL new news := ApartL.of fun q hq p hp e => by
  have h1 := (H q hq).2
  rw [e, (N p hp).1] at h1; cases h1
theorem apart_has {h h' : Heap} {new : List (Addr × Obj)} (H : Has h h' new) (N : Has g h objs) : ApartL new objs := ApartL.of fun q hq p hp e => by
  have h1 := (H q hq).2
  rw [e, (N p hp).1] at h1; cases h1
/-- what a body's run over the ground g' leaves of the heap s.heap -/
theorem up_of {g' : Heap} (hO : Has g h objs) (keep : ∀ b o, h.get? b = some o → b ∉ objs.map (·.1) → g'.get? b = some o) (F : Fr g' L h' m) (N : News g' L h' news) (k : ∀ p ∈ objs, p ∈ news) : Up h h' := fun b o e => by
  by_cases hb : b ∈ objs.map (·.1)
  · obtain ⟨p, hp, rfl⟩ := List.mem_map.mp hb
    rw [(hO p hp).1] at e
    cases e
    exact (N p (k p hp)).1
  · exact F.keep b o (keep b o e hb)

theorem up_but {g' : Heap} (hO : Has g h objs) (keep : ∀ b o, h.get? b = some o → b ∉ objs.map (·.1) → g'.get? b = some o) (F : Fr g' L h' m) (N : News g' L h' news) {l : Addr} (k : ∀ p ∈ objs, p.1 ≠ l → p ∈ news) :
    ∀ b o, b ≠ l → h.get? b = some o → h'.get? b = some o := fun b o hl e => by
  by_cases hb : b ∈ objs.map (·.1)
  · obtain ⟨p, hp, rfl⟩ := List.mem_map.mp hb
    rw [(hO p hp).1] at e
    cases e
    exact (N p (k p hp hl)).1
  · exact F.keep b o (keep b o e hb)

theorem new_of {g' : Heap} (hO : Has g h objs) (keep : ∀ b o, h.get? b = some o → b ∉ objs.map (·.1) → g'.get? b = some o) {a : Addr} (hg : g'.get? a = none) (hn : ∀ p ∈ objs, a ≠ p.1) : h.get? a = none := by
  cases e : h.get? a with
  | none => rfl
  | some o =>
    have hb : a ∉ objs.map (·.1) := fun q => by
      obtain ⟨p, hp, e⟩ := List.mem_map.mp q
      exact hn p hp e.symm
    rw [keep a o e hb] at hg; cases hg

theorem enterF (G : Up g s.heap) (X : K.In g) (T : TopRead p loose mg mb g) (hO : Has g s.heap objs)
    (ho : K.lookup f = some ⟨oc, od, .func (fnOf name qual params body scope dV kV doc pm an cdv ct), osl⟩) (hcd : codeIn K cdv qual = true) (hroom : A.depth < recursionLimit)
    (hbind : BindsTo s (fnOf name qual params body scope dV kV doc pm an cdv ct) args binds) (hloc : ∀ y ∈ binds, scope.names.lookup y.1 = some .local)
    (h : ∀ g' L' h₁, (∀ b o, s.heap.get? b = some o → b ∉ objs.map (·.1) → g'.get? b = some o) → Up g g' → Fr g' L' h₁ (fun y => binds.reverse.lookup y) → News g' L' h₁ objs → K.In g' → TopRead p loose mg mb g' → (∀ p ∈ objs, p.1 < L') →
      wpAny (model prog w) (A.deeper (envOf qual scope L' f cdv)) (execs body (envOf qual scope L' f cdv))
        (fun fl s' => R (.ok (.ret (match fl with | .ret v => v | _ => .none))) s') (fun _ _ => False)
        { s with heap := h₁, toks := s.toks + binds.length })
    (hco : scope.isCoroutine = false) (hgen : scope.isGenerator = false) (hk : scope.kind = .function)
    (hcell : ∀ x ∈ scope.names, x.2 ≠ .cell) : codeAny (model prog w) A (.call (.ref f) args) R s := by
  have nm : ∀ b o, g.get? b = some o → b ∉ objs.map (·.1) := fun b o e q => by
    obtain ⟨p, hp, rfl⟩ := List.mem_map.mp q
    rw [(hO p hp).2] at e; cases e
  have st : Up g (hideAll s.heap (objs.map (·.1))) := fun b o e => hideAll_get _ (G b o e) (nm b o e)
  refine codeAny_call_def (fd := fnOf name qual params body scope dV kV doc pm an cdv ct) (body := body) (binds := binds) hroom ((X.keeps G) _ _ ho) rfl (T.nolimit.keeps G) (codeRec_of (X.keeps G) hcd) rfl hbind hcell hloc (fun h₁ hns hk₁ => ?_) hco hgen hk
  exact wpAny_mono (h _ s.heap.objs.size h₁ (fun b o e hb => hideAll_get _ e hb) st ⟨hns, fun b o e => hk₁ b o (of_hideAll _ e), Nat.le_of_eq (hideAll_size _ _)⟩
    (fun p hp => ⟨hk₁ _ _ (hO p hp).1, Nat.ne_of_lt (Heap.lt_size (hO p hp).1), hideAll_none _ (List.mem_map_of_mem hp)⟩) (X.keeps st) (T.keeps st) fun p hp => Heap.lt_size (hO p hp).1)
    (fun fl s' hl => hl) fun _ _ y => y.elim

theorem enterFC (G : Up g s.heap) (X : K.In g) (T : TopRead p loose mg mb g) (hO : Has g s.heap objs)
    (ho : K.lookup f = some ⟨oc, od, .func (fnOf name qual params body scope dV kV doc pm an cdv ct), osl⟩) (hcd : codeIn K cdv qual = true) (hroom : A.depth < recursionLimit)
    (hbind : BindsTo s (fnOf name qual params body scope dV kV doc pm an cdv ct) args binds) (hkind : (binds.all fun y => scope.names.lookup y.1 == some .local || scope.names.lookup y.1 == some .cell) = true)
    (hnd : ((cellsFrom 0 scope.names []).map (·.1)).Nodup)
    (h : ∀ g' L' h₁ tk cells, (∀ b o, s.heap.get? b = some o → b ∉ objs.map (·.1) → g'.get? b = some o) → Up g g' → Fr g' L' h₁ (bindL (envOfC qual scope L' f cdv).kindOf binds fun _ => none) → News g' L' h₁ (cells ++ objs) →
      CellsAre (bindC (envOfC qual scope L' f cdv).kindOf binds fun _ => none) (cellsFrom (L' + 1) scope.names []) cells → K.In g' → TopRead p loose mg mb g' → (∀ p ∈ objs, p.1 < L') →
      wpAny (model prog w) (A.deeper (envOfC qual scope L' f cdv)) (execs body (envOfC qual scope L' f cdv))
        (fun fl s' => R (.ok (.ret (match fl with | .ret v => v | _ => .none))) s') (fun _ _ => False)
        { s with heap := h₁, toks := tk })
    (hco : scope.isCoroutine = false) (hgen : scope.isGenerator = false) (hk : scope.kind = .function) : codeAny (model prog w) A (.call (.ref f) args) R s := by
  have nm : ∀ b o, g.get? b = some o → b ∉ objs.map (·.1) := fun b o e q => by
    obtain ⟨p, hp, rfl⟩ := List.mem_map.mp q
    rw [(hO p hp).2] at e; cases e
  have st : Up g (hideAll s.heap (objs.map (·.1))) := fun b o e => hideAll_get _ (G b o e) (nm b o e)
  refine codeAny_call_function hroom ((X.keeps G) _ _ ho) rfl hco hgen rfl (codeRec_of (X.keeps G) hcd) (hbind _ _ _ _ ?_)
  refine wpAny_newFunctionEnv_cells hk (kindsX hkind _) fun env' he s' x => ?_
  subst he
  refine ⟨(T.nolimit.keeps G).keeps x.toInCall.keep, codeAny_func ?_⟩
  obtain ⟨h₁, tk, rfl, _⟩ := x.done
  have hk₁ := x.toInCall.keep
  obtain ⟨cells, NC, Y⟩ := Cl.news (h₀ := s.heap) (Nat.le_refl _) fun n c hm => ⟨x.cell n c (lookup_of_mem_nodup (cellsFrom_names scope.names 0 (s.heap.objs.size + 1) [] [] rfl ▸ hnd) hm), x.above n c hm⟩
  refine wpAny_mono (h _ s.heap.objs.size h₁ tk cells (fun b o e hb => hideAll_get _ e hb) st ⟨x.toInCall.ns, fun b o e => hk₁ b o (of_hideAll _ e), Nat.le_of_eq (hideAll_size _ _)⟩ (fun p hp => ?_) Y (X.keeps st) (T.keeps st) fun p hp => Heap.lt_size (hO p hp).1) (fun fl s' hl => hl) fun _ _ y => y.elim
  rcases List.mem_append.mp hp with hp | hp
  · refine ⟨(NC p hp).1, (NC p hp).2.1, ?_⟩
    cases q : (hideAll s.heap (objs.map (·.1))).get? p.1 with
    | none => rfl
    | some o => have := of_hideAll _ q; rw [(NC p hp).2.2] at this; cases this
  · exact ⟨hk₁ _ _ (hO p hp).1, Nat.ne_of_lt (Heap.lt_size (hO p hp).1), hideAll_none _ (List.mem_map_of_mem hp)⟩

/-- what the body has made is new to the heap s.heap -/
theorem has_new {g' : Heap} {new : List (Addr × Obj)} (hO : Has g h objs) (keep : ∀ b o, h.get? b = some o → b ∉ objs.map (·.1) → g'.get? b = some o) (N : News g' L h' news) (hs : ∀ q ∈ new, q ∈ news)
    (hd : ∀ q ∈ new, ∀ p ∈ objs, q.1 ≠ p.1) : Has h h' new := fun q hq => ⟨(N q (hs q hq)).1, new_of hO keep (N q (hs q hq)).2.2 (hd q hq)⟩

/-- a class of the text is called -/
theorem makeF {C fI : Addr} {rest : List Value} {kw : List (Str × Value)} (G : Up g s.heap) (X : K.In g) (hm : makesIn K C = true) (hi : findIn K (.ref C) "__init__" = some (some (.ref fI))) (hf : isFn K (.ref fI) = true)
    (h : ∀ x dx h', Up s.heap h' → Has s.heap h' [(x, instObj C dx), (dx, dictOf [] 0)] → dx < x → (∀ b o, s.heap.get? b = some o → b < dx) →
      codeAny (model prog w) (A.under (.builtin "type.__call__" ⟨.ref C :: rest, kw⟩)) (.call (.ref fI) ⟨.ref x :: rest, kw⟩) (InitBack x R) { s with heap := h' }) :
    codeAny (model prog w) A (.call (.ref C) ⟨rest, kw⟩) R s := by
  obtain ⟨hh, gg, d, t, os⟩ := s
  have X' := X.keeps G
  have e1 : hh.get? hh.objs.size = none := by
    cases q : hh.get? hh.objs.size with
    | none => rfl
    | some o => exact absurd (Heap.lt_size q) (Nat.lt_irrefl _)
  have e2 : hh.get? (hh.objs.size + 1) = none := by
    cases q : hh.get? (hh.objs.size + 1) with
    | none => rfl
    | some o => exact absurd (Heap.lt_size q) (Nat.not_lt.mpr (Nat.le_succ _))
  refine make_core (makes_of X' hm) (looks_findIn X' hi) (fun self => bind_fn X' self (beq_iff_eq.mp hf)) (.inl rfl) (h _ hh.objs.size _ (fun b o e => Heap.get?_push_of_some _ (Heap.get?_push_of_some _ e)) ?_ (Nat.lt_succ_self _) fun b o e => Heap.lt_size e)
  refine Has.cons ?_ e2 (Has.cons ?_ e1 Has.nil)
  · have := Heap.get?_push_size (hh.push emptyDict) (o := instObj C hh.objs.size) rfl
    rwa [Heap.size_push] at this
  · exact Heap.get?_push_of_some _ (Heap.get?_push_size _ rfl)

/-- a def with a starred parameter at its end -/
theorem enterFV {vs : List Value} {bs : Value → List (Str × Value)} (G : Up g s.heap) (X : K.In g) (T : TopRead p loose mg mb g) (hO : Has g s.heap objs)
    (ho : K.lookup f = some ⟨oc, od, .func (fnOf name qual params body scope dV kV doc pm an cdv ct), osl⟩) (hcd : codeIn K cdv qual = true) (hroom : A.depth < recursionLimit)
    (hbind : bindArgs (fnOf name qual params body scope dV kV doc pm an cdv ct) args = (newTuple vs >>= fun t => pure (bs t))) (hloc : ∀ t, ∀ y ∈ bs t, scope.names.lookup y.1 = some .local) (hz : vs.length ≤ sizeLine)
    (h : ∀ D g' L' h₁, (∀ b o, s.heap.get? b = some o → b ∉ objs.map (·.1) → g'.get? b = some o) → Up g g' → s.heap.get? D = none → Fr g' L' h₁ (fun y => (bs (.ref D)).reverse.lookup y) → News g' L' h₁ ((D, ({ cls := .type "tuple", data := .seq vs.toArray } : Obj)) :: objs) → K.In g' → TopRead p loose mg mb g' →
      (∀ p ∈ objs, p.1 < D) →
      wpAny (model prog w) (A.deeper (envOf qual scope L' f cdv)) (execs body (envOf qual scope L' f cdv))
        (fun fl s' => R (.ok (.ret (match fl with | .ret v => v | _ => .none))) s') (fun _ _ => False)
        { s with heap := h₁, toks := s.toks + (bs (.ref D)).length })
    (hco : scope.isCoroutine = false) (hgen : scope.isGenerator = false) (hk : scope.kind = .function)
    (hcell : ∀ x ∈ scope.names, x.2 ≠ .cell) : codeAny (model prog w) A (.call (.ref f) args) R s := by
  have nm : ∀ b o, g.get? b = some o → b ∉ objs.map (·.1) := fun b o e q => by
    obtain ⟨p, hp, rfl⟩ := List.mem_map.mp q
    rw [(hO p hp).2] at e; cases e
  have st : Up g (hideAll s.heap (objs.map (·.1))) := fun b o e => hideAll_get _ (G b o e) (nm b o e)
  have e1 : s.heap.get? s.heap.objs.size = none := by
    cases q : s.heap.get? s.heap.objs.size with
    | none => rfl
    | some o => exact absurd (Heap.lt_size q) (Nat.lt_irrefl _)
  refine codeAny_call_function (fd := fnOf name qual params body scope dV kV doc pm an cdv ct) (body := body) hroom ((X.keeps G) _ _ ho) rfl hco hgen rfl (codeRec_of (X.keeps G) hcd) ?_
  rw [hbind]
  refine wpAny_bind (wpAny_newObj_type (wpAny_pure ?_) (by show vs.toArray.size ≤ sizeLine; rw [List.size_toArray]; exact hz))
  refine wpAny_newFunctionEnv hcell (hloc _) (fun h₁ hns hsb => ⟨((T.nolimit.keeps G).push _).fresh _ hsb, codeAny_func ?_⟩) hk
  dsimp only at hns hsb ⊢
  have up1 : Up s.heap h₁ := fun b o e => hsb.extBut b o (by rw [Heap.size_push]; exact Nat.ne_of_lt (Nat.lt_succ_of_lt (Heap.lt_size e))) (Heap.get?_push_of_some _ (Heap.get?_push_of_some _ e))
  have hD : h₁.get? s.heap.objs.size = some ({ cls := .type "tuple", data := .seq vs.toArray } : Obj) :=
    hsb.extBut _ _ (by rw [Heap.size_push]; exact Nat.ne_of_lt (Nat.lt_succ_self _)) (Heap.get?_push_of_some _ (Heap.get?_push_size _ rfl))
  refine wpAny_mono (h s.heap.objs.size _ _ h₁ (fun b o e hb => hideAll_get _ e hb) st e1 ⟨hns, fun b o e => up1 b o (of_hideAll _ e), Nat.le_trans (Nat.le_of_eq (hideAll_size _ _)) (by rw [Heap.size_push]; exact Nat.le_succ _)⟩
    (fun p hp => ?_) (X.keeps st) (T.keeps st) fun p hp => Heap.lt_size (hO p hp).1) (fun fl s' hl => hl) fun _ _ y => y.elim
  rcases List.mem_cons.mp hp with rfl | hp
  · refine ⟨hD, by rw [Heap.size_push]; exact Nat.ne_of_lt (Nat.lt_succ_self _), ?_⟩
    cases q : (hideAll s.heap (objs.map (·.1))).get? s.heap.objs.size with
    | none => rfl
    | some o => have := of_hideAll _ q; rw [e1] at this; cases this
  · exact ⟨up1 _ _ (hO p hp).1, by rw [Heap.size_push]; exact Nat.ne_of_lt (Nat.lt_succ_of_lt (Heap.lt_size (hO p hp).1)), hideAll_none _ (List.mem_map_of_mem hp)⟩

section
variable {h0 g' : Heap} {old new fin : List (Addr × Obj)}
theorem up_mix (U : Up h0 h) (ho : Has g h0 old) (hn : Has h0 h new) (keep : ∀ b o, h.get? b = some o → b ∉ (new ++ old).map (·.1) → g'.get? b = some o) (F : Fr g' L h' m) (N : News g' L h' news)
    (k' : AllMem old news) : Up h0 h' := fun b o e => by
  have k := k'.sub
  by_cases hb : b ∈ old.map (·.1)
  · obtain ⟨p, hp, rfl⟩ := List.mem_map.mp hb
    rw [(ho p hp).1] at e
    cases e
    exact (N p (k p hp)).1
  · by_cases hc : b ∈ new.map (·.1)
    · obtain ⟨p, hp, rfl⟩ := List.mem_map.mp hc
      rw [(hn p hp).2] at e
      cases e
    · refine F.keep b o (keep b o (U b o e) fun q => ?_)
      rw [List.map_append] at q
      exact (List.mem_append.mp q).elim hc hb
theorem has_mix (U : Up h0 h) (hn : Has h0 h new) (keep : ∀ b o, h.get? b = some o → b ∉ (new ++ old).map (·.1) → g'.get? b = some o) (N : News g' L h' news)
    (hs' : AllMem fin news) (hd : Apart fin old) : Has h0 h' fin := fun q hq => by
  have hs := hs'.sub
  refine ⟨(N q (hs q hq)).1, ?_⟩
  cases e : h0.get? q.1 with
  | none => rfl
  | some o =>
    have hb : q.1 ∉ (new ++ old).map (·.1) := fun c => by
      rw [List.map_append] at c
      rcases List.mem_append.mp c with c | c
      · obtain ⟨p, hp, e2⟩ := List.mem_map.mp c
        have := (hn p hp).2
        rw [e2, e] at this; cases this
      · obtain ⟨p, hp, e2⟩ := List.mem_map.mp c
        exact hd q hq p hp e2.symm
    have := keep q.1 o (U q.1 o e) hb
    rw [(N q (hs q hq)).2.2] at this; cases this
end
end
end
section
open Sem (wp)

/-- one turn's head: the next item is taken and bound -/
structure TurnW (prog : Program) (w : World) (A : Around) (target : Expr) (env : Env) (I : Addr) (fp wr : List Addr) (n : Nat) (B : Nat → (Str → Option Value) → (Str → Option Value) → Prop) (St : Nat → Heap → Prop) : Prop where
  sub : ∀ b ∈ wr, b ∈ fp
  frame : ∀ i h h', St i h → (∀ b ∈ fp, ∀ o, h.get? b = some o → h'.get? b = some o) → St i h'
  item : ∀ i (s : Shared) (m : Str → Option Value) (Q : Shared → Prop) (E : Value → Shared → Prop), i < n → St i s.heap → s.heap.Ns env.locals m → env.locals ∉ fp →
    (∀ m' h' tk, B i m m' → h'.Ns env.locals m' → St (i + 1) h' → (∀ b o, b ∉ wr → b ≠ env.locals → s.heap.get? b = some o → h'.get? b = some o) → Q { s with heap := h', toks := tk }) →
    wpAny (model prog w) A (pyNext (.ref I)) (fun r s₁ => match r with
      | none => False
      | some v => wpAny (model prog w) A (letOwnedTupleGo target (.ref I) v) (fun _ s₂ => wpAny (model prog w) A (assign target env v) (fun _ s₃ => Q s₃) E s₂) E s₁) E s
  done : ∀ (s : Shared) (Q : Shared → Prop) (E : Value → Shared → Prop), St n s.heap →
    (∀ h' tk, (∀ b o, b ∉ wr → s.heap.get? b = some o → h'.get? b = some o) → Q { s with heap := h', toks := tk }) →
    wpAny (model prog w) A (pyNext (.ref I)) (fun r s₁ => match r with | none => Q s₁ | some _ => False) E s
  self : ∀ i (s : Shared) (Q : Value → Shared → Prop) (E : Value → Shared → Prop), St i s.heap → Q (.ref I) s → wpAny (model prog w) A (pyIter (.ref I)) Q E s

section
variable {prog : Program} {w : World} {A : Around} {E : Value → Shared → Prop} {env : Env} {I : Addr} {fp wr : List Addr} {n : Nat} {St : Nat → Heap → Prop}

theorem TurnW.name {P : Nat → Value → Prop} {x : Str} {px : Pos} (W : Walks prog w A I fp wr n P St) (hx : env.kindOf x = some .local)
    (hp : (env.scope.kind == .class || (env.scope.kind == .module && env.locals != env.globals)) = false) (ht : ∀ v, letOwnedTupleGo (.Name x px) (.ref I) v = pure () := by intro _; rfl) :
    TurnW prog w A (.Name x px) env I fp wr n (fun i m m' => ∃ v, P i v ∧ m' = fun y => if y = x then some v else m y) St where
  sub := W.sub
  frame := W.frame
  item := fun i s m Q E hi hst hn hL hQ => by
    refine W.item i s _ _ hi hst fun v h₁ tk hP hst₁ hk => ?_
    refine wpAny_of_eq (ht v) ?_
    refine wpAny_assign_Name (wpAny_storeName_local hx (hn.at' fun o e => hk _ o (fun q => hL (W.sub _ q)) e) (fun h₂ hn₂ hs₂ => ?_) hp)
    exact hQ _ h₂ (tk + 1) ⟨v, hP, rfl⟩ hn₂ (W.frame _ _ _ hst₁ fun b hb o e => hs₂.extBut b o (fun q => hL (q ▸ hb)) e) fun b o hb hl e => hs₂.extBut b o hl (hk b o hb e)
  done := fun s Q E hst hQ => W.done s _ _ hst fun h' tk hk => hQ h' tk hk
  self := W.self

theorem TurnW.pair {Pt : Nat → Array Value → Prop} {Mid : Nat → Addr → Heap → Prop} {xi xv : Str} {pi pv pt : Pos} {x1 : Nat} (W : WalksU prog w A I fp wr n Pt St Mid) (hh : A.handled = none) (hlow : ∀ i h, St i h → ∀ b ∈ fp, ∃ o, h.get? b = some o)
    (hxi : env.kindOf xi = some .local) (hxv : env.kindOf xv = some .local)
    (hp : (env.scope.kind == .class || (env.scope.kind == .module && env.locals != env.globals)) = false)
    (hmid : ∀ i T h h', Mid i T h → (∀ b o, h.get? b = some o → h'.get? b = some o) → Mid i T h') (hsz : ∀ i v, Pt i v → ∃ a b, v = #[a, b]) :
    TurnW prog w A (.Tuple [.Name xi pi, .Name xv pv] x1 pt) env I fp wr n (fun i m m' => ∃ a b, Pt i #[a, b] ∧ m' = fun y => if y = xv then some b else if y = xi then some a else m y) St where
  sub := W.sub
  frame := W.frame
  item := fun i s m Q E hi hst hn hL hQ => by
    refine W.item i s _ _ hi hst fun T vals h₁ tk hP hT hm hk => ?_
    obtain ⟨a, b, rfl⟩ := hsz i vals hP
    have hTw := W.apart _ _ _ hm
    refine W.go _ _ _ i T _ _ _ hm fun h₂ hst₂ hk₂ => ?_
    have hT₂ : h₂.IsTuple T #[a, b] := hT.at fun o e => hk₂ _ o hTw e
    have hL₂ : env.locals ∉ wr := fun q => hL (W.sub _ q)
    refine wpAny_assign_Tuple hh hT₂ rfl rfl fun h₃ hx₃ => ?_
    replace hx₃ : Heap.ExtBut h₂.objs.size h₂ h₃ := hx₃
    have old₃ : ∀ b o, h₂.get? b = some o → h₃.get? b = some o := fun b o e => hx₃ b o (Nat.ne_of_lt (Heap.lt_size e)) e
    have hn₃ : h₃.Ns env.locals m := (hn.at' fun o e => hk _ o hL₂ e) |>.at' (fun o e => hk₂ _ o hL₂ e) |>.at' (fun o e => old₃ _ o e)
    show wpAny _ A (do holding [b] (assign (.Name xi pi) env a); do holding [] (assign (.Name xv pv) env b); pure ()) _ _ _
    refine wpAny_bind (wpAny_holding (wpAny_assign_Name (wpAny_storeName_local hxi hn₃ (fun h₄ hn₄ hs₄ => ?_) hp)))
    replace hs₄ : Heap.SameBut env.locals h₃ h₄ := hs₄
    refine wpAny_bind (wpAny_holding (wpAny_assign_Name (wpAny_storeName_local hxv hn₄ (fun h₅ hn₅ hs₅ => wpAny_pure ?_) hp)))
    replace hs₅ : Heap.SameBut env.locals h₄ h₅ := hs₅
    refine hQ _ h₅ _ ⟨a, b, hP, rfl⟩ hn₅ (W.frame _ _ _ hst₂ fun c hc o e => ?_) fun c o hc hl e => ?_
    · have hcl : c ≠ env.locals := fun q => hL (q ▸ hc)
      exact hs₅.extBut c o hcl (hs₄.extBut c o hcl (old₃ c o e))
    · exact hs₅.extBut c o hl (hs₄.extBut c o hl (old₃ c o (hk₂ c o hc (hk c o hc e))))
  done := fun s Q E hst hQ => W.done s _ _ hst fun h' tk hk => hQ h' tk hk
  self := W.self
end

/-- what an element's evaluation gives -/
def EltR (Z : List Addr) (J₀ : List (Addr × Obj) → Prop) (jo : List (Addr × Obj)) (G₀ : Value → List (Addr × Obj) → Prop) (s₃ : Shared) (y : Value) (s₄ : Shared) : Prop :=
  ∃ h' tk gs objs jo', s₄ = { s₃ with heap := h', toks := tk, gens := gs } ∧ (∀ b o, b ∉ Z → s₃.heap.get? b = some o → h'.get? b = some o) ∧ Has s₃.heap h' objs ∧ G₀ y objs ∧ J₀ jo' ∧
    (∀ q ∈ jo', h'.get? q.1 = some q.2 ∧ (q.1 ∈ jo.map (·.1) ∨ s₃.heap.get? q.1 = none)) ∧ (AllBare s₃.gens → AllBare gs)
def TestR (p : Bool) (s₃ : Shared) (ok : Bool) (s₄ : Shared) : Prop := ok = p ∧ ∃ h' tk, s₄ = { s₃ with heap := h', toks := tk } ∧ Up s₃.heap h'

/-- the values that a comprehension has made, with their objects -/
def MadeAt (h₀ h : Heap) (bad : List Addr) (G₀ : Nat → Value → List (Addr × Obj) → Prop) (i : Nat) (y : Value) : Prop :=
  ∃ objs, G₀ i y objs ∧ ∀ q ∈ objs, h.get? q.1 = some q.2 ∧ h₀.get? q.1 = none ∧ q.1 ∉ bad

section
variable {prog : Program} {w : World} {A : Around} {E : Value → Shared → Prop} {s : Shared} {R : Result → Shared → Prop}

theorem compTests (ifs : List Expr) (env : Env) : (do
      let mut ok := true
      for c in ifs do
        if ok then ok ← isTrue c env (eval c env)
      return ok : Sem Bool) = forIn ifs true fun c r => if r = true then do let ok ← isTrue c env (eval c env); pure (ForInStep.yield ok) else pure (ForInStep.yield r) := by
  simp only [bind_pure]

theorem codeAny_compLoop_turn {elt target iter : Expr} {ifs : List Expr} {scope : Scope} {pos : Pos} {it acc : Value} {env : Env} (Inv : Nat → Shared → Prop)
    (turn : ∀ n s, Inv n s → wpAny (model prog w) A (pyNext it) (fun r s₁ => match r with
      | none => R (.ok .next) s₁
      | some v => wpAny (model prog w) A (letOwnedTupleGo target it v) (fun _ s₁' => wpAny (model prog w) A (assign target env v) (fun _ s₂ =>
          wpAny (model prog w) A (forIn ifs true fun c r => if r = true then do let ok ← isTrue c env (eval c env); pure (ForInStep.yield ok) else pure (ForInStep.yield r)) (fun ok s₃ =>
            if ok = true then wpAny (model prog w) A (eval elt env) (fun x s₄ =>
              wpAny (model prog w) A (call (.builtin "list.append") [acc, x]) (fun _ s₅ => ∃ m, m < n ∧ Inv m s₅) (fun _ _ => False) s₄) (fun _ _ => False) s₃
            else ∃ m, m < n ∧ Inv m s₃) (fun _ _ => False) s₂) (fun _ _ => False) s₁') (fun _ _ => False) s₁) (fun _ _ => False) s)
    (n : Nat) (h : Inv n s) :
    codeAny (model prog w) A (.compLoop (.ListComp elt [⟨target, iter, ifs, 0⟩] scope pos) 0 it acc env) R s := by
  refine codeAny_loop rfl Inv (fun n s hI => ?_) n h
  show wpAny _ A ((compTurn (.ListComp elt [⟨target, iter, ifs, 0⟩] scope pos) 0 it acc env).onRaise (fun x => do noteFrame x env; theTreesLotGoes x)) _ _ s
  refine wpAny_noted ?_
  rw [compTurn_list]
  refine wpAny_bind (wpAny_standAt (wpAny_bind (wpAny_mono (turn n s hI) (fun r s₁ h₁ => ?_) fun _ _ h' => h'.elim)))
  cases r with
  | none => exact wpAny_pure h₁
  | some v =>
    refine wpAny_bind (wpAny_mono h₁ (fun _ s₁' h₁' => ?_) fun _ _ h' => h'.elim)
    refine wpAny_bind (wpAny_mono h₁' (fun _ s₂ h₂ => wpAny_bind (wpAny_mono h₂ (fun ok s₃ h₃ => ?_) fun _ _ h' => h'.elim)) fun _ _ h' => h'.elim)
    cases ok with
    | false => exact wpAny_pure ⟨rfl, h₃⟩
    | true =>
      exact wpAny_bind (wpAny_bind (wpAny_mono h₃ (fun x s₄ h₄ => wpAny_bind (wpAny_mono h₄ (fun _ s₅ h₅ => wpAny_pure (wpAny_pure ⟨rfl, h₅⟩)) fun _ _ h' => h'.elim)) fun _ _ h' => h'.elim))

/-- a comprehension's loop: each turn makes objects of its own -/
theorem codeAny_compLoop_made {elt target iter : Expr} {ifs : List Expr} {scope : Scope} {pos : Pos} {I D : Addr} {fp wr Z : List Addr} {n : Nat} {B : Nat → (Str → Option Value) → (Str → Option Value) → Prop} {St : Nat → Heap → Prop}
    {cenv : Env} {m : Str → Option Value} (W : TurnW prog w A target cenv I fp wr n B St) (p : Nat → Bool) (G₀ : Nat → Value → List (Addr × Obj) → Prop) (J₀ : List (Addr × Obj) → Prop) {jo : List (Addr × Obj)}
    (hlive : ∀ i h, St i h → ∀ b ∈ wr, ∃ o, h.get? b = some o)
    (hDC : D ≠ cenv.locals) (hDf : D ∉ fp) (hCf : cenv.locals ∉ fp) (hZf : ∀ b ∈ fp, b ∉ Z) (hZC : cenv.locals ∉ Z) (hZD : D ∉ Z)
    (hst : St 0 s.heap) (hacc : s.heap.PlainList D #[]) (hn : s.heap.Ns cenv.locals m) (hJ : J₀ jo) (hjo : ∀ q ∈ jo, s.heap.get? q.1 = some q.2 ∧ q.1 ≠ cenv.locals ∧ q.1 ≠ D ∧ q.1 ∉ wr) (hJZ : ∀ jo, J₀ jo → ∀ z ∈ Z, z ∈ jo.map (·.1)) (hG : AllBare s.gens)
    (htests : ∀ i s₂ m₁ m₂ jo, i < n → B i m₁ m₂ → s₂.heap.Ns cenv.locals m₂ → (∀ b o, b ≠ cenv.locals → b ∉ wr → b ≠ D → b ∉ Z → s.heap.get? b = some o → s₂.heap.get? b = some o) → J₀ jo → (∀ q ∈ jo, s₂.heap.get? q.1 = some q.2) →
      wpAny (model prog w) A (forIn ifs true fun c r => if r = true then do let ok ← isTrue c cenv (eval c cenv); pure (ForInStep.yield ok) else pure (ForInStep.yield r)) (TestR (p i) s₂) (fun _ _ => False) s₂)
    (helt : ∀ i s₂ m₁ m₂ jo, i < n → B i m₁ m₂ → p i = true → s₂.heap.Ns cenv.locals m₂ → (∀ b o, b ≠ cenv.locals → b ∉ wr → b ≠ D → b ∉ Z → s.heap.get? b = some o → s₂.heap.get? b = some o) → J₀ jo → (∀ q ∈ jo, s₂.heap.get? q.1 = some q.2) → AllBare s₂.gens →
      wpAny (model prog w) A (eval elt cenv) (EltR Z J₀ jo (G₀ i) s₂) (fun _ _ => False) s₂)
    (hR : ∀ h' tk gs m' ys jo, h'.Ns cenv.locals m' → h'.PlainList D ys → Paired (MadeAt s.heap h' (cenv.locals :: D :: (wr ++ Z)) G₀) ((List.range n).filter p) ys.toList → J₀ jo → (∀ q ∈ jo, h'.get? q.1 = some q.2 ∧ q.1 ≠ cenv.locals ∧ q.1 ≠ D ∧ q.1 ∉ wr) → AllBare gs →
      (∀ b o, b ≠ cenv.locals → b ∉ wr → b ≠ D → b ∉ Z → s.heap.get? b = some o → h'.get? b = some o) → R (.ok .next) { s with heap := h', toks := tk, gens := gs })
    (hsz : n ≤ sizeLine) :
    codeAny (model prog w) A (.compLoop (.ListComp elt [⟨target, iter, ifs, 0⟩] scope pos) 0 (.ref I) (.ref D) cenv) R s := by
  have hCw : cenv.locals ∉ wr := fun h => hCf (W.sub _ h)
  have hDw : D ∉ wr := fun h => hDf (W.sub _ h)
  have hwZ : ∀ b ∈ wr, b ∉ Z := fun b hb => hZf b (W.sub _ hb)
  refine codeAny_compLoop_turn
    (fun k s' => ∃ h' tk gs m' ys i jo, s' = { s with heap := h', toks := tk, gens := gs } ∧ St i h' ∧ h'.PlainList D ys ∧ h'.Ns cenv.locals m' ∧
      Paired (MadeAt s.heap h' (cenv.locals :: D :: (wr ++ Z)) G₀) ((List.range i).filter p) ys.toList ∧ i ≤ n ∧ k = n + 1 - i ∧ J₀ jo ∧ (∀ q ∈ jo, h'.get? q.1 = some q.2 ∧ q.1 ≠ cenv.locals ∧ q.1 ≠ D ∧ q.1 ∉ wr) ∧ AllBare gs ∧
      (∀ b o, b ≠ cenv.locals → b ∉ wr → b ≠ D → b ∉ Z → s.heap.get? b = some o → h'.get? b = some o)) ?_ (n + 1)
    ⟨s.heap, s.toks, s.gens, m, #[], 0, jo, rfl, hst, hacc, hn, by simpa using Paired.nil, Nat.zero_le _, rfl, hJ, hjo, hG, fun _ _ _ _ _ _ e => e⟩
  rintro k s' ⟨H, tk, gs, m', ys, i, jo', rfl, hst', hacc', hn', hF, hi, rfl, hJ', hjo', hG', hk⟩
  by_cases hlt : i < n
  · refine wpAny_mono (W.item i _ m' (fun s₂ => wpAny (model prog w) A (forIn ifs true fun c r => if r = true then do let ok ← isTrue c cenv (eval c cenv); pure (ForInStep.yield ok) else pure (ForInStep.yield r)) (fun ok s₃ =>
            if ok = true then wpAny (model prog w) A (eval elt cenv) (fun x s₄ =>
              wpAny (model prog w) A (call (.builtin "list.append") [.ref D, x]) (fun _ s₅ => ∃ k', k' < n + 1 - i ∧ ∃ h' tk gs m' ys i jo, s₅ = { s with heap := h', toks := tk, gens := gs } ∧ St i h' ∧ h'.PlainList D ys ∧ h'.Ns cenv.locals m' ∧
      Paired (MadeAt s.heap h' (cenv.locals :: D :: (wr ++ Z)) G₀) ((List.range i).filter p) ys.toList ∧ i ≤ n ∧ k' = n + 1 - i ∧ J₀ jo ∧ (∀ q ∈ jo, h'.get? q.1 = some q.2 ∧ q.1 ≠ cenv.locals ∧ q.1 ≠ D ∧ q.1 ∉ wr) ∧ AllBare gs ∧
      (∀ b o, b ≠ cenv.locals → b ∉ wr → b ≠ D → b ∉ Z → s.heap.get? b = some o → h'.get? b = some o)) (fun _ _ => False) s₄) (fun _ _ => False) s₃
            else ∃ k', k' < n + 1 - i ∧ ∃ h' tk gs m' ys i jo, s₃ = { s with heap := h', toks := tk, gens := gs } ∧ St i h' ∧ h'.PlainList D ys ∧ h'.Ns cenv.locals m' ∧
      Paired (MadeAt s.heap h' (cenv.locals :: D :: (wr ++ Z)) G₀) ((List.range i).filter p) ys.toList ∧ i ≤ n ∧ k' = n + 1 - i ∧ J₀ jo ∧ (∀ q ∈ jo, h'.get? q.1 = some q.2 ∧ q.1 ≠ cenv.locals ∧ q.1 ≠ D ∧ q.1 ∉ wr) ∧ AllBare gs ∧
      (∀ b o, b ≠ cenv.locals → b ∉ wr → b ≠ D → b ∉ Z → s.heap.get? b = some o → h'.get? b = some o)) (fun _ _ => False) s₂) (fun _ _ => False) hlt hst' hn' hCf ?_) (fun r s₁ x => ?_) fun _ _ x => x
    · rintro m₁ h₁ tk₁ hB hn₁ hst₁ hk₁
      dsimp only at hk₁ ⊢
      have jo₁ : ∀ q ∈ jo', h₁.get? q.1 = some q.2 := fun q hq => hk₁ _ _ (hjo' q hq).2.2.2 (hjo' q hq).2.1 (hjo' q hq).1
      refine wpAny_mono (htests i _ m' m₁ jo' hlt hB hn₁ (fun b o hC hw hD hZ e => hk₁ b o hw hC (hk b o hC hw hD hZ e)) hJ' jo₁) (fun ok s₃ x => ?_) fun _ _ x => x
      obtain ⟨rfl, h₃, tk₃, rfl, hk₃⟩ := x
      dsimp only at hk₃ ⊢
      have hst₃ : St (i + 1) h₃ := W.frame _ _ _ hst₁ fun b _ o e => hk₃ b o e
      have hacc₃ : h₃.PlainList D ys := hacc'.at fun o e => hk₃ _ o (hk₁ D o hDw hDC e)
      have hn₃ := hn₁.keeps hk₃
      have jo₃ : ∀ q ∈ jo', h₃.get? q.1 = some q.2 := fun q hq => hk₃ _ _ (jo₁ q hq)
      have up₃ : ∀ b o, b ≠ cenv.locals → b ∉ wr → H.get? b = some o → h₃.get? b = some o := fun b o hC hw e => hk₃ b o (hk₁ b o hw hC e)
      have bad : ∀ {b : Addr}, b ∉ cenv.locals :: D :: (wr ++ Z) → b ≠ cenv.locals ∧ b ≠ D ∧ b ∉ wr ∧ b ∉ Z := fun {b} hb =>
        ⟨fun e => hb (e ▸ .head _), fun e => hb (e ▸ .tail _ (.head _)), fun e => hb (.tail _ (.tail _ (List.mem_append.mpr (.inl e)))), fun e => hb (.tail _ (.tail _ (List.mem_append.mpr (.inr e))))⟩
      have hF₃ : Paired (MadeAt s.heap h₃ (cenv.locals :: D :: (wr ++ Z)) G₀) ((List.range i).filter p) ys.toList := hF.mono fun _ _ ⟨objs, hg, ho⟩ => ⟨objs, hg, fun q hq => ⟨up₃ _ _ (bad (ho q hq).2.2).1 (bad (ho q hq).2.2).2.2.1 (ho q hq).1, (ho q hq).2⟩⟩
      have hrange : (List.range (i + 1)).filter p = (List.range i).filter p ++ (if p i = true then [i] else []) := by
        rw [List.range_succ, List.filter_append]
        cases hp : p i <;> simp [hp]
      cases hpv : p i with
      | false =>
        simp only [Bool.false_eq_true, if_false]
        refine ⟨n + 1 - (i + 1), by omega, h₃, tk₃, gs, m₁, ys, i + 1, jo', rfl, hst₃, hacc₃, hn₃, ?_, hlt, rfl, hJ', (fun q hq => ⟨jo₃ q hq, (hjo' q hq).2⟩), hG', fun b o hC hw hD hZ e => up₃ b o hC hw (hk b o hC hw hD hZ e)⟩
        rw [hrange, hpv]
        simpa using hF₃
      | true =>
        simp only [if_true]
        refine wpAny_mono (helt i _ m' m₁ jo' hlt hB hpv hn₃ (fun b o hC hw hD hZ e => up₃ b o hC hw (hk b o hC hw hD hZ e)) hJ' jo₃ hG') (fun y s₄ x => ?_) fun _ _ x => x
        obtain ⟨h₄, tk₄, gs₄, objs, jo₄, rfl, hk₄, hO, hg, hJ₄, hj₄, hgs₄⟩ := x
        dsimp only at hk₄ hO hj₄ ⊢
        have hst₄ : St (i + 1) h₄ := W.frame _ _ _ hst₃ fun b hb o e => hk₄ b o (hZf b hb) e
        have hacc₄ : h₄.PlainList D ys := hacc₃.at fun o e => hk₄ _ o hZD e
        have hn₄ : h₄.Ns cenv.locals m₁ := hn₃.at' fun o e => hk₄ _ o hZC e
        have hys : ys.size ≤ sizeLine := by
          have e1 := hF.length
          have e2 : ((List.range i).filter p).length ≤ (List.range i).length := List.length_filter_le _ _
          have e3 : (List.range i).length = i := List.length_range
          have e4 : ys.toList.length = ys.size := by simp
          omega
        refine wpAny_list_append_plain (hsz := hys) hacc₄ fun h₅ hl₅ hs₅ => ?_
        replace hs₅ : Heap.SameBut D h₄ h₅ := hs₅
        have up₅ : ∀ b o, b ≠ D → h₄.get? b = some o → h₅.get? b = some o := fun b o hD e => hs₅.extBut b o hD e
        have C₃ : ∃ o, h₃.get? cenv.locals = some o := by obtain ⟨o, _, _, e, _⟩ := hn₃; exact ⟨o, e⟩
        have D₃ : ∃ o, h₃.get? D = some o := by obtain ⟨_, e⟩ := hacc₃; exact ⟨_, e⟩
        have new : ∀ {b : Addr}, h₃.get? b = none → b ≠ cenv.locals ∧ b ≠ D ∧ b ∉ wr ∧ b ∉ Z := fun {b} hb => by
          refine ⟨fun e => ?_, fun e => ?_, fun e => ?_, fun e => ?_⟩
          · obtain ⟨o, q⟩ := C₃; rw [← e, hb] at q; cases q
          · obtain ⟨o, q⟩ := D₃; rw [← e, hb] at q; cases q
          · obtain ⟨o, q⟩ := hlive _ _ hst₃ b e; rw [hb] at q; cases q
          · obtain ⟨r, hr, e2⟩ := List.mem_map.mp (hJZ jo' hJ' b e)
            have q := jo₃ r hr
            rw [e2, hb] at q; cases q
        have hnone : ∀ {b : Addr}, h₃.get? b = none → s.heap.get? b = none := fun {b} hb => by
          cases q : s.heap.get? b with
          | none => rfl
          | some o =>
            obtain ⟨a1, a2, a3, a4⟩ := new hb
            have := up₃ b o a1 a3 (hk b o a1 a3 a2 a4 q)
            rw [hb] at this; cases this
        refine ⟨n + 1 - (i + 1), by omega, h₅, tk₄, gs₄, m₁, ys.push y, i + 1, jo₄, rfl, W.frame _ _ _ hst₄ fun b hb o e => up₅ b o (fun q => hDf (q ▸ hb)) e, hl₅, hn₄.at' (fun o e => up₅ _ o (Ne.symm hDC) e), ?_, hlt, rfl, hJ₄, (fun q hq => ?_), hgs₄ hG',
          fun b o hC hw hD hZ e => up₅ b o hD (hk₄ b o hZ (up₃ b o hC hw (hk b o hC hw hD hZ e)))⟩
        · rw [hrange, hpv, if_pos rfl]
          have hF₅ : Paired (MadeAt s.heap h₅ (cenv.locals :: D :: (wr ++ Z)) G₀) ((List.range i).filter p) ys.toList := hF₃.mono fun _ _ ⟨objs, hg, ho⟩ => ⟨objs, hg, fun q hq =>
            ⟨up₅ _ _ (bad (ho q hq).2.2).2.1 (hk₄ _ _ (bad (ho q hq).2.2).2.2.2 (ho q hq).1), (ho q hq).2⟩⟩
          have hy : MadeAt s.heap h₅ (cenv.locals :: D :: (wr ++ Z)) G₀ i y := ⟨objs, hg, fun q hq => by
            have nw := new (hO q hq).2
            refine ⟨up₅ _ _ nw.2.1 (hO q hq).1, hnone (hO q hq).2, fun hm => ?_⟩
            rcases List.mem_cons.mp hm with e | hm
            · exact nw.1 e
            · rcases List.mem_cons.mp hm with e | hm
              · exact nw.2.1 e
              · exact (List.mem_append.mp hm).elim nw.2.2.1 nw.2.2.2⟩
          simpa using Paired.snoc hF₅ hy
        · obtain ⟨e1, e2⟩ := hj₄ q hq
          have a : q.1 ≠ cenv.locals ∧ q.1 ≠ D ∧ q.1 ∉ wr := by
            rcases e2 with e2 | e2
            · obtain ⟨r, hr, e3⟩ := List.mem_map.mp e2
              have z := hjo' r hr
              rw [e3] at z
              exact z.2
            · have z := new e2
              exact ⟨z.1, z.2.1, z.2.2.1⟩
          exact ⟨up₅ _ _ a.2.1 e1, a⟩
    · cases r with
      | none => exact x.elim
      | some v => exact x
  · have hin : i = n := by omega
    subst hin
    refine wpAny_mono (W.done _ (fun s₁ => R (.ok .next) s₁) (fun _ _ => False) hst' fun h₁ tk₁ hk₁ => ?_) (fun r s₁ x => ?_) fun _ _ x => x
    · dsimp only at hk₁
      refine hR h₁ tk₁ gs m' ys jo' (hn'.at' fun o e => hk₁ _ o hCw e) (hacc'.at fun o e => hk₁ _ o hDw e) (hF.mono fun _ _ ⟨objs, hg, ho⟩ => ⟨objs, hg, fun q hq => ⟨hk₁ _ _ (fun e => (ho q hq).2.2 (.tail _ (.tail _ (List.mem_append.mpr (.inl e))))) (ho q hq).1, (ho q hq).2⟩⟩) hJ'
        (fun q hq => ⟨hk₁ _ _ (hjo' q hq).2.2.2 (hjo' q hq).1, (hjo' q hq).2⟩) hG' fun b o hC hw hD hZ e => hk₁ b o hw (hk b o hC hw hD hZ e)
    · cases r with
      | none => exact x
      | some v => exact x.elim

/-- what the turns of a comprehension are to show, and what stands behind it -/
structure CompOk (prog : Program) (w : World) (A : Around) (env : Env) (scope : Scope) (cl : List (Str × Addr)) (target : Expr) (ifs : List Expr) (elt : Expr) (p : Nat → Bool) (G₀ : Nat → Value → List (Addr × Obj) → Prop) (J₀ : List (Addr × Obj) → Prop) (Z : List Addr)
    (Q : Value → Shared → Prop) (s₂ : Shared) (I : Addr) (fp wr : List Addr) (n : Nat) (B : Nat → (Str → Option Value) → (Str → Option Value) → Prop) (St : Nat → Heap → Prop) (jo : List (Addr × Obj)) : Prop where
  turn : ∀ C, s₂.heap.objs.size ≤ C → TurnW prog w A target (compEnvC scope cl C env) I fp wr n B St
  size : n ≤ sizeLine
  live : ∀ i h, St i h → ∀ b ∈ wr, ∃ o, h.get? b = some o
  start : St 0 s₂.heap
  low : ∀ b ∈ fp, b < s₂.heap.objs.size ∧ b ∉ Z
  lowZ : ∀ z ∈ Z, z < s₂.heap.objs.size
  j : J₀ jo
  jAt : ∀ q ∈ jo, s₂.heap.get? q.1 = some q.2 ∧ q.1 ∉ wr
  jZ : ∀ jo, J₀ jo → ∀ z ∈ Z, z ∈ jo.map (·.1)
  bare : AllBare s₂.gens
  tests : ∀ C i s₃ m₁ m₂ jo, s₂.heap.objs.size ≤ C → i < n → B i m₁ m₂ → s₃.heap.Ns C m₂ → (∀ b o, b ∉ wr → b ∉ Z → s₂.heap.get? b = some o → s₃.heap.get? b = some o) → J₀ jo → (∀ q ∈ jo, s₃.heap.get? q.1 = some q.2) →
    wpAny (model prog w) A (forIn ifs true fun c r => if r = true then do let ok ← isTrue c (compEnvC scope cl C env) (eval c (compEnvC scope cl C env)); pure (ForInStep.yield ok) else pure (ForInStep.yield r)) (TestR (p i) s₃) (fun _ _ => False) s₃
  elt : ∀ C i s₃ m₁ m₂ jo, s₂.heap.objs.size ≤ C → i < n → B i m₁ m₂ → p i = true → s₃.heap.Ns C m₂ → (∀ b o, b ∉ wr → b ∉ Z → s₂.heap.get? b = some o → s₃.heap.get? b = some o) → J₀ jo → (∀ q ∈ jo, s₃.heap.get? q.1 = some q.2) → AllBare s₃.gens →
    wpAny (model prog w) A (eval elt (compEnvC scope cl C env)) (EltR Z J₀ jo (G₀ i) s₃) (fun _ _ => False) s₃
  behind : ∀ D h' tk gs ys jo, s₂.heap.get? D = none → h'.PlainList D ys → Paired (MadeAt s₂.heap h' (D :: (wr ++ Z)) G₀) ((List.range n).filter p) ys.toList → J₀ jo → (∀ q ∈ jo, h'.get? q.1 = some q.2 ∧ q.1 ∉ wr ∧ q.1 ≠ D) → AllBare gs →
    (∀ b o, b ∉ wr → b ∉ Z → s₂.heap.get? b = some o → h'.get? b = some o) → Q (.ref D) { s₂ with heap := h', toks := tk, gens := gs }

theorem ListComp_made {env : Env} {elt target iter : Expr} {ifs : List Expr} {scope : Scope} {cl : List (Str × Addr)} {pos : Pos} {Q : Value → Shared → Prop} (p : Nat → Bool) (G₀ : Nat → Value → List (Addr × Obj) → Prop) (J₀ : List (Addr × Obj) → Prop) (Z : List Addr)
    (hclos : closureFor scope env = pure cl) (hcell : ∀ y ∈ scope.names, y.2 ≠ .cell) (hkind : scope.kind = .function)
    (hnames : ∀ y ∈ scope.names, y.2 = .local → scope.names.lookup y.1 = some .local)
    (h : wpAny (model prog w) A (eval iter env) (fun xv s₁ => wpAny (model prog w) A (pyIter xv) (fun it s₂ => ∃ I fp wr n B St jo, it = .ref I ∧ CompOk prog w A env scope cl target ifs elt p G₀ J₀ Z Q s₂ I fp wr n B St jo) E s₁) E s)
    (hs : ∀ x, foldedSetIterable iter env x = pure x := by intro _; rfl) :
    wpAny (model prog w) A (eval (.ListComp elt [⟨target, iter, ifs, 0⟩] scope pos) env) Q E s := by
  rw [eval_ListComp]
  refine wpAny_comprehension_free (use := none) rfl hs hclos hkind hnames (wpAny_mono h (fun xv s₁ h₁ => wpAny_mono h₁ (fun it s₂ h₂ => ?_) fun _ _ e => e) fun _ _ e => e)
  obtain ⟨I, fp, wr, n, B, St, jo, rfl, K⟩ := h₂
  refine wpAny_newObj_type (wpAny_newFunctionEnv hcell (by intro y hy; simp at hy) (fun h₁ hns₁ hsb₁ => ?_) hkind)
  dsimp only at hns₁ hsb₁ ⊢
  generalize hH2 : s₂.heap.push { cls := .type "list", dict := none, data := .seq ([] : List Value).toArray } = H2 at hns₁ hsb₁ ⊢
  have hC : H2.objs.size = s₂.heap.objs.size + 1 := by rw [← hH2, Heap.size_push]
  have hDC : s₂.heap.objs.size ≠ H2.objs.size := by rw [hC]; exact Nat.ne_of_lt (Nat.lt_succ_self _)
  have hCle : s₂.heap.objs.size ≤ H2.objs.size := by rw [hC]; exact Nat.le_succ _
  have below : ∀ b, b < s₂.heap.objs.size → b ≠ H2.objs.size ∧ b ≠ s₂.heap.objs.size := fun b hb => ⟨by rw [hC]; exact Nat.ne_of_lt (Nat.lt_succ_of_lt hb), Nat.ne_of_lt hb⟩
  have hDf : s₂.heap.objs.size ∉ fp := fun hm => Nat.lt_irrefl _ (K.low _ hm).1
  have hCf : H2.objs.size ∉ fp := fun hm => by have := (K.low _ hm).1; rw [hC] at this; exact Nat.lt_irrefl _ (Nat.lt_of_succ_lt this)
  have hDZ : s₂.heap.objs.size ∉ Z := fun hm => Nat.lt_irrefl _ (K.lowZ _ hm)
  have hCZ : H2.objs.size ∉ Z := fun hm => by have := K.lowZ _ hm; rw [hC] at this; exact Nat.lt_irrefl _ (Nat.lt_of_succ_lt this)
  have old : ∀ b o, s₂.heap.get? b = some o → h₁.get? b = some o := fun b o e => hsb₁.extBut b o (below b (Heap.lt_size e)).1 (Heap.get?_push_of_some _ (hH2 ▸ Heap.get?_push_of_some _ e))
  have hacc : h₁.PlainList s₂.heap.objs.size #[] := ⟨_, hsb₁.extBut _ _ hDC (Heap.get?_push_of_some _ (hH2 ▸ Heap.get?_push_size _ rfl))⟩
  have W := K.turn H2.objs.size hCle
  have hst₁ : St 0 h₁ := W.frame _ _ _ K.start fun b _ o e => old b o e
  have fresh : ∀ a, s₂.heap.objs.size ≤ a → s₂.heap.get? a = none := fun a ha => by
    cases e : s₂.heap.get? a with
    | none => rfl
    | some o' => exact absurd (Heap.lt_size e) (Nat.not_lt.mpr ha)
  have older : ∀ T, h₁.get? T = none → s₂.heap.get? T = none := fun T hT => by
    cases e : s₂.heap.get? T with
    | none => rfl
    | some o' => rw [old T o' e] at hT; cases hT
  have loop : ∀ s₃ : Shared, s₃ = { s₂ with heap := h₁, toks := s₂.toks + ([] : List (Str × Value)).length } →
      codeAny (model prog w) A (.compLoop (.ListComp elt [⟨target, iter, ifs, 0⟩] scope pos) 0 (.ref I) (.ref s₂.heap.objs.size) (compEnvC scope cl H2.objs.size env))
        (compPost (model prog w) A E none Q (.ref s₂.heap.objs.size) H2.objs.size) s₃ := by
    rintro s₃ rfl
    refine codeAny_compLoop_made (cenv := compEnvC scope cl H2.objs.size env) W p G₀ J₀ K.live hDC hDf hCf (fun b hb => (K.low b hb).2) hCZ hDZ hst₁ hacc hns₁ K.j
      (fun q hq => ⟨old _ _ (K.jAt q hq).1, (below _ (Heap.lt_size (K.jAt q hq).1)).1, (below _ (Heap.lt_size (K.jAt q hq).1)).2, (K.jAt q hq).2⟩) K.jZ K.bare
      (fun i s₃ m₁ m₂ jo hi hB hn hk hJ hj => K.tests _ i s₃ m₁ m₂ jo hCle hi hB hn (fun b o hw hZ e => hk b o (below b (Heap.lt_size e)).1 hw (below b (Heap.lt_size e)).2 hZ (old b o e)) hJ hj)
      (fun i s₃ m₁ m₂ jo hi hB hp hn hk hJ hj hb => K.elt _ i s₃ m₁ m₂ jo hCle hi hB hp hn (fun b o hw hZ e => hk b o (below b (Heap.lt_size e)).1 hw (below b (Heap.lt_size e)).2 hZ (old b o e)) hJ hj hb)
      (fun h' tk gs m' ys jo hn ha hF hJ hj hb hk => ?_) K.size
    refine ⟨m', hn, fun h'' hs'' => ?_⟩
    replace hs'' : Heap.SameBut H2.objs.size h' h'' := hs''
    refine K.behind _ h'' tk gs ys jo (fresh _ (Nat.le_refl _)) (ha.extBut hs''.extBut hDC) (hF.mono fun _ _ ⟨objs, hg, ho⟩ => ⟨objs, hg, fun q hq => ⟨hs''.extBut _ _ (fun e => (ho q hq).2.2 (e ▸ .head _)) (ho q hq).1, older _ (ho q hq).2.1, fun hm => (ho q hq).2.2 (.tail _ hm)⟩⟩) hJ
      (fun q hq => ⟨hs''.extBut _ _ (hj q hq).2.1 (hj q hq).1, (hj q hq).2.2.2, (hj q hq).2.2.1⟩) hb fun b o hw hZ e => hs''.extBut b o (below b (Heap.lt_size e)).1 (hk b o (below b (Heap.lt_size e)).1 hw (below b (Heap.lt_size e)).2 hZ (old b o e))
  exact codeAny_compStart_list (loop _ rfl) (W.self 0 _ _ _ hst₁ (loop _ rfl))
end
end
section
section
variable {prog : Program} {w : World} {A : Around} {E : Value → Shared → Prop} {s : Shared}

theorem partIndex {M : Model} {v : Value} {k : Option Int} {Q : Option Int → Shared → Prop} (hv : IsPart v k) (h : Q k s) : wpAny M A (Builtin.Slice.slicePartIndex v) Q E s := by
  cases hv with
  | none => exact wpAny_pure h
  | int i t =>
    unfold Builtin.Slice.slicePartIndex
    rw [if_neg (show ¬ ((Value.int i t == Value.none) = true) from Bool.false_ne_true)]
    refine wpAny_bind (wpAny_specialOf (T := "int") (typeIs_int s i t) int_index ?_)
    simp only [Option.isNone_some, Bool.false_eq_true, if_false]
    exact wpAny_bind (wpAny_of_eq (a := i) rfl (wpAny_pure h))

theorem log2_small {x : Int} (h : x.natAbs < 1073741824) : x.natAbs.log2 < 30 := by
  by_cases h0 : x.natAbs = 0
  · rw [h0]; decide +kernel
  · exact (Nat.log2_lt h0).mpr h

theorem grown {M : Model} {i : Int} {Q : Value → Shared → Prop} (hi : i.natAbs < 1073741824) (h : Q (.int i s.toks) { s with toks := s.toks + 1 }) : wpAny M A (mkIntGrown i) Q E s := by
  unfold mkIntGrown
  have := log2_small hi
  rw [if_neg (by unfold bitsLine; omega)]
  exact wpAny_mkInt h

theorem room {M : Model} {x y : Int} {Q : Unit → Shared → Prop} (hy : y.natAbs < 1073741824) (h : Q () s) : wpAny M A (Builtin.roomForPylong x y) Q E s := by
  unfold Builtin.roomForPylong
  rw [PyProof.noPylong_small hy]
  exact wpAny_pure h

/-- the ends of a slice of range(n) -/
def sliceEnds (o1 o2 o3 : Option Int) (n : Nat) : Int × Int × Int := ((Builtin.Slice.sliceAdjust o1 o2 (o3.getD 1) n).1, (Builtin.Slice.sliceAdjust o1 o2 (o3.getD 1) n).2, o3.getD 1)

theorem ends_near (o1 o2 : Option Int) (c : Int) (n : Nat) : -1 ≤ (Builtin.Slice.sliceAdjust o1 o2 c n).1 ∧ (Builtin.Slice.sliceAdjust o1 o2 c n).1 ≤ n ∧ -1 ≤ (Builtin.Slice.sliceAdjust o1 o2 c n).2 ∧ (Builtin.Slice.sliceAdjust o1 o2 c n).2 ≤ n := by
  unfold Builtin.Slice.sliceAdjust
  by_cases hc : c < 0
  · simp only [hc, if_true]
    cases o1 <;> cases o2 <;> (try dsimp only) <;> refine ⟨?_, ?_, ?_, ?_⟩ <;> (try split) <;> omega
  · simp only [hc, if_false]
    cases o1 <;> cases o2 <;> (try dsimp only) <;> refine ⟨?_, ?_, ?_, ?_⟩ <;> (try split) <;> omega

theorem getItem_range_slice {r sl : Addr} {n : Nat} {v1 v2 v3 : Value} {o1 o2 o3 : Option Int} {t u v : Tok} {Q : Value → Shared → Prop} (hr : IsRange s.heap r 0 n 1 t u v) (hs : s.heap.IsSliceOf sl v1 v2 v3)
    (p1 : IsPart v1 o1) (p2 : IsPart v2 o2) (p3 : IsPart v3 o3) (h0 : o3 ≠ some 0) (hc : (o3.getD 1).natAbs < 1000000) (hn : n < 1000000)
    (h : ∀ t u v tk, IsRange (s.heap.push { cls := .type "range", data := .fields #[.int (sliceEnds o1 o2 o3 n).1 t, .int (sliceEnds o1 o2 o3 n).2.1 u, .int (sliceEnds o1 o2 o3 n).2.2 v] }) s.heap.objs.size (sliceEnds o1 o2 o3 n).1 (sliceEnds o1 o2 o3 n).2.1 (sliceEnds o1 o2 o3 n).2.2 t u v →
      Q (.ref s.heap.objs.size) { s with heap := s.heap.push { cls := .type "range", data := .fields #[.int (sliceEnds o1 o2 o3 n).1 t, .int (sliceEnds o1 o2 o3 n).2.1 u, .int (sliceEnds o1 o2 o3 n).2.2 v] }, toks := tk }) :
    wpAny (model prog w) A (getItem (.ref r) (.ref sl)) Q E s := by
  have hT : s.TypeIs (.ref r) "range" := ⟨_, hr, rfl⟩
  obtain ⟨os, hos, hcs, hds⟩ := id hs
  have hTs : s.TypeIs (.ref sl) "slice" := ⟨os, hos, hcs⟩
  unfold getItem
  try with_reducible refine wpAny_holding ?_
  first | refine wpAny_bind (wpAny_pure ?_) | skip
  refine wpAny_bind (wpAny_sequenceKey hT (by decide) ?_)
  refine wpAny_bind (wpAny_callSpecial?_slot (name := Str.ofString "__getitem__") hT F.slot_range_getitem
    (wpAny_call_entry F.slot_range_getitem hT F.entry_range_getitem ?_ (F.args_range_getitem_2 _ _)))
  have hsize : Builtin.Range.rangeSize 0 n 1 = n := by
    unfold Builtin.Range.rangeSize
    rw [if_pos (by decide)]
    split <;> omega
  have hstep : ¬ ((o3.getD 1 == 0) = true) := by
    cases o3 with
    | none => decide
    | some c => intro hh; exact h0 (by rw [Option.getD_some] at hh; rw [beq_iff_eq.mp hh])
  unfold Builtin.«range.__getitem__»
  refine wpAny_bind (wpAny_of_eq (a := (Value.ref r, [Value.ref sl])) rfl ?_)
  dsimp only
  unfold Builtin.Range.rangeFields
  refine wpAny_bind ?_
  refine wpAny_bind (wpAny_field hr rfl (x := .int 0 t) rfl ?_)
  refine wpAny_bind (wpAny_of_eq (a := some (0 : Int)) rfl ?_)
  refine wpAny_bind (wpAny_field hr rfl (x := .int n u) rfl ?_)
  refine wpAny_bind (wpAny_of_eq (a := some (n : Int)) rfl ?_)
  refine wpAny_bind (wpAny_field hr rfl (x := .int 1 v) rfl ?_)
  refine wpAny_bind (wpAny_of_eq (a := some (1 : Int)) rfl ?_)
  refine wpAny_pure ?_
  dsimp only
  rw [hsize]
  refine wpAny_bind (wpAny_typeOf hTs ?_)
  rw [if_pos (by decide)]
  unfold Builtin.Slice.sliceFields
  refine wpAny_bind ?_
  refine wpAny_bind (wpAny_field hos hds (x := v1) rfl ?_)
  refine wpAny_bind (wpAny_field hos hds (x := v2) rfl ?_)
  refine wpAny_bind (wpAny_field hos hds (x := v3) rfl ?_)
  refine wpAny_pure ?_
  dsimp only
  refine wpAny_bind (partIndex p3 ?_)
  rw [if_neg hstep]
  refine wpAny_bind (partIndex p1 (wpAny_bind (partIndex p2 ?_)))
  have e := ends_near o1 o2 (o3.getD 1) n
  have e' : Builtin.Slice.sliceAdjust o1 o2 (o3.getD 1) n = ((sliceEnds o1 o2 o3 n).1, (sliceEnds o1 o2 o3 n).2.1) := rfl
  have e3 : (sliceEnds o1 o2 o3 n).2.2 = o3.getD 1 := rfl
  rw [e'] at e ⊢
  dsimp only at e ⊢
  simp only [Int.zero_add, Int.mul_one, Int.one_mul]
  refine wpAny_bind (room (Nat.lt_trans hc (by decide)) ?_)
  rw [← e3]
  refine wpAny_bind ?_
  refine grown ?_ ?_
  · omega
  refine wpAny_bind (grown ?_ ?_)
  · omega
  refine wpAny_bind (grown ?_ ?_)
  · omega
  refine wpAny_bind (wpAny_newObj_type ?_ (by size_fits))
  refine wpAny_pure ⟨_, rfl, ?_⟩
  exact wpAny_pure (h _ _ _ _ (Heap.get?_push_size _ rfl))

theorem IsPart.handed {v : Value} {o : Option Int} (p : IsPart v o) : handedIn v = true := by cases p <;> rfl
theorem part_is {M : Model} {v : Value} {o : Option Int} {Q : Value → Shared → Prop} (p : IsPart v o) (h : Q (.bool o.isNone) s) : wpAny M A (compareOp .Is v .none) Q E s := by
  refine is_none_gen ?_
  cases p with
  | none => exact h
  | int i t => exact h
theorem part_eq0 {t : Tok} {v : Value} {o : Option Int} {Q : Value → Shared → Prop} (p : IsPart v o) (h : Q (.bool (o == some 0)) s) : wpAny (model prog w) A (compareOp .Eq v (.int 0 t)) Q E s := by
  cases p with
  | none => exact EqNone.eq_none_int h
  | int i t =>
    refine eq_int ?_
    have e : (some i == some (0 : Int)) = decide (i = 0) := by rw [Bool.eq_iff_iff]; simp
    rw [e] at h
    exact h
/-- a test whose ways all give the same, and change nothing but the count -/
theorem join_test {M : Model} {t : Sem Bool} {b₀ : Bool} {Q : Bool → Shared → Prop} (h : wpAny M A t (fun b s' => b = b₀ ∧ ∃ tk, s' = { s with toks := tk }) (fun _ _ => False) s) (hQ : ∀ tk, Q b₀ { s with toks := tk }) : wpAny M A t Q E s :=
  wpAny_mono h (fun b s' ⟨e, tk, e2⟩ => by subst e; subst e2; exact hQ tk) fun _ _ x => x.elim
end
end
section
/-- the places that the slice takes of n, in its order -/
def plN (o1 o2 o3 : Option Int) (n : Nat) : List Nat := sliceRange (sliceBounds o1 o2 o3 n).1 (sliceBounds o1 o2 o3 n).2.1 (sliceBounds o1 o2 o3 n).2.2

theorem ends_eq (o1 o2 o3 : Option Int) (n : Nat) (h0 : o3 ≠ some 0) : sliceEnds o1 o2 o3 n = sliceBounds o1 o2 o3 n := by
  have hc : o3.getD 1 ≠ 0 := by
    cases o3 with
    | none => decide
    | some c => intro h; exact h0 (by rw [Option.getD_some] at h; rw [h])
  unfold sliceEnds sliceBounds Builtin.Slice.sliceAdjust
  generalize o3.getD 1 = c at hc
  by_cases hp : c > 0
  · have hn : ¬ c < 0 := by omega
    simp only [hp, hn, if_true, if_false]
    refine Prod.ext ?_ (Prod.ext ?_ rfl)
    · cases o1 with
      | none => rfl
      | some i => dsimp only; split <;> omega
    · cases o2 with
      | none => rfl
      | some i => dsimp only; split <;> omega
  · have hn : c < 0 := by omega
    simp only [hp, hn, if_true, if_false]
    refine Prod.ext ?_ (Prod.ext ?_ rfl)
    · cases o1 with
      | none => rfl
      | some i => dsimp only; split <;> omega
    · cases o2 with
      | none => rfl
      | some i => dsimp only; split <;> omega

theorem bounds_near (o1 o2 o3 : Option Int) (n : Nat) : ((sliceBounds o1 o2 o3 n).2.2 > 0 → 0 ≤ (sliceBounds o1 o2 o3 n).1 ∧ (sliceBounds o1 o2 o3 n).2.1 ≤ n) ∧
    (¬ (sliceBounds o1 o2 o3 n).2.2 > 0 → (sliceBounds o1 o2 o3 n).1 ≤ (n : Int) - 1 ∧ -1 ≤ (sliceBounds o1 o2 o3 n).2.1) := by
  unfold sliceBounds
  generalize o3.getD 1 = c
  by_cases hp : c > 0
  · simp only [hp, if_true, not_true_eq_false, false_implies, and_true, true_implies]
    constructor
    · cases o1 <;> dsimp only <;> omega
    · cases o2 <;> dsimp only <;> omega
  · simp only [hp, if_false, not_false_eq_true, false_implies, true_and, true_implies]
    constructor
    · cases o1 <;> dsimp only <;> omega
    · cases o2 <;> dsimp only <;> omega

/-- a range's items: lo, lo + c, .. ; each lies between its ends -/
theorem range_count (lo hi c : Int) (h0 : c ≠ 0) : 0 ≤ Builtin.Range.rangeSize lo hi c ∧ (sliceRange lo hi c).length = (Builtin.Range.rangeSize lo hi c).toNat := by
  unfold Builtin.Range.rangeSize sliceRange
  rw [List.length_map, List.length_range]
  by_cases hp : c > 0
  · simp only [hp, if_true]
    by_cases h : lo < hi
    · simp only [h, if_true]
      have e : hi - lo + c - 1 = (hi - lo - 1) + 1 * c := by omega
      rw [e, Int.add_mul_ediv_right _ _ (by omega)]
      have : 0 ≤ (hi - lo - 1) / c := Int.ediv_nonneg (by omega) (by omega)
      exact ⟨by omega, rfl⟩
    · simp only [h, if_false]
      exact ⟨Int.le_refl _, by simp⟩
  · simp only [hp, if_false]
    by_cases h : lo > hi
    · simp only [h, if_true]
      have e : lo - hi - c - 1 = (lo - hi - 1) + 1 * (-c) := by omega
      rw [e, Int.add_mul_ediv_right _ _ (by omega)]
      have : 0 ≤ (lo - hi - 1) / (-c) := Int.ediv_nonneg (by omega) (by omega)
      exact ⟨by omega, rfl⟩
    · simp only [h, if_false]
      exact ⟨Int.le_refl _, by simp⟩

theorem range_item (lo hi c : Int) (h0 : c ≠ 0) (k : Nat) (hk : (k : Int) < Builtin.Range.rangeSize lo hi c) :
    (c > 0 → lo ≤ lo + k * c ∧ lo + k * c < hi) ∧ (¬ c > 0 → hi < lo + k * c ∧ lo + k * c ≤ lo) := by
  unfold Builtin.Range.rangeSize at hk
  by_cases hp : c > 0
  · simp only [hp, if_true] at hk
    refine ⟨fun _ => ?_, fun h => absurd hp h⟩
    by_cases h : lo < hi
    · simp only [h, if_true] at hk
      have h1 : (k : Int) ≤ (hi - lo - 1) / c := by omega
      have h2 : (k : Int) * c ≤ hi - lo - 1 := (Int.le_ediv_iff_mul_le hp).mp h1
      have h3 : 0 ≤ (k : Int) * c := Int.mul_nonneg (by omega) (by omega)
      omega
    · simp only [h, if_false] at hk
      omega
  · simp only [hp, if_false] at hk
    refine ⟨fun h => absurd h hp, fun _ => ?_⟩
    by_cases h : lo > hi
    · simp only [h, if_true] at hk
      have h1 : (k : Int) ≤ (lo - hi - 1) / (-c) := by omega
      have h2 : (k : Int) * (-c) ≤ lo - hi - 1 := (Int.le_ediv_iff_mul_le (by omega)).mp h1
      have h3 : 0 ≤ (k : Int) * (-c) := Int.mul_nonneg (by omega) (by omega)
      rw [Int.mul_neg] at h2 h3
      omega
    · simp only [h, if_false] at hk
      omega

theorem sliceRange_get (a b c : Int) (k : Nat) (hk : k < (sliceRange a b c).length) : (sliceRange a b c)[k] = (a + c * (k : Int)).toNat := by
  have q : (sliceRange a b c)[k]? = some ((a + c * (k : Int)).toNat) := by
    unfold sliceRange at hk ⊢
    rw [List.length_map, List.length_range] at hk
    rw [List.getElem?_map, List.getElem?_range hk]
    rfl
  rw [List.getElem?_eq_getElem hk] at q
  exact Option.some.inj q

section
variable (o1 o2 o3 : Option Int) (n : Nat) (h0 : o3 ≠ some 0)
include h0
theorem step_ne : (sliceEnds o1 o2 o3 n).2.2 ≠ 0 := by
  show o3.getD 1 ≠ 0
  cases o3 with
  | none => decide
  | some c => intro h; exact h0 (by rw [Option.getD_some] at h; rw [h])

theorem plN_length : (plN o1 o2 o3 n).length = (Builtin.Range.rangeSize (sliceEnds o1 o2 o3 n).1 (sliceEnds o1 o2 o3 n).2.1 (sliceEnds o1 o2 o3 n).2.2).toNat ∧
    0 ≤ Builtin.Range.rangeSize (sliceEnds o1 o2 o3 n).1 (sliceEnds o1 o2 o3 n).2.1 (sliceEnds o1 o2 o3 n).2.2 := by
  unfold plN
  rw [← ends_eq o1 o2 o3 n h0]
  have := range_count (sliceEnds o1 o2 o3 n).1 (sliceEnds o1 o2 o3 n).2.1 (sliceEnds o1 o2 o3 n).2.2 (step_ne o1 o2 o3 n h0)
  exact ⟨this.2, this.1⟩

theorem plN_get (k : Nat) (hk : k < (plN o1 o2 o3 n).length) : 0 ≤ (sliceEnds o1 o2 o3 n).1 + k * (sliceEnds o1 o2 o3 n).2.2 ∧ (sliceEnds o1 o2 o3 n).1 + k * (sliceEnds o1 o2 o3 n).2.2 < n ∧
    (((plN o1 o2 o3 n)[k] : Nat) : Int) = (sliceEnds o1 o2 o3 n).1 + k * (sliceEnds o1 o2 o3 n).2.2 := by
  have hl := plN_length o1 o2 o3 n h0
  have hb := bounds_near o1 o2 o3 n
  have hi := range_item (sliceEnds o1 o2 o3 n).1 (sliceEnds o1 o2 o3 n).2.1 (sliceEnds o1 o2 o3 n).2.2 (step_ne o1 o2 o3 n h0) k (by omega)
  have e := ends_eq o1 o2 o3 n h0
  have hg : (plN o1 o2 o3 n)[k] = ((sliceBounds o1 o2 o3 n).1 + (sliceBounds o1 o2 o3 n).2.2 * (k : Int)).toNat := sliceRange_get _ _ _ k hk
  rw [← e] at hg
  rw [← e] at hb
  rw [Int.mul_comm] at hg
  by_cases hp : (sliceEnds o1 o2 o3 n).2.2 > 0
  · have h1 := hi.1 hp
    have h2 := hb.1 hp
    refine ⟨by omega, by omega, ?_⟩
    rw [hg]; omega
  · have h1 := hi.2 hp
    have h2 := hb.2 hp
    refine ⟨by omega, by omega, ?_⟩
    rw [hg]; omega

theorem plN_lt (p : Nat) (hp : p ∈ plN o1 o2 o3 n) : p < n := by
  obtain ⟨k, hk, rfl⟩ := List.getElem_of_mem hp
  have := plN_get o1 o2 o3 n h0 k hk
  omega

theorem plN_nodup : (plN o1 o2 o3 n).Nodup := by
  unfold List.Nodup
  refine List.pairwise_iff_getElem.mpr fun i j hi hj hij e => ?_
  have h1 := plN_get o1 o2 o3 n h0 i hi
  have h2 := plN_get o1 o2 o3 n h0 j hj
  have hs := step_ne o1 o2 o3 n h0
  rw [e] at h1
  have h3 : (i : Int) * (sliceEnds o1 o2 o3 n).2.2 = j * (sliceEnds o1 o2 o3 n).2.2 := by omega
  have := Int.eq_of_mul_eq_mul_right hs h3
  omega

theorem plN_small : (plN o1 o2 o3 n).length ≤ n := by
  have hb := bounds_near o1 o2 o3 n
  exact sliceRange_length_le _ _ _ _ hb.1 hb.2
end

theorem range_small (o1 o2 o3 : Option Int) (n : Nat) (h0 : o3 ≠ some 0) (hc : (o3.getD 1).natAbs < 1000000) (hn : n < 1000000) :
    Builtin.Range.small (sliceEnds o1 o2 o3 n).1 (sliceEnds o1 o2 o3 n).2.1 (sliceEnds o1 o2 o3 n).2.2 = true := by
  have e := ends_near o1 o2 (o3.getD 1) n
  have e1 : (sliceEnds o1 o2 o3 n).1 = (Builtin.Slice.sliceAdjust o1 o2 (o3.getD 1) n).1 := rfl
  have e2 : (sliceEnds o1 o2 o3 n).2.1 = (Builtin.Slice.sliceAdjust o1 o2 (o3.getD 1) n).2 := rfl
  have e3 : (sliceEnds o1 o2 o3 n).2.2 = o3.getD 1 := rfl
  have l := plN_length o1 o2 o3 n h0
  have l2 := plN_small o1 o2 o3 n h0
  rw [← e1, ← e2] at e
  rw [← e3] at hc
  generalize (sliceEnds o1 o2 o3 n).1 = a at *
  generalize (sliceEnds o1 o2 o3 n).2.1 = b at *
  generalize (sliceEnds o1 o2 o3 n).2.2 = c at *
  unfold Builtin.Range.small
  generalize Builtin.Range.rangeSize a b c = z at *
  have fit : ∀ x : Int, -(2000000 : Int) ≤ x → x ≤ 2000000 → Builtin.Range.rangeFitsLong x = true := fun x h1 h2 => by
    unfold Builtin.Range.rangeFitsLong
    rw [Bool.and_eq_true, decide_eq_true_eq, decide_eq_true_eq]
    omega
  rw [fit a (by omega) (by omega), fit b (by omega) (by omega), fit c (by omega) (by omega), fit z (by omega) (by omega), fit (b + (c - 1)) (by omega) (by omega), fit (b + (c + 1)) (by omega) (by omega)]
  simp

theorem plN_all (n : Nat) : plN none none none n = List.range n := by
  unfold plN
  have e : sliceBounds none none none n = (((0 : Nat) : Int), (n : Int), 1) := rfl
  rw [e, sliceRange_one]
  simp
end
section
section
variable {M : Model} {A : Around} {E : Value → Shared → Prop} {s : Shared} {K : Frag} {h₀ : Heap} {C : Addr} {m mg mb : Str → Option Value} {p : Program} {loose : List Str} {scope : Scope} {cl : List (Str × Addr)} {env : Env}
  {x : Str} {pos : Pos} {v : Value} {Q : Value → Shared → Prop} {news : List (Addr × Obj)} {c : Addr} {o : Obj}
theorem cName_local (F : Fr h₀ C s.heap m) (hv : m x = some v) (h : Q v s) (hk : (compEnvC scope cl C env).scope.kind = .function) (hl : (compEnvC scope cl C env).kindOf x = some .local) (hd : (x == ("__debug__" : Str)) = false := by decide) :
    wpAny M A (eval (.Name x pos) (compEnvC scope cl C env)) Q E s := wpAny_Name (wpAny_loadName_local hk hl F.ns hv h) hd
theorem cName_cell (N : News h₀ C s.heap news) (hc : cl.lookup x = some c) (hm : (c, o) ∈ news) (ho : o.data = .cell (some v)) (h : Q v s) (hk : (compEnvC scope cl C env).scope.kind = .function) (hl : (compEnvC scope cl C env).kindOf x = some .cell) (hd : (x == ("__debug__" : Str)) = false := by decide) :
    wpAny M A (eval (.Name x pos) (compEnvC scope cl C env)) Q E s := wpAny_Name (wpAny_loadName_cell hk hl hc ⟨o, N.get hm, ho⟩ h) hd
theorem cName_free (N : News h₀ C s.heap news) (hc : cl.lookup x = some c) (hm : (c, o) ∈ news) (ho : o.data = .cell (some v)) (h : Q v s) (hk : (compEnvC scope cl C env).scope.kind = .function) (hl : (compEnvC scope cl C env).kindOf x = some .free) (hd : (x == ("__debug__" : Str)) = false := by decide) (hn : (x == ("__classdict__" : Str)) = false := by decide) :
    wpAny M A (eval (.Name x pos) (compEnvC scope cl C env)) Q E s := wpAny_Name (wpAny_loadName_free hk hl hc ⟨o, N.get hm, ho⟩ h hn) hd
theorem cName_glob (F : Fr h₀ C s.heap m) (X : K.In h₀) (T : TopRead p loose mg mb h₀) (e : nsIn K mainGlobals x = some (some v)) (h : Q v s) (hg : env.globals = mainGlobals) (hk : (compEnvC scope cl C env).scope.kind = .function) (hl : (compEnvC scope cl C env).kindOf x = some .globalImplicit) (hd : (x == ("__debug__" : Str)) = false := by decide) :
    wpAny M A (eval (.Name x pos) (compEnvC scope cl C env)) Q E s :=
  Name_function_global hk hl (loadGlobal_global (env := compEnvC scope cl C env) (by show s.heap.Ns env.globals mg; rw [hg]; exact T.g.keeps F.keep) (mg_of X T.g e) h) hd
theorem cName_boot (F : Fr h₀ C s.heap m) (X : K.In h₀) (T : TopRead p loose mg mb h₀) (e : nsIn K mainGlobals x = some none) (hv : bootBuiltins x = some v) (hn : x ≠ "__name__") (h : Q v s) (hg : env.globals = mainGlobals) (hb : env.builtins = builtinsNs) (hk : (compEnvC scope cl C env).scope.kind = .function) (hl : (compEnvC scope cl C env).kindOf x = some .globalImplicit) (hd : (x == ("__debug__" : Str)) = false := by decide) :
    wpAny M A (eval (.Name x pos) (compEnvC scope cl C env)) Q E s :=
  Name_function_global hk hl (loadGlobal_builtin (env := compEnvC scope cl C env) (by show s.heap.Ns env.globals mg; rw [hg]; exact T.g.keeps F.keep) (mg_none_of X T.g e) (by show s.heap.Ns env.builtins mb; rw [hb]; exact T.b.keeps F.keep) ((T.builtins x hn).trans hv) h) hd
/-- a mark: all that stood at the start of an element's evaluation stands, and these are new -/
structure Since (h h' : Heap) (objs : List (Addr × Obj)) : Prop where
  up : Up h h'
  has : Has h h' objs
theorem Since.step {h h' h'' : Heap} {objs new : List (Addr × Obj)} (S : Since h h' objs) (U : Up h' h'') (H : Has h' h'' new) : Since h h'' (new ++ objs) := ⟨S.up.trans U, (H.low S.up).app (S.has.up U)⟩
theorem Since.step0 {h h' h'' : Heap} {objs : List (Addr × Obj)} (S : Since h h' objs) (U : Up h' h'') : Since h h'' objs := ⟨S.up.trans U, S.has.up U⟩
theorem Since.start (h : Heap) : Since h h [] := ⟨fun _ _ e => e, Has.nil⟩
end

section
variable {prog : Program} {w : World} {A : Around} {E : Value → Shared → Prop} {s : Shared}
theorem range_tail {value slice : Expr} {r sl : Addr} {n : Nat} {v1 v2 v3 : Value} {o1 o2 o3 : Option Int} {t u v : Tok} {ops : List Value} {Q : Value → Shared → Prop} (hr : IsRange s.heap r 0 n 1 t u v) (hs : s.heap.IsSliceOf sl v1 v2 v3)
    (p1 : IsPart v1 o1) (p2 : IsPart v2 o2) (p3 : IsPart v3 o3) (h0 : o3 ≠ some 0) (hc : (o3.getD 1).natAbs < 1000000) (hn : n < 1000000)
    (h : ∀ D h' t u v tk, Up s.heap h' → IsRange h' D (sliceEnds o1 o2 o3 n).1 (sliceEnds o1 o2 o3 n).2.1 (sliceEnds o1 o2 o3 n).2.2 t u v → Q (.ref D) { s with heap := h', toks := tk })
    (hsub : subscripted slice false (.ref r) (.ref sl) = operate ops (getItem (.ref r) (.ref sl))) : wpAny (model prog w) A (subscriptTail value slice (.ref r) (.ref sl)) Q E s :=
  tail_any (T := "range") ⟨_, hr, rfl⟩ F.slot_range_getitem.lookup (getItem_range_slice hr hs p1 p2 p3 h0 hc hn fun t u v tk hR => h _ _ t u v tk (fun _ _ e => Heap.get?_push_of_some _ e) hR) hsub
theorem len_small {l : Addr} {vs : List Value} {Q : Value → Shared → Prop} (hl : s.heap.IsList l vs.toArray) (hz : vs.length ≤ 63) (h : Q (.int vs.length (s.toks + 1)) { s with toks := s.toks + 1 + 1 }) :
    wpAny (model prog w) A (call (.builtin "len") [.ref l]) Q E s :=
  len_list hl (by rw [List.size_toArray]; omega) (by rw [List.size_toArray]; exact h)
end
end
section
section
variable {prog : Program} {w : World} {A : Around} {E : Value → Shared → Prop} {s : Shared}
/-- a slice of range(n), and its iterator -/
theorem range_slice_iter {value slice : Expr} {r sl : Addr} {n : Nat} {v1 v2 v3 : Value} {o1 o2 o3 : Option Int} {t u v : Tok} {ops : List Value} {Q : Value → Shared → Prop} {h₁ : Heap} (hr : IsRange h₁ r 0 n 1 t u v) (U : Up h₁ s.heap) (hs : s.heap.IsSliceOf sl v1 v2 v3)
    (p1 : IsPart v1 o1) (p2 : IsPart v2 o2) (p3 : IsPart v3 o3) (h0 : o3 ≠ some 0) (hc : (o3.getD 1).natAbs < 1000000) (hn : n < 1000000)
    (h : ∀ I h' tk, Up h₁ h' → (∀ b o, h₁.get? b = some o → b ≠ I) → I < h'.objs.size → IsRangeIter h' I ((sliceEnds o1 o2 o3 n).1 + ((0 : Nat) : Int) * (sliceEnds o1 o2 o3 n).2.2) (((plN o1 o2 o3 n).length : Int) - ((0 : Nat) : Int)) (sliceEnds o1 o2 o3 n).2.2 →
      Q (.ref I) { s with heap := h', toks := tk })
    (hsub : subscripted slice false (.ref r) (.ref sl) = operate ops (getItem (.ref r) (.ref sl))) :
    wpAny (model prog w) A (subscriptTail value slice (.ref r) (.ref sl)) (fun xv s₁ => wpAny (model prog w) A (pyIter xv) Q E s₁) E s := by
  refine range_tail (U _ _ hr) hs p1 p2 p3 h0 hc hn (fun D hD t u v tk UD RD => ?_) hsub
  refine wpAny_pyIter_range RD (range_small o1 o2 o3 n h0 hc hn) ?_
  refine h _ _ tk (fun b o e => Heap.get?_push_of_some _ (UD b o (U b o e))) (fun b o e q => ?_) (by rw [Heap.size_push]; exact Nat.lt_succ_self _) ?_
  · have := Heap.lt_size (UD b o (U b o e))
    rw [q] at this
    exact Nat.lt_irrefl _ this
  · have l := plN_length o1 o2 o3 n h0
    have e : (((plN o1 o2 o3 n).length : Nat) : Int) = Builtin.Range.rangeSize (sliceEnds o1 o2 o3 n).1 (sliceEnds o1 o2 o3 n).2.1 (sliceEnds o1 o2 o3 n).2.2 := by omega
    rw [e]
    show IsRangeIter _ _ _ _ _
    simpa using Heap.get?_push_size hD rfl
theorem tests_nil {cenv : Env} {E : Value → Shared → Prop} : wpAny (model prog w) A (forIn ([] : List Expr) true fun c r => if r = true then do let ok ← isTrue c cenv (eval c cenv); pure (ForInStep.yield ok) else pure (ForInStep.yield r)) (TestR true s) E s :=
  wpAny_pure ⟨rfl, s.heap, s.toks, rfl, fun _ _ e => e⟩
/-- an element's frame and ledger -/
theorem elt_frame {g' h₂ h₃ : Heap} {L C : Addr} {m m₂ : Str → Option Value} {news : List (Addr × Obj)} {wr : List Addr} (F : Fr g' L h₂ m) (N : News g' L h₂ news) (hn : h₃.Ns C m₂) (hC : h₂.objs.size ≤ C) (hw : ∀ b o, g'.get? b = some o → b ∉ wr) (hw' : ∀ q ∈ news, q.1 ∉ wr)
    (k : ∀ b o, b ∉ wr → b ∉ ([] : List Addr) → h₂.get? b = some o → h₃.get? b = some o) : Fr g' C h₃ m₂ ∧ News g' C h₃ news :=
  ⟨⟨hn, fun b o e => k b o (hw b o e) List.not_mem_nil (F.keep b o e), Nat.le_trans F.above (Nat.le_trans (Nat.le_of_lt F.ns.lt) hC)⟩,
    fun q hq => ⟨k _ _ (hw' q hq) List.not_mem_nil (N q hq).1, Nat.ne_of_lt (Nat.lt_of_lt_of_le (Heap.lt_size (N q hq).1) hC), (N q hq).2.2⟩⟩
/-- an item at a place that lies in the list -/
theorem item_nat {value slice : Expr} {l : Addr} {vs : List Value} {q : Nat} {u : Tok} {Q : Value → Shared → Prop} (hl : s.heap.IsList l vs.toArray) (hq : q < vs.length) (hz : vs.length ≤ 63) (h : Q (vs.getD q .none) s)
    (hs : subscripted slice false (.ref l) (.int (q : Int) u) = operate [.ref l, .int (q : Int) u] (getItem (.ref l) (.int (q : Int) u)) := by with_unfolding_all rfl) :
    wpAny (model prog w) A (subscriptTail value slice (.ref l) (.int (q : Int) u)) Q E s := by
  refine tail_any hl.typeIs slot_list_getitem.lookup (wpAny_getItem_list hl (by omega) (by omega) ?_ h) hs
  rw [Int.toNat_natCast]
  simp [List.getD_eq_getElem?_getD, hq]
/-- the frame and the ledger behind a comprehension -/
theorem back_frame {g' h₂ h₃ : Heap} {L : Addr} {m : Str → Option Value} {news : List (Addr × Obj)} {wr Z : List Addr} (F : Fr g' L h₂ m) (N : News g' L h₂ news) (hw : ∀ b o, g'.get? b = some o → b ∉ wr ∧ b ∉ Z) (hL : L ∉ wr ∧ L ∉ Z) (hw' : ∀ q ∈ news, q.1 ∉ wr ∧ q.1 ∉ Z)
    (k : ∀ b o, b ∉ wr → b ∉ Z → h₂.get? b = some o → h₃.get? b = some o) : Fr g' L h₃ m ∧ News g' L h₃ news :=
  ⟨⟨F.ns.at' fun o e => k _ o hL.1 hL.2 e, fun b o e => k b o (hw b o e).1 (hw b o e).2 (F.keep b o e), F.above⟩,
    fun q hq => ⟨k _ _ (hw' q hq).1 (hw' q hq).2 (N q hq).1, (N q hq).2⟩⟩
theorem paired_at {α : Type} {P : Nat → Value → Prop} {ys : List Value} : ∀ {pl : List Nat} {Q : Nat → Value → Prop} {k : Nat}, (∀ i y, i < pl.length → Q (i + k) y → P (pl.getD i 0) y) → Paired Q ((List.range pl.length).map (· + k)) ys → Paired P pl ys := by
  induction ys with
  | nil =>
    intro pl Q k h hp
    cases pl with
    | nil => exact .nil
    | cons a r => have := hp.length; simp at this
  | cons y ys ih =>
    intro pl Q k h hp
    cases pl with
    | nil => have := hp.length; simp at this
    | cons a r =>
      rw [List.length_cons, List.range_succ_eq_map, List.map_cons, List.map_map] at hp
      cases hp with
      | cons h1 h2 =>
        refine .cons (by simpa using h 0 y (by simp) (by simpa using h1)) (ih (Q := fun i y => Q i y) (k := k + 1) (fun i y hi hq => ?_) ?_)
        · have := h (i + 1) y (by simpa using hi) (by rw [show i + 1 + k = i + (k + 1) by omega]; exact hq)
          simpa using this
        · have e : (((fun x => x + k) ∘ Nat.succ) : Nat → Nat) = (fun x => x + (k + 1)) := by funext x; show x + 1 + k = x + (k + 1); omega
          rw [e] at h2; exact h2
theorem paired_range {P Q : Nat → Value → Prop} {ys : List Value} {pl : List Nat} {n : Nat} (hn : n = pl.length) (h : ∀ i y, i < pl.length → Q i y → P (pl.getD i 0) y) (hp : Paired Q ((List.range n).filter fun _ => true) ys) : Paired P pl ys := by
  subst hn
  refine paired_at (α := Nat) (Q := Q) (k := 0) (fun i y hi q => h i y hi q) ?_
  rw [show (List.range pl.length).filter (fun _ => true) = (List.range pl.length).map (· + 0) by rw [List.filter_eq_self.mpr (fun _ _ => rfl)]; simp] at hp
  exact hp
end
end
section
section
variable {prog : Program} {w : World} {A : Around} {E : Value → Shared → Prop} {s : Shared}
/-- enumerate(list), and its iterator -/
theorem enum_iter {l : Addr} {vs : List Value} {Q : Value → Shared → Prop} (hl : s.heap.IsList l vs.toArray)
    (h : ∀ e it h', Up s.heap h' → (∀ b o, s.heap.get? b = some o → b ∉ [e, it]) → e < h'.objs.size → it < h'.objs.size → l < h'.objs.size → e ≠ it → l ≠ e → l ≠ it →
      (∃ old, IsEnum h' e it ((0 : Nat) : Int) old) ∧ h'.IsListIter it l 0 ∧ h'.IsList l vs.toArray → Q (.ref e) { s with heap := h' }) :
    wpAny (model prog w) A (call (.type "enumerate") [.ref l]) (fun xv s₁ => wpAny (model prog w) A (pyIter xv) Q E s₁) E s := by
  have hlt : l < s.heap.objs.size := by obtain ⟨o, e, _⟩ := hl; exact Heap.lt_size e
  refine call_enumerate_list hl fun h' hE hI hsz hk => ?_
  refine wpAny_pyIter_enum hE ?_
  refine h (s.heap.objs.size + 1) s.heap.objs.size h' hk (fun b o e q => ?_) (by rw [hsz]; exact Nat.lt_succ_self _) (by rw [hsz]; exact Nat.lt_succ_of_lt (Nat.lt_succ_self _)) (by rw [hsz]; exact Nat.lt_succ_of_lt (Nat.lt_succ_of_lt hlt)) (Nat.succ_ne_self _) (Nat.ne_of_lt (Nat.lt_succ_of_lt hlt)) (Nat.ne_of_lt hlt) ⟨⟨_, hE⟩, hI, hl.at fun o e => hk l o e⟩
  have hb := Heap.lt_size e
  rcases List.mem_cons.mp q with q | q
  · rw [q] at hb; exact absurd hb (Nat.not_lt.mpr (Nat.le_succ _))
  · rw [List.mem_singleton.mp q] at hb; exact Nat.lt_irrefl _ hb

/-- what the turns over enumerate(list) are to show -/
theorem CompOk.enum {l : Addr} {vs : List Value} {env : Env} {scope : Scope} {cl : List (Str × Addr)} {xi xv : Str} {pi pv pt : Pos} {x1 : Nat} {ifs : List Expr} {el : Expr} {p : Nat → Bool} {G₀ : Nat → Value → List (Addr × Obj) → Prop} {J₀ : List (Addr × Obj) → Prop} {Z : List Addr}
    {Q : Value → Shared → Prop} {s₂ : Shared} {e it : Addr} {jo : List (Addr × Obj)} (hh : A.handled = none) (hz : vs.length ≤ 63) (le : e < s₂.heap.objs.size) (li : it < s₂.heap.objs.size) (ll : l < s₂.heap.objs.size) (hei : e ≠ it) (hle : l ≠ e) (hli : l ≠ it)
    (st : (∃ old, IsEnum s₂.heap e it ((0 : Nat) : Int) old) ∧ s₂.heap.IsListIter it l 0 ∧ s₂.heap.IsList l vs.toArray) (hZ : e ∉ Z ∧ it ∉ Z ∧ l ∉ Z) (lowZ : ∀ z ∈ Z, z < s₂.heap.objs.size)
    (j : J₀ jo) (jAt : ∀ q ∈ jo, s₂.heap.get? q.1 = some q.2 ∧ q.1 ∉ [e, it]) (jZ : ∀ jo, J₀ jo → ∀ z ∈ Z, z ∈ jo.map (·.1)) (bare : AllBare s₂.gens)
    (tests : ∀ (C i : Nat) (s₃ : Shared) (m₁ : Str → Option Value) (t : Tok) jo, s₂.heap.objs.size ≤ C → i < vs.length → s₃.heap.Ns C (fun y => if y = xv then some (vs.getD i .none) else if y = xi then some (.int i t) else m₁ y) → (∀ b o, b ∉ [e, it] → b ∉ Z → s₂.heap.get? b = some o → s₃.heap.get? b = some o) → J₀ jo → (∀ q ∈ jo, s₃.heap.get? q.1 = some q.2) →
      wpAny (model prog w) A (forIn ifs true fun c r => if r = true then do let ok ← isTrue c (compEnvC scope cl C env) (eval c (compEnvC scope cl C env)); pure (ForInStep.yield ok) else pure (ForInStep.yield r)) (TestR (p i) s₃) (fun _ _ => False) s₃)
    (elt : ∀ (C i : Nat) (s₃ : Shared) (m₁ : Str → Option Value) (t : Tok) jo, s₂.heap.objs.size ≤ C → i < vs.length → p i = true → s₃.heap.Ns C (fun y => if y = xv then some (vs.getD i .none) else if y = xi then some (.int i t) else m₁ y) → (∀ b o, b ∉ [e, it] → b ∉ Z → s₂.heap.get? b = some o → s₃.heap.get? b = some o) → J₀ jo → (∀ q ∈ jo, s₃.heap.get? q.1 = some q.2) → AllBare s₃.gens →
      wpAny (model prog w) A (eval el (compEnvC scope cl C env)) (EltR Z J₀ jo (G₀ i) s₃) (fun _ _ => False) s₃)
    (behind : ∀ D h' tk gs ys jo, s₂.heap.get? D = none → h'.PlainList D ys → Paired (MadeAt s₂.heap h' (D :: ([e, it] ++ Z)) G₀) ((List.range vs.length).filter p) ys.toList → J₀ jo → (∀ q ∈ jo, h'.get? q.1 = some q.2 ∧ q.1 ∉ [e, it] ∧ q.1 ≠ D) → AllBare gs →
      (∀ b o, b ∉ [e, it] → b ∉ Z → s₂.heap.get? b = some o → h'.get? b = some o) → Q (.ref D) { s₂ with heap := h', toks := tk, gens := gs })
    (hxi : ∀ C, (compEnvC scope cl C env).kindOf xi = some .local) (hxv : ∀ C, (compEnvC scope cl C env).kindOf xv = some .local)
    (hp : ∀ C, ((compEnvC scope cl C env).scope.kind == .class || ((compEnvC scope cl C env).scope.kind == .module && (compEnvC scope cl C env).locals != (compEnvC scope cl C env).globals)) = false) :
    ∃ I fp wr n B St jo, (Value.ref e) = .ref I ∧ CompOk prog w A env scope cl (.Tuple [.Name xi pi, .Name xv pv] x1 pt) ifs el p G₀ J₀ Z Q s₂ I fp wr n B St jo := by
  have hB : ∀ (i : Nat) (m₁ m₂ : Str → Option Value), (∃ a b, (∃ t x, vs.toArray[i]? = some x ∧ #[a, b] = #[Value.int i t, x]) ∧ m₂ = fun y => if y = xv then some b else if y = xi then some a else m₁ y) → ∃ t, m₂ = fun y => if y = xv then some (vs.getD i .none) else if y = xi then some (.int i t) else m₁ y := by
    rintro i m₁ m₂ ⟨a, b, ⟨t, x, hx, e⟩, rfl⟩
    injection e with e
    injection e with e1 e2
    injection e2 with e2 _
    subst e1; subst e2
    have hb : vs.getD i .none = b := by rw [List.getD_eq_getElem?_getD]; simp at hx; rw [hx]; rfl
    exact ⟨t, by rw [hb]⟩
  have n63 : vs.toArray.size = vs.length := by simp
  refine ⟨e, [e, it, l], [e, it], vs.toArray.size, _, _, jo, rfl, CompOk.mk (fun C hC => TurnW.pair (WalksT.enumerate hh e it l hei hle hli vs.toArray).toU hh ?_ (hxi C) (hxv C) (hp C) ?_ ?_) ?_ ?_ st ?_ lowZ j jAt jZ bare ?_ ?_ ?_⟩
  · rintro i h ⟨⟨old, he⟩, ⟨oi, hoi, _⟩, ⟨ol, hol, _⟩⟩ b hb
    rcases List.mem_cons.mp hb with rfl | hb
    · exact ⟨_, he⟩
    · rcases List.mem_cons.mp hb with rfl | hb
      · exact ⟨_, hoi⟩
      · rw [List.mem_singleton.mp hb]; exact ⟨_, hol⟩
  · rintro i T h h' ⟨⟨x, ho⟩, hi, hL, h1, h2⟩ hk
    exact ⟨⟨x, hk _ _ ho⟩, hi.at (fun o e => hk _ o e), hL.at (fun o e => hk _ o e), h1, h2⟩
  · rintro i v ⟨t, x, _, rfl⟩
    exact ⟨_, _, rfl⟩
  · rw [n63]; exact Nat.le_trans hz (by unfold sizeLine; omega)
  · rintro i h ⟨⟨old, he⟩, ⟨oi, hoi, _⟩, _⟩ b hb
    rcases List.mem_cons.mp hb with rfl | hb
    · exact ⟨_, he⟩
    · rw [List.mem_singleton.mp hb]; exact ⟨_, hoi⟩
  · intro b hb
    rcases List.mem_cons.mp hb with rfl | hb
    · exact ⟨le, hZ.1⟩
    · rcases List.mem_cons.mp hb with rfl | hb
      · exact ⟨li, hZ.2.1⟩
      · rw [List.mem_singleton.mp hb]; exact ⟨ll, hZ.2.2⟩
  · intro C i s₃ m₁ m₂ jo hC hi hb hn hk hJ hj
    obtain ⟨t, rfl⟩ := hB i m₁ m₂ hb
    exact tests C i s₃ m₁ t jo hC (n63 ▸ hi) hn hk hJ hj
  · intro C i s₃ m₁ m₂ jo hC hi hb hp hn hk hJ hj hg
    obtain ⟨t, rfl⟩ := hB i m₁ m₂ hb
    exact elt C i s₃ m₁ t jo hC (n63 ▸ hi) hp hn hk hJ hj hg
  · rw [n63]; exact behind
end
end
section
section
variable {prog : Program} {w : World} {A : Around} {E : Value → Shared → Prop} {s : Shared}
theorem TurnW.items {env : Env} {xi xv : Str} {pi pv pt : Pos} {x1 : Nat} {I d : Addr} {kvs : List (Str × Value)} {ep : Nat} (hh : A.handled = none) (hne : d ≠ I)
    (hxi : env.kindOf xi = some .local) (hxv : env.kindOf xv = some .local) (hp : (env.scope.kind == .class || (env.scope.kind == .module && env.locals != env.globals)) = false) :
    TurnW prog w A (.Tuple [.Name xi pi, .Name xv pv] x1 pt) env I [I, d] [I] kvs.length
      (fun i m m' => ∃ t, m' = fun z => if z = xv then some (kvs.getD i default).2 else if z = xi then some (.str (kvs.getD i default).1 t) else m z)
      (fun i h => (∃ ok ov, IsItemIter h I d i kvs.length ep ok ov) ∧ h.DictAt (PySem.strKind prog w) d kvs ep) where
  sub := fun b hb => by simp at hb; simp [hb]
  frame := (kti_itemsTurns (knd := PySem.strKind prog w) (elts := [.Name xi pi, .Name xv pv]) (kk := x1) (pos := pt) hh I d hne kvs ep).frame
  item := fun i s m Q E hi hst hn hL hQ => by
    have W := kti_itemsTurns (knd := PySem.strKind prog w) (elts := [.Name xi pi, .Name xv pv]) (kk := x1) (pos := pt) hh I d hne kvs ep
    have hLI : env.locals ≠ I := fun q => hL (q ▸ by simp)
    have hLd : env.locals ≠ d := fun q => hL (q ▸ by simp)
    refine W.item i s _ _ hi hst fun v h₂ tk₂ hMd hk₂ => W.go i v _ _ _ hMd fun h₃ hP hst₃ hk₃ => ?_
    obtain ⟨T, key, k, x, rfl, hx, hkey, hT⟩ := hP
    obtain ⟨t, rfl⟩ := Value.isStrOf_shape hkey
    have up₃ : ∀ c o, c ≠ I → s.heap.get? c = some o → h₃.get? c = some o := fun c o hc e => hk₃ c o (by simpa using hc) (hk₂ c o (by simpa using hc) e)
    have hkv : kvs.getD i default = (k, x) := by rw [List.getD_eq_getElem?_getD, hx]; rfl
    refine kcp_assign hh hT hxi hxv hp (hn.at' fun o e => up₃ _ o hLI e) fun h₄ tk₄ hn₄ hs₄ => ?_
    refine hQ _ h₄ tk₄ ⟨t, by rw [hkv]⟩ hn₄ (W.frame _ _ _ hst₃ fun b hb o e => hs₄ b o (fun q => hL (q ▸ hb)) e) fun b o hb hl e => hs₄ b o hl (up₃ b o (by simpa using hb) e)
  done := fun s Q E hst hQ => by
    have W := kti_itemsTurns (knd := PySem.strKind prog w) (elts := [.Name xi pi, .Name xv pv]) (kk := x1) (pos := pt) hh I d hne kvs ep
    exact W.done s _ _ hst fun h' tk hk => hQ h' tk hk
  self := fun i s Q E hst h => by
    obtain ⟨⟨ok, ov, he⟩, _⟩ := hst
    exact kcp_self he h

/-- what the turns over an object's items are to show -/
theorem CompOk.items {d I : Addr} {kvs : List (Str × Value)} {ep : Nat} {env : Env} {scope : Scope} {cl : List (Str × Addr)} {xi xv : Str} {pi pv pt : Pos} {x1 : Nat} {ifs : List Expr} {el : Expr} {p : Nat → Bool} {G₀ : Nat → Value → List (Addr × Obj) → Prop} {J₀ : List (Addr × Obj) → Prop} {Z : List Addr}
    {Q : Value → Shared → Prop} {s₂ : Shared} {jo : List (Addr × Obj)} (hh : A.handled = none) (hz : kvs.length ≤ 63) (le : I < s₂.heap.objs.size) (ll : d < s₂.heap.objs.size) (hne : d ≠ I)
    (st : (∃ ok ov, IsItemIter s₂.heap I d 0 kvs.length ep ok ov) ∧ s₂.heap.DictAt (PySem.strKind prog w) d kvs ep) (hZ : I ∉ Z ∧ d ∉ Z) (lowZ : ∀ z ∈ Z, z < s₂.heap.objs.size)
    (j : J₀ jo) (jAt : ∀ q ∈ jo, s₂.heap.get? q.1 = some q.2 ∧ q.1 ∉ [I]) (jZ : ∀ jo, J₀ jo → ∀ z ∈ Z, z ∈ jo.map (·.1)) (bare : AllBare s₂.gens)
    (tests : ∀ (C i : Nat) (s₃ : Shared) (m₁ : Str → Option Value) (t : Tok) jo, s₂.heap.objs.size ≤ C → i < kvs.length → s₃.heap.Ns C (fun y => if y = xv then some (kvs.getD i default).2 else if y = xi then some (.str (kvs.getD i default).1 t) else m₁ y) → (∀ b o, b ∉ [I] → b ∉ Z → s₂.heap.get? b = some o → s₃.heap.get? b = some o) → J₀ jo → (∀ q ∈ jo, s₃.heap.get? q.1 = some q.2) →
      wpAny (model prog w) A (forIn ifs true fun c r => if r = true then do let ok ← isTrue c (compEnvC scope cl C env) (eval c (compEnvC scope cl C env)); pure (ForInStep.yield ok) else pure (ForInStep.yield r)) (TestR (p i) s₃) (fun _ _ => False) s₃)
    (elt : ∀ (C i : Nat) (s₃ : Shared) (m₁ : Str → Option Value) (t : Tok) jo, s₂.heap.objs.size ≤ C → i < kvs.length → p i = true → s₃.heap.Ns C (fun y => if y = xv then some (kvs.getD i default).2 else if y = xi then some (.str (kvs.getD i default).1 t) else m₁ y) → (∀ b o, b ∉ [I] → b ∉ Z → s₂.heap.get? b = some o → s₃.heap.get? b = some o) → J₀ jo → (∀ q ∈ jo, s₃.heap.get? q.1 = some q.2) → AllBare s₃.gens →
      wpAny (model prog w) A (eval el (compEnvC scope cl C env)) (EltR Z J₀ jo (G₀ i) s₃) (fun _ _ => False) s₃)
    (behind : ∀ D h' tk gs ys jo, s₂.heap.get? D = none → h'.PlainList D ys → Paired (MadeAt s₂.heap h' (D :: ([I] ++ Z)) G₀) ((List.range kvs.length).filter p) ys.toList → J₀ jo → (∀ q ∈ jo, h'.get? q.1 = some q.2 ∧ q.1 ∉ [I] ∧ q.1 ≠ D) → AllBare gs →
      (∀ b o, b ∉ [I] → b ∉ Z → s₂.heap.get? b = some o → h'.get? b = some o) → Q (.ref D) { s₂ with heap := h', toks := tk, gens := gs })
    (hxi : ∀ C, (compEnvC scope cl C env).kindOf xi = some .local) (hxv : ∀ C, (compEnvC scope cl C env).kindOf xv = some .local)
    (hp : ∀ C, ((compEnvC scope cl C env).scope.kind == .class || ((compEnvC scope cl C env).scope.kind == .module && (compEnvC scope cl C env).locals != (compEnvC scope cl C env).globals)) = false) :
    ∃ I' fp wr n B St jo, (Value.ref I) = .ref I' ∧ CompOk prog w A env scope cl (.Tuple [.Name xi pi, .Name xv pv] x1 pt) ifs el p G₀ J₀ Z Q s₂ I' fp wr n B St jo := by
  refine ⟨I, [I, d], [I], kvs.length, _, _, jo, rfl, CompOk.mk (fun C hC => TurnW.items (ep := ep) hh hne (hxi C) (hxv C) (hp C)) (Nat.le_trans hz (by unfold sizeLine; omega)) ?_ st ?_ lowZ j jAt jZ bare ?_ ?_ behind⟩
  · rintro i h ⟨⟨ok, ov, he⟩, _⟩ b hb
    rw [List.mem_singleton.mp hb]
    exact ⟨_, he⟩
  · intro b hb
    rcases List.mem_cons.mp hb with rfl | hb
    · exact ⟨le, hZ.1⟩
    · rw [List.mem_singleton.mp hb]; exact ⟨ll, hZ.2⟩
  · rintro C i s₃ m₁ m₂ jo hC hi ⟨t, rfl⟩ hn hk hJ hj
    exact tests C i s₃ m₁ t jo hC hi hn hk hJ hj
  · rintro C i s₃ m₁ m₂ jo hC hi ⟨t, rfl⟩ hp hn hk hJ hj hg
    exact elt C i s₃ m₁ t jo hC hi hp hn hk hJ hj hg

/-- an object's items, and their iterator -/
theorem items_iter {vw d : Addr} {od : Obj} {kvs : List (Str × Value)} {Q : Value → Shared → Prop} (hv : ∃ ov, s.heap.get? vw = some ov ∧ ov.cls = .type "dict_items" ∧ ov.data = .fields #[.ref d]) (hg : s.heap.get? d = some od) (hd : od.IsDictOf (PySem.strKind prog w) kvs)
    (h : ∀ I h' ep, Up s.heap h' → (∀ b o, s.heap.get? b = some o → b ∉ [I]) → I < h'.objs.size → d < h'.objs.size → d ≠ I →
      (∃ ok ov, IsItemIter h' I d 0 kvs.length ep ok ov) ∧ h'.DictAt (PySem.strKind prog w) d kvs ep → Q (.ref I) { s with heap := h' }) :
    wpAny (model prog w) A (pyIter (.ref vw)) Q E s := by
  obtain ⟨ep, hat⟩ := KdkAt.of hd
  have hl := Heap.lt_size hg
  refine wpAny_pyIter_items hv (hat.dictAt hg) (h _ _ ep (fun b o e => Heap.get?_push_of_some _ e) (fun b o e q => ?_) (by rw [Heap.size_push]; exact Nat.lt_succ_self _) (by rw [Heap.size_push]; exact Nat.lt_succ_of_lt hl) (Nat.ne_of_lt hl) ⟨⟨.none, .none, Heap.get?_push_size _ rfl⟩, hat.dictAt (Heap.get?_push_of_some _ hg)⟩)
  have hb := Heap.lt_size e
  rw [List.mem_singleton.mp q] at hb; exact Nat.lt_irrefl _ hb
theorem dict_lit {od : Obj} {kvs : List (Str × Value)} (hd : od.IsDictOf (PySem.strKind prog w) kvs) : ∃ es n, od = dictOf es n := by
  obtain ⟨c, dc, dt, sl⟩ := od
  obtain ⟨es, ep, ⟨h1, h2, h3⟩, h4, _⟩ := hd
  dsimp only at h1 h2 h3 h4
  subst h1; subst h2; subst h3; subst h4
  exact ⟨es.toList, ep, by simp [dictOf]⟩
end
end
section
theorem entry_callable : entryFor table "callable" = some Builtin.«callable» := entryFor_of_tree (by kernel_rfl)
theorem kind_callable : builtinKind "callable" = none := by decide +kernel
theorem plain_callable : plainId "callable" = true := by decide +kernel
theorem args_callable (a : Value) : argsOk "callable" ⟨[a], []⟩ := by unfold argsOk; kernel_rfl
theorem noCall_str : typeLookup (.type "str") "__call__" = pure none := by rw [typeLookup_type, builtinLookup_eq_fast]; kernel_rfl
section
variable {prog : Program} {w : World} {A : Around} {E : Value → Shared → Prop} {s : Shared}
theorem callable_str {x : Str} {t : Tok} {Q : Value → Shared → Prop} (h : Q (.bool false) s) : wpAny (model prog w) A (call (.builtin "callable") [.str x t]) Q E s := by
  refine Calls.call_function_entry kind_callable plain_callable entry_callable (args_callable _) ?_
  unfold Builtin.«callable»
  refine wpAny_bind (m := oneArg "callable" _) (wpAny_pure ?_)
  refine wpAny_bind (wpAny_specialOf (name := Str.ofString "__call__") (typeIs_str s x t) noCall_str ?_)
  exact wpAny_pure ⟨_, rfl, h⟩
end
section
variable {prog : Program} {w : World} {A : Around} {E : Value → Shared → Prop} {s : Shared} {h₀ : Heap} {L l : Addr} {m : Str → Option Value} {news : List (Addr × Obj)} {g : Obj → List (Addr × Obj)}
/-- an item of the list is set -/
theorem set_upd {vs : List Value} {nn q : Nat} {t : Tok} {v : Value} {Q : Unit → Shared → Prop} (F : Fr h₀ L s.heap m) (N : News h₀ L s.heap news) (U : UpdF l (listOf vs.toArray nn) news g) (hq : q < vs.length) (hz : vs.length ≤ 63)
    (h : ∀ h' n', Fr h₀ L h' m → News h₀ L h' (g (listOf (vs.set q v).toArray n')) → Q () { s with heap := h' }) : wpAny (model prog w) A (setItem (.ref l) (.int (q : Int) t) v) Q E s := by
  obtain ⟨own, rest, rfl, hg, h1, h2⟩ := U.split
  have hmem := N (l, listOf vs.toArray nn) (List.mem_append_right _ (.head _))
  have e1 : vs.toArray.setIfInBounds q v = (vs.set q v).toArray := by simp
  refine ki_setAt hmem.1 (Int.natCast_nonneg q) (by omega) (by rw [List.size_toArray]; omega) ?_
  have hs : Heap.SameBut l s.heap (s.heap.update l (Obj.mapSeq (·.setIfInBounds q v))) := Heap.SameBut.update ..
  refine h _ nn (F.change hs hmem.2.1 hmem.2.2) (hg _ ▸ ki_turn _ N h1 h2 e1 ?_)
  rw [if_pos (by simp)]
end
end
section
section
variable {prog : Program} {w : World} {A : Around} {E : Value → Shared → Prop} {s : Shared}
/-- a loop over a list of made things, in which another list is changed in place -/
theorem For_found {env : Env} {x : Str} {px pos : Pos} {iter : Expr} {body : List Stmt} {Q : Flow → Shared → Prop} (h₀ : Heap) (hh : A.handled = none) (hx : env.kindOf x = some .local)
    (hp : (env.scope.kind == .class || (env.scope.kind == .module && env.locals != env.globals)) = false)
    (h : wpAny (model prog w) A (eval iter env) (fun xv s₁ => ∃ (D : Addr) (ys : Array Value) (nD n₀ : Nat) (l : Addr) (rest : List (Addr × Obj)) (m₀ : Str → Option Value) (V : Nat → List Value), xv = .ref D ∧ Fr h₀ env.locals s₁.heap m₀ ∧
      News h₀ env.locals s₁.heap ((l, listOf (V 0).toArray n₀) :: rest) ∧ (D, listOf ys nD) ∈ rest ∧ (∀ r ∈ rest, r.1 ≠ l) ∧
      (∀ (i : Nat) (v : Value) (h : Heap) (tk n' : Nat), i < ys.size → ys[i]? = some v → Fr h₀ env.locals h (fun y => if y = x then some v else m₀ y) → News h₀ env.locals h ((l, listOf (V i).toArray n') :: rest) →
        wpAny (model prog w) A (execs body env) (fun f s' => f = .next ∧ ∃ h' tk' n'', s' = { s₁ with heap := h', toks := tk' } ∧ (∀ b o, b ≠ l → h.get? b = some o → h'.get? b = some o) ∧ h'.get? l = some (listOf (V (i + 1)).toArray n'')) E { s₁ with heap := h, toks := tk }) ∧
      (∀ (h' : Heap) (tk n' : Nat) (m' : Str → Option Value), Fr h₀ env.locals h' m' → News h₀ env.locals h' ((l, listOf (V ys.size).toArray n') :: rest) → (∀ y, y ≠ x → m' y = m₀ y) → Q .next { s₁ with heap := h', toks := tk })) E s)
    (hs : ∀ x, foldedSetIterable iter env x = pure x := by intro _; rfl) (hE : PassesOwn (model prog w) A env E := by passes_own) :
    wpAny (model prog w) A (exec (.For (.Name x px) iter body [] pos) env) Q E s := by
  refine For_invV h₀ hx hp (wpAny_mono h (fun xv s₁ h₁ => ?_) fun _ _ e => e) hs hE
  obtain ⟨D, ys, nD, n₀, l, rest, m₀, V, rfl, F, N, hD, hl, hbody, hQ⟩ := h₁
  have hDg := (N _ (.tail _ hD)).1
  have hDL : s₁.heap.IsList D ys := ⟨_, hDg, rfl, _, rfl⟩
  have hlt := Heap.lt_size hDg
  have hDI : D ≠ s₁.heap.objs.size := Nat.ne_of_lt hlt
  have up : ∀ b o, s₁.heap.get? b = some o → (s₁.heap.push { cls := .type "list_iterator", data := .fields #[.ref D, .int 0 0] }).get? b = some o := fun b o e => Heap.get?_push_of_some _ e
  have none_ge : ∀ g : Heap, (∀ b o, g.get? b = some o → s₁.heap.get? b = some o) → g.get? s₁.heap.objs.size = none := fun g k => by
    cases e : g.get? s₁.heap.objs.size with
    | none => rfl
    | some o => exact absurd (Heap.lt_size (k _ _ e)) (Nat.lt_irrefl _)
  have nwr : ∀ r ∈ ((l, listOf (V 0).toArray n₀) :: rest), r.1 ∉ [s₁.heap.objs.size] := fun r hr q => by
    have := Heap.lt_size (N r hr).1
    rw [List.mem_singleton.mp q] at this
    exact Nat.lt_irrefl _ this
  have hlw : l ≠ s₁.heap.objs.size := fun q => nwr _ (.head _) (List.mem_singleton.mpr q)
  refine wpAny_pyIter_list hDL ⟨s₁.heap.objs.size, [s₁.heap.objs.size, D], [s₁.heap.objs.size], ys.size, _, _, m₀, (l, listOf (V 0).toArray n₀) :: rest, fun i m news => ∃ n', news = (l, listOf (V i).toArray n') :: rest ∧ ∀ y, y ≠ x → m y = m₀ y,
    rfl, Walks.list hh _ D hDI ys, ?_, ?_, nwr, ⟨⟨_, Heap.get?_push_size _ rfl, rfl, rfl⟩, hDL.push _⟩, F.keeps up, N.grown up, ⟨n₀, rfl, fun _ _ => rfl⟩, ?_, ?_⟩
  · intro q
    rcases List.mem_cons.mp q with q | q
    · exact absurd F.ns.lt (q ▸ Nat.lt_irrefl _)
    · exact (N _ (.tail _ hD)).2.1 (List.mem_singleton.mp q).symm
  · intro b hb
    rw [List.mem_singleton.mp hb]
    exact none_ge h₀ F.keep
  · rintro i v m₁ news₁ s₂ own ⟨h₂, tk₂, rfl⟩ hi hv ⟨n', rfl, hm⟩ _ hown hownAt _ hst F₁ N₁
    have em : (fun y => if y = x then some v else m₁ y) = fun y => if y = x then some v else m₀ y := by
      funext y
      by_cases hy : y = x
      · rw [if_pos hy, if_pos hy]
      · rw [if_neg hy, if_neg hy, hm y hy]
    rw [em] at F₁
    refine wpAny_mono (hbody i v h₂ tk₂ n' hi hv F₁ N₁.right) (fun f s' hf => ?_) fun _ _ e => e
    obtain ⟨rfl, h', tk', n'', rfl, hk, hl'⟩ := hf
    have hN := N₁.right
    have hll := hN _ (.head _)
    have hLl : env.locals ≠ l := Ne.symm hll.2.1
    have hgl : ∀ b o, h₀.get? b = some o → b ≠ l := fun b o e q => by
      have := hll.2.2
      dsimp only at this
      rw [← q, e] at this; cases this
    refine LoopStepV.next ⟨rfl, h', tk', _, (l, listOf (V (i + 1)).toArray n'') :: rest, rfl, ⟨F₁.ns.at' fun o e => hk _ o hLl e, fun b o e => hk b o (hgl b o e) (F₁.keep b o e), F₁.above⟩, ?_, ?_, n'', rfl, fun y hy => if_neg hy⟩
    · intro r hr
      rcases List.mem_append.mp hr with hr | hr
      · have hr1 := N₁ r (List.mem_append_left _ hr)
        refine ⟨hk _ _ (fun q => ?_) hr1.1, hr1.2⟩
        rcases List.mem_cons.mp (hown r hr) with e | e
        · exact hlw (q.symm.trans e)
        · exact hl _ hD ((List.mem_singleton.mp e).symm.trans q)
      · rcases List.mem_cons.mp hr with rfl | hr
        · exact ⟨hl', hll.2⟩
        · have hr1 := hN r (.tail _ hr)
          exact ⟨hk _ _ (hl r hr) hr1.1, hr1.2⟩
    · intro r hr
      rcases List.mem_cons.mp hr with rfl | hr
      · exact nwr (l, listOf (V 0).toArray n₀) (.head _)
      · exact nwr _ (.tail _ hr)
  · rintro h' tk m' news' F' N' _ ⟨n', rfl, hm⟩
    exact hQ h' tk n' m' F' N' hm
/-- all the objects of a list of made things -/
theorem paired_all {P : Nat → Value → List (Addr × Obj) → Prop} {h0 h' : Heap} : ∀ {pl : List Nat} {ys : List Value}, Paired (fun q y => ∃ objs, P q y objs ∧ Has h0 h' objs) pl ys → ∃ all, Has h0 h' all ∧ Paired (fun q y => ∃ objs, P q y objs ∧ ∀ r ∈ objs, r ∈ all) pl ys
  | _, _, .nil => ⟨[], Has.nil, .nil⟩
  | _, _, .cons ⟨objs, hp, ho⟩ t => by
    obtain ⟨all, ha, hP⟩ := paired_all t
    exact ⟨objs ++ all, ho.app ha, .cons ⟨objs, hp, fun r hr => List.mem_append_left _ hr⟩ (hP.mono fun q y ⟨o, h1, h2⟩ => ⟨o, h1, fun r hr => List.mem_append_right _ (h2 r hr)⟩)⟩
theorem Paired.at {P : Nat → Value → Prop} : ∀ {pl : List Nat} {ys : List Value} (i : Nat) {v : Value}, Paired P pl ys → ys[i]? = some v → ∃ q, pl[i]? = some q ∧ P q v
  | _, _, _, _, .nil, h => nomatch h
  | _, _, 0, v, .cons h1 _, h => ⟨_, rfl, by simp at h; exact h ▸ h1⟩
  | _, _, i + 1, v, .cons _ t, h => by
    obtain ⟨q, e, hq⟩ := Paired.at i t (by simpa using h)
    exact ⟨q, by simpa using e, hq⟩
end
end
section
/-- the set's members after i turns, and their count -/
def memS (p : Nat → Bool) (kk : Nat → Int) : Nat → Int → Bool
  | 0 => fun _ => false
  | i + 1 => if p i then (fun k' => memS p kk i k' || decide (k' = kk i)) else memS p kk i
def cntS (p : Nat → Bool) (kk : Nat → Int) : Nat → Nat
  | 0 => 0
  | i + 1 => if p i then (if memS p kk i (kk i) then cntS p kk i else cntS p kk i + 1) else cntS p kk i
theorem cntS_le (p : Nat → Bool) (kk : Nat → Int) : ∀ i, cntS p kk i ≤ i
  | 0 => Nat.le_refl _
  | i + 1 => by
    have := cntS_le p kk i
    unfold cntS
    split
    · split <;> omega
    · omega
theorem memS_iff (p : Nat → Bool) (kk : Nat → Int) : ∀ (i : Nat) (k : Int), memS p kk i k = true ↔ ∃ j, j < i ∧ p j = true ∧ kk j = k
  | 0, k => by simp [memS]
  | i + 1, k => by
    have ih := memS_iff p kk i k
    unfold memS
    cases hp : p i with
    | true =>
      simp only [if_true, Bool.or_eq_true, decide_eq_true_eq, ih]
      constructor
      · rintro (⟨j, h1, h2, h3⟩ | h)
        · exact ⟨j, by omega, h2, h3⟩
        · exact ⟨i, by omega, hp, h.symm⟩
      · rintro ⟨j, h1, h2, h3⟩
        by_cases e : j = i
        · subst e; exact .inr h3.symm
        · exact .inl ⟨j, by omega, h2, h3⟩
    | false =>
      simp only [Bool.false_eq_true, if_false, ih]
      constructor
      · rintro ⟨j, h1, h2, h3⟩
        exact ⟨j, by omega, h2, h3⟩
      · rintro ⟨j, h1, h2, h3⟩
        by_cases e : j = i
        · subst e; rw [hp] at h2; cases h2
        · exact ⟨j, by omega, h2, h3⟩
theorem compTurn_set (elt target iter : Expr) (ifs : List Expr) (scope : Scope) (pos : Pos) (it acc : Value) (env : Env) :
    compTurn (.SetComp elt [⟨target, iter, ifs, 0⟩] scope pos) 0 it acc env = (do
      standAt iter.pos
      match ← pyNext it with
      | none => pure (.done .next)
      | some v =>
        letOwnedTupleGo target it v
        assign target env v
        let mut ok := true
        for c in ifs do
          if ok then ok ← isTrue c env (eval c env)
        if ok then
          (do let v ← eval elt env; standAt elt.pos; let _ ← call (.builtin "set.add") [acc, v])
        again (.compLoop (.SetComp elt [⟨target, iter, ifs, 0⟩] scope pos) 0 it acc env)) := by rfl
section
variable {prog : Program} {w : World} {A : Around} {E : Value → Shared → Prop} {s : Shared} {R : Result → Shared → Prop}
theorem codeAny_compLoop_setturn {elt target iter : Expr} {ifs : List Expr} {scope : Scope} {pos : Pos} {it acc : Value} {env : Env} (Inv : Nat → Shared → Prop)
    (turn : ∀ n s, Inv n s → wpAny (model prog w) A (pyNext it) (fun r s₁ => match r with
      | none => R (.ok .next) s₁
      | some v => wpAny (model prog w) A (letOwnedTupleGo target it v) (fun _ s₁' => wpAny (model prog w) A (assign target env v) (fun _ s₂ =>
          wpAny (model prog w) A (forIn ifs true fun c r => if r = true then do let ok ← isTrue c env (eval c env); pure (ForInStep.yield ok) else pure (ForInStep.yield r)) (fun ok s₃ =>
            if ok = true then wpAny (model prog w) A (eval elt env) (fun x s₄ =>
              wpAny (model prog w) A (call (.builtin "set.add") [acc, x]) (fun _ s₅ => ∃ m, m < n ∧ Inv m s₅) (fun _ _ => False) s₄) (fun _ _ => False) s₃
            else ∃ m, m < n ∧ Inv m s₃) (fun _ _ => False) s₂) (fun _ _ => False) s₁') (fun _ _ => False) s₁) (fun _ _ => False) s)
    (n : Nat) (h : Inv n s) :
    codeAny (model prog w) A (.compLoop (.SetComp elt [⟨target, iter, ifs, 0⟩] scope pos) 0 it acc env) R s := by
  refine codeAny_loop rfl Inv (fun n s hI => ?_) n h
  show wpAny _ A ((compTurn (.SetComp elt [⟨target, iter, ifs, 0⟩] scope pos) 0 it acc env).onRaise (fun x => do noteFrame x env; theTreesLotGoes x)) _ _ s
  refine wpAny_noted ?_
  rw [compTurn_set]
  refine wpAny_bind (wpAny_standAt (wpAny_bind (wpAny_mono (turn n s hI) (fun r s₁ h₁ => ?_) fun _ _ h' => h'.elim)))
  cases r with
  | none => exact wpAny_pure h₁
  | some v =>
    refine wpAny_bind (wpAny_mono h₁ (fun _ s₁' h₁' => ?_) fun _ _ h' => h'.elim)
    refine wpAny_bind (wpAny_mono h₁' (fun _ s₂ h₂ => wpAny_bind (wpAny_mono h₂ (fun ok s₃ h₃ => ?_) fun _ _ h' => h'.elim)) fun _ _ h' => h'.elim)
    cases ok with
    | false => exact wpAny_pure ⟨rfl, h₃⟩
    | true =>
      exact wpAny_bind (wpAny_bind (wpAny_mono h₃ (fun x s₄ h₄ => wpAny_bind (wpAny_standAt (wpAny_bind (wpAny_mono h₄ (fun _ s₅ h₅ => wpAny_pure (wpAny_pure ⟨rfl, h₅⟩)) fun _ _ h' => h'.elim)))) fun _ _ h' => h'.elim))
end
end
section
section
variable {prog : Program} {w : World} {A : Around} {E : Value → Shared → Prop} {s : Shared} {R : Result → Shared → Prop}
theorem SetOf.atP {h h' : Heap} {D : Addr} {S : Int → Bool} {n : Nat} (H : h.SetOf (PySem.intKind prog w) D S n) (k : ∀ o, h.get? D = some o → h'.get? D = some o) : h'.SetOf (PySem.intKind prog w) D S n := by
  obtain ⟨o, es, ep, t, ho, r⟩ := H
  exact ⟨o, es, ep, t, k o ho, r⟩
theorem codeAny_compStart_set {elt target iter ifs rest scope pos it acc env}
    (h0 : codeAny (model prog w) A (.compLoop (.SetComp elt (⟨target, iter, ifs, 0⟩ :: rest) scope pos) 0 it acc env) R s)
    (h : wpAny (model prog w) A (pyIter it) (fun it' s' => codeAny (model prog w) A (.compLoop (.SetComp elt (⟨target, iter, ifs, 0⟩ :: rest) scope pos) 0 it' acc env) R s')
      (notedBy (model prog w) A env fun x s' => R (.error x) s') s) :
    codeAny (model prog w) A (.compStart (.SetComp elt (⟨target, iter, ifs, 0⟩ :: rest) scope pos) 0 it acc env) R s := by
  refine codeAny_of_tree ?_
  show wpAny _ _ ((compStart (.SetComp elt (⟨target, iter, ifs, 0⟩ :: rest) scope pos) 0 it acc env).onRaise (fun x => do noteFrame x env; standAt theWindowsPlace)) _ _ s
  refine wpAny_notedAt ?_
  unfold compStart
  show wpAny _ _ (ask >>= _) _ _ s
  refine wpAny_bind (wpAny_askSetting (wpAny_ite ?_))
  split
  · first
      | exact wpAny_bind (wpAny_pure (wpAny_pure (And.intro rfl h0)))
      | exact wpAny_pure (And.intro rfl h0)
  · first
      | exact wpAny_bind (wpAny_rule (wpAny_bind (wpAny_standAt (wpAny_bind (wpAny_mono h (fun it' s' h' => wpAny_pure (And.intro rfl h')) fun _ _ x => x)))))
      | (refine wpAny_bind (wpAny_rule ?_); show wpAny _ _ (standAt iter.pos >>= _) _ _ s; exact wpAny_bind (wpAny_standAt (wpAny_bind (wpAny_mono h (fun it' s' h' => wpAny_pure (And.intro rfl h')) fun _ _ x => x))))

/-- what the turns of a set comprehension of ints are to show, and what stands behind it -/
structure SetOk (prog : Program) (w : World) (A : Around) (env : Env) (scope : Scope) (cl : List (Str × Addr)) (target : Expr) (ifs : List Expr) (elt : Expr) (p : Nat → Bool) (kk : Nat → Int)
    (Q : Value → Shared → Prop) (s₂ : Shared) (I : Addr) (fp wr : List Addr) (n : Nat) (B : Nat → (Str → Option Value) → (Str → Option Value) → Prop) (St : Nat → Heap → Prop) : Prop where
  turn : ∀ C, s₂.heap.objs.size ≤ C → TurnW prog w A target (compEnvC scope cl C env) I fp wr n B St
  size : n + 1 < scanBound
  start : St 0 s₂.heap
  low : ∀ b ∈ fp, b < s₂.heap.objs.size
  tests : ∀ C i s₃ m₁ m₂, s₂.heap.objs.size ≤ C → i < n → B i m₁ m₂ → s₃.heap.Ns C m₂ → (∀ b o, b ∉ wr → s₂.heap.get? b = some o → s₃.heap.get? b = some o) →
    wpAny (model prog w) A (forIn ifs true fun c r => if r = true then do let ok ← isTrue c (compEnvC scope cl C env) (eval c (compEnvC scope cl C env)); pure (ForInStep.yield ok) else pure (ForInStep.yield r)) (TestR (p i) s₃) (fun _ _ => False) s₃
  elt : ∀ C i s₃ m₁ m₂, s₂.heap.objs.size ≤ C → i < n → B i m₁ m₂ → s₃.heap.Ns C m₂ → (∀ b o, b ∉ wr → s₂.heap.get? b = some o → s₃.heap.get? b = some o) →
    wpAny (model prog w) A (eval elt (compEnvC scope cl C env)) (fun y s₄ => ∃ t h' tk, y = .int (kk i) t ∧ s₄ = { s₃ with heap := h', toks := tk } ∧ Up s₃.heap h') (fun _ _ => False) s₃
  behind : ∀ D h' tk, s₂.heap.get? D = none → h'.SetOf (PySem.intKind prog w) D (memS p kk n) (cntS p kk n) → (∀ b o, b ∉ wr → s₂.heap.get? b = some o → h'.get? b = some o) → Q (.ref D) { s₂ with heap := h', toks := tk }

theorem codeAny_compLoop_set {elt target iter : Expr} {ifs : List Expr} {scope : Scope} {pos : Pos} {I D : Addr} {fp wr : List Addr} {n : Nat} {B : Nat → (Str → Option Value) → (Str → Option Value) → Prop} {St : Nat → Heap → Prop}
    {cenv : Env} {m : Str → Option Value} (W : TurnW prog w A target cenv I fp wr n B St) (p : Nat → Bool) (kk : Nat → Int)
    (hDC : D ≠ cenv.locals) (hDf : D ∉ fp) (hCf : cenv.locals ∉ fp)
    (hst : St 0 s.heap) (hacc : s.heap.SetOf (PySem.intKind prog w) D (fun _ => false) 0) (hn : s.heap.Ns cenv.locals m)
    (htests : ∀ i s₂ m₁ m₂, i < n → B i m₁ m₂ → s₂.heap.Ns cenv.locals m₂ → (∀ b o, b ≠ cenv.locals → b ∉ wr → b ≠ D → s.heap.get? b = some o → s₂.heap.get? b = some o) →
      wpAny (model prog w) A (forIn ifs true fun c r => if r = true then do let ok ← isTrue c cenv (eval c cenv); pure (ForInStep.yield ok) else pure (ForInStep.yield r)) (TestR (p i) s₂) (fun _ _ => False) s₂)
    (helt : ∀ i s₂ m₁ m₂, i < n → B i m₁ m₂ → s₂.heap.Ns cenv.locals m₂ → (∀ b o, b ≠ cenv.locals → b ∉ wr → b ≠ D → s.heap.get? b = some o → s₂.heap.get? b = some o) →
      wpAny (model prog w) A (eval elt cenv) (fun y s₄ => ∃ t h' tk, y = .int (kk i) t ∧ s₄ = { s₂ with heap := h', toks := tk } ∧ Up s₂.heap h') (fun _ _ => False) s₂)
    (hR : ∀ h' tk m', h'.Ns cenv.locals m' → h'.SetOf (PySem.intKind prog w) D (memS p kk n) (cntS p kk n) →
      (∀ b o, b ≠ cenv.locals → b ∉ wr → b ≠ D → s.heap.get? b = some o → h'.get? b = some o) → R (.ok .next) { s with heap := h', toks := tk })
    (hsz : n + 1 < scanBound) :
    codeAny (model prog w) A (.compLoop (.SetComp elt [⟨target, iter, ifs, 0⟩] scope pos) 0 (.ref I) (.ref D) cenv) R s := by
  have hCw : cenv.locals ∉ wr := fun h => hCf (W.sub _ h)
  have hDw : D ∉ wr := fun h => hDf (W.sub _ h)
  let Inv : Nat → Shared → Prop := fun k s' => ∃ h' tk m' i, s' = { s with heap := h', toks := tk } ∧ St i h' ∧ h'.SetOf (PySem.intKind prog w) D (memS p kk i) (cntS p kk i) ∧ h'.Ns cenv.locals m' ∧
      i ≤ n ∧ k = n + 1 - i ∧ (∀ b o, b ≠ cenv.locals → b ∉ wr → b ≠ D → s.heap.get? b = some o → h'.get? b = some o)
  refine codeAny_compLoop_setturn Inv ?_ (n + 1) ⟨s.heap, s.toks, m, 0, rfl, hst, hacc, hn, Nat.zero_le _, rfl, fun _ _ _ _ _ e => e⟩
  rintro k s' ⟨H, tk, m', i, rfl, hst', hacc', hn', hi, rfl, hk⟩
  by_cases hlt : i < n
  · refine wpAny_mono (W.item i _ m' (fun s₂ => wpAny (model prog w) A (forIn ifs true fun c r => if r = true then do let ok ← isTrue c cenv (eval c cenv); pure (ForInStep.yield ok) else pure (ForInStep.yield r)) (fun ok s₃ =>
            if ok = true then wpAny (model prog w) A (eval elt cenv) (fun x s₄ =>
              wpAny (model prog w) A (call (.builtin "set.add") [.ref D, x]) (fun _ s₅ => ∃ k', k' < n + 1 - i ∧ Inv k' s₅) (fun _ _ => False) s₄) (fun _ _ => False) s₃
            else ∃ k', k' < n + 1 - i ∧ Inv k' s₃) (fun _ _ => False) s₂) (fun _ _ => False) hlt hst' hn' hCf ?_) (fun r s₁ x => ?_) fun _ _ x => x
    · rintro m₁ h₁ tk₁ hB hn₁ hst₁ hk₁
      dsimp only at hk₁ ⊢
      refine wpAny_mono (htests i _ m' m₁ hlt hB hn₁ (fun b o hC hw hD e => hk₁ b o hw hC (hk b o hC hw hD e))) (fun ok s₃ x => ?_) fun _ _ x => x
      obtain ⟨rfl, h₃, tk₃, rfl, hk₃⟩ := x
      dsimp only at hk₃ ⊢
      have hst₃ : St (i + 1) h₃ := W.frame _ _ _ hst₁ fun b _ o e => hk₃ b o e
      have hacc₃ : h₃.SetOf (PySem.intKind prog w) D (memS p kk i) (cntS p kk i) := SetOf.atP hacc' fun o e => hk₃ _ o (hk₁ D o hDw hDC e)
      have hn₃ := hn₁.keeps hk₃
      have up₃ : ∀ b o, b ≠ cenv.locals → b ∉ wr → H.get? b = some o → h₃.get? b = some o := fun b o hC hw e => hk₃ b o (hk₁ b o hw hC e)
      cases hpv : p i with
      | false =>
        simp only [Bool.false_eq_true, if_false]
        refine ⟨n + 1 - (i + 1), by omega, h₃, tk₃, m₁, i + 1, rfl, hst₃, ?_, hn₃, hlt, rfl, fun b o hC hw hD e => up₃ b o hC hw (hk b o hC hw hD e)⟩
        have e1 : memS p kk (i + 1) = memS p kk i := by rw [memS, hpv]; rfl
        have e2 : cntS p kk (i + 1) = cntS p kk i := by rw [cntS, hpv]; rfl
        rw [e1, e2]; exact hacc₃
      | true =>
        simp only [if_true]
        refine wpAny_mono (helt i _ m' m₁ hlt hB hn₃ (fun b o hC hw hD e => up₃ b o hC hw (hk b o hC hw hD e))) (fun y s₄ x => ?_) fun _ _ x => x
        obtain ⟨t, h₄, tk₄, rfl, rfl, hk₄⟩ := x
        dsimp only at hk₄ ⊢
        have hst₄ : St (i + 1) h₄ := W.frame _ _ _ hst₃ fun b hb o e => hk₄ b o e
        have hacc₄ := SetOf.atP hacc₃ fun o e => hk₄ _ o e
        have hn₄ : h₄.Ns cenv.locals m₁ := hn₃.at' fun o e => hk₄ _ o e
        have hcn := cntS_le p kk i
        refine call_set_add (k := kk i) (by simp [PySem.intKind, Value.isInt]) rfl hacc₄ (by omega) fun h₅ hs₅ hS₅ => ?_
        replace hs₅ : Heap.SameBut D h₄ h₅ := hs₅
        have up₅ : ∀ b o, b ≠ D → h₄.get? b = some o → h₅.get? b = some o := fun b o hD e => hs₅.extBut b o hD e
        refine ⟨n + 1 - (i + 1), by omega, h₅, _, m₁, i + 1, rfl, W.frame _ _ _ hst₄ fun b hb o e => up₅ b o (fun q => hDf (q ▸ hb)) e, ?_, hn₄.at' (fun o e => up₅ _ o (Ne.symm hDC) e), hlt, rfl,
          fun b o hC hw hD e => up₅ b o hD (hk₄ b o (up₃ b o hC hw (hk b o hC hw hD e)))⟩
        have e1 : memS p kk (i + 1) = fun k' => memS p kk i k' || decide (k' = kk i) := by rw [memS, hpv]; rfl
        have e2 : cntS p kk (i + 1) = if memS p kk i (kk i) = true then cntS p kk i else cntS p kk i + 1 := by rw [cntS, hpv]; rfl
        rw [e1, e2]; exact hS₅
    · cases r with
      | none => exact x.elim
      | some v => exact x
  · have hin : i = n := by omega
    subst hin
    refine wpAny_mono (W.done _ (fun s₁ => R (.ok .next) s₁) (fun _ _ => False) hst' fun h₁ tk₁ hk₁ => ?_) (fun r s₁ x => ?_) fun _ _ x => x
    · dsimp only at hk₁
      exact hR h₁ tk₁ m' (hn'.at' fun o e => hk₁ _ o hCw e) (SetOf.atP hacc' fun o e => hk₁ _ o hDw e) fun b o hC hw hD e => hk₁ b o hw (hk b o hC hw hD e)
    · cases r with
      | none => exact x
      | some v => exact x.elim

theorem SetComp_ints {env : Env} {elt target iter : Expr} {ifs : List Expr} {scope : Scope} {cl : List (Str × Addr)} {pos : Pos} {Q : Value → Shared → Prop} (p : Nat → Bool) (kk : Nat → Int)
    (hclos : closureFor scope env = pure cl) (hcell : ∀ y ∈ scope.names, y.2 ≠ .cell) (hkind : scope.kind = .function)
    (hnames : ∀ y ∈ scope.names, y.2 = .local → scope.names.lookup y.1 = some .local)
    (h : wpAny (model prog w) A (eval iter env) (fun xv s₁ => wpAny (model prog w) A (pyIter xv) (fun it s₂ => ∃ I fp wr n B St, it = .ref I ∧ SetOk prog w A env scope cl target ifs elt p kk Q s₂ I fp wr n B St) E s₁) E s)
    (hs : ∀ x, foldedSetIterable iter env x = pure x := by intro _; rfl) :
    wpAny (model prog w) A (eval (.SetComp elt [⟨target, iter, ifs, 0⟩] scope pos) env) Q E s := by
  rw [arm_eval_SetComp]
  refine wpAny_comprehension_free (use := none) rfl hs hclos hkind hnames (wpAny_mono h (fun xv s₁ h₁ => wpAny_mono h₁ (fun it s₂ h₂ => ?_) fun _ _ e => e) fun _ _ e => e)
  obtain ⟨I, fp, wr, n, B, St, rfl, K⟩ := h₂
  refine wpAny_newSet_of (knd := PySem.intKind prog w) fun led hS0 => ?_
  refine wpAny_newFunctionEnv hcell (by intro y hy; simp at hy) (fun h₁ hns₁ hsb₁ => ?_) hkind
  dsimp only at hns₁ hsb₁ ⊢
  generalize hH2 : s₂.heap.push { cls := .type "set", dict := none, data := .set #[] 0 (.fresh 0 0 led) } = H2 at hns₁ hsb₁ hS0 ⊢
  have hC : H2.objs.size = s₂.heap.objs.size + 1 := by rw [← hH2, Heap.size_push]
  have hDC : s₂.heap.objs.size ≠ H2.objs.size := by rw [hC]; exact Nat.ne_of_lt (Nat.lt_succ_self _)
  have hCle : s₂.heap.objs.size ≤ H2.objs.size := by rw [hC]; exact Nat.le_succ _
  have below : ∀ b, b < s₂.heap.objs.size → b ≠ H2.objs.size ∧ b ≠ s₂.heap.objs.size := fun b hb => ⟨by rw [hC]; exact Nat.ne_of_lt (Nat.lt_succ_of_lt hb), Nat.ne_of_lt hb⟩
  have hDf : s₂.heap.objs.size ∉ fp := fun hm => Nat.lt_irrefl _ (K.low _ hm)
  have hCf : H2.objs.size ∉ fp := fun hm => by have := K.low _ hm; rw [hC] at this; exact Nat.lt_irrefl _ (Nat.lt_of_succ_lt this)
  have old : ∀ b o, s₂.heap.get? b = some o → h₁.get? b = some o := fun b o e => hsb₁.extBut b o (below b (Heap.lt_size e)).1 (Heap.get?_push_of_some _ (hH2 ▸ Heap.get?_push_of_some _ e))
  have hacc : h₁.SetOf (PySem.intKind prog w) s₂.heap.objs.size (fun _ => false) 0 := SetOf.atP hS0 fun o e => hsb₁.extBut _ o hDC (Heap.get?_push_of_some _ e)
  have W := K.turn H2.objs.size hCle
  have hst₁ : St 0 h₁ := W.frame _ _ _ K.start fun b _ o e => old b o e
  have fresh : ∀ a, s₂.heap.objs.size ≤ a → s₂.heap.get? a = none := fun a ha => by
    cases e : s₂.heap.get? a with
    | none => rfl
    | some o' => exact absurd (Heap.lt_size e) (Nat.not_lt.mpr ha)
  have loop : ∀ s₃ : Shared, s₃ = { s₂ with heap := h₁, toks := s₂.toks + ([] : List (Str × Value)).length } →
      codeAny (model prog w) A (.compLoop (.SetComp elt [⟨target, iter, ifs, 0⟩] scope pos) 0 (.ref I) (.ref s₂.heap.objs.size) (compEnvC scope cl H2.objs.size env))
        (compPost (model prog w) A E none Q (.ref s₂.heap.objs.size) H2.objs.size) s₃ := by
    rintro s₃ rfl
    refine codeAny_compLoop_set (cenv := compEnvC scope cl H2.objs.size env) W p kk hDC hDf hCf hst₁ hacc hns₁
      (fun i s₃ m₁ m₂ hi hB hn hk => K.tests _ i s₃ m₁ m₂ hCle hi hB hn (fun b o hw e => hk b o (below b (Heap.lt_size e)).1 hw (below b (Heap.lt_size e)).2 (old b o e)))
      (fun i s₃ m₁ m₂ hi hB hn hk => K.elt _ i s₃ m₁ m₂ hCle hi hB hn (fun b o hw e => hk b o (below b (Heap.lt_size e)).1 hw (below b (Heap.lt_size e)).2 (old b o e)))
      (fun h' tk m' hn ha hk => ?_) K.size
    refine ⟨m', hn, fun h'' hs'' => ?_⟩
    replace hs'' : Heap.SameBut H2.objs.size h' h'' := hs''
    exact K.behind _ h'' tk (fresh _ (Nat.le_refl _)) (SetOf.atP ha fun o e => hs''.extBut _ o hDC e) fun b o hw e => hs''.extBut b o (below b (Heap.lt_size e)).1 (hk b o (below b (Heap.lt_size e)).1 hw (below b (Heap.lt_size e)).2 (old b o e))
  exact codeAny_compStart_set (loop _ rfl) (W.self 0 _ _ _ hst₁ (loop _ rfl))
end
end
section
theorem noBool_set : typeLookup (.type "set") "__bool__" = pure none := by rw [typeLookup_type, builtinLookup_eq_fast]; kernel_rfl
section
variable {prog : Program} {w : World} {A : Around} {E : Value → Shared → Prop} {s : Shared}
/-- truth of a set -/
theorem truthy_set {a : Addr} {S : Int → Bool} {n : Nat} {Q : Bool → Shared → Prop} (hS : s.heap.SetOf (PySem.intKind prog w) a S n)
    (h : Q (decide (n ≠ 0)) { s with toks := s.toks + 1 + 1 }) : wpAny (model prog w) A (PySem.truthy (.ref a)) Q E s := by
  obtain ⟨o, es, ep, t, ho, hex, hd, _, _, hb, hf, rfl⟩ := hS
  have hT : s.TypeIs (.ref a) "set" := ⟨o, ho, hex.1⟩
  have hfit : (es.size : Int) < 2 ^ 63 := by unfold scanBound at hb; omega
  have hne : ((es.size : Int) != 0) = decide (es.size ≠ 0) := by
    by_cases h0 : es.size = 0
    · rw [h0]; rfl
    · rw [decide_eq_true h0, bne_iff_ne]; omega
  have key : wpAny (model prog w) A (runValue (.builtin "len" ⟨[.ref a], []⟩)) (fun r s' => r = .int es.size (s.toks + 1) ∧ Q (decide (es.size ≠ 0)) s') E s := by
    refine wpAny_runValue (codeAny_builtin entry_len ?_)
    rw [Around.under_plainId plain_len _]
    exact wpAny_mono (wpAny_len_body_set (Q := fun r s' => r = .int es.size (s.toks + 1) ∧ Q (decide (es.size ≠ 0)) s') ho hex hd hf hfit ⟨rfl, h⟩)
      (fun fin s' h' => by obtain ⟨r, rfl, hq⟩ := h'; exact hq) fun _ _ e => e
  unfold PySem.truthy
  first
    | refine wpAny_bind (wpAny_callSpecial?_none (name := Str.ofString "__bool__") hT noBool_set ?_)
    | refine wpAny_bind (wpAny_pure (wpAny_bind (wpAny_callSpecial?_none (name := Str.ofString "__bool__") hT noBool_set ?_)))
  first
    | refine wpAny_bind (wpAny_specialOf (name := Str.ofString "__len__") hT F.slot_set_len.lookup ?_)
    | refine wpAny_bind (wpAny_pure (wpAny_bind (wpAny_specialOf (name := Str.ofString "__len__") hT F.slot_set_len.lookup ?_)))
  first
    | exact wpAny_bind (wpAny_mono key (fun r s' h' => by obtain ⟨rfl, hq⟩ := h'; exact wpAny_pure (hne ▸ hq)) fun _ _ e => e)
    | exact wpAny_bind (wpAny_pure (wpAny_bind (wpAny_mono key (fun r s' h' => by obtain ⟨rfl, hq⟩ := h'; exact wpAny_pure (hne ▸ hq)) fun _ _ e => e)))
/-- data[:] = ys -/
theorem setItem_whole {l sl D : Addr} {vs ys : List Value} {nn nD : Nat} {Q : Unit → Shared → Prop} (hl : s.heap.get? l = some (listOf vs.toArray nn)) (hD : s.heap.get? D = some (listOf ys.toArray nD)) (hne : l ≠ D)
    (hs : s.heap.IsSliceOf sl .none .none .none) (z1 : vs.length ≤ 63) (z2 : ys.length ≤ 63)
    (h : ∀ f : Array Value → Array Value, f vs.toArray = ys.toArray → Q () { s with heap := s.heap.update l (Obj.mapSeq f) }) : wpAny (model prog w) A (setItem (.ref l) (.ref sl) (.ref D)) Q E s := by
  have hL : s.heap.IsList l vs.toArray := PySem.IsL.isList (n := nn) hl
  have hDL : s.heap.IsList D ys.toArray := PySem.IsL.isList (n := nD) hD
  obtain ⟨os, hos, hcs, hds⟩ := id hs
  have hTs : s.TypeIs (.ref sl) "slice" := ⟨os, hos, hcs⟩
  unfold setItem
  try with_reducible refine wpAny_holding ?_
  first | refine wpAny_bind (wpAny_pure ?_) | skip
  refine wpAny_bind (wpAny_sequenceKey hL.typeIs (by decide) ?_)
  refine wpAny_bind (wpAny_callSpecial?_slot (name := Str.ofString "__setitem__") hL.typeIs slot_list_setitem
    (wpAny_call_entry slot_list_setitem hL.typeIs entry_list_setitem ?_ (args_list_setitem _ _ _)))
  show wpAny _ _ (Builtin.List.listSubscript? (.ref sl) >>= _) _ _ s
  refine wpAny_bind ?_
  unfold Builtin.List.listSubscript?
  refine wpAny_bind (wpAny_specialOf hTs slice_no_index ?_)
  simp only [Option.isNone_none, if_true]
  refine wpAny_pure ?_
  show wpAny _ _ (typeOf (.ref sl) >>= _) _ _ s
  refine wpAny_bind (wpAny_typeOf hTs ?_)
  rw [if_neg (by decide)]
  rw [listSliceParts_eq]
  refine wpAny_bind (wpAny_bind (wpAny_field hos hds (x := .none) rfl (wpAny_bind (wpAny_listPart .none ?_))))
  rw [if_neg (by decide)]
  refine wpAny_bind (wpAny_field hos hds (x := .none) rfl (wpAny_bind (wpAny_listPart .none ?_)))
  refine wpAny_bind (wpAny_field hos hds (x := .none) rfl (wpAny_bind (wpAny_listPart .none (wpAny_pure ?_))))
  have hnr : Builtin.List.listSameRef (.ref l) (.ref D) = false := by
    unfold Builtin.List.listSameRef
    exact beq_eq_false_iff_ne.mpr hne
  dsimp only
  rw [hnr]
  simp only [Bool.false_eq_true, if_false]
  unfold Builtin.List.listAllItems
  refine wpAny_bind (wpAny_bind (wpAny_typeOf hDL.typeIs ?_))
  rw [if_pos (by decide)]
  unfold Builtin.List.listItems
  refine wpAny_bind (wpAny_seqItems hD rfl (wpAny_pure ?_))
  refine wpAny_bind (wpAny_bind (wpAny_seqItems hl rfl (wpAny_pure ?_)))
  refine wpAny_bind (wpAny_of_eq (sliceIndices_raw none none none vs.toArray.size (by decide)) ?_)
  show wpAny _ _ (if ((sliceBounds none none none vs.toArray.size).2.2 == 1) = true then _ else _) _ _ _
  rw [if_pos (by rfl)]
  refine wpAny_bind (wpAny_rule ?_)
  have hz : Builtin.List.listTooLong (vs.toArray.size + ys.toArray.size) = false := by
    unfold Builtin.List.listTooLong sizeLine
    rw [List.size_toArray, List.size_toArray]
    exact decide_eq_false (by omega)
  rw [hz]
  simp only [Bool.false_eq_true, if_false]
  have hb0 : (sliceBounds none none none vs.toArray.size).1 = 0 := by simp [sliceBounds]
  have hb1 : (sliceBounds none none none vs.toArray.size).2.1 = vs.toArray.size := by simp [sliceBounds]
  rw [hb0, hb1]
  refine wpAny_bind (m := Builtin.List.listUpdate (.ref l) _) ?_
  show wpAny _ _ (updateSeq l _) _ _ _
  have e1 : (fun xs : Array Value => xs.extract 0 (0 : Int).toNat ++ ys.toArray ++ xs.extract (max 0 (vs.toArray.size : Int)).toNat xs.size) vs.toArray = ys.toArray := by
    have e0 : (max 0 (vs.toArray.size : Int)).toNat = vs.toArray.size := by omega
    dsimp only
    rw [e0]
    simp
  have hq := h (fun xs : Array Value => xs.extract 0 (0 : Int).toNat ++ ys.toArray ++ xs.extract (max 0 (vs.toArray.size : Int)).toNat xs.size) e1
  refine wpAny_updateSeq hl rfl ?_ (by rw [List.size_toArray]; unfold sizeLine; omega) (Nat.le_trans (Nat.le_of_eq ((congrArg Array.size e1).trans (List.size_toArray ..))) (by unfold sizeLine; omega))
  refine wpAny_bind (wpAny_letGo ?_)
  exact wpAny_pure ⟨.none, rfl, wpAny_pure hq⟩
end
section
variable {prog : Program} {w : World} {A : Around} {E : Value → Shared → Prop} {s : Shared} {h₀ : Heap} {L l : Addr} {m : Str → Option Value} {news : List (Addr × Obj)} {g : Obj → List (Addr × Obj)}
/-- data[:] = ys, upon the ledger -/
theorem whole_upd {sl D : Addr} {vs ys : List Value} {nn nD : Nat} {Q : Unit → Shared → Prop} (F : Fr h₀ L s.heap m) (N : News h₀ L s.heap news) (U : UpdF l (listOf vs.toArray nn) news g) (hD : s.heap.get? D = some (listOf ys.toArray nD)) (hne : l ≠ D)
    (hs : s.heap.IsSliceOf sl .none .none .none) (z1 : vs.length ≤ 63) (z2 : ys.length ≤ 63)
    (h : ∀ h' n', Fr h₀ L h' m → News h₀ L h' (g (listOf ys.toArray n')) → Q () { s with heap := h' }) : wpAny (model prog w) A (setItem (.ref l) (.ref sl) (.ref D)) Q E s := by
  obtain ⟨own, rest, rfl, hg, h1, h2⟩ := U.split
  have hmem := N (l, listOf vs.toArray nn) (List.mem_append_right _ (.head _))
  refine setItem_whole hmem.1 hD hne hs z1 z2 fun f e1 => ?_
  have hs : Heap.SameBut l s.heap (s.heap.update l (Obj.mapSeq f)) := Heap.SameBut.update ..
  exact h _ _ (F.change hs hmem.2.1 hmem.2.2) (hg _ ▸ ki_turn _ N h1 h2 e1 rfl)
end
end
section
section
variable {prog : Program} {w : World} {A : Around} {E : Value → Shared → Prop} {s : Shared}
/-- what a statement that goes on leaves -/
def NextJ (s : Shared) (Φ : Heap → Prop) (f : Flow) (s' : Shared) : Prop := f = .next ∧ ∃ h' tk gs, s' = { s with heap := h', toks := tk, gens := gs } ∧ AllBare gs ∧ Φ h'
theorem seq_cut {M : Model} {env : Env} {st : Stmt} {rest : List Stmt} {Q : Flow → Shared → Prop} (Φ : Heap → Prop) (h1 : wpAny M A (exec st env) (NextJ s Φ) E s)
    (h2 : ∀ h' tk gs, AllBare gs → Φ h' → wpAny M A (execs rest env) Q E { s with heap := h', toks := tk, gens := gs }) : wpAny M A (execs (st :: rest) env) Q E s :=
  wpAny_execs_cons (wpAny_mono h1 (fun f s' ⟨e, h', tk, gs, e2, hb, hp⟩ => by subst e; subst e2; exact h2 h' tk gs hb hp) fun _ _ x => x)
theorem exec_cut {M : Model} {env : Env} {st : Stmt} {Q : Flow → Shared → Prop} (Φ : Heap → Prop) (h1 : wpAny M A (exec st env) (NextJ s Φ) E s)
    (h2 : ∀ h' tk gs, AllBare gs → Φ h' → Q .next { s with heap := h', toks := tk, gens := gs }) : wpAny M A (exec st env) Q E s :=
  wpAny_mono h1 (fun f s' ⟨e, h', tk, gs, e2, hb, hp⟩ => by subst e; subst e2; exact h2 h' tk gs hb hp) fun _ _ x => x
/-- what a test leaves that comes out as b -/
def TestJ (s : Shared) (b : Bool) (Φ : Heap → Prop) (f : Bool) (s' : Shared) : Prop := f = b ∧ ∃ h' tk gs, s' = { s with heap := h', toks := tk, gens := gs } ∧ AllBare gs ∧ Φ h'

/-- two lists of the same data -/
theorem ne_same {a b : Addr} {xs ys : List Value} {ka kb : Nat} {ds : List Dat} {Q : Value → Shared → Prop} (la : s.heap.get? a = some (listOf xs.toArray ka)) (lb : s.heap.get? b = some (listOf ys.toArray kb))
    (ra : ∃ as, ReadsAll s.heap xs (kqdPs ds) as) (rb : ∃ as, ReadsAll s.heap ys (kqdPs ds) as) (hk : ∀ d ∈ ds, kqdOk 8 d = true) (hu : A.units + 64 < cLine) (h : Q (.bool false) s) :
    wpAny (model prog w) A (compareOp .NotEq (.ref a) (.ref b)) Q E s := by
  obtain ⟨as, ra⟩ := ra
  obtain ⟨bs, rb⟩ := rb
  have l := kqd_lay 9 (.list ds) (by simpa [kqdOk] using hk)
  have q := (kqd_eqv 9 (.list ds) (.list ds) 9 (by simpa [kqdOk] using hk) (by simpa [kqdOk] using hk)).mpr rfl
  rw [kqdP] at l q
  have sh : SeqAt.shaped (.list (kqdPs ds)) = true := by unfold SeqAt.shaped; rw [l.1, Bool.true_and]; exact decide_eq_true (Nat.le_trans l.2 (by decide))
  refine ne_dataH (reads_list_at la rfl rfl (by simpa using ra)) (reads_list_at lb rfl rfl (by simpa using rb)) sh sh hu ?_
  rw [q]; exact h

theorem list_iter {l : Addr} {vs : List Value} {Q : Value → Shared → Prop} (hl : s.heap.IsList l vs.toArray)
    (h : ∀ I h', Up s.heap h' → (∀ b o, s.heap.get? b = some o → b ≠ I) → I < h'.objs.size → l < h'.objs.size → l ≠ I → h'.IsListIter I l 0 ∧ h'.IsList l vs.toArray → Q (.ref I) { s with heap := h' }) :
    wpAny (model prog w) A (pyIter (.ref l)) Q E s := by
  have hlt : l < s.heap.objs.size := by obtain ⟨o, e, _⟩ := id hl; exact Heap.lt_size e
  refine wpAny_pyIter_list hl ?_
  refine h _ _ (fun b o e => Heap.get?_push_of_some _ e) (fun b o e q => ?_) (by rw [Heap.size_push]; exact Nat.lt_succ_self _) (by rw [Heap.size_push]; exact Nat.lt_succ_of_lt hlt) (Nat.ne_of_lt hlt) ⟨⟨_, Heap.get?_push_size _ rfl, rfl, rfl⟩, hl.push _⟩
  have := Heap.lt_size e
  rw [q] at this; exact Nat.lt_irrefl _ this

/-- what the turns over a list are to show -/
theorem CompOk.list {l : Addr} {vs : List Value} {env : Env} {scope : Scope} {cl : List (Str × Addr)} {x : Str} {px : Pos} {ifs : List Expr} {el : Expr} {p : Nat → Bool} {G₀ : Nat → Value → List (Addr × Obj) → Prop} {J₀ : List (Addr × Obj) → Prop} {Z : List Addr}
    {Q : Value → Shared → Prop} {s₂ : Shared} {I : Addr} {jo : List (Addr × Obj)} (hh : A.handled = none) (hz : vs.length ≤ 63) (lI : I < s₂.heap.objs.size) (ll : l < s₂.heap.objs.size) (hlI : l ≠ I)
    (st : s₂.heap.IsListIter I l 0 ∧ s₂.heap.IsList l vs.toArray) (hZ : I ∉ Z ∧ l ∉ Z) (lowZ : ∀ z ∈ Z, z < s₂.heap.objs.size)
    (j : J₀ jo) (jAt : ∀ q ∈ jo, s₂.heap.get? q.1 = some q.2 ∧ q.1 ∉ [I]) (jZ : ∀ jo, J₀ jo → ∀ z ∈ Z, z ∈ jo.map (·.1)) (bare : AllBare s₂.gens)
    (tests : ∀ (C i : Nat) (s₃ : Shared) (m₁ : Str → Option Value) jo, s₂.heap.objs.size ≤ C → i < vs.length → s₃.heap.Ns C (fun y => if y = x then some (vs.getD i .none) else m₁ y) → (∀ b o, b ∉ [I] → b ∉ Z → s₂.heap.get? b = some o → s₃.heap.get? b = some o) → J₀ jo → (∀ q ∈ jo, s₃.heap.get? q.1 = some q.2) →
      wpAny (model prog w) A (forIn ifs true fun c r => if r = true then do let ok ← isTrue c (compEnvC scope cl C env) (eval c (compEnvC scope cl C env)); pure (ForInStep.yield ok) else pure (ForInStep.yield r)) (TestR (p i) s₃) (fun _ _ => False) s₃)
    (elt : ∀ (C i : Nat) (s₃ : Shared) (m₁ : Str → Option Value) jo, s₂.heap.objs.size ≤ C → i < vs.length → p i = true → s₃.heap.Ns C (fun y => if y = x then some (vs.getD i .none) else m₁ y) → (∀ b o, b ∉ [I] → b ∉ Z → s₂.heap.get? b = some o → s₃.heap.get? b = some o) → J₀ jo → (∀ q ∈ jo, s₃.heap.get? q.1 = some q.2) → AllBare s₃.gens →
      wpAny (model prog w) A (eval el (compEnvC scope cl C env)) (EltR Z J₀ jo (G₀ i) s₃) (fun _ _ => False) s₃)
    (behind : ∀ D h' tk gs ys jo, s₂.heap.get? D = none → h'.PlainList D ys → Paired (MadeAt s₂.heap h' (D :: ([I] ++ Z)) G₀) ((List.range vs.length).filter p) ys.toList → J₀ jo → (∀ q ∈ jo, h'.get? q.1 = some q.2 ∧ q.1 ∉ [I] ∧ q.1 ≠ D) → AllBare gs →
      (∀ b o, b ∉ [I] → b ∉ Z → s₂.heap.get? b = some o → h'.get? b = some o) → Q (.ref D) { s₂ with heap := h', toks := tk, gens := gs })
    (hx : ∀ C, (compEnvC scope cl C env).kindOf x = some .local)
    (hp : ∀ C, ((compEnvC scope cl C env).scope.kind == .class || ((compEnvC scope cl C env).scope.kind == .module && (compEnvC scope cl C env).locals != (compEnvC scope cl C env).globals)) = false)
    (ht : ∀ v, letOwnedTupleGo (.Name x px) (.ref I) v = pure () := by intro _; rfl) :
    ∃ I' fp wr n B St jo, (Value.ref I) = .ref I' ∧ CompOk prog w A env scope cl (.Name x px) ifs el p G₀ J₀ Z Q s₂ I' fp wr n B St jo := by
  have n63 : vs.toArray.size = vs.length := by simp
  have hB : ∀ (i : Nat) (m₁ m₂ : Str → Option Value), (∃ v, vs.toArray[i]? = some v ∧ m₂ = fun y => if y = x then some v else m₁ y) → m₂ = fun y => if y = x then some (vs.getD i .none) else m₁ y := by
    rintro i m₁ m₂ ⟨v, hv, rfl⟩
    have hb : vs.getD i .none = v := by rw [List.getD_eq_getElem?_getD]; simp at hv; rw [hv]; rfl
    rw [hb]
  refine ⟨I, [I, l], [I], vs.toArray.size, _, _, jo, rfl, CompOk.mk (fun C hC => TurnW.name (Walks.list hh I l hlI vs.toArray) (hx C) (hp C) ht) ?_ ?_ st ?_ lowZ j jAt jZ bare ?_ ?_ ?_⟩
  · rw [n63]; exact Nat.le_trans hz (by unfold sizeLine; omega)
  · rintro i h ⟨⟨oi, hoi, _⟩, _⟩ b hb
    rw [List.mem_singleton.mp hb]; exact ⟨_, hoi⟩
  · intro b hb
    rcases List.mem_cons.mp hb with rfl | hb
    · exact ⟨lI, hZ.1⟩
    · rw [List.mem_singleton.mp hb]; exact ⟨ll, hZ.2⟩
  · intro C i s₃ m₁ m₂ jo hC hi hb hn hk hJ hj
    have e := hB i m₁ m₂ hb
    subst e
    exact tests C i s₃ m₁ jo hC (n63 ▸ hi) hn hk hJ hj
  · intro C i s₃ m₁ m₂ jo hC hi hb hp hn hk hJ hj hg
    have e := hB i m₁ m₂ hb
    subst e
    exact elt C i s₃ m₁ jo hC (n63 ▸ hi) hp hn hk hJ hj hg
  · rw [n63]; exact behind
theorem range0_size (m : Int) (h0 : 0 ≤ m) : Builtin.Range.rangeSize 0 m 1 = m := by
  unfold Builtin.Range.rangeSize
  rw [if_pos (by decide)]
  split <;> omega
theorem range0_small (m : Int) (h0 : 0 ≤ m) (h1 : m < 1000000) : Builtin.Range.small 0 m 1 = true := by
  have hz := range0_size m h0
  unfold Builtin.Range.small
  rw [hz]
  have fit : ∀ x : Int, -(2000000 : Int) ≤ x → x ≤ 2000000 → Builtin.Range.rangeFitsLong x = true := fun x h1 h2 => by
    unfold Builtin.Range.rangeFitsLong
    rw [Bool.and_eq_true, decide_eq_true_eq, decide_eq_true_eq]
    omega
  rw [fit 0 (by omega) (by omega), fit m (by omega) (by omega), fit 1 (by omega) (by omega), fit (m + (1 - 1)) (by omega) (by omega), fit (m + (1 + 1)) (by omega) (by omega)]
  simp
/-- the iterator of range(m) -/
theorem range0_iter {r : Addr} {m : Int} {t u v : Tok} {Q : Value → Shared → Prop} (b : Int) (hR : IsRange s.heap r 0 m 1 t u v) (h0 : 0 ≤ m) (h1 : m < b) (hb : b ≤ 1000000)
    (h : ∀ (n : Nat) I h', (n : Int) = m → (n : Int) < b → Up s.heap h' → (∀ b o, s.heap.get? b = some o → b ≠ I) → I < h'.objs.size → IsRangeIter h' I (0 + ((0 : Nat) : Int) * 1) ((n : Int) - ((0 : Nat) : Int)) 1 → Q (.ref I) { s with heap := h' }) :
    wpAny (model prog w) A (pyIter (.ref r)) Q E s := by
  refine wpAny_pyIter_range hR (range0_small m h0 (by omega)) ?_
  refine h m.toNat _ _ (by omega) (by omega) (fun b o e => Heap.get?_push_of_some _ e) (fun b o e q => ?_) (by rw [Heap.size_push]; exact Nat.lt_succ_self _) ?_
  · have := Heap.lt_size e
    rw [q] at this
    exact Nat.lt_irrefl _ this
  · have e : ((m.toNat : Nat) : Int) = Builtin.Range.rangeSize 0 m 1 := by rw [range0_size m h0]; omega
    rw [e]
    show IsRangeIter _ _ _ _ _
    simpa using Heap.get?_push_size s.heap rfl
theorem ints_of_paired {P : Int → Prop} {Q : Nat → Value → Prop} : ∀ {l : List Nat} {ys : List Value}, (∀ i y, Q i y → ∃ x t, y = .int x t ∧ P x) → Paired Q l ys → ∃ ns, IntsAre ys ns ∧ ∀ x ∈ ns, P x
  | _, _, _, .nil => ⟨[], .nil, fun _ h => nomatch h⟩
  | _, _, h, .cons h1 t => by
    obtain ⟨x, t1, rfl, hp⟩ := h _ _ h1
    obtain ⟨ns, hi, ha⟩ := ints_of_paired h t
    exact ⟨x :: ns, .cons _ _ hi, fun y hy => (List.mem_cons.mp hy).elim (fun e => e ▸ hp) (ha y)⟩
end

/-- the end of a law that returns True and may have made generators -/
theorem kn_postG {M : Model} {A : Around} {cd : Code} {s s₁ : Shared} {cw : ClaimW} {cl : Str → Option Addr} {mean : ExcName → Option Value} {args : List WData} {tabs : List (Addr × Addr)} (hT : TabsAt tabs s₁.heap) (hr : ∀ a x, cw.raises a x = false) (hp : cw.post args (.bool true) args = true)
    (h : codeAny M A cd (fun r s' => r = .ok (.ret (.bool true)) ∧ (∀ b o, (ghostOf s₁.heap tabs).get? b = some o → s'.heap.get? b = some o) ∧ s'.os = s₁.os ∧ AllBare s'.gens ∧ GrownAll tabs s'.heap) s) : codeAny M A cd (GoodWG cw cl mean args s₁) s :=
  codeAny_mono h fun r s' ⟨hc, hk, hos, hg, hgr⟩ => by
    subst hc
    have keep : ∀ b o, b ∉ tabs.map (·.2) → s₁.heap.get? b = some o → s'.heap.get? b = some o := fun b o hb e => hk b o (ghost_ne e hb)
    have grown : ∀ b o, b ∈ tabs.map (·.2) → s₁.heap.get? b = some o → isCodeTable s₁.heap b ∧ o = tabObj #[] ∧ ∃ ps, s'.heap.get? b = some (tabObj ps) := fun b o hb e => by
      obtain ⟨q, hq, rfl⟩ := List.mem_map.mp hb
      have e2 := (hT q hq).2
      rw [e] at e2
      exact ⟨((hT q hq).1.tab (hT q hq).2).isCodeTable, Option.some.inj e2, hgr.get q hq⟩
    refine ⟨.inl ⟨_, .bool true, _, rfl, fun x => hr _ x, .bool true, hp, unshared_nil⟩, ⟨fun b o e => ?_, fun b o e => ?_⟩, hos, hg⟩
    · by_cases hb : b ∈ tabs.map (·.2)
      · obtain ⟨ht, rfl, ps, hP⟩ := grown b o hb e
        exact .inr (.inl ⟨ht, rfl, #[], ps, rfl, by rw [Array.empty_append]; exact hP⟩)
      · exact .inl (keep b o hb e)
    · by_cases hb : b ∈ tabs.map (·.2)
      · obtain ⟨_, _, ps, hP⟩ := grown b o hb e
        exact ⟨_, hP⟩
      · exact ⟨o, keep b o hb e⟩
/-- what the law's body is to show -/
def LawEnd (s : Shared) (G0 : Heap) (L : Addr) (f : Flow) (s' : Shared) : Prop :=
  f = .ret (.bool true) ∧ ∃ h' tk gs m ps1 ps2, s' = { s with heap := h', toks := tk, gens := gs } ∧ AllBare gs ∧ Fr G0 L h' m ∧ h'.get? 768 = some (tabObj ps1) ∧ h'.get? 630 = some (tabObj ps2)
theorem ints_ext : ∀ {vs : List Value} {ns : List Int}, vs.length = ns.length → (∀ (j : Nat) (x : Int), ns[j]? = some x → ∃ t, vs[j]? = some (Value.int x t)) → IntsAre vs ns
  | [], [], _, _ => .nil
  | [], _ :: _, h, _ => by simp at h
  | _ :: _, [], h, _ => by simp at h
  | v :: vs, x :: ns, h, k => by
    obtain ⟨t, e⟩ := k 0 x rfl
    have e : v = Value.int x t := by simpa using e
    subst e
    exact .cons _ _ (ints_ext (by simpa using h) fun j y hy => by
      obtain ⟨t, e⟩ := k (j + 1) y (by simpa using hy)
      exact ⟨t, by simpa using e⟩)
theorem ints_at : ∀ {vs : List Value} {ns : List Int}, IntsAre vs ns → ∀ (j : Nat) (x : Int), ns[j]? = some x → ∃ t, vs[j]? = some (Value.int x t)
  | _, _, .nil, _, _, h => nomatch h
  | _, _, .cons n t r, 0, x, h => by
    have : n = x := by simpa using h
    subst this
    exact ⟨t, rfl⟩
  | _, _, .cons n t r, j + 1, x, h => by
    obtain ⟨u, e⟩ := ints_at r j x (by simpa using h)
    exact ⟨u, by simpa using e⟩
abbrev castL (pl : List Nat) : List Int := pl.map fun k => ((k : Nat) : Int)
theorem ints_pick {vs : List Value} {n : Nat} (hi : IntsAre vs (castL (List.range n))) : ∀ (pl : List Nat), (∀ q ∈ pl, q < n) → IntsAre (pl.filterMap (vs.toArray[·]?)) (castL pl)
  | [], _ => .nil
  | q :: pl, h => by
    obtain ⟨t, e⟩ := ints_at hi q (q : Int) (by simp [h q (.head _)])
    have e2 : (q :: pl).filterMap (vs.toArray[·]?) = .int q t :: pl.filterMap (vs.toArray[·]?) := by
      rw [List.filterMap_cons]
      have : vs.toArray[q]? = some (.int (q : Int) t) := by simpa using e
      rw [this]
    rw [e2]
    exact .cons _ _ (ints_pick hi pl fun x hx => h x (.tail _ hx))
section
variable {prog : Program} {w : World} {A : Around} {E : Value → Shared → Prop} {s : Shared}
theorem list_range0 {r : Addr} {n : Nat} {t u v : Tok} {Q : Value → Shared → Prop} (hh : A.handled = none) (hr : IsRange s.heap r 0 n 1 t u v) (hn : n ≤ 63)
    (h : ∀ D nD vs h' tk, Up s.heap h' → s.heap.get? D = none → h'.get? D = some (W.listOf (List.toArray vs) nD) → IntsAre vs (castL (List.range n)) → Q (.ref D) { s with heap := h', toks := tk }) :
    wpAny (model prog w) A (call (.type "list") [.ref r]) Q E s := by
  refine call_list_range hh hr (range0_small n (by omega) (by omega)) (range0_size n (by omega)) (by omega) fun h' tk acc' c' hk hS' hacc => ?_
  refine h _ c' acc'.toList h' tk hk ?_ (by simpa [W.listOf] using hS') (ints_ext (by simp [hacc.1]) fun j x hx => ?_)
  · cases q : s.heap.get? s.heap.objs.size with
    | none => rfl
    | some o => exact absurd (Heap.lt_size q) (Nat.lt_irrefl _)
  · have hj : j < n := by
      have := (List.getElem?_eq_some_iff.mp hx).1
      simpa using this
    have ex : x = (j : Int) := by simp [hj] at hx; exact hx.symm
    subst ex
    have hj2 : j < acc'.size := by rw [hacc.1]; exact hj
    obtain ⟨t, e⟩ := hacc.2 j acc'[j] (Array.getElem?_eq_getElem hj2)
    refine ⟨t, ?_⟩
    rw [Array.getElem?_toList, Array.getElem?_eq_getElem hj2, e]
    simp
theorem list_slice {value slice : Expr} {l sl : Addr} {vs : List Value} {nn : Nat} {v1 v2 v3 : Value} {o1 o2 o3 : Option Int} {ops : List Value} {Q : Value → Shared → Prop} {h₁ : Heap} (hl : h₁.get? l = some (W.listOf vs.toArray nn)) (U : Up h₁ s.heap) (hs : s.heap.IsSliceOf sl v1 v2 v3)
    (p1 : IsPart v1 o1) (p2 : IsPart v2 o2) (p3 : IsPart v3 o3) (h0 : o3 ≠ some 0) (hz : vs.length ≤ 63)
    (h : ∀ D h', Up h₁ h' → h₁.get? D = none → h'.get? D = some (W.listOf ((plN o1 o2 o3 vs.length).filterMap (vs.toArray[·]?)).toArray 0) → Q (.ref D) { s with heap := h' })
    (hsub : subscripted slice false (.ref l) (.ref sl) = operate ops (getItem (.ref l) (.ref sl))) : wpAny (model prog w) A (subscriptTail value slice (.ref l) (.ref sl)) Q E s := by
  have hL : s.heap.IsList l vs.toArray := PySem.IsL.isList (n := nn) (U _ _ hl)
  refine tail_any hL.typeIs list_getitem_lookup (wpAny_getItem_list_slice hL hs p1 p2 p3 h0 ?_ (by rw [List.size_toArray]; unfold sizeLine; omega)) hsub
  refine h _ _ (fun b o e => Heap.get?_push_of_some _ (U b o e)) ?_ ?_
  · cases q : h₁.get? s.heap.objs.size with
    | none => rfl
    | some o => exact absurd (Heap.lt_size (U _ _ q)) (Nat.lt_irrefl _)
  · rw [Heap.get?_push_size _ rfl]
    simp [slicePick, plN, W.listOf]
end
theorem News.pick {g h : Heap} {L : Addr} {news objs : List (Addr × Obj)} (N : News g L h news) (S : AllMem objs news) : News g L h objs := fun p hp => N p (S.sub p hp)
theorem ne_data {g h : Heap} {L a b : Addr} {news : List (Addr × Obj)} {o o' : Obj} (N : News g L h news) (ha : (a, o) ∈ news) (hb : (b, o') ∈ news) (hd : o.data ≠ o'.data) : @Ne Nat a b := fun e => by
  have h1 := (N _ ha).1
  have h2 := (N _ hb).1
  dsimp only at h1 h2
  rw [e, h2] at h1
  cases h1
  exact hd rfl
theorem ne_cls {g h : Heap} {L a b : Addr} {news : List (Addr × Obj)} {o o' : Obj} (N : News g L h news) (ha : (a, o) ∈ news) (hb : (b, o') ∈ news) (hd : o.cls ≠ o'.cls) : @Ne Nat a b := fun e => by
  have h1 := (N _ ha).1
  have h2 := (N _ hb).1
  dsimp only at h1 h2
  rw [e, h2] at h1
  cases h1
  exact hd rfl
theorem dict_two {prog : Program} {w : World} {h₀ h : Heap} {L : Addr} {m : Str → Option Value} {news : List (Addr × Obj)} {vs : List (Value × Value)} {P : Heap → Prop} (F : Fr h₀ L h m) (N : News h₀ L h news) (hbig : h₀.NoLimit) (hk : allStrKeys vs = true) (hn : ((strPairs vs).map (·.1)).Nodup)
    (k : ∀ h' o, Fr h₀ L h' m → News h₀ L h' ((h.objs.size, o) :: news) → (∀ p ∈ news, p.1 < h.objs.size) → (h.objs.size == sysModules) = false → o.IsDictOf (PySem.strKind prog w) (strPairs vs) → P h') :
    ∃ kvs, Carries (PySem.strKind prog w) vs kvs ∧ (h.push { cls := .type "dict", data := .dict #[] }).DictOf (PySem.strKind prog w) h.objs.size [] ∧
      ∀ h', h'.DictOf (PySem.strKind prog w) h.objs.size (merged [] kvs) → Heap.SameBut h.objs.size (h.push { cls := .type "dict", data := .dict #[] }) h' → P h' :=
  made_str F N hk hn fun h' o F' N' hd => k h' o F' N' (fun p hp => Heap.lt_size (N p hp).1) (F.notModules (modules_low hbig)) hd
section
variable {M : Model} {A : Around} {E : Value → Shared → Prop} {s : Shared} {g : Heap} {name : Str} {scope : Scope} {L a L' c : Addr} {cd : Value} {x : Str} {pos : Pos} {v : Value} {o : Obj} {m : Str → Option Value} {news : List (Addr × Obj)} {Q : Value → Shared → Prop}
theorem nameC_L (F : Fr g L s.heap m) (hv : m x = some v) (h : Q v s) (hk : scope.kind = .function) (hx : scope.names.lookup x = some .local) (hb : (x == ("__debug__" : Str)) = false) : wpAny M A (eval (.Name x pos) (envOfC name scope L a cd)) Q E s :=
  nameX_L (cs := scope) (cl := cellsFrom (L + 1) scope.names []) F hv h hk hx hb
theorem nameC_C (N : News g L s.heap news) (hc : (cellsFrom (L + 1) scope.names []).lookup x = some c) (hm : (c, o) ∈ news) (hd : o.data = .cell (some v)) (h : Q v s) (hk : scope.kind = .function) (hx : scope.names.lookup x = some .cell) (hb : (x == ("__debug__" : Str)) = false) :
    wpAny M A (eval (.Name x pos) (envOfC name scope L a cd)) Q E s :=
  nameX_C (cs := scope) (cl := cellsFrom (L + 1) scope.names []) N hc hm hd h hk hx hb
end
theorem two_pairs {prog : Program} {w : World} {o : Obj} {t1 t2 ta : Tok} {l : Addr} (h : o.IsDictOf (PySem.strKind prog w) (strPairs [(.str (Str.ofString "a") t1, .int 1 ta), (.str (Str.ofString "b") t2, .ref l)])) : ∃ ta, o.IsDictOf (PySem.strKind prog w) [(Str.ofString "a", Value.int 1 ta), (Str.ofString "b", Value.ref l)] := ⟨_, h⟩
theorem kqdPs_ints : ∀ ns : List Int, kqdPs (ns.map Dat.int) = ns.map PyData.int
  | [] => rfl
  | n :: ns => by rw [List.map_cons, List.map_cons, kqdPs, kqdP, kqdPs_ints ns]
theorem kqdOk_ints (k : Nat) (ns : List Int) : ∀ d ∈ ns.map Dat.int, kqdOk k d = true := by
  intro d hd
  obtain ⟨n, _, rfl⟩ := List.mem_map.mp hd
  cases k <;> rfl
theorem reads_ints (h : Heap) : ∀ {vs : List Value} {ns : List Int}, IntsAre vs ns → ReadsAll h vs (ns.map PyData.int) []
  | _, _, .nil => .nil
  | _, _, .cons n t r => .cons (.int n t) (reads_ints h r)
theorem reads_one_list {h : Heap} {l : Addr} {vs : List Value} {ns : List Int} {nn : Nat} {t : Tok} (hl : h.get? l = some (W.listOf vs.toArray nn)) (hi : IntsAre vs ns) : ∃ as, ReadsAll h [.int 1 t, .ref l] (kqdPs [.int 1, .list (ns.map Dat.int)]) as := by
  have r : Reads h (.ref l) (kqdP (.list (ns.map Dat.int))) [l] := by
    rw [kqdP, kqdPs_ints]
    exact reads_list_at hl rfl rfl (by simpa using reads_ints h hi)
  exact ⟨_, ReadsAll.cons (.int 1 t) (ReadsAll.cons r .nil)⟩
theorem ok_one_list (ns : List Int) : ∀ d ∈ [Dat.int 1, Dat.list (ns.map Dat.int)], kqdOk 8 d = true := by
  intro d hd
  rcases List.mem_cons.mp hd with rfl | hd
  · rfl
  · rw [List.mem_singleton.mp hd]
    unfold kqdOk
    rw [List.all_eq_true]
    exact kqdOk_ints 7 ns
theorem paired_two {P : Nat → Value → Prop} {a b : Nat} {ys : List Value} (h : Paired P [a, b] ys) : ∃ y0 y1, ys = [y0, y1] ∧ P a y0 ∧ P b y1 := by
  cases h with
  | cons q0 r =>
    cases r with
    | cons q1 r =>
      cases r
      exact ⟨_, _, rfl, q0, q1⟩
theorem reads_two_strs (h : Heap) (a b : Str) (t u : Tok) : ∃ as, ReadsAll h [.str a t, .str b u] (kqdPs [.str a, .str b]) as := ⟨_, ReadsAll.cons (.str a t) (ReadsAll.cons (.str b u) .nil)⟩
theorem ok_two_strs : ∀ d ∈ [Dat.str (Str.ofString "a"), Dat.str (Str.ofString "b")], kqdOk 8 d = true := by
  intro d hd
  rcases List.mem_cons.mp hd with rfl | hd
  · decide +kernel
  · rw [List.mem_singleton.mp hd]; decide +kernel
theorem handed_ints : ∀ {vs : List Value} {ns : List Int}, IntsAre vs ns → ∀ q, handedIn (vs.getD q .none) = true
  | _, _, .nil, _ => rfl
  | _, _, .cons _ _ _, 0 => rfl
  | _, _, .cons _ _ r, q + 1 => handed_ints r q
theorem news_comm {g h : Heap} {L : Addr} {a b : List (Addr × Obj)} (N : News g L h (a ++ b)) : News g L h (b ++ a) := fun r hr => N r (List.mem_append.mpr (Or.symm (List.mem_append.mp hr)))
section
variable {prog : Program} {w : World} {A : Around} {s : Shared} {R : Result → Shared → Prop} {name qual : Str} {params : Arguments} {body : List Stmt} {scope : Scope} {dV kV doc pm cdv ct oc : Value} {an od : Option Addr} {osl : Array (Option Value)} {f : Addr} {args : Args} {binds : List (Str × Value)}
  {p : Program} {loose : List Str} {mg mb : Str → Option Value} {g : Heap} {objs : List (Addr × Obj)}
/-- a def made in the law is called -/
theorem enterFn (G : Up g s.heap) (T : TopRead p loose mg mb g) (hO : Has g s.heap objs)
    (ho : s.heap.get? f = some ⟨oc, od, .func (fnOf name qual params body scope dV kV doc pm an cdv ct), osl⟩) (hcd : s.heap.CodeRec cdv qual) (hroom : A.depth < recursionLimit)
    (hbind : BindsTo s (fnOf name qual params body scope dV kV doc pm an cdv ct) args binds) (hloc : ∀ y ∈ binds, scope.names.lookup y.1 = some .local)
    (h : ∀ g' L' h₁, (∀ b o, s.heap.get? b = some o → b ∉ objs.map (·.1) → g'.get? b = some o) → Up g g' → Fr g' L' h₁ (fun y => binds.reverse.lookup y) → News g' L' h₁ objs → TopRead p loose mg mb g' → (∀ p ∈ objs, p.1 < L') →
      wpAny (model prog w) (A.deeper (envOf qual scope L' f cdv)) (execs body (envOf qual scope L' f cdv))
        (fun fl s' => R (.ok (.ret (match fl with | .ret v => v | _ => .none))) s') (fun _ _ => False)
        { s with heap := h₁, toks := s.toks + binds.length })
    (hco : scope.isCoroutine = false) (hgen : scope.isGenerator = false) (hk : scope.kind = .function)
    (hcell : ∀ x ∈ scope.names, x.2 ≠ .cell) : codeAny (model prog w) A (.call (.ref f) args) R s := by
  have nm : ∀ b o, g.get? b = some o → b ∉ objs.map (·.1) := fun b o e q => by
    obtain ⟨p, hp, rfl⟩ := List.mem_map.mp q
    rw [(hO p hp).2] at e; cases e
  have st : Up g (hideAll s.heap (objs.map (·.1))) := fun b o e => hideAll_get _ (G b o e) (nm b o e)
  refine codeAny_call_def (fd := fnOf name qual params body scope dV kV doc pm an cdv ct) (body := body) (binds := binds) hroom ho rfl (T.nolimit.keeps G) hcd rfl hbind hcell hloc (fun h₁ hns hk₁ => ?_) hco hgen hk
  exact wpAny_mono (h _ s.heap.objs.size h₁ (fun b o e hb => hideAll_get _ e hb) st ⟨hns, fun b o e => hk₁ b o (of_hideAll _ e), Nat.le_of_eq (hideAll_size _ _)⟩
    (fun p hp => ⟨hk₁ _ _ (hO p hp).1, Nat.ne_of_lt (Heap.lt_size (hO p hp).1), hideAll_none _ (List.mem_map_of_mem hp)⟩) (T.keeps st) fun p hp => Heap.lt_size (hO p hp).1)
    (fun fl s' hl => hl) fun _ _ y => y.elim
end
def oddV : Value → Bool
  | .int x _ => x.fmod 2 == 1
  | _ => false
/-- what a call of the law's own def gives -/
def OddAt (w : World) (prog : Program) (g : Heap) (vs : List Value) (f c : Addr) (fo oc : Obj) : Prop :=
  ∀ (A' : Around) (s' : Shared) (v : Value) (R' : Result → Shared → Prop), A'.depth ≤ 440 → A'.handled = none → v ∈ vs → Up g s'.heap → s'.heap.get? f = some fo → s'.heap.get? c = some oc →
      (∀ h' tk, Up s'.heap h' → R' (.ok (.ret (.bool (oddV v)))) { s' with heap := h', toks := tk }) → codeAny (model prog w) A' (.call (.ref f) ⟨[v], []⟩) R' s'
theorem ints_mem : ∀ {vs : List Value} {ns : List Int}, IntsAre vs ns → ∀ v ∈ vs, ∃ x t, v = Value.int x t
  | _, _, .nil, _, h => nomatch h
  | _, _, .cons n t r, v, h => (List.mem_cons.mp h).elim (fun e => ⟨n, t, e⟩) (ints_mem r v)
end
section
section
variable {prog : Program} {w : World} {A : Around} {E : Value → Shared → Prop} {s : Shared}
/-- the inner step of a tuple's iterator -/
theorem tupIter_next {it t : Addr} {i : Nat} {items : Array Value} {Q : Option Value → Shared → Prop} (hh : A.handled = none) (hit : s.heap.IsTupleIter it t i) (ht : s.heap.IsTuple t items)
    (h1 : ∀ x h', items[i]? = some x → h'.IsTupleIter it t (i + 1) → Heap.SameBut it s.heap h' → Q (some x) { s with heap := h' })
    (h2 : ∀ h' e, items[i]? = none → Heap.ExtBut it s.heap h' → (∃ o, h'.get? e = some o ∧ o.cls = .type "StopIteration") → E (.ref e) { s with heap := h' }) :
    wpAny (model prog w) A (callSpecial? (.ref it) "__next__") Q E s := by
  obtain ⟨o, ho, hc, hd⟩ := id hit
  obtain ⟨ol, hol, _, nl, hdl⟩ := ht
  refine wpAny_callSpecial?_slot (name := Str.ofString "__next__") hit.typeIs F.slot_tuple_iterator_next (wpAny_call_entry F.slot_tuple_iterator_next hit.typeIs F.entry_tuple_iterator_next ?_ (F.args_tuple_iterator_next_1 _))
  show wpAny _ _ (field (.ref it) 0 >>= _) _ _ s
  refine wpAny_bind (wpAny_field ho hd (x := .ref t) rfl ?_)
  show wpAny _ _ (if (Value.ref t == Value.none) = true then _ else _) _ _ s
  rw [if_neg (show ¬ ((Value.ref t == Value.none) = true) from Bool.false_ne_true)]
  show wpAny _ _ (field (.ref it) 1 >>= _) _ _ s
  refine wpAny_bind (wpAny_field ho hd (x := .int i 0) rfl ?_)
  show wpAny _ _ (seqItems? (.ref t) >>= _) _ _ s
  refine wpAny_bind (wpAny_seqItems hol hdl ?_)
  cases hx : items[i]? with
  | some x =>
    simp only [Int.toNat_natCast, hx]
    refine wpAny_bind (wpAny_setField ho hd (by simp) (wpAny_pure ⟨x, rfl, h1 x _ hx ?_ (Heap.SameBut.update ..)⟩))
    exact ⟨_, Heap.get?_update_self _ ho (Obj.isFreed_of_fields (Obj.data_mapFields hd _)), (Obj.cls_mapFields ..).trans hc, by rw [Obj.data_mapFields hd]; simp [rawInt]⟩
  | none =>
    simp only [Int.toNat_natCast, hx]
    refine wpAny_bind (wpAny_rule (wpAny_bind (wpAny_setField ho hd (by simp) ?_)))
    show wpAny _ _ (newExc (.type "StopIteration") [] >>= _) _ _ _
    refine wpAny_bind ?_
    simp only [newExc, newTuple]
    refine wpAny_bind (wpAny_newObj_type ?_ (by size_fits))
    refine wpAny_bind (m := firstArgMember _ _) (wpAny_of_eq (a := Value.none) (by first | rfl | (simp only [firstArgMember]; rfl)) ?_)
    refine wpAny_newObj_type ?_ (by size_fits)
    simp only [raiseNew]
    refine wpAny_bind (wpAny_handled ?_)
    first | rw [show A.in1.handled = none from hh] | rw [hh]
    refine wpAny_bind (wpAny_pure (wpAny_throw ?_))
    exact h2 _ _ hx (((Heap.SameBut.update ..).extBut.push _).push _) ⟨_, Heap.get?_push_size _ rfl, rfl⟩
end
theorem drawsTuple {prog : Program} {w : World} {A : Around} (hh : A.handled = none) (it l : Addr) (hne : l ≠ it) (items : Array Value) :
    Draws prog w A it [it, l] items.size (fun i v => items[i]? = some v) (fun i h => h.IsTupleIter it l i ∧ h.IsTuple l items) where
  live := fun _ _ st => let ⟨o, ho, _⟩ := st.1; ⟨o, ho⟩
  frame := fun _ _ _ st hk => ⟨st.1.at fun o e => hk it (by simp) o e, st.2.at fun o e => hk l (by simp) o e⟩
  item := fun i s Q E hi st hQ => by
    unfold Builtin.SmallTypes.nextOf
    refine wpAny_bind (tupIter_next hh st.1 st.2 (fun x h' hx hit' hs' => ?_) fun h' e hx => ?_)
    · exact wpAny_pure (hQ x h' s.toks hx ⟨hit', st.2.at fun o e => hs'.extBut _ _ hne e⟩ hs')
    · simp [hi] at hx
  done := fun s Q E st hE => by
    unfold Builtin.SmallTypes.nextOf
    refine wpAny_bind (tupIter_next hh st.1 st.2 (fun x h' hx => ?_) fun h' e _ hx he => hE h' e hx he)
    simp at hx
set_option maxHeartbeats 1000000 in
theorem meets_enumT (l : Addr) (items : Array Value) (n : Nat) (dct : Option Addr) (sl : Array (Option Value)) :
    Meets (Builtin.«enumerate.__new__» ⟨[.type "enumerate", .ref l], []⟩) (fun _ R s => s.heap.get? l = some { cls := .type "tuple", dict := dct, data := .seq items n, slots := sl } ∧
      R (.ok (.ret (.ref (s.heap.push { cls := .type "tuple_iterator", data := .fields #[.ref l, .int 0 0] }).objs.size)))
        { s with heap := (s.heap.push { cls := .type "tuple_iterator", data := .fields #[.ref l, .int 0 0] }).push { cls := .type "enumerate", data := .fields #[.none, .bool false, .ref s.heap.objs.size, rawInt 0, .none, .none] } }) :=
  .of_wp fun prog w A R s h => by
    obtain ⟨hp, g, d, tk, os⟩ := s; obtain ⟨hl, h⟩ := h
    have hsub := sub_enumerate
    have hL : Heap.IsTuple (Shared.heap ⟨hp, g, d, tk, os⟩) l items := ⟨_, hl, rfl, n, rfl⟩
    wp_walk using AutoSeq1.wpAny_loadPart' hl
    refine wpAny_stack_any fun st => wpAny_pure ?_
    split
    · rename_i c _ _ _ _ _
      cases (c == Value.type "enumerate")
      · wp_walk using AutoSeq1.wpAny_loadPart' hl, wpAny_pyIter_tuple hL
        exact ⟨_, rfl, h⟩
      · wp_walk using AutoSeq1.wpAny_loadPart' hl, wpAny_pyIter_tuple hL
        exact ⟨_, rfl, h⟩
    · wp_walk using AutoSeq1.wpAny_loadPart' hl, wpAny_pyIter_tuple hL
      exact ⟨_, rfl, h⟩
end
section
section
variable {prog : Program} {w : World} {A : Around} {E : Value → Shared → Prop} {s : Shared}
theorem call_enumT {l : Addr} {items : Array Value} {n : Nat} {Q : Value → Shared → Prop} (hl : s.heap.get? l = some { cls := .type "tuple", data := .seq items n })
    (h : ∀ h', IsEnum h' (s.heap.objs.size + 1) s.heap.objs.size 0 .none → h'.IsTupleIter s.heap.objs.size l 0 → (∀ b o, s.heap.get? b = some o → h'.get? b = some o) → Q (.ref (s.heap.objs.size + 1)) { s with heap := h' }) :
    wpAny (model prog w) A (call (.type "enumerate") [.ref l]) Q E s := by
  refine callType_new F.called_enumerate (by decide) (F.typeCall_enumerate_1 _) (F.newCall_enumerate_1 _) (fun obj => F.args_object_init_2 obj _) F.entry_enumerate_new (meets_enumT l items n none #[]) ⟨hl, ?_⟩
  have hz : (s.heap.push { cls := .type "tuple_iterator", data := .fields #[.ref l, .int 0 0] }).objs.size = s.heap.objs.size + 1 := Heap.size_push ..
  have he := Heap.get?_push_size (s.heap.push { cls := .type "tuple_iterator", data := .fields #[.ref l, .int 0 0] }) (o := { cls := .type "enumerate", data := .fields #[.none, .bool false, .ref s.heap.objs.size, rawInt 0, .none, .none] }) rfl
  rw [hz] at he
  show _ ∧ _
  rw [hz]
  exact ⟨⟨_, he, rfl⟩, h _ he ⟨_, Heap.get?_push_of_some _ (Heap.get?_push_size _ rfl), rfl, rfl⟩ fun b o x => Heap.get?_push_of_some _ (Heap.get?_push_of_some _ x)⟩

/-- the turns of a loop over enumerate(tuple) -/
theorem enumT_turns {h₀ : Heap} {env : Env} {body : List Stmt} {Q : Flow → Shared → Prop} {elts : List Expr} {k : Nat} {pos : Pos} {l : Addr} {vs : List Value} {n : Nat} {m₀ : Str → Option Value} {news : List (Addr × Obj)}
    (hh : A.handled = none) (F : Fr h₀ env.locals s.heap m₀) (N : News h₀ env.locals s.heap news) (hm : (l, ({ cls := .type "tuple", data := .seq vs.toArray n } : Obj)) ∈ news)
    (rest₀ : ∀ I : Addr, (∀ p ∈ news, p.1 < I) → ItemsRest prog w A E h₀ env (.Tuple elts k pos) body Q s [(I + 1, "enumerate"), (I, "tuple_iterator")] [(l, { cls := .type "tuple", data := .seq vs.toArray n })] (enumItems 0 vs) m₀ news) :
    wpAny (model prog w) A (call (.type "enumerate") [.ref l]) (fun xv s₁ => wpAny (model prog w) A (pyIter xv) (fun it s₂ => TurnsAt prog w A h₀ env (.Tuple elts k pos) body Q E it s₂) E s₁) E s := by
  have hax := N _ hm
  have hl : s.heap.IsTuple l vs.toArray := ⟨_, hax.1, rfl, n, rfl⟩
  have hlt : l < s.heap.objs.size := Heap.lt_size hax.1
  have hLs : env.locals < s.heap.objs.size := F.ns.lt
  refine call_enumT hax.1 fun h' hE hI hk => ?_
  refine wpAny_pyIter_enum hE ?_
  have hei : s.heap.objs.size + 1 ∉ [s.heap.objs.size, l] := fun q => by
    rcases List.mem_cons.mp q with q | q
    · exact Nat.succ_ne_self _ q
    · rw [← List.mem_singleton.mp q] at hlt; exact absurd hlt (Nat.not_lt.mpr (Nat.le_succ _))
  refine ktu_core (tk0 := s.toks) (keep := [(l, { cls := .type "tuple", data := .seq vs.toArray n })]) (KTurns.ofWalksU (WalksT.enumerateD (drawsTuple (A := A.in1) hh s.heap.objs.size l (Nat.ne_of_lt hlt) vs.toArray) (s.heap.objs.size + 1) (Nat.succ_ne_self _) hei (by simp)).toU) (by simp [enumItems_length]) ?_ ?_ ?_ ?_ ?_ ?_ ?_ ?_ (F.keeps hk) (N.grown hk) (And.intro hm trivial) (rest₀ _ fun p hp => Heap.lt_size (N p hp).1)
  · rintro i v h ⟨T, vals, rfl, ⟨t, x, hx, rfl⟩, hT⟩
    refine ⟨_, enumItems_get vs 0 i (v := x) (by simpa using hx), T, t, rfl, ?_⟩
    show IsTup h T #[.int ((0 + i : Nat) : Int) t, x]
    rw [Nat.zero_add]
    exact hT
  · rintro i h ⟨⟨old, he⟩, ⟨oi, hoi, hic, _⟩, _⟩
    have he' : ∃ oe : Obj, h.get? (s.heap.objs.size + 1) = some oe ∧ oe.cls = .type "enumerate" := ⟨_, he, rfl⟩
    obtain ⟨oe, h1, h2⟩ := he'
    refine ⟨[(s.heap.objs.size + 1, oe), (s.heap.objs.size, oi)], ⟨⟨rfl, h2⟩, ⟨rfl, hic⟩, trivial⟩, fun p hp => ?_⟩
    rcases List.mem_cons.mp hp with rfl | hp
    · exact h1
    · rw [List.mem_singleton.mp hp]; exact hoi
  · intro b hb
    have hb' : b = s.heap.objs.size + 1 ∨ b = s.heap.objs.size := by simpa using hb
    rcases hb' with rfl | rfl
    · exact ⟨by simp, ktu_new F (Nat.le_add_right _ _)⟩
    · exact ⟨by simp, ktu_new F (Nat.le_refl _)⟩
  · intro b hb
    simpa using hb
  · intro b hb
    have hb' : b = s.heap.objs.size + 1 ∨ b = s.heap.objs.size ∨ b = l := by simpa using hb
    rcases hb' with rfl | rfl | rfl
    · exact .inl (by simp)
    · exact .inl (by simp)
    · exact .inr ⟨_, List.mem_singleton.mpr rfl⟩
  · intro hI'
    have hb' : env.locals = s.heap.objs.size + 1 ∨ env.locals = s.heap.objs.size ∨ env.locals = l := by simpa using hI'
    rcases hb' with e | e | e
    · exact ktu_ne 1 hLs e
    · exact Nat.ne_of_lt hLs e
    · exact hax.2.1 e.symm
  · intro p hp hI'
    have hb' : p.1 = s.heap.objs.size + 1 ∨ p.1 = s.heap.objs.size := by simpa using hI'
    have hlp := Heap.lt_size (N p hp).1
    rcases hb' with e | e
    · exact ktu_ne 1 hlp e
    · exact Nat.ne_of_lt hlp e
  · exact ⟨⟨.none, hE⟩, hI, hl.at fun o e => hk l o e⟩
end
end
section
theorem slot_pat_match : Slot "re.Pattern" "match" "re.Pattern.match" :=
  .of (owner := "re.Pattern") (n := "match") (by rw [typeLookup_type, builtinLookup_eq_fast]; kernel_rfl) (by decide +kernel) (by decide +kernel) (by decide +kernel)
    (by first | exact .inl (by decide +kernel) | exact .inr (by decide +kernel)) (by rw [isSubtype_type]; kernel_rfl)
theorem type_pat_match : typeOf (.builtin "re.Pattern.match") = pure (.type "method_descriptor") := by show builtinType _ = _; rw [builtinType_eq_fast]; kernel_rfl
theorem entry_pat_match : entryFor table "re.Pattern.match" = some Builtin.«re.Pattern.match» := entryFor_of_tree (by kernel_rfl)
theorem plainAttrs_pat : PlainAttrs "re.Pattern" :=
  ⟨⟨"object.__getattribute__", by rw [typeLookup_type, builtinLookup_eq_fast]; kernel_rfl, by decide +kernel⟩, by rw [typeLookup_type, builtinLookup_eq_fast]; kernel_rfl⟩
theorem args_pat_match (a b : Value) : argsOk "re.Pattern.match" ⟨[a, b], []⟩ := by
  unfold argsOk; rw [signature?_of (id := "re.Pattern.match") (n := ['h', 'c', 't', 'a', 'm']) (o := ['n', 'r', 'e', 't', 't', 'a', 'P', '.', 'e', 'r']) (by kernel_rfl) (show _ = some Manifest.sig_re_Pattern by kernel_rfl)]; kernel_rfl
/-- the machine's run, with so much fuel -/
def drv : Nat → Sre.M → Option Sre.M
  | 0, _ => none
  | k + 1, m => if (m.runFor Builtin.Re.reTurnSteps).outcome.isSome then some (m.runFor Builtin.Re.reTurnSteps) else drv k (m.runFor Builtin.Re.reTurnSteps)
def patCode : Array Nat := #[14, 4, 0, 1, 4294967295, 6, 0, 24, 6, 0, 1, 16, 64, 1, 13, 11, 9, 0, 0, 2281701374, 134217726, 0, 0, 0, 0, 0, 24, 16, 0, 4294967295, 13, 11, 9, 0, 67051520, 2281701375, 134217726, 0, 0, 0, 0, 0, 1, 6, 5, 1]
theorem drv_a : ((drv 40 (Sre.forMatch patCode #[97] 0 0 1 false false)).bind (·.outcome)).isSome = true := by decide +kernel
theorem drv_b : ((drv 40 (Sre.forMatch patCode #[98] 0 0 1 false false)).bind (·.outcome)).isSome = true := by decide +kernel
def okRun (m : Sre.M) : Bool := match drv 40 m with | some m' => (match m'.outcome with | some .matched => true | _ => false) | none => false
theorem ok_a : okRun (Sre.forMatch patCode #[97] 0 0 1 false false) = true := by decide +kernel
theorem ok_b : okRun (Sre.forMatch patCode #[98] 0 0 1 false false) = true := by decide +kernel
section
variable {M : Model} {prog : Program} {w : World} {A : Around} {E : Value → Shared → Prop} {s : Shared}
theorem reDrive_drv {Q : Sre.M → Shared → Prop} : ∀ (k : Nat) (m m' : Sre.M) (t : Nat), drv k m = some m' → Q m' s → wpAny M A (Builtin.Re.reDrive (t + k) m) Q E s
  | 0, _, _, _, h, _ => nomatch h
  | k + 1, m, m', t, h, hQ => by
    show wpAny M A (Builtin.Re.reDrive ((t + k) + 1) m) Q E s
    unfold Builtin.Re.reDrive
    unfold drv at h
    dsimp only
    split
    · rename_i ho
      rw [if_pos ho] at h
      cases h
      exact wpAny_pure hQ
    · rename_i ho
      rw [if_neg ho] at h
      exact wpAny_bind (wpAny_rule (reDrive_drv k _ _ t h hQ))
theorem rules_all {Q : PUnit → Shared → Prop} {f : Nat → PUnit → Sem (ForInStep PUnit)} (hf : ∀ i (Q : ForInStep PUnit → Shared → Prop), Q (.yield ⟨⟩) s → wpAny M A (f i ⟨⟩) Q E s) : ∀ (l : List Nat), Q ⟨⟩ s → wpAny M A (forIn l PUnit.unit f) Q E s
  | [], h => wpAny_pure h
  | i :: l, h => by
    rw [List.forIn_cons]
    exact wpAny_bind (hf i _ (rules_all hf l h))
theorem run_end {m : Sre.M} {Q : Option Sre.M → Shared → Prop} (h : okRun m = true) (hQ : ∀ m', Q (some m') s) : wpAny M A (Builtin.Re.reRunToEnd m) Q E s := by
  unfold okRun at h
  split at h
  · rename_i m' e
    split at h
    · rename_i ho
      unfold Builtin.Re.reRunToEnd
      refine wpAny_bind ?_
      rw [show (2 ^ 64 : Nat) = (2 ^ 64 - 40) + 40 by decide]
      refine reDrive_drv 40 m m' _ e ?_
      refine wpAny_bind (rules_all (fun i Q hq => ?_) _ ?_)
      · first
          | (split
             · exact wpAny_bind (wpAny_rule (wpAny_pure hq))
             · exact wpAny_pure hq)
          | (refine wpAny_bind ?_
             split
             · exact wpAny_rule (wpAny_pure hq)
             · exact wpAny_pure (wpAny_pure hq))
      rw [ho]
      exact wpAny_pure (hQ m')
    · cases h
  · cases h
end
def patIn (K : Frag) (P : Addr) : Bool := match K.lookup P with
  | some ⟨.type c, none, .fields fs, sl⟩ => c == "re.Pattern" && sl.size == 0 && Builtin.Re.reRawNat (fs.getD 6 .none) == 0 && Builtin.Re.reRawNat (fs.getD 2 .none) == 0 && (match fs.getD 5 .none with
    | .ref T => (match K.lookup T with
      | some ⟨.type c2, none, .seq ws _, sl2⟩ => c2 == "tuple" && sl2.size == 0 && ((ws.map Builtin.Re.reRawOf).map (·.toNat)).toList == patCode.toList
      | _ => false)
    | _ => false)
  | _ => false
structure PatAt (h : Heap) (P : Addr) : Prop where
  it : ∃ (fs : Array Value) (T : Addr) (ws : Array Value) (n : Nat), h.get? P = some { cls := .type "re.Pattern", data := .fields fs } ∧ fs.getD 5 .none = .ref T ∧ Builtin.Re.reRawNat (fs.getD 6 .none) = 0 ∧ Builtin.Re.reRawNat (fs.getD 2 .none) = 0 ∧ h.get? T = some { cls := .type "tuple", data := .seq ws n } ∧ (ws.map Builtin.Re.reRawOf).map (·.toNat) = patCode
theorem pat_at {K : Frag} {P : Addr} {h : Heap} (X : K.In h) (e : patIn K P = true) : PatAt h P := by
  unfold patIn at e
  split at e
  · rename_i c fs sl hg
    simp only [Bool.and_eq_true, beq_iff_eq, Array.size_eq_zero_iff] at e
    obtain ⟨⟨⟨⟨rfl, rfl⟩, h3⟩, h4⟩, hT⟩ := e
    split at hT
    · rename_i T hf
      split at hT
      · rename_i c2 ws n sl2 hg2
        simp only [Bool.and_eq_true, beq_iff_eq, Array.size_eq_zero_iff] at hT
        obtain ⟨⟨rfl, rfl⟩, h6⟩ := hT
        exact ⟨fs, T, ws, n, X _ _ hg, hf, h3, h4, X _ _ hg2, Array.toList_inj.mp h6⟩
      · cases hT
    · cases hT
  · cases e
section
variable {prog : Program} {w : World} {A : Around} {E : Value → Shared → Prop} {s : Shared}
theorem pat_method {P : Addr} {pl : Sem Bool} {Q : Value × List Value → Shared → Prop} (h : PatAt s.heap P) (hQ : Q (.builtin "re.Pattern.match", [.ref P]) s) : wpAny (model prog w) A (getMethod (.ref P) "match" pl) Q E s := by
  obtain ⟨fs, T, ws, n, h1, _⟩ := h.it
  exact getMethod_builtin ⟨_, h1, rfl⟩ plainAttrs_pat slot_pat_match type_pat_match (fun a e => by cases e; exact ⟨_, h1, rfl⟩) hQ
abbrev matchObj (fs : Array Value) : Obj := { cls := .type "re.Match", data := .fields fs }
theorem pat_match {P : Addr} {x : Str} {t : Tok} {Q : Value → Shared → Prop} (h : PatAt s.heap P) (hx : okRun (Sre.forMatch patCode x.cps 0 0 1 false false) = true) (hl : x.cps.size = 1)
    (hQ : ∀ D fs h', Up s.heap h' → s.heap.get? D = none → h'.get? D = some (matchObj fs) → D < h'.objs.size → Q (.ref D) { s with heap := h' }) : wpAny (model prog w) A (call (.builtin "re.Pattern.match") [.ref P, .str x t]) Q E s := by
  obtain ⟨fs, T, ws, n, h1, h2, h3, h4, h5, h6⟩ := h.it
  refine wpAny_call_entry slot_pat_match ⟨_, h1, rfl⟩ entry_pat_match ?_ (args_pat_match _ _)
  unfold Builtin.«re.Pattern.match»
  refine wpAny_bind ?_
  unfold Builtin.Re.reTarget
  refine wpAny_bind (wpAny_of_eq (a := [some (.str x t), none, none]) rfl ?_)
  dsimp only
  refine wpAny_bind (wpAny_of_eq (a := (0 : Int)) rfl ?_)
  refine wpAny_bind (wpAny_of_eq (a := (2 ^ 63 - 1 : Int)) rfl ?_)
  refine wpAny_bind (wpAny_fieldsOf h1 rfl ?_)
  refine wpAny_bind (wpAny_of_eq (a := (x.cps, 0)) rfl ?_)
  dsimp only
  rw [h3, h4]
  rw [if_neg (by decide), if_neg (by decide)]
  refine wpAny_bind (wpAny_of_eq (a := ()) rfl ?_)
  rw [h2]
  refine wpAny_bind ?_
  show wpAny _ _ (seqItems? (.ref T) >>= _) _ _ s
  refine wpAny_bind ?_
  refine wpAny_bind (wpAny_load h5 ?_)
  refine wpAny_pure ?_
  refine wpAny_pure ?_
  refine wpAny_pure ?_
  show wpAny _ _ (Builtin.Re.reAnswer _ (Sre.forMatch ((ws.map Builtin.Re.reRawOf).map (·.toNat)) x.cps 0 (min (0 : Int).toNat x.cps.size) (min (2 ^ 63 - 1 : Int).toNat x.cps.size) false false)) _ _ s
  rw [h6, hl, show min (0 : Int).toNat 1 = 0 by decide, show min (2 ^ 63 - 1 : Int).toNat 1 = 1 by decide]
  generalize Sre.forMatch patCode x.cps 0 0 1 false false = mm at hx ⊢
  unfold Builtin.Re.reAnswer
  refine wpAny_bind (run_end hx fun m' => ?_)
  dsimp only
  refine wpAny_bind ?_
  unfold Builtin.Re.reNewMatch
  dsimp only
  rw [if_neg (by simp)]
  refine wpAny_bind (wpAny_newTuple ?_ (by simp; unfold sizeLine; omega))
  unfold newFields
  refine wpAny_newObj_type ?_ (Nat.le_of_ble_eq_true rfl)
  refine wpAny_pure ⟨_, rfl, ?_⟩
  refine hQ _ _ _ (fun b o e => Heap.get?_push_of_some _ (Heap.get?_push_of_some _ e)) ?_ (Heap.get?_push_size _ rfl) (Heap.lt_size (Heap.get?_push_size _ rfl))
  cases q : s.heap.get? _ with
  | none => rfl
  | some o =>
    have := Heap.lt_size q
    dsimp only at this
    rw [Heap.size_push] at this
    exact absurd this (Nat.not_lt.mpr (Nat.le_succ _))
theorem noBool_match : typeLookup (.type "re.Match") "__bool__" = pure none := by rw [typeLookup_type, builtinLookup_eq_fast]; kernel_rfl
theorem noLen_match : typeLookup (.type "re.Match") "__len__" = pure none := by rw [typeLookup_type, builtinLookup_eq_fast]; kernel_rfl
theorem match_truthy {D : Addr} {fs : Array Value} {Q : Bool → Shared → Prop} (h : s.heap.get? D = some (matchObj fs)) (hQ : Q true s) : wpAny (model prog w) A (truthy (.ref D)) Q E s := by
  have hT : s.TypeIs (.ref D) "re.Match" := ⟨_, h, rfl⟩
  unfold truthy
  first
    | refine wpAny_bind (wpAny_callSpecial?_none (name := Str.ofString "__bool__") hT noBool_match ?_)
    | refine wpAny_bind (wpAny_pure (wpAny_bind (wpAny_callSpecial?_none (name := Str.ofString "__bool__") hT noBool_match ?_)))
  first
    | refine wpAny_bind (wpAny_specialOf (name := Str.ofString "__len__") hT noLen_match ?_)
    | refine wpAny_bind (wpAny_pure (wpAny_bind (wpAny_specialOf (name := Str.ofString "__len__") hT noLen_match ?_)))
  first
    | exact wpAny_pure hQ
    | exact wpAny_bind (wpAny_pure hQ)
    | trace_state
end
end
section
section
variable {prog : Program} {w : World} {A : Around} {E : Value → Shared → Prop} {s : Shared}
/-- the code of a block at this place: found, or made -/
theorem block_code {env : Env} {c P : Addr} {ps : Array Value} {pos : Pos} {qualname : Str} {scope : Scope} {Q : Value → Shared → Prop} (hc : env.code = .ref c) (hok : s.heap.IsCode c P ps) (htab : s.heap.TableAt c P ps)
    (hQ : ∀ code h' tk ps', Heap.ExtBut P s.heap h' → s.heap.objs.size ≤ h'.objs.size → h'.IsCode c P ps' → h'.TableAt c P ps' → Q code { s with heap := h', toks := tk }) :
    wpAny (model prog w) A (genexprCode env pos qualname scope) Q E s := by
  cases hf : codeAmong pos ps.toList with
  | some c' => exact wpAny_genexprCode_hit hc hok hf (hQ _ s.heap s.toks ps (Heap.ExtBut.refl _ _) (Nat.le_refl _) hok htab)
  | none => exact wpAny_genexprCodeX hc hok htab hf fun c' h' tk hx hle hlt hcode _ ht _ => hQ _ h' tk _ hx (Nat.le_trans hle (Nat.le_of_lt hlt)) hcode ht

/-- a block over a tuple of one item -/
theorem genexp_one {env : Env} {elt iter : Expr} {x : Str} {px : Pos} {scope : Scope} {pos : Pos} {c P bm : Addr} {ps : Array Value} {ob : Obj} {mg : Str → Option Value} {Q : Value → Shared → Prop}
    (hh : A.handled = none) (hcode : env.code = .ref c) (hco : scope.isCoroutine = false) (hclos : closureFor scope env = pure []) (hcell : ∀ y ∈ scope.names, y.2 ≠ .cell) (h0 : scope.names.lookup (".0" : Str) = some NameKind.local)
    (hx : scope.names.lookup x = some .local) (hkind : scope.kind = .function) (hroom : A.depth < recursionLimit)
    (h : wpAny (model prog w) A (eval iter env) (fun xv s₁ => ∃ t v txt, xv = .ref t ∧ s₁.heap.IsTuple t #[v] ∧ s₁.heap.IsCode c P ps ∧ s₁.heap.TableAt c P ps ∧ BMod s₁.heap env.globals mg bm ob ∧ s₁.heap.NoLimit ∧ AllBare s₁.gens ∧ P ≠ cStatics ∧
      (∀ (C : Addr) (code : Value) (A' : Around) (E' : Value → Shared → Prop) (s₂ : Shared) (m₂ : Str → Option Value), A'.handled = none → s₁.heap.objs.size ≤ C → s₂.heap.Ns C m₂ → m₂ x = some v → (∀ b o, b ≠ P → s₁.heap.get? b = some o → s₂.heap.get? b = some o) →
        wpAny (model prog w) A' (eval elt (genEnv scope [] C code builtinsNs env)) (fun y s₃ => (∃ u, y = .str txt u) ∧ Keeps s₂ s₃) E' s₂) ∧
      (∀ a h₅ tk gs ps', (∀ b o, b ≠ P → s₁.heap.get? b = some o → h₅.get? b = some o) → h₅.IsCode c P ps' → h₅.TableAt c P ps' → AllBare gs → Gen prog w A (s₁.heap.objs.size - 1) a 1 (fun _ y => ∃ u, y = .str txt u) { s₁ with gens := gs, toks := tk, heap := h₅ } →
        Q (.ref a) { s₁ with gens := gs, toks := tk, heap := h₅ })) E s)
    (hs : ∀ x, genFold iter env x = pure x := by intro _; rfl) :
    wpAny (model prog w) A (eval (.GeneratorExp elt [⟨.Name x px, iter, [], 0⟩] scope pos) env) Q E s := by
  refine wpAny_GeneratorExp_walksQ hh hco hclos hcell h0 hx hkind hroom (wpAny_mono h (fun xv s₁ h₁ => ?_) fun _ _ e => e) hs
  obtain ⟨t, v, txt, rfl, ht, hok, htab, BM, hlim, hgs, hPs, helt, hQ⟩ := h₁
  have htl : t < s₁.heap.objs.size := by obtain ⟨o, e, _⟩ := ht; exact Heap.lt_size e
  have hPl : P < s₁.heap.objs.size := Heap.lt_size htab.2
  have htP : t ≠ P := fun e => by
    obtain ⟨o, ho, hc', _⟩ := ht
    rw [e, htab.2] at ho; cases ho; exact absurd hc' (by simp)
  have up : ∀ b o, s₁.heap.get? b = some o → (s₁.heap.push { cls := .type "tuple_iterator", data := .fields #[.ref t, .int 0 0] }).get? b = some o := fun b o e => Heap.get?_push_of_some _ e
  refine wpAny_pyIter_tuple ht ⟨hlim.push _, block_code hcode (hok.push _) (htab.keeps up) fun code h₃ tk₃ ps' hx₃ hsz₃ hok₃ htab₃ => ?_⟩
  have BM₃ : BMod h₃ env.globals mg bm ob := (BM.keeps up).extBut (htab.keeps up) hx₃
  refine wpAny_builtinsFor BM₃.ns BM₃.name BM₃.ne BM₃.obj BM₃.cls BM₃.dict BM₃.data ?_
  have hsz : s₁.heap.objs.size + 1 ≤ h₃.objs.size := by
    have := hsz₃
    dsimp only at this
    rw [Heap.size_push] at this; exact this
  have k₃ : ∀ b o, b ≠ P → s₁.heap.get? b = some o → h₃.get? b = some o := fun b o hb e => hx₃ b o hb (up b o e)
  have hIP : s₁.heap.objs.size ≠ P := Nat.ne_of_gt hPl
  have hit : h₃.IsTupleIter s₁.heap.objs.size t 0 := ⟨_, hx₃ _ _ hIP (Heap.get?_push_size _ rfl), rfl, rfl⟩
  have hcS : cStatics < s₁.heap.objs.size := let ⟨_, hn, _⟩ := hlim; hn.lt
  refine ⟨s₁.heap.objs.size, [s₁.heap.objs.size, t], [s₁.heap.objs.size], 1, _, _, fun _ => true, fun _ y => ∃ u, y = .str txt u, rfl, (fun A' hA => Walks.tuple hA _ t (Nat.ne_of_lt htl) #[v]), ⟨hit, ht.at fun o e => k₃ t o htP e⟩, ?_, (hlim.push _).extBut hx₃ (Ne.symm hPs), ?_, ?_, ?_⟩
  · intro b hb
    show b < h₃.objs.size
    rcases List.mem_cons.mp hb with rfl | hb
    · exact Nat.lt_of_lt_of_le (Nat.lt_succ_self _) hsz
    · rw [List.mem_singleton.mp hb]; exact Nat.lt_of_lt_of_le (Nat.lt_succ_of_lt htl) hsz
  · intro hm
    rw [List.mem_singleton.mp hm] at hcS
    exact Nat.lt_irrefl _ hcS
  · intro href hk
    refine ⟨fun A' E' i v' s₂ m₂ hA _ hn hm _ => wpAny_pure ⟨rfl, s₂.heap, s₂.toks, rfl, fun _ _ e => e⟩, fun A' E' i v' s₂ m₂ hA hv _ hn hm hk₂ => ?_⟩
    have ev : v' = v := by
      rcases i with _ | i
      · simpa using hv.symm
      · simp at hv
    subst ev
    refine helt _ code A' E' s₂ m₂ hA (Nat.le_trans (Nat.le_succ _) hsz) hn hm fun b o hb e => hk₂ b (List.mem_range.mpr ?_) ?_ o (hk _ _ (k₃ b o hb e))
    · exact Nat.lt_of_lt_of_le (Nat.lt_succ_of_lt (Heap.lt_size e)) hsz
    · intro q
      rw [List.mem_singleton.mp q] at e
      exact Nat.lt_irrefl _ (Heap.lt_size e)
  · intro a h₅ tk gs hgb hag hsz₅ hk₅ W hat
    have ep : (passing (fun _ => true) 1 0).length = 1 := rfl
    refine hQ a h₅ tk _ ps' (fun b o hb e => hk₅ b o (k₃ b o hb e)) (hok₃.keeps hk₅) (htab₃.keeps hk₅) (hgs.push hgb) ⟨_, _, _, _, W.imp fun j y hy => ?_, hat, (fun i s' st => st.1.typeIs), List.mem_cons_self, ?_, ?_⟩
    · obtain ⟨_, _, h⟩ := hy; exact h
    · intro b hb
      show b < h₅.objs.size
      rw [hsz₅]
      rcases List.mem_cons.mp hb with rfl | hb
      · exact Nat.lt_succ_self _
      · rcases List.mem_cons.mp hb with rfl | hb
        · exact Nat.lt_succ_of_lt hag
        · exact Nat.lt_succ_of_lt (Nat.lt_trans (List.mem_range.mp hb) hag)
    · intro b hb
      have : s₁.heap.objs.size - 1 < s₁.heap.objs.size := Nat.sub_lt (Nat.lt_of_le_of_lt (Nat.zero_le _) htl) (by decide)
      rcases List.mem_cons.mp hb with rfl | hb
      · exact Nat.lt_of_lt_of_le this (Nat.le_trans (Nat.le_succ _) hsz)
      · rw [List.mem_singleton.mp hb]; exact this

/-- the block's one text is joined -/
theorem join_one {K a : Addr} {txt sep : Str} {t : Tok} {Q : Value → Shared → Prop} (X : Gen prog w A K a 1 (fun _ y => ∃ u, y = .str txt u) s) (G : AllBare s.gens) (hok : JoinOk sep [txt] = true)
    (hQ : ∀ h' tk gs t', (∀ b o, b ≤ K → s.heap.get? b = some o → h'.get? b = some o) → AllBare gs → Q (.str (Txt.join sep [txt]) t') { s with heap := h', toks := tk, gens := gs }) :
    wpAny (model prog w) A (call (.builtin "str.join") [.str sep t, .ref a]) Q E s := by
  obtain ⟨fp, wr, g, St, W, hst, hT, ha, hfp, hwr⟩ := X
  have W := W.in4_2
  refine SC.joinGen W hT hst hfp ha (fun j v hv => let ⟨u, e⟩ := hv; ⟨_, u, e⟩) (fun s' lt hm hacc => ?_) (Nat.le_of_ble_eq_true rfl)
  have hl : lt.map (·.1) = [txt] := by
    have hsz : lt.length = 1 := by simpa [strValues] using hacc.1
    match lt, hsz with
    | [p], _ =>
      obtain ⟨u, e⟩ := hacc.2 0 (.str p.1 p.2) (by simp [strValues])
      injection e with e1 _
      simp [e1]
  rw [hl]
  refine ⟨hok, fun t' k => ?_⟩
  obtain ⟨h', gs, dr, tk, os⟩ := s'
  have e1 := hm.drawn
  have e2 := hm.os
  dsimp only at e1 e2
  subst e1; subst e2
  exact hQ h' k gs t' (fun b o hb e => hm.heap b o (fun hmem => Nat.lt_irrefl _ (Nat.lt_of_lt_of_le (hwr b hmem) hb)) e) (G.movedS hm)
end
end
local macro_rules | `(tactic| k_room) => `(tactic| first | exact depth_lt1 (by with_reducible assumption) (by decide) | exact depth_lt0 (by with_reducible assumption) (by decide) | ((try simp only [depth_under_make, depth_under_kw, depth_in1, depth_deeper, depth_caller]); (try unfold recursionLimit); omega))
local macro_rules | `(tactic| k_enter) => `(tactic| first
  | (refine' enter_plain ?k2 ?k3 ?k4 ?k5 ?k6 ?k7 ?k8 ?k9 ?kB ?_ ?c2 ?c3 ?c4 ?c5; (case k2 => k_asm); (case k3 => k_asm); (case k4 => k_asm); (case k5 => k_asm); (case k6 => k_is); (case k7 => k_is); (case k8 => k_room); (case k9 => first | exact BindsTo.of_eq rfl | exact binds_K (by k_in) rfl (by k_is) rfl rfl rfl | fail "k_enter: no rule for these arguments"); (case c5 => decide); (case kB => exact locs rfl); (case c2 => exact rfl); (case c3 => exact rfl); (case c4 => exact rfl); k_whole; intro g' L' h' FG' F' N' X' T' l1; (try k_lt l1); (try dsimp only); (try k_fold))
  | (refine' enter_cells ?k2 ?k3 ?k4 ?k5 ?k6 ?k7 ?k8 ?k9 ?kB ?kD ?_ ?c2 ?c3 ?c4; (case k2 => k_asm); (case k3 => k_asm); (case k4 => k_asm); (case k5 => k_asm); (case k6 => k_is); (case k7 => k_is); (case k8 => k_room); (case k9 => first | exact BindsTo.of_eq rfl | exact binds_K (by k_in) rfl (by k_is) rfl rfl rfl | fail "k_enter: no rule for these arguments"); (case kB => exact rfl); (case kD => decide +kernel); (case c2 => exact rfl); (case c3 => exact rfl); (case c4 => exact rfl); k_whole; intro g' L' h' tk' cells' FG' F' N' Y' X' T' l1; (try k_lt l1); k_cells Y'; (try simp only [List.cons_append, List.nil_append] at N'); (try dsimp only); (try k_fold)))
local macro_rules | `(tactic| k_steps) => `(tactic| repeat' ((fail_if_success (with_reducible show wpAny _ _ (subscriptTail _ (PySem.Expr.Slice _ _ (some _) _) _ _) _ _ _)); (fail_if_success (with_reducible show wpAny _ _ (eval (PySem.Expr.ListComp _ _ _ _) _) _ _ _)); (fail_if_success (with_reducible show wpAny _ _ (exec (PySem.Stmt.If (PySem.Expr.BoolOp _ (PySem.Expr.Compare (PySem.Expr.Attribute _ _ _) _ _ _ :: _) _) _ _ _) _) _ _ _)); (first | (k_unfold; (try dsimp only)) | (k_end; wrow_close) | walk1 | (dsimp only; walk1) | (leave1; walk_say "STEP leave1"; try dsimp only) | fail "no step")))
local macro_rules | `(tactic| k_handed) => `(tactic| (apply IsPart.handed; assumption))
local macro_rules | `(tactic| k_handed) => `(tactic| assumption)
local macro_rules | `(tactic| walk_at "compareOp Is") => `(tactic| (k_here; (with_reducible show wpAny _ _ (compareOp CmpOp.Is _ Value.none) _ _ _); refine part_is (by assumption) ?_))
local macro_rules | `(tactic| walk_at "compareOp Eq") => `(tactic| (k_here; (with_reducible show wpAny _ _ (compareOp CmpOp.Eq _ (Value.int 0 _)) _ _ _); refine part_eq0 (by assumption) ?_))
local macro_rules | `(tactic| walk_at "call builtin:len") => `(tactic| (k_here; (with_reducible show wpAny _ _ (call (Value.builtin "len") [Value.ref _]) _ _ _); k_dflt (refine' len_small ?k1 ?k2 ?_; (case k1 => exact News.isList (by k_asm) (by k_mem)); (case k2 => assumption); k_whole)))
local macro_rules | `(tactic| walk_at "And") => `(tactic| ((with_reducible show MethP _ _ _ _ _ ∧ _); refine ⟨?_, ?_⟩))
local macro_rules | `(tactic| k_ne) => `(tactic| (refine neN ?_; (try dsimp only); first | (with_reducible assumption) | (refine Ne.symm ?_; with_reducible assumption) | ((repeat (with_reducible rename (_ ∧ _) ∧ _ => hCj; obtain ⟨_, _⟩ := hCj)); (repeat (with_reducible rename @Ne Nat _ _ ∧ _ => hCj; obtain ⟨_, _⟩ := hCj)); first | (with_reducible assumption) | (refine Ne.symm ?_; with_reducible assumption)) | ((repeat (with_reducible rename @Ne Nat _ _ => hNq; clear hNq)); (repeat (with_reducible rename (_ ∧ _) ∧ _ => hNq; clear hNq)); (repeat (with_reducible rename (@Ne Nat _ _ ∧ _) => hNq; clear hNq)); omega)))
local macro_rules | `(tactic| walk_at "ite") => `(tactic| first | with_reducible refine ite_tt ?_ | with_reducible refine ite_ff ?_ | (k_closed; with_reducible (first | refine ite_neg (by decide +kernel) ?_ | refine ite_pos (by decide +kernel) ?_)))
local macro_rules | `(tactic| walk_at "callWith") => `(tactic| ((with_reducible show wpAny _ _ (callWith _ (Value.builtin _) (_ :: _) (backTo _ (starEach (_ :: _) _)) []) _ _ _); k_dflt (refine PyProof.Rows.callWith_method1 ?_)))
local macro_rules | `(tactic| walk_at "callWith") => `(tactic| ((with_reducible show wpAny _ _ (callWith _ (Value.builtin _) [] (backTo _ (starEach (_ :: _) _)) []) _ _ _); k_dflt (refine PyProof.Rows.callWith_builtin1 ?_)))
local macro_rules | `(tactic| walk_at "callWith ref") => `(tactic| (k_here; (with_reducible show wpAny _ _ (callWith _ (Value.ref _) _ (backTo _ (starEach (_ :: _) _)) []) _ _ _); k_dflt (first
  | (refine' callWith_K ?k1 ?k2 ?_; (case k1 => k_asm); (case k2 => k_is); k_whole)
  | (refine' callWith_M ?k1 ?k2 ?k3 ?k4 ?_; (case k1 => k_asm); (case k2 => k_asm); (case k3 => k_mem); (case k4 => k_is); k_whole))))
local macro_rules | `(tactic| k_in) => `(tactic| first | (with_reducible assumption) | exact Frag.In.keeps (by with_reducible assumption) (Fr.keep (by with_reducible assumption)))
local macro_rules | `(tactic| k_room) => `(tactic| ((with_reducible show (_ : Nat) ≤ _); first | ((simp only [depth_under_make, depth_under_kw, depth_in1, depth_deeper, depth_caller]); first | done | decide) | exact depth_le1 (by with_reducible assumption) (by decide) | exact depth_le0 (by with_reducible assumption) (by decide) | ((try simp only [depth_under_make, depth_under_kw, depth_in1, depth_deeper, depth_caller]); omega)))
local macro_rules | `(tactic| walk_at "eval Name") => `(tactic| (k_here; (with_reducible show wpAny _ _ (eval (PySem.Expr.Name _ _) (compEnvC _ _ _ _)) _ _ _); k_dflt (first
  | (refine' cName_local ?F ?v ?_ ?a ?b; (case F => k_asm); (case a => rfl); (case b => rfl); (case v => first | rfl | (simp only [if_pos]; done) | simp); k_whole)
  | (refine' cName_cell ?N ?c ?m ?d ?_ ?a ?b; (case a => rfl); (case b => rfl); (case N => k_asm); (case c => rfl); (case m => k_mem); (case d => k_asm); k_whole)
  | (refine' cName_free ?N ?c ?m ?d ?_ ?a ?b; (case a => rfl); (case b => rfl); (case N => k_asm); (case c => rfl); (case m => k_mem); (case d => k_asm); k_whole)
  | (refine' cName_glob ?F ?X ?T ?e ?_ ?g ?a ?b; (case F => k_asm); (case X => k_asm); (case T => k_asm); (case g => rfl); (case a => rfl); (case b => rfl); (case e => k_is); k_whole)
  | (refine' cName_boot ?F ?X ?T ?e ?v ?n ?_ ?g ?h ?a ?b; (case F => k_asm); (case X => k_asm); (case T => k_asm); (case g => rfl); (case h => rfl); (case a => rfl); (case b => rfl); (case e => k_is); (case v => boot_fast); (case n => decide); k_whole))))
local macro_rules | `(tactic| walk_at "subscriptTail") => `(tactic| (k_here; (with_reducible show wpAny _ _ (subscriptTail _ _ (Value.ref _) (Value.int (Nat.cast _) _)) _ _ _); k_dflt (refine' item_nat ?k1 ?k2 ?k3 ?_ ?k5; (case k1 => exact News.isList (by k_asm) (by k_mem)); (case k2 => assumption); (case k3 => assumption); (case k5 => with_unfolding_all rfl); k_whole)))
section
theorem colon1 : (Str.ofString ":").cps.size = 1 := by decide +kernel
theorem join_two (a b : Str) : (Txt.join (Str.ofString ":") [a, b]).length = a.length + b.length + 1 := by
  simp [Txt.join, Builtin.Str.glued, Str.length, colon1]
  omega
theorem join_three (a b c : Str) : (Txt.join (Str.ofString ":") [a, b, c]).length = a.length + b.length + c.length + 2 := by
  simp [Txt.join, Builtin.Str.glued, Str.length, colon1]
  omega
theorem truthy_join {prog : Program} {w : World} {A : Around} {E : Value → Shared → Prop} {s : Shared} {x : Str} {t : Tok} {Q : Bool → Shared → Prop} (h1 : 1 ≤ x.length) (h2 : x.length ≤ 16777216) (h : Q true { s with toks := s.toks + 1 + 1 }) : wpAny (model prog w) A (truthy (.str x t)) Q E s := by
  have e : ((x.length : Int) != 0) = true := by
    rw [bne_iff_ne]; omega
  exact P.truthy_str (by omega) (by rw [e]; exact h)
local macro_rules | `(tactic| walk_at "truthy str") => `(tactic| (k_here; (with_reducible show wpAny _ _ (PySem.truthy (Value.str (Txt.join _ _) _)) _ _ _); (refine truthy_join (by (first | rw [join_two] | rw [join_three]); omega) (by (first | rw [join_two] | rw [join_three]); omega) ?_); (try dsimp only)))
local macro_rules | `(tactic| walk_at "call builtin:str.join") => `(tactic| (k_here; (with_reducible show wpAny _ _ (call (Value.builtin "str.join") [Value.str _ _, Value.ref _]) _ _ _); (refine join_listC (News.isList (by k_asm) (by k_mem)) (by ((repeat constructor); first | done | fail "a goal is left")) (by decide +kernel) (by (simp only [List.map_cons, List.map_nil, List.sum_cons, List.sum_nil, List.length_cons, List.length_nil]; omega)) ?_); intro _ _; (try dsimp only)))
theorem mult_norm {M : Model} {A : Around} {E : Value → Shared → Prop} {s : Shared} {x : Value} {a b : Int} {t : Tok} {Q : Value → Shared → Prop} (e : a = b) (h : wpAny M A (binaryOp .Mult x (.int b t)) Q E s) : wpAny M A (binaryOp .Mult x (.int a t)) Q E s := e ▸ h
local macro_rules | `(tactic| walk_at "binaryOp Mult ref int") => `(tactic| (k_here; (with_reducible show wpAny _ _ (binaryOp Operator.Mult (Value.ref _) (Value.int (_ - _) _)) _ _ _); first | refine mult_norm (b := 0) rfl ?_ | refine mult_norm (b := 1) rfl ?_ | refine mult_norm (b := 2) rfl ?_))
local macro_rules | `(tactic| walk_at "assign Tuple") => `(tactic| ((with_reducible show wpAny _ _ (assign (Expr.Tuple _ _ _) _ (Value.ref _)) _ _ _); refine unpackN_ (by assumption) (by assumption) (by assumption) (by assumption) (by rfl) (by rfl) ?_; intro _ _ _))
local macro_rules | `(tactic| walk_at "exec For Tuple Call cons nil") => `(tactic| (k_here; (rename Fr _ _ _ _ => lF'); (with_unfolding_all refine' For_turns lF' ?_; k_whole)))
local macro_rules | `(tactic| k_steps) => `(tactic| repeat' ((fail_if_success (with_reducible show wpAny _ _ (call (Value.type "enumerate") _ _) _ _ _)); (fail_if_success (with_reducible show wpAny _ _ (execs (PySem.Stmt.For _ _ _ _ _ :: _) _) _ _ _)); (fail_if_success (with_reducible show ItemsRest _ _ _ _ _ _ _ _ _ _ _ _ (_ :: _) _ _)); (fail_if_success (with_reducible show NextH _ _ _ _)); (first | (k_unfold; (try dsimp only)) | (k_end; wrow_close) | walk1 | (dsimp only; walk1) | (leave1; walk_say "STEP leave1"; try dsimp only) | fail "no step")))
local macro_rules | `(tactic| walk_at "call type:str") => `(tactic| (k_here; (with_reducible show wpAny _ _ (call (Value.type "str") [Value.int _ _]) _ _ _); refine str_of_int (Nat.lt_trans (log2_small (by omega)) (by decide)) ?_))
local macro_rules | `(tactic| walk_at "eval Name") => `(tactic| (k_here; (with_reducible show wpAny _ _ (eval (PySem.Expr.Name (Str.ofString "elements") _) _) _ _ _); k_dflt (refine' ld ?k1 ?k2 ?_; (case k1 => k_asm); (case k2 => with_reducible assumption); k_whole)))
theorem field_own {prog : Program} {w : World} {A : Around} {E : Value → Shared → Prop} {s : Shared} {x : Str} {t : Tok} {Q : Value → Shared → Prop} (hx : x.length ≤ sizeLine) (h : ∀ t' k, Q (.str x t') { s with toks := k }) : wpAny (model prog w) A (formatField (.str x t) Str.empty) Q E s :=
  wpAny_formatField_str (h t s.toks) (h _ _) hx
theorem colon_len : (Str.ofString ":").length = 1 := by decide +kernel
theorem none_len : (Str.ofString "").length = 0 := by decide +kernel
theorem open_len : (Str.ofString "[").length = 1 := by decide +kernel
theorem close_len : (Str.ofString "]").length = 1 := by decide +kernel
theorem app_len (a b : Str) : (a ++ b).length = a.length + b.length := by
  show (a.cps ++ b.cps).size = _
  rw [Array.size_append]; rfl
theorem empty_len : Str.empty.length = 0 := by decide +kernel
def partT : Option Int → Str
  | none => Str.ofString ""
  | some i => Str.ofString (toString i)
def tailT : Option Int → Str
  | none => Str.ofString ""
  | some i => Str.ofString ":" ++ Str.ofString (toString i)
/-- the slice's text -/
def sliceText (o1 o2 o3 : Option Int) : Str := Str.ofString "[" ++ (partT o1 ++ Str.ofString ":" ++ partT o2 ++ tailT o3) ++ Str.ofString "]"
theorem ret_txt {R : Result → Shared → Prop} {x y : Str} {t : Tok} {s : Shared} (e : x = y) (h : R (.ok (.ret (.str y t))) s) : R (.ok (.ret (.str x t))) s := e ▸ h
theorem app_cps (a b : Str) : (a ++ b).cps = a.cps ++ b.cps := rfl
theorem text3 (a b c : Str) : Str.empty ++ Str.ofString "[" ++ Txt.join (Str.ofString ":") [a, b, c] ++ Str.ofString "]" = Str.ofString "[" ++ (a ++ Str.ofString ":" ++ b ++ (Str.ofString ":" ++ c)) ++ Str.ofString "]" := by
  refine congrArg (· ++ Str.ofString "]") ?_
  show (⟨_⟩ : Str) = ⟨_⟩
  congr 1
  simp [Txt.join, Builtin.Str.glued, Str.empty, app_cps]
theorem text2 (a b : Str) : Str.empty ++ Str.ofString "[" ++ Txt.join (Str.ofString ":") [a, b] ++ Str.ofString "]" = Str.ofString "[" ++ (a ++ Str.ofString ":" ++ b ++ Str.ofString "") ++ Str.ofString "]" := by
  refine congrArg (· ++ Str.ofString "]") ?_
  show (⟨_⟩ : Str) = ⟨_⟩
  congr 1
local macro_rules | `(tactic| walk_at "formatField str") => `(tactic| (k_here; (with_reducible show wpAny _ _ (formatField (Value.str (Txt.join _ _) _) _) _ _ _); (refine field_own (by (first | rw [join_two] | rw [join_three]); unfold sizeLine; omega) ?_); intro _ _; (try dsimp only)))
local macro_rules | `(tactic| walk_at "joinParts") => `(tactic| (k_here; (with_reducible show wpAny _ _ (joinParts _ (evalEach [] _)) _ _ _); (with_reducible refine joinParts_nilE ?_); (with_reducible refine joinParts_nil (hsz := ?hsz) ?_); (case hsz => (simp only [app_len, join_two, join_three, open_len, close_len, empty_len, none_len]; unfold sizeLine; omega)); (try dsimp only)))
local macro_rules | `(tactic| walk_at "And") => `(tactic| ((with_reducible show Str.length _ ≤ sizeLine ∧ _); (refine ⟨by (simp only [app_len, join_two, join_three, open_len, close_len, empty_len, none_len]); unfold sizeLine; omega, ?_⟩)))
/-- what a statement that goes on leaves; no generator is touched -/
def NextH (s : Shared) (Φ : Heap → Prop) (f : Flow) (s' : Shared) : Prop := f = .next ∧ ∃ h' tk, s' = { s with heap := h', toks := tk } ∧ Φ h'
theorem seq_cutH {M : Model} {A : Around} {E : Value → Shared → Prop} {s : Shared} {env : Env} {st : Stmt} {rest : List Stmt} {Q : Flow → Shared → Prop} (Φ : Heap → Prop) (h1 : wpAny M A (exec st env) (NextH s Φ) E s)
    (h2 : ∀ h' tk, Φ h' → wpAny M A (execs rest env) Q E { s with heap := h', toks := tk }) : wpAny M A (execs (st :: rest) env) Q E s :=
  wpAny_execs_cons (wpAny_mono h1 (fun f s' ⟨e, h', tk, e2, hp⟩ => by subst e; subst e2; exact h2 h' tk hp) fun _ _ x => x)
/-- the texts that the loop has gathered -/
inductive Els : Option Int → Option Int → Option Int → List Value → Prop
  | e0 : Els none none none []
  | e1 (i : Int) (t : Tok) : Els (some i) none none [.str (partT (some i)) t]
  | e2 (o1 : Option Int) (i : Int) (t u : Tok) : Els o1 (some i) none [.str (partT o1) t, .str (partT (some i)) u]
  | e3 (o1 o2 : Option Int) (i : Int) (t u v : Tok) : Els o1 o2 (some i) [.str (partT o1) t, .str (partT o2) u, .str (partT (some i)) v]
theorem els_pack {g' h : Heap} {L' sx sdx e : Addr} {m : Str → Option Value} {ox od : Obj} {news : List (Addr × Obj)} {es : Array Value} {nE : Nat} {o1 o2 o3 : Option Int} (F : Fr g' L' h m) (me : m (Str.ofString "elements") = some (.ref e)) (N : News g' L' h news) (s1 : (e, W.listOf es nE) ∈ news) (s2 : (sx, ox) ∈ news) (s3 : (sdx, od) ∈ news)
    (n1 : @Ne Nat sx e) (n2 : @Ne Nat sdx e) (hE : Els o1 o2 o3 es.toList) : ∃ m e nE, ∃ es : Array Value, Fr g' L' h m ∧ m (Str.ofString "elements") = some (.ref e) ∧ News g' L' h [(e, W.listOf es nE), (sx, ox), (sdx, od)] ∧ @Ne Nat sx e ∧ @Ne Nat sdx e ∧ Els o1 o2 o3 es.toList :=
  ⟨m, e, nE, es, F, me, News.pick N ⟨s1, s2, s3, trivial⟩, n1, n2, hE⟩
theorem partT_len {o : Option Int} (b : (o.getD 0).natAbs < 1000000) : (partT o).length ≤ 1000002 := by
  cases o with
  | none => exact Nat.le_trans (Nat.le_of_eq none_len) (by decide)
  | some i =>
    have h := len_str_of_int i
    rw [Option.getD_some] at b
    show (Str.ofString (toString i)).length ≤ 1000002
    omega
section
variable {w : World} {A : Around} {E : Value → Shared → Prop} {s : Shared} {g : Heap} {p : Program} {loose : List Str} {mg mb : Str → Option Value}
set_option pp.deepTerms false
set_option pp.deepTerms.threshold 7
set_option pp.maxSteps 15000
set_option maxHeartbeats 40000000 in
/-- str(slice_) -/
theorem slice_str {sx sdx : Addr} {k0 k1 k2 k3 : Tok} {dep : Bool} {v1 v2 v3 : Value} {o1 o2 o3 : Option Int} {R : Result → Shared → Prop} (G : Up g s.heap) (X : (hd.heap_39 w.params).In g) (T : TopRead p loose mg mb g) (hd : A.depth ≤ 430)
    (hh : A.handled = none) (p1 : IsPart v1 o1) (p2 : IsPart v2 o2) (p3 : IsPart v3 o3) (b1 : (o1.getD 0).natAbs < 1000000) (b2 : (o2.getD 0).natAbs < 1000000) (b3 : (o3.getD 0).natAbs < 1000000)
    (hO : Has g s.heap [(sx, instObj 726 sdx), (sdx, dictOf [⟨PyData.keyHash w.params "_deprecated_wildcard_use", .str "_deprecated_wildcard_use" k0, .bool dep⟩, ⟨PyData.keyHash w.params "start", .str "start" k1, v1⟩, ⟨PyData.keyHash w.params "end", .str "end" k2, v2⟩, ⟨PyData.keyHash w.params "step", .str "step" k3, v3⟩] 4)])
    (hQ : ∀ t h' tk, Up s.heap h' → R (.ok (.ret (.str (sliceText o1 o2 o3) t))) { s with heap := h', toks := tk }) :
    codeAny (model PR w) A (.call (.ref 709) ⟨[.ref sx], []⟩) R s := by
  refine' enterF G X T hO ?k6 ?k7 ?k8 ?k9 ?kB ?_ ?c2 ?c3 ?c4 ?c5
  (case k6 => k_is)
  (case k7 => k_is)
  (case k8 => k_room)
  (case k9 => exact BindsTo.of_eq rfl)
  (case kB => exact locs rfl)
  (case c2 => exact rfl)
  (case c3 => exact rfl)
  (case c4 => exact rfl)
  (case c5 => decide)
  intro g' L' h' hkeep hUp F' N' X' T' l3
  k_lt l3
  (try dsimp only)
  (try k_unmd); (try k_fold)
  k_steps
  (rename Fr _ _ _ _ => lF'); (rename News _ _ _ _ => nN')
  refine seq_cutH (fun h => ∃ m e nE, ∃ es : Array Value, Fr g' L' h m ∧ m (Str.ofString "elements") = some (.ref e) ∧ News g' L' h [(e, W.listOf es nE), (sx, instObj 726 sdx), (sdx, dictOf [⟨PyData.keyHash w.params "_deprecated_wildcard_use", .str "_deprecated_wildcard_use" k0, .bool dep⟩, ⟨PyData.keyHash w.params "start", .str "start" k1, v1⟩, ⟨PyData.keyHash w.params "end", .str "end" k2, v2⟩, ⟨PyData.keyHash w.params "step", .str "step" k3, v3⟩] 4)] ∧ @Ne Nat sx e ∧ @Ne Nat sdx e ∧ Els o1 o2 o3 es.toList) ?loop ?_
  case loop =>
    k_steps
    (rename Fr _ _ _ _ => lF'); (rename News _ _ _ _ => nN')
    refine enumT_turns (vs := [v1, v2, v3]) (by exact hh) lF' nN' (by k_mem) ?_; clear lF'; intro i' l1; (try k_lt l1)
    rw [show enumItems 0 [v1, v2, v3] = [Itm.pair (fun t => Value.int (0 : Int) t) v1, Itm.pair (fun t => Value.int (1 : Int) t) v2, Itm.pair (fun t => Value.int (2 : Int) t) v3] from rfl]
    have hE0 : (Str.ofString "").length = 0 := by decide +kernel
    rcases p1 with _ | ⟨i1, t1⟩
    all_goals
      (try dsimp only [Option.getD] at b1)
      (try have hL1 := len_str_of_int i1)
      walk1
      k_steps
      rcases p2 with _ | ⟨i2, t2⟩
    all_goals
      (try dsimp only [Option.getD] at b2)
      (try have hL2 := len_str_of_int i2)
      walk1
      k_steps
      rcases p3 with _ | ⟨i3, t3⟩
    all_goals
      (try dsimp only [Option.getD] at b3)
      (try have hL3 := len_str_of_int i3)
      walk1
      k_steps
      (with_reducible rename Fr _ _ _ _ => F9); (with_reducible rename News _ _ _ _ => N9)
      exact ⟨rfl, _, _, rfl, els_pack F9 (by (repeat (refine (if_neg (by decide +kernel)).trans ?_)); exact if_pos rfl) N9 (by k_mem) (by k_mem) (by k_mem) (by k_ne) (by k_ne) (by first | exact .e0 | exact .e1 _ _ | exact .e2 _ _ _ _ | exact .e3 _ _ _ _ _ _)⟩
  rintro h9 tk9 ⟨m9, e9, nE, ⟨es⟩, F9, me, N9, ne1, ne2, hE⟩
  replace hE : Els o1 o2 o3 es := hE
  have hL1 := partT_len b1
  have hL2 := partT_len b2
  have hL3 := partT_len b3
  have hE0 : (Str.ofString "").length = 0 := by decide +kernel
  clear lF' nN'
  cases hE
  all_goals
    (try k_unmd); (try k_fold)
    k_steps
    (with_reducible rename Fr _ _ _ _ => F8); (with_reducible rename News _ _ _ _ => N8)
    have U0 := up_mix (new := []) (fun _ _ e => e) hO Has.nil hkeep F8 N8 ⟨by k_mem, by k_mem, trivial⟩
    clear F8 N8
  · exact ret_txt (by decide +kernel) (hQ _ _ _ U0)
  · exact ret_txt (text2 _ _) (hQ _ _ _ U0)
  · exact ret_txt (text2 _ _) (hQ _ _ _ U0)
  · exact ret_txt (text3 _ _ _) (hQ _ _ _ U0)
end
end
section
abbrev PR := PySem.Challenge.rw_bm0006_01.row.prog
abbrev tupObj (vs : List Value) : Obj := { cls := .type "tuple", data := .seq vs.toArray }
section
variable {w : World} {A : Around} {E : Value → Shared → Prop} {s : Shared} {g : Heap} {p : Program} {loose : List Str} {mg mb : Str → Option Value}
set_option maxHeartbeats 4000000 in
/-- Index(v) -/
theorem index_new {v : Value} {R : Result → Shared → Prop} (G : Up g s.heap) (X : (hd.heap_39 w.params).In g) (T : TopRead p loose mg mb g) (hd : A.depth ≤ 440)
    (hQ : ∀ x dx t k1 h' tk, Up s.heap h' → Has s.heap h' [(x, instObj 657 dx), (dx, dictOf [⟨PyData.keyHash w.params "indices", .str "indices" k1, .ref t⟩] 1), (t, tupObj [v])] → R (.ok (.ret (.ref x))) { s with heap := h', toks := tk }) :
    codeAny (model PR w) A (.call (.ref 657) ⟨[v], []⟩) R s := by
  refine makeF G X (by k_is) (by k_is) (by k_is) fun x dx h1 U1 H1 l1 l2 => ?_
  refine' enterFV (vs := [v]) (bs := fun t => [("self", .ref x), ("indices", t)]) U1 (X.keeps G) (T.keeps G) H1 ?k6 ?k7 ?k8 ?k9 ?kB (Nat.le_of_ble_eq_true rfl) ?_ ?c2 ?c3 ?c4 ?c5
  (case k6 => k_is)
  (case k7 => k_is)
  (case k8 => k_room)
  (case k9 => rfl)
  (case kB => intro t; exact locs rfl)
  (case c2 => exact rfl)
  (case c3 => exact rfl)
  (case c4 => exact rfl)
  (case c5 => decide)
  intro D g' L' h' hkeep hUp hD F' N' X' T' l3
  k_lt l3; k_lt2 l1
  dsimp only
  (try k_unmd); (try k_fold)
  k_steps
  (with_reducible rename Fr _ _ _ _ => F9); (with_reducible rename News _ _ _ _ => N9)
  refine' And.intro rfl (hQ x dx D _ _ _ ?u ?v)
  case v => exact has_mix (old := []) U1 H1 hkeep N9 ⟨by k_mem, by k_mem, by k_mem, trivial⟩ Apart.nil
  case u => exact up_mix (g := s.heap) (old := []) U1 Has.nil H1 hkeep F9 N9 trivial

set_option maxHeartbeats 4000000 in
/-- DatumInContext(v) -/
theorem dic1 {v : Value} {R : Result → Shared → Prop} (G : Up g s.heap) (X : (hd.heap_39 w.params).In g) (T : TopRead p loose mg mb g) (hd : A.depth ≤ 440)
    (hQ : ∀ x dx t dt k1 k2 k3 h' tk, Up s.heap h' → Has s.heap h' [(x, instObj 212 dx), (dx, dictOf [⟨PyData.keyHash w.params "_value", .str "_value" k1, v⟩, ⟨PyData.keyHash w.params "path", .str "path" k2, .ref t⟩, ⟨PyData.keyHash w.params "context", .str "context" k3, .none⟩] 3),
        (t, instObj 336 dt), (dt, dictOf [] 0)] → R (.ok (.ret (.ref x))) { s with heap := h', toks := tk }) :
    codeAny (model PR w) A (.call (.ref 212) ⟨[v], []⟩) R s := by
  refine makeF G X (by k_is) (by k_is) (by k_is) fun x dx h1 U1 H1 l1 l2 => ?_
  refine' enterF U1 (X.keeps G) (T.keeps G) H1 ?k6 ?k7 ?k8 ?k9 ?kB ?_ ?c2 ?c3 ?c4 ?c5
  (case k6 => k_is)
  (case k7 => k_is)
  (case k8 => k_room)
  (case k9 => exact binds_K (X.keeps (G.trans U1)) rfl (by k_is) rfl rfl rfl)
  (case kB => exact locs rfl)
  (case c2 => exact rfl)
  (case c3 => exact rfl)
  (case c4 => exact rfl)
  (case c5 => decide)
  intro g' L' h' hkeep hUp F' N' X' T' l3
  k_lt l3; k_lt2 l1
  dsimp only
  (try k_unmd); (try k_fold)
  k_steps
  (with_reducible rename Fr _ _ _ _ => F9); (with_reducible rename News _ _ _ _ => N9)
  refine' And.intro rfl (hQ x dx _ _ _ _ _ _ _ ?u ?v)
  case v => exact has_mix (old := []) U1 H1 hkeep N9 ⟨by k_mem, by k_mem, by k_mem, by k_mem, trivial⟩ Apart.nil
  case u => exact up_mix (g := s.heap) (old := []) U1 Has.nil H1 hkeep F9 N9 trivial

set_option maxHeartbeats 4000000 in
/-- DatumInContext(v, path=px, context=cx) -/
theorem dic3 {v : Value} {px dpx cx dcx : Addr} {ep ec : List DictEntry} {np nc : Nat} {R : Result → Shared → Prop} (G : Up g s.heap) (X : (hd.heap_39 w.params).In g) (T : TopRead p loose mg mb g) (hd : A.depth ≤ 440)
    (hO : Has g s.heap [(px, instObj 657 dpx), (dpx, dictOf ep np), (cx, instObj 212 dcx), (dcx, dictOf ec nc)])
    (hQ : ∀ x dx k1 k2 k3 h' tk, Up s.heap h' → Has s.heap h' [(x, instObj 212 dx), (dx, dictOf [⟨PyData.keyHash w.params "_value", .str "_value" k1, v⟩, ⟨PyData.keyHash w.params "path", .str "path" k2, .ref px⟩, ⟨PyData.keyHash w.params "context", .str "context" k3, .ref cx⟩] 3)] →
        R (.ok (.ret (.ref x))) { s with heap := h', toks := tk }) :
    codeAny (model PR w) A (.call (.ref 212) ⟨[v], [("path", .ref px), ("context", .ref cx)]⟩) R s := by
  refine makeF G X (by k_is) (by k_is) (by k_is) fun x dx h1 U1 H1 l1 l2 => ?_
  have p1 := l2 _ _ (hO _ (.head _)).1
  have p2 := l2 _ _ (hO _ (.tail _ (.head _))).1
  have p3 := l2 _ _ (hO _ (.tail _ (.tail _ (.head _)))).1
  have p4 := l2 _ _ (hO _ (.tail _ (.tail _ (.tail _ (.head _))))).1
  refine' enterF (G.trans U1) X T ((H1.low G).app (hO.up U1)) ?k6 ?k7 ?k8 ?k9 ?kB ?_ ?c2 ?c3 ?c4 ?c5
  (case k6 => k_is)
  (case k7 => k_is)
  (case k8 => k_room)
  (case k9 => first | exact BindsTo.of_eq rfl | exact binds_K (X.keeps (G.trans U1)) rfl (by k_is) rfl rfl rfl)
  (case kB => exact locs rfl)
  (case c2 => exact rfl)
  (case c3 => exact rfl)
  (case c4 => exact rfl)
  (case c5 => decide)
  intro g' L' h' hkeep hUp F' N' X' T' l3
  simp only [List.cons_append, List.nil_append] at N'
  clear l3
  k_lt2 l1; k_lt2 p1; k_lt2 p2; k_lt2 p3; k_lt2 p4
  dsimp only
  (try k_unmd); (try k_fold)
  k_steps
  (with_reducible rename Fr _ _ _ _ => F9); (with_reducible rename News _ _ _ _ => N9)
  refine' And.intro rfl (hQ x dx _ _ _ _ _ ?u ?v)
  case v =>
    refine has_mix (old := [(px, instObj 657 dpx), (dpx, dictOf ep np), (cx, instObj 212 dcx), (dcx, dictOf ec nc)]) U1 H1 hkeep N9 ⟨by k_mem, by k_mem, trivial⟩ ?_
    intro q hq p hp
    have h1 : q.1 = x ∨ q.1 = dx := by rcases hq with _ | ⟨_, hq⟩; exact .inl rfl; rcases hq with _ | ⟨_, hq⟩; exact .inr rfl; cases hq
    have h2 : p.1 < dx := l2 _ _ (hO p hp).1
    rcases h1 with h1 | h1 <;> rw [h1] <;> intro e <;> rw [← e] at h2
    · exact absurd (Nat.lt_trans h2 l1) (Nat.lt_irrefl _)
    · exact absurd h2 (Nat.lt_irrefl _)
  case u => exact up_mix (old := [(px, instObj 657 dpx), (dpx, dictOf ep np), (cx, instObj 212 dcx), (dcx, dictOf ec nc)]) U1 hO H1 hkeep F9 N9 ⟨by k_mem, by k_mem, by k_mem, by k_mem, trivial⟩
end
theorem kw_on {M : Model} {A : Around} {c : Value} {a : List Value} {kw kw' : List (Str × Value)} {Q : Value → Shared → Prop} {E : Value → Shared → Prop} {s : Shared} (e : kw = kw') (h : wpAny M A (call c a kw') Q E s) : wpAny M A (call c a kw) Q E s := e ▸ h
end
/- the text's makers, told once -/
local macro_rules | `(tactic| walk_at "call ref") => `(tactic| (k_here; (with_reducible show wpAny _ _ (call (Value.ref 212) [_] []) _ _ _); (with_reducible rename Fr _ _ _ _ => F9); (with_reducible rename News _ _ _ _ => N9); k_dflt (refine' wpAny_call (dic1 (fun b o e => Fr.keep F9 b o e) ?X ?T ?d ?_); (case X => k_asm); (case T => k_asm); (case d => k_room)); k_whole; intro x' d' t' e' k1 k2 k3 h' tk' U' H'; (have N8 := News.add F9 N9 U' H'); (have A8 := apart_news H' N9); (simp only [ApartL, NeAll, and_true] at A8); (have F8 := Fr.keeps F9 U'); (simp only [List.cons_append, List.nil_append] at N8); (try ((with_reducible rename Since _ _ _ => S9); (have S8 := Since.step S9 U' H'); clear S9)); clear F9 N9; (try dsimp only); (try k_unmd); (try k_fold)))
local macro_rules | `(tactic| walk_at "call ref") => `(tactic| (k_here; (with_reducible show wpAny _ _ (call (Value.ref 657) [_] []) _ _ _); (with_reducible rename Fr _ _ _ _ => F9); (with_reducible rename News _ _ _ _ => N9); k_dflt (refine' wpAny_call (index_new (fun b o e => Fr.keep F9 b o e) ?X ?T ?d ?_); (case X => k_asm); (case T => k_asm); (case d => k_room)); k_whole; intro x' d' t' k1 h' tk' U' H'; (have N8 := News.add F9 N9 U' H'); (have A8 := apart_news H' N9); (simp only [ApartL, NeAll, and_true] at A8); (have F8 := Fr.keeps F9 U'); (simp only [List.cons_append, List.nil_append] at N8); (try ((with_reducible rename Since _ _ _ => S9); (have S8 := Since.step S9 U' H'); clear S9)); clear F9 N9; (try dsimp only); (try k_unmd); (try k_fold)))
local macro_rules | `(tactic| walk_at "call ref") => `(tactic| (k_here; (with_reducible show wpAny _ _ (call (Value.ref 212) _ _) _ _ _); (refine' kw_on (kw' := [("path", Value.ref _), ("context", Value.ref _)]) (by with_unfolding_all rfl) ?_); (with_reducible rename Fr _ _ _ _ => F9); (with_reducible rename News _ _ _ _ => N9); k_dflt (refine' wpAny_call (dic3 (fun b o e => Fr.keep F9 b o e) ?X ?T ?d (Has.of_news N9 (AllMem.sub ?S)) ?_); (case X => k_asm); (case T => k_asm); (case d => k_room); (case S => exact ⟨by k_mem, by k_mem, by k_mem, by k_mem, trivial⟩)); k_whole; intro x' d' k1 k2 k3 h' tk' U' H'; (have N8 := News.add F9 N9 U' H'); (have A8 := apart_news H' N9); (simp only [ApartL, NeAll, and_true] at A8); (have F8 := Fr.keeps F9 U'); (simp only [List.cons_append, List.nil_append] at N8); (try ((with_reducible rename Since _ _ _ => S9); (have S8 := Since.step S9 U' H'); clear S9)); clear F9 N9; (try dsimp only); (try k_unmd); (try k_fold)))
section
section
variable {w : World} {A : Around} {E : Value → Shared → Prop} {s : Shared} {g : Heap} {p : Program} {loose : List Str} {mg mb : Str → Option Value}
set_option pp.deepTerms false
set_option pp.deepTerms.threshold 7
set_option pp.maxSteps 15000
set_option maxHeartbeats 4000000 in
/-- _law_bound(n) -/
theorem law_bound {n : Int} {t : Tok} {R : Result → Shared → Prop} (G : Up g s.heap) (X : (hd.heap_39 w.params).In g) (T : TopRead p loose mg mb g) (hd : A.depth ≤ 430)
    (hQ : ∀ v o h' tk, IsPart v o → (o.getD 0).natAbs ≤ 10 → Up s.heap h' → R (.ok (.ret v)) { s with heap := h', toks := tk }) :
    codeAny (model PR w) A (.call (.ref 766) ⟨[.int n t], []⟩) R s := by
  refine' enterF G X T (Has.nil : Has g s.heap []) ?k6 ?k7 ?k8 ?k9 ?kB ?_ ?c2 ?c3 ?c4 ?c5
  (case k6 => k_is)
  (case k7 => k_is)
  (case k8 => k_room)
  (case k9 => exact BindsTo.of_eq rfl)
  (case kB => exact locs rfl)
  (case c2 => exact rfl)
  (case c3 => exact rfl)
  (case c4 => exact rfl)
  (case c5 => decide)
  intro g' L' h' hkeep hUp F' N' X' T' l3
  (try dsimp only)
  (try k_unmd); (try k_fold)
  k_steps
  all_goals (with_reducible rename Fr _ _ _ _ => F9)
  all_goals (with_reducible rename News _ _ _ _ => N9)
  · exact hQ .none none _ _ .none (by decide) (up_mix (g := g) (old := []) (new := []) (fun _ _ e => e) Has.nil Has.nil hkeep F9 N9 trivial)
  · refine hQ (.int ((n.fdiv 4).fmod 21 - 10) _) (some ((n.fdiv 4).fmod 21 - 10)) _ _ (.int _ _) ?_ (up_mix (g := g) (old := []) (new := []) (fun _ _ e => e) Has.nil Has.nil hkeep F9 N9 trivial)
    have h1 := Int.fmod_nonneg_of_pos (n.fdiv 4) (b := 21) (by decide)
    have h2 := Int.fmod_lt_of_pos (n.fdiv 4) (b := 21) (by decide)
    rw [Option.getD_some]
    omega
set_option maxHeartbeats 4000000 in
/-- _law_at(script, k, other) -/
theorem law_at {l : Addr} {vs : List Value} {ns : List Int} {k d : Int} {t u : Tok} {R : Result → Shared → Prop} (G : Up g s.heap) (X : (hd.heap_39 w.params).In g) (T : TopRead p loose mg mb g) (hd : A.depth ≤ 430)
    (hL : g.IsList l vs.toArray) (hI : IntsAre vs ns) (hz : ns.length ≤ 63) (h0 : 0 ≤ k) (h1 : k < 1000)
    (hQ : ∀ x t h' tk, Up s.heap h' → R (.ok (.ret (.int x t))) { s with heap := h', toks := tk }) :
    codeAny (model PR w) A (.call (.ref 759) ⟨[.ref l, .int k t, .int d u], []⟩) R s := by
  refine' enterF G X T (Has.nil : Has g s.heap []) ?k6 ?k7 ?k8 ?k9 ?kB ?_ ?c2 ?c3 ?c4 ?c5
  (case k6 => k_is)
  (case k7 => k_is)
  (case k8 => k_room)
  (case k9 => exact BindsTo.of_eq rfl)
  (case kB => exact locs rfl)
  (case c2 => exact rfl)
  (case c3 => exact rfl)
  (case c4 => exact rfl)
  (case c5 => decide)
  intro g' L' h' hkeep hUp F' N' X' T' l3
  have hL' : g'.IsList l vs.toArray := hL.at fun o e => hUp l o e
  (try dsimp only)
  (try k_unmd); (try k_fold)
  k_steps
  all_goals
    (with_reducible rename Fr _ _ _ _ => F9); (with_reducible rename News _ _ _ _ => N9)
    exact hQ _ _ _ _ (up_mix (g := g) (old := []) (new := []) (fun _ _ e => e) Has.nil Has.nil hkeep F9 N9 trivial)
set_option maxHeartbeats 4000000 in
/-- Slice(start, end, step) -/
theorem slice_new {v1 v2 v3 : Value} {o1 o2 o3 : Option Int} {R : Result → Shared → Prop} (G : Up g s.heap) (X : (hd.heap_39 w.params).In g) (T : TopRead p loose mg mb g) (hd : A.depth ≤ 430) (p1 : IsPart v1 o1) (p2 : IsPart v2 o2) (p3 : IsPart v3 o3)
    (hne : ¬ (o1.isNone = true ∧ o2.isNone = true ∧ o3.isNone = true))
    (hQ : ∀ x dx k0 k1 k2 k3 h' tk, Up s.heap h' → Has s.heap h' [(x, instObj 726 dx), (dx, dictOf [⟨PyData.keyHash w.params "_deprecated_wildcard_use", .str "_deprecated_wildcard_use" k0, .bool false⟩, ⟨PyData.keyHash w.params "start", .str "start" k1, v1⟩, ⟨PyData.keyHash w.params "end", .str "end" k2, v2⟩, ⟨PyData.keyHash w.params "step", .str "step" k3, v3⟩] 4)] → R (.ok (.ret (.ref x))) { s with heap := h', toks := tk }) :
    codeAny (model PR w) A (.call (.ref 726) ⟨[v1, v2, v3], []⟩) R s := by
  refine makeF G X (by k_is) (by k_is) (by k_is) fun x dx h1 U1 H1 l1 l2 => ?_
  refine' enterF U1 (X.keeps G) (T.keeps G) H1 ?k6 ?k7 ?k8 ?k9 ?kB ?_ ?c2 ?c3 ?c4 ?c5
  (case k6 => k_is)
  (case k7 => k_is)
  (case k8 => k_room)
  (case k9 => first | exact BindsTo.of_eq rfl | exact binds_K (X.keeps (G.trans U1)) rfl (by k_is) rfl rfl rfl)
  (case kB => exact locs rfl)
  (case c2 => exact rfl)
  (case c3 => exact rfl)
  (case c4 => exact rfl)
  (case c5 => decide)
  intro g' L' h' hkeep hUp F' N' X' T' l3
  k_lt l3; k_lt2 l1
  dsimp only
  (try k_unmd); (try k_fold)
  k_steps
  all_goals (with_reducible rename Fr _ _ _ _ => F9)
  all_goals (with_reducible rename News _ _ _ _ => N9)
  · have e3 : o3.isNone = false := by
      cases h : o3.isNone with
      | false => rfl
      | true => exact absurd ⟨by assumption, by assumption, h⟩ hne
    rw [e3] at N9
    refine' And.intro rfl (hQ x dx _ _ _ _ _ _ ?u ?v)
    case v => exact has_mix (old := []) U1 H1 hkeep N9 ⟨by k_mem, by k_mem, trivial⟩ Apart.nil
    case u => exact up_mix (g := s.heap) (old := []) U1 Has.nil H1 hkeep F9 N9 trivial
  · rename o2.isNone = false => e3
    rw [e3] at N9
    refine' And.intro rfl (hQ x dx _ _ _ _ _ _ ?u ?v)
    case v => exact has_mix (old := []) U1 H1 hkeep N9 ⟨by k_mem, by k_mem, trivial⟩ Apart.nil
    case u => exact up_mix (g := s.heap) (old := []) U1 Has.nil H1 hkeep F9 N9 trivial
  · rename o1.isNone = false => e3
    rw [e3] at N9
    refine' And.intro rfl (hQ x dx _ _ _ _ _ _ ?u ?v)
    case v => exact has_mix (old := []) U1 H1 hkeep N9 ⟨by k_mem, by k_mem, trivial⟩ Apart.nil
    case u => exact up_mix (g := s.heap) (old := []) U1 Has.nil H1 hkeep F9 N9 trivial
set_option maxHeartbeats 4000000 in
/-- Slice() -/
theorem slice_new0 {R : Result → Shared → Prop} (G : Up g s.heap) (X : (hd.heap_39 w.params).In g) (T : TopRead p loose mg mb g) (hd : A.depth ≤ 430)
    (hQ : ∀ x dx k0 k1 k2 k3 h' tk, Up s.heap h' → Has s.heap h' [(x, instObj 726 dx), (dx, dictOf [⟨PyData.keyHash w.params "_deprecated_wildcard_use", .str "_deprecated_wildcard_use" k0, .bool true⟩, ⟨PyData.keyHash w.params "start", .str "start" k1, .none⟩, ⟨PyData.keyHash w.params "end", .str "end" k2, .none⟩, ⟨PyData.keyHash w.params "step", .str "step" k3, .none⟩] 4)] → R (.ok (.ret (.ref x))) { s with heap := h', toks := tk }) :
    codeAny (model PR w) A (.call (.ref 726) ⟨[], []⟩) R s := by
  refine makeF G X (by k_is) (by k_is) (by k_is) fun x dx h1 U1 H1 l1 l2 => ?_
  refine' enterF U1 (X.keeps G) (T.keeps G) H1 ?k6 ?k7 ?k8 ?k9 ?kB ?_ ?c2 ?c3 ?c4 ?c5
  (case k6 => k_is)
  (case k7 => k_is)
  (case k8 => k_room)
  (case k9 => first | exact BindsTo.of_eq rfl | exact binds_K (X.keeps (G.trans U1)) rfl (by k_is) rfl rfl rfl)
  (case kB => exact locs rfl)
  (case c2 => exact rfl)
  (case c3 => exact rfl)
  (case c4 => exact rfl)
  (case c5 => decide)
  intro g' L' h' hkeep hUp F' N' X' T' l3
  k_lt l3; k_lt2 l1
  dsimp only
  (try k_unmd); (try k_fold)
  k_steps
  all_goals
    (with_reducible rename Fr _ _ _ _ => F9); (with_reducible rename News _ _ _ _ => N9)
    refine' And.intro rfl (hQ x dx _ _ _ _ _ _ ?u ?v)
    case v => exact has_mix (old := []) U1 H1 hkeep N9 ⟨by k_mem, by k_mem, trivial⟩ Apart.nil
    case u => exact up_mix (g := s.heap) (old := []) U1 Has.nil H1 hkeep F9 N9 trivial
set_option maxHeartbeats 4000000 in
/-- Slice._compliant_constructor() -/
theorem slice_cc {R : Result → Shared → Prop} (G : Up g s.heap) (X : (hd.heap_39 w.params).In g) (T : TopRead p loose mg mb g) (hd : A.depth ≤ 430)
    (hQ : ∀ x dx k0 k1 k2 k3 h' tk, Up s.heap h' → Has s.heap h' [(x, instObj 726 dx), (dx, dictOf [⟨PyData.keyHash w.params "_deprecated_wildcard_use", .str "_deprecated_wildcard_use" k0, .bool false⟩, ⟨PyData.keyHash w.params "start", .str "start" k1, .none⟩, ⟨PyData.keyHash w.params "end", .str "end" k2, .none⟩, ⟨PyData.keyHash w.params "step", .str "step" k3, .none⟩] 4)] → R (.ok (.ret (.ref x))) { s with heap := h', toks := tk }) :
    codeAny (model PR w) A (.call (.ref 682) ⟨[.ref 726], []⟩) R s := by
  refine' enterF G X T (Has.nil : Has g s.heap []) ?k6 ?k7 ?k8 ?k9 ?kB ?_ ?c2 ?c3 ?c4 ?c5
  (case k6 => k_is)
  (case k7 => k_is)
  (case k8 => k_room)
  (case k9 => first | exact BindsTo.of_eq rfl | exact binds_K (X.keeps G) rfl (by k_is) rfl rfl rfl)
  (case kB => exact locs rfl)
  (case c2 => exact rfl)
  (case c3 => exact rfl)
  (case c4 => exact rfl)
  (case c5 => decide)
  intro g' L' h' hkeep hUp F' N' X' T' l3
  (try dsimp only)
  (try k_unmd); (try k_fold)
  k_steps
  (with_reducible rename Fr _ _ _ _ => F9); (with_reducible rename News _ _ _ _ => N9)
  refine' hQ _ _ _ _ _ _ _ _ ?u ?v
  case v => exact has_mix (old := []) (new := []) (fun _ _ e => e) Has.nil hkeep N9 ⟨by k_mem, by k_mem, trivial⟩ Apart.nil
  case u => exact up_mix (g := s.heap) (old := []) (new := []) (fun _ _ e => e) Has.nil Has.nil hkeep F9 N9 trivial
end
end
local macro_rules | `(tactic| walk_at "call ref") => `(tactic| (k_here; (with_reducible show wpAny _ _ (call (Value.ref 766) [_] []) _ _ _); (with_reducible rename Fr _ _ _ _ => F9); (with_reducible rename News _ _ _ _ => N9); k_dflt (refine' wpAny_call (law_bound (fun b o e => Fr.keep F9 b o e) ?X ?T ?d ?_); (case X => k_asm); (case T => k_asm); (case d => k_room)); k_whole; intro v' o' h' tk' P' b' U'; (have N8 := News.grown N9 U'); (have F8 := Fr.keeps F9 U'); (try (refine handed_on (by first | rfl | k_handed) ?_; try dsimp only)); clear F9 N9; (try dsimp only); (try k_unmd); (try k_fold)))
local macro_rules | `(tactic| walk_at "call ref") => `(tactic| (k_here; (with_reducible show wpAny _ _ (call (Value.ref 726) [_, _, _] []) _ _ _); (with_reducible rename Fr _ _ _ _ => F9); (with_reducible rename News _ _ _ _ => N9); k_dflt (refine' wpAny_call (slice_new (fun b o e => Fr.keep F9 b o e) ?X ?T ?d ?p1 ?p2 ?p3 ?ne ?_); (case X => k_asm); (case T => k_asm); (case p1 => assumption); (case p2 => assumption); (case p3 => assumption); (case ne => assumption); (case d => k_room)); k_whole; intro x' d' k0 k1 k2 k3 h' tk' U' H'; (have N8 := News.add F9 N9 U' H'); (have A8 := apart_news H' N9); (simp only [ApartL, NeAll, and_true] at A8); (have F8 := Fr.keeps F9 U'); (simp only [List.cons_append, List.nil_append] at N8); clear F9 N9; (try dsimp only); (try k_unmd); (try k_fold)))
local macro_rules | `(tactic| walk_at "call ref") => `(tactic| (k_here; (with_reducible show wpAny _ _ (call (Value.ref 726) [] []) _ _ _); (with_reducible rename Fr _ _ _ _ => F9); (with_reducible rename News _ _ _ _ => N9); k_dflt (refine' wpAny_call (slice_new0 (fun b o e => Fr.keep F9 b o e) ?X ?T ?d ?_); (case X => k_asm); (case T => k_asm); (case d => k_room)); k_whole; intro x' d' k0 k1 k2 k3 h' tk' U' H'; (have N8 := News.add F9 N9 U' H'); (have A8 := apart_news H' N9); (simp only [ApartL, NeAll, and_true] at A8); (have F8 := Fr.keeps F9 U'); (simp only [List.cons_append, List.nil_append] at N8); clear F9 N9; (try dsimp only); (try k_unmd); (try k_fold)))
local macro_rules | `(tactic| k_enter) => `(tactic| ((with_reducible show codeAny _ _ (PySem.Code.call (Value.ref 682) _) _ _); (with_reducible rename Fr _ _ _ _ => F9); (with_reducible rename News _ _ _ _ => N9); (refine' slice_cc (fun b o e => Fr.keep F9 b o e) ?X ?T ?d ?_; (case X => k_asm); (case T => k_asm); (case d => k_room)); k_whole; intro x' d' k0 k1 k2 k3 h' tk' U' H'; (have N8 := News.add F9 N9 U' H'); (have A8 := apart_news H' N9); (simp only [ApartL, NeAll, and_true] at A8); (have F8 := Fr.keeps F9 U'); (simp only [List.cons_append, List.nil_append] at N8); clear F9 N9; (try dsimp only); (try k_unmd); (try k_fold)))
local macro_rules | `(tactic| walk_at "call ref") => `(tactic| (k_here; (with_reducible show wpAny _ _ (call (Value.ref 759) [Value.ref _, Value.int _ _, Value.int _ _] []) _ _ _); (with_reducible rename Fr _ _ _ _ => F9); (with_reducible rename News _ _ _ _ => N9); k_dflt (refine' wpAny_call (law_at (fun b o e => Fr.keep F9 b o e) ?X ?T ?d ?L ?I ?z ?h0 ?h1 ?_); (case X => k_asm); (case T => k_asm); (case L => assumption); (case I => assumption); (case z => assumption); (case h0 => first | decide | omega); (case h1 => first | decide | omega); (case d => k_room)); k_whole; intro x' t' h' tk' U'; (have N8 := News.grown N9 U'); (have F8 := Fr.keeps F9 U'); (try ((with_reducible rename Since _ _ _ => S9); (have S8 := Since.step0 S9 U'); clear S9)); clear F9 N9; (try dsimp only); (try k_unmd); (try k_fold)))
section
section
variable {w : World} {A : Around} {E : Value → Shared → Prop} {s : Shared} {g : Heap} {p : Program} {loose : List Str} {mg mb : Str → Option Value}
abbrev datE (w : World) (x dx : Addr) (k1 k2 k3 : Tok) (v q c : Value) : List (Addr × Obj) :=
  [(x, instObj 212 dx), (dx, dictOf [⟨PyData.keyHash w.params "_value", .str "_value" k1, v⟩, ⟨PyData.keyHash w.params "path", .str "path" k2, q⟩, ⟨PyData.keyHash w.params "context", .str "context" k3, c⟩] 3)]
set_option maxHeartbeats 4000000 in
/-- match.value -/
theorem value_get {x dx : Addr} {k1 k2 k3 : Tok} {v q c : Value} {R : Result → Shared → Prop} (G : Up g s.heap) (X : (hd.heap_39 w.params).In g) (T : TopRead p loose mg mb g) (hd : A.depth ≤ 440) (hv : handedIn v = true)
    (hO : Has g s.heap (datE w x dx k1 k2 k3 v q c))
    (hQ : ∀ h' tk, Up s.heap h' → R (.ok (.ret v)) { s with heap := h', toks := tk }) :
    codeAny (model PR w) A (.call (.ref 179) ⟨[.ref x], []⟩) R s := by
  refine' enterF G X T hO ?k6 ?k7 ?k8 ?k9 ?kB ?_ ?c2 ?c3 ?c4 ?c5
  (case k6 => k_is)
  (case k7 => k_is)
  (case k8 => k_room)
  (case k9 => exact BindsTo.of_eq rfl)
  (case kB => exact locs rfl)
  (case c2 => exact rfl)
  (case c3 => exact rfl)
  (case c4 => exact rfl)
  (case c5 => decide)
  intro g' L' h' hkeep hUp F' N' X' T' l3
  k_lt l3
  (try dsimp only)
  (try k_unmd); (try k_fold)
  k_steps
  (with_reducible rename Fr _ _ _ _ => F9); (with_reducible rename News _ _ _ _ => N9)
  exact hQ _ _ (up_mix (old := datE w x dx k1 k2 k3 v q c) (new := []) (fun _ _ e => e) hO Has.nil hkeep F9 N9 ⟨by k_mem, by k_mem, trivial⟩)

set_option maxHeartbeats 4000000 in
/-- datum.full_path of a datum without a context -/
theorem path_get0 {x dx : Addr} {k1 k2 k3 : Tok} {v q : Value} {R : Result → Shared → Prop} (G : Up g s.heap) (X : (hd.heap_39 w.params).In g) (T : TopRead p loose mg mb g) (hd : A.depth ≤ 440) (hv : handedIn q = true)
    (hO : Has g s.heap (datE w x dx k1 k2 k3 v q .none))
    (hQ : ∀ h' tk, Up s.heap h' → R (.ok (.ret q)) { s with heap := h', toks := tk }) :
    codeAny (model PR w) A (.call (.ref 201) ⟨[.ref x], []⟩) R s := by
  refine' enterF G X T hO ?k6 ?k7 ?k8 ?k9 ?kB ?_ ?c2 ?c3 ?c4 ?c5
  (case k6 => k_is)
  (case k7 => k_is)
  (case k8 => k_room)
  (case k9 => exact BindsTo.of_eq rfl)
  (case kB => exact locs rfl)
  (case c2 => exact rfl)
  (case c3 => exact rfl)
  (case c4 => exact rfl)
  (case c5 => decide)
  intro g' L' h' hkeep hUp F' N' X' T' l3
  k_lt l3
  (try dsimp only)
  (try k_unmd); (try k_fold)
  k_steps
  (with_reducible rename Fr _ _ _ _ => F9); (with_reducible rename News _ _ _ _ => N9)
  exact hQ _ _ (up_mix (old := datE w x dx k1 k2 k3 v q .none) (new := []) (fun _ _ e => e) hO Has.nil hkeep F9 N9 ⟨by k_mem, by k_mem, trivial⟩)

set_option maxHeartbeats 4000000 in
/-- match.full_path: its own path -/
theorem path_get1 {x dx cx dcx t dt : Addr} {k1 k2 k3 j1 j2 j3 : Tok} {v q u : Value} {R : Result → Shared → Prop} (G : Up g s.heap) (X : (hd.heap_39 w.params).In g) (T : TopRead p loose mg mb g) (hd : A.depth ≤ 436) (hv : handedIn q = true)
    (hO : Has g s.heap [(x, instObj 212 dx), (dx, dictOf [⟨PyData.keyHash w.params "_value", .str "_value" k1, v⟩, ⟨PyData.keyHash w.params "path", .str "path" k2, q⟩, ⟨PyData.keyHash w.params "context", .str "context" k3, .ref cx⟩] 3),
      (cx, instObj 212 dcx), (dcx, dictOf [⟨PyData.keyHash w.params "_value", .str "_value" j1, u⟩, ⟨PyData.keyHash w.params "path", .str "path" j2, .ref t⟩, ⟨PyData.keyHash w.params "context", .str "context" j3, .none⟩] 3), (t, instObj 336 dt), (dt, dictOf [] 0)])
    (hQ : ∀ h' tk, Up s.heap h' → R (.ok (.ret q)) { s with heap := h', toks := tk }) :
    codeAny (model PR w) A (.call (.ref 201) ⟨[.ref x], []⟩) R s := by
  refine' enterF G X T hO ?k6 ?k7 ?k8 ?k9 ?kB ?_ ?c2 ?c3 ?c4 ?c5
  (case k6 => k_is)
  (case k7 => k_is)
  (case k8 => k_room)
  (case k9 => exact BindsTo.of_eq rfl)
  (case kB => exact locs rfl)
  (case c2 => exact rfl)
  (case c3 => exact rfl)
  (case c4 => exact rfl)
  (case c5 => decide)
  intro g' L' h' hkeep hUp F' N' X' T' l3
  k_lt l3
  (try dsimp only)
  (try k_unmd); (try k_fold)
  k_steps
  (with_reducible rename Fr _ _ _ _ => F9); (with_reducible rename News _ _ _ _ => N9)
  exact hQ _ _ (up_mix (new := []) (fun _ _ e => e) hO Has.nil hkeep F9 N9 ⟨by k_mem, by k_mem, by k_mem, by k_mem, by k_mem, by k_mem, trivial⟩)
end
end
local macro_rules | `(tactic| k_enter) => `(tactic| ((with_reducible show codeAny _ _ (PySem.Code.call (Value.ref 179) _) _ _); (with_reducible rename Fr _ _ _ _ => F9); (with_reducible rename News _ _ _ _ => N9); (refine' value_get (fun b o e => Fr.keep F9 b o e) ?X ?T ?d ?hv (Has.of_news N9 (AllMem.sub ?S)) ?_; (case X => k_asm); (case T => k_asm); (case d => k_room); (case S => exact ⟨by k_mem, by k_mem, trivial⟩); (case hv => k_handed)); k_whole; intro h' tk' U'; (have N8 := News.grown N9 U'); (have F8 := Fr.keeps F9 U'); (try ((with_reducible rename Since _ _ _ => S9); (have S8 := Since.step0 S9 U'); clear S9)); clear F9 N9; (try dsimp only); (try (refine handed_on (by first | rfl | k_handed) ?_; try dsimp only)); (try k_unmd); (try k_fold)))
local macro_rules | `(tactic| k_enter) => `(tactic| ((with_reducible show codeAny _ _ (PySem.Code.call (Value.ref 201) _) _ _); (with_reducible rename Fr _ _ _ _ => F9); (with_reducible rename News _ _ _ _ => N9); (refine' path_get1 (fun b o e => Fr.keep F9 b o e) ?X ?T ?d ?hv (Has.of_news N9 (AllMem.sub ?S)) ?_; (case X => k_asm); (case T => k_asm); (case d => k_room); (case S => exact ⟨by k_mem, by k_mem, by k_mem, by k_mem, by k_mem, by k_mem, trivial⟩); (case hv => k_handed)); k_whole; intro h' tk' U'; (have N8 := News.grown N9 U'); (have F8 := Fr.keeps F9 U'); (try ((with_reducible rename Since _ _ _ => S9); (have S8 := Since.step0 S9 U'); clear S9)); clear F9 N9; (try dsimp only); (try (refine handed_on (by first | rfl | k_handed) ?_; try dsimp only)); (try k_unmd); (try k_fold)))
section
abbrev datO (w : World) (x dx t dt : Addr) (k1 k2 k3 : Tok) (v : Value) : List (Addr × Obj) :=
  [(x, instObj 212 dx), (dx, dictOf [⟨PyData.keyHash w.params "_value", .str "_value" k1, v⟩, ⟨PyData.keyHash w.params "path", .str "path" k2, .ref t⟩, ⟨PyData.keyHash w.params "context", .str "context" k3, .none⟩] 3),
        (t, instObj 336 dt), (dt, dictOf [] 0)]
section
variable {w : World} {A : Around} {E : Value → Shared → Prop} {s : Shared} {g : Heap} {p : Program} {loose : List Str} {mg mb : Str → Option Value}
set_option maxHeartbeats 4000000 in
theorem wrap_list {l : Addr} {n : Nat} {vs : Array Value} {R : Result → Shared → Prop} (G : Up g s.heap) (X : (hd.heap_39 w.params).In g) (T : TopRead p loose mg mb g) (hd : A.depth ≤ 438)
    (hO : Has g s.heap [(l, listOf vs n)])
    (hQ : ∀ x dx t dt k1 k2 k3 h' tk, Up s.heap h' → Has s.heap h' (datO w x dx t dt k1 k2 k3 (.ref l)) → R (.ok (.ret (.ref x))) { s with heap := h', toks := tk }) :
    codeAny (model PR w) A (.call (.ref 161) ⟨[.ref 212, .ref l], []⟩) R s := by
  refine' enterF G X T hO ?k6 ?k7 ?k8 ?k9 ?kB ?_ ?c2 ?c3 ?c4 ?c5
  (case k6 => k_is)
  (case k7 => k_is)
  (case k8 => k_room)
  (case k9 => exact BindsTo.of_eq rfl)
  (case kB => exact locs rfl)
  (case c2 => exact rfl)
  (case c3 => exact rfl)
  (case c4 => exact rfl)
  (case c5 => decide)
  intro g' L' h' hkeep hUp F' N' X' T' l3
  k_lt l3
  dsimp only
  (try k_unmd); (try k_fold)
  k_steps
  (with_reducible rename Fr _ _ _ _ => F9); (with_reducible rename News _ _ _ _ => N9)
  refine' hQ _ _ _ _ _ _ _ _ _ ?u ?v
  case v => exact has_mix (old := [(l, listOf vs n)]) (new := []) (fun _ _ e => e) Has.nil hkeep N9 ⟨by k_mem, by k_mem, by k_mem, by k_mem, trivial⟩ (ApartL.apart (by simp only [ApartL, NeAll, and_true]; omega))
  case u => exact up_mix (old := [(l, listOf vs n)]) (new := []) (fun _ _ e => e) hO Has.nil hkeep F9 N9 ⟨by k_mem, trivial⟩
end
end
local macro_rules | `(tactic| k_enter) => do
  let x := Lean.mkIdent `xW; let d := Lean.mkIdent `dW; let t := Lean.mkIdent `tW; let e := Lean.mkIdent `eW; let k1 := Lean.mkIdent `kW1; let k2 := Lean.mkIdent `kW2; let k3 := Lean.mkIdent `kW3; let A := Lean.mkIdent `AW; let H := Lean.mkIdent `HW
  `(tactic| ((with_reducible show codeAny _ _ (PySem.Code.call (Value.ref 161) _) _ _); (with_reducible rename Fr _ _ _ _ => F9); (with_reducible rename News _ _ _ _ => N9); (refine' wrap_list (fun b o e => Fr.keep F9 b o e) ?X ?T ?d (Has.of_news N9 (AllMem.sub ?S)) ?_; (case X => k_asm); (case T => k_asm); (case d => k_room); (case S => exact ⟨by k_mem, trivial⟩)); k_whole; intro $x $d $t $e $k1 $k2 $k3 h' tk' U' $H; (have N8 := News.add F9 N9 U' $H); (have $A := apart_news $H N9); (simp only [ApartL, NeAll, and_true] at $A:ident); (have F8 := Fr.keeps F9 U'); (simp only [List.cons_append, List.nil_append] at N8); clear F9 N9; (try dsimp only); (try k_unmd); (try k_fold)))
section
section
variable {w : World} {A : Around} {E : Value → Shared → Prop} {s : Shared} {g : Heap} {p : Program} {loose : List Str} {mg mb : Str → Option Value}
set_option maxHeartbeats 4000000 in
theorem wrap_dict {l : Addr} {od : Obj} {kvs : List (Str × Value)} {R : Result → Shared → Prop} (G : Up g s.heap) (X : (hd.heap_39 w.params).In g) (T : TopRead p loose mg mb g) (hd : A.depth ≤ 438)
    (hod : od.IsDictOf (PySem.strKind PR w) kvs) (hO : Has g s.heap [(l, od)])
    (hQ : ∀ x dx t dt k1 k2 k3 h' tk, Up s.heap h' → Has s.heap h' (datO w x dx t dt k1 k2 k3 (.ref l)) → R (.ok (.ret (.ref x))) { s with heap := h', toks := tk }) :
    codeAny (model PR w) A (.call (.ref 161) ⟨[.ref 212, .ref l], []⟩) R s := by
  obtain ⟨es, n, rfl⟩ := dict_lit hod
  refine' enterF G X T hO ?k6 ?k7 ?k8 ?k9 ?kB ?_ ?c2 ?c3 ?c4 ?c5
  (case k6 => k_is)
  (case k7 => k_is)
  (case k8 => k_room)
  (case k9 => exact BindsTo.of_eq rfl)
  (case kB => exact locs rfl)
  (case c2 => exact rfl)
  (case c3 => exact rfl)
  (case c4 => exact rfl)
  (case c5 => decide)
  intro g' L' h' hkeep hUp F' N' X' T' l3
  k_lt l3
  (try dsimp only)
  (try k_unmd); (try k_fold)
  k_steps
  (with_reducible rename Fr _ _ _ _ => F9); (with_reducible rename News _ _ _ _ => N9)
  refine' hQ _ _ _ _ _ _ _ _ _ ?u ?v
  case v => exact has_mix (new := []) (fun _ _ e => e) Has.nil hkeep N9 ⟨by k_mem, by k_mem, by k_mem, by k_mem, trivial⟩ (ApartL.apart (by simp only [ApartL, NeAll, and_true]; omega))
  case u => exact up_mix (new := []) (fun _ _ e => e) hO Has.nil hkeep F9 N9 ⟨by k_mem, trivial⟩
end
end
local macro_rules | `(tactic| k_enter) => do
  let x := Lean.mkIdent `xW; let d := Lean.mkIdent `dW; let t := Lean.mkIdent `tW; let e := Lean.mkIdent `eW; let k1 := Lean.mkIdent `kW1; let k2 := Lean.mkIdent `kW2; let k3 := Lean.mkIdent `kW3; let A := Lean.mkIdent `AW; let H := Lean.mkIdent `HW
  `(tactic| ((with_reducible show codeAny _ _ (PySem.Code.call (Value.ref 161) _) _ _); (with_reducible rename Fr _ _ _ _ => F9); (with_reducible rename News _ _ _ _ => N9); (refine' wrap_dict (fun b o e => Fr.keep F9 b o e) ?X ?T ?d (by assumption) (Has.of_news N9 (AllMem.sub ?S)) ?_; (case X => k_asm); (case T => k_asm); (case d => k_room); (case S => exact ⟨by k_mem, trivial⟩)); k_whole; intro $x $d $t $e $k1 $k2 $k3 h' tk' U' $H; (have N8 := News.add F9 N9 U' $H); (have $A := apart_news $H N9); (simp only [ApartL, NeAll, and_true] at $A:ident); (have F8 := Fr.keeps F9 U'); (simp only [List.cons_append, List.nil_append] at N8); clear F9 N9; (try dsimp only); (try k_unmd); (try k_fold)))
section
section
variable {w : World} {A : Around} {E : Value → Shared → Prop} {s : Shared} {g : Heap} {p : Program} {loose : List Str} {mg mb : Str → Option Value}
abbrev sliceO (w : World) (sx sdx : Addr) (k0 k1 k2 k3 : Tok) (dep : Bool) (v1 v2 v3 : Value) : List (Addr × Obj) :=
  [(sx, instObj 726 sdx), (sdx, dictOf [⟨PyData.keyHash w.params "_deprecated_wildcard_use", .str "_deprecated_wildcard_use" k0, .bool dep⟩, ⟨PyData.keyHash w.params "start", .str "start" k1, v1⟩, ⟨PyData.keyHash w.params "end", .str "end" k2, v2⟩, ⟨PyData.keyHash w.params "step", .str "step" k3, v3⟩] 4)]
/-- a match of the place q: its objects -/
def MatchO (w : World) (cx : Addr) (val : Value) (q : Nat) (y : Value) (objs : List (Addr × Obj)) : Prop :=
  ∃ x dx px dpx t k1 k2 k3 k4 ti, y = .ref x ∧ objs = [(x, instObj 212 dx), (dx, dictOf [⟨PyData.keyHash w.params "_value", .str "_value" k1, val⟩, ⟨PyData.keyHash w.params "path", .str "path" k2, .ref px⟩, ⟨PyData.keyHash w.params "context", .str "context" k3, .ref cx⟩] 3),
    (px, instObj 657 dpx), (dpx, dictOf [⟨PyData.keyHash w.params "indices", .str "indices" k4, .ref t⟩] 1), (t, tupObj [.int q ti])]
/-- what find hands over: the list of its matches of the places pl -/
def FoundAt (w : World) (h0 h' : Heap) (l : Addr) (vs : List Value) (pl : List Nat) (D : Addr) : Prop :=
  ∃ ys n cx dcx t dt j1 j2 j3, Has h0 h' ((D, listOf ys n) :: datO w cx dcx t dt j1 j2 j3 (.ref l)) ∧ Paired (fun q y => ∃ objs, MatchO w cx (vs.getD q .none) q y objs ∧ Has h0 h' objs) pl ys.toList
set_option pp.deepTerms false
set_option pp.deepTerms.threshold 7
set_option pp.maxSteps 15000
set_option maxHeartbeats 4000000 in
theorem find_some {sx sdx l : Addr} {nn : Nat} {vs : List Value} {k0 k1 k2 k3 : Tok} {v1 v2 v3 : Value} {o1 o2 o3 : Option Int} {R : Result → Shared → Prop} (G : Up g s.heap) (X : (hd.heap_39 w.params).In g) (T : TopRead p loose mg mb g) (hd : A.depth ≤ 430)
    (hh : A.handled = none) (hgs : AllBare s.gens) (hc3 : (o3.getD 1).natAbs < 1000000) (hvl : vs.length ≤ 63) (p1 : IsPart v1 o1) (p2 : IsPart v2 o2) (p3 : IsPart v3 o3) (hne : ¬ (o1.isNone = true ∧ o2.isNone = true ∧ o3.isNone = true))
    (hO : Has g s.heap [(sx, instObj 726 sdx), (sdx, dictOf [⟨PyData.keyHash w.params "_deprecated_wildcard_use", .str "_deprecated_wildcard_use" k0, .bool false⟩, ⟨PyData.keyHash w.params "start", .str "start" k1, v1⟩, ⟨PyData.keyHash w.params "end", .str "end" k2, v2⟩, ⟨PyData.keyHash w.params "step", .str "step" k3, v3⟩] 4),
      (l, listOf vs.toArray nn)])
    (hQ : ∀ D h' tk gs, Up s.heap h' → FoundAt w s.heap h' l vs (if o3 = some 0 then [] else plN o1 o2 o3 vs.length) D → AllBare gs → R (.ok (.ret (.ref D))) { s with heap := h', toks := tk, gens := gs }) :
    codeAny (model PR w) A (.call (.ref 690) ⟨[.ref sx, .ref l], []⟩) R s := by
  refine' enterFC G X T hO ?k6 ?k7 ?k8 ?k9 ?kB ?kD ?_ ?c2 ?c3 ?c4
  (case k6 => k_is)
  (case k7 => k_is)
  (case k8 => k_room)
  (case k9 => exact BindsTo.of_eq rfl)
  (case kB => exact rfl)
  (case kD => decide +kernel)
  (case c2 => exact rfl)
  (case c3 => exact rfl)
  (case c4 => exact rfl)
  intro g' L' h' tk' cells' hkeep hUp F' N' Y' X' T' l3
  k_lt l3
  k_cells Y'
  simp only [List.cons_append, List.nil_append] at N'
  (try dsimp only)
  (try k_unmd); (try k_fold)
  k_steps
  · rename (o3 == some 0) = true => hz
    have hz := beq_iff_eq.mp hz
    (with_reducible rename Fr _ _ _ _ => F9); (with_reducible rename News _ _ _ _ => N9)
    refine hQ _ _ _ _ (up_mix (new := []) (fun _ _ e => e) hO Has.nil hkeep F9 N9 ⟨by k_mem, by k_mem, by k_mem, trivial⟩) ?_ hgs
    rw [if_pos hz]
    refine' ⟨#[], 0, xW, dW, tW, eW, kW1, kW2, kW3, ?_, Paired.nil⟩
    refine has_mix (new := []) (fun _ _ e => e) Has.nil hkeep N9 ⟨by k_mem, by k_mem, by k_mem, by k_mem, by k_mem, trivial⟩ (ApartL.apart ?_)
    simp only [ApartL, NeAll, and_true]
    refine ⟨?_, AW.1.2.2, AW.2.1.2.2, AW.2.2.1.2.2, AW.2.2.2.2.2⟩
    clear AW
    omega
  · refine wpAny_If ?_
    refine join_test (b₀ := false) ?_ fun tk => ?_
    · (try k_unmd); (try k_fold)
      k_steps
      all_goals first | exact ⟨rfl, _, rfl⟩ | (exfalso; apply hne; refine ⟨?_, ?_, ?_⟩ <;> assumption)
    · simp only [Bool.false_eq_true, if_false]
      k_steps
      (with_reducible rename Fr _ _ _ _ => F9); (with_reducible rename News _ _ _ _ => N9)
      refine ListComp_made (cl := [("datum", L' + 1)]) (fun _ => true) (fun i y objs => MatchO w xW (vs.getD ((plN o1 o2 o3 vs.length).getD i 0) .none) ((plN o1 o2 o3 vs.length).getD i 0) y objs) (fun jo => jo = []) [] (by rfl) (by decide) rfl (by decide) ?_
      (try k_unmd); (try k_fold)
      k_steps
      have h3 : o3 ≠ some 0 := fun e => by
        rename (o3 == some 0) = false => hz
        rw [e] at hz
        exact absurd hz (by decide)
      (with_reducible rename IsRange _ _ _ _ _ _ _ _ => hR)
      (with_reducible rename Fr _ _ _ _ => F9); (with_reducible rename News _ _ _ _ => N9)
      refine range_slice_iter (o1 := o1) (o2 := o2) (o3 := o3) (n := vs.length) hR (fun b o e => Heap.get?_push_of_some _ e) (Heap.IsSliceOf.new _ _ _ _) p1 p2 p3 h3 hc3 (by omega) (fun I hI tkI UI nI lI RI => ?_) (by with_unfolding_all rfl)
      have F8 := Fr.keeps F9 UI
      have N8 := News.grown N9 UI
      refine ⟨I, [I], [I], (plN o1 o2 o3 vs.length).length, _, _, [], rfl, CompOk.mk (fun C hC => TurnW.name (Walks.range (by exact hh) I (sliceEnds o1 o2 o3 vs.length).1 (sliceEnds o1 o2 o3 vs.length).2.2 (plN o1 o2 o3 vs.length).length) rfl rfl) (Nat.le_trans (plN_small o1 o2 o3 vs.length h3) (by unfold sizeLine; omega)) (fun i h st b hb => ⟨_, (List.mem_singleton.mp hb) ▸ st⟩) RI (fun b hb => ⟨(List.mem_singleton.mp hb) ▸ lI, List.not_mem_nil⟩) (fun z hz => nomatch hz) rfl (fun q hq => nomatch hq) (fun jo hj z hz => nomatch hz) hgs (fun C i s₃ m₁ m₂ jo hC hi hB hn hk hJ hj => tests_nil) ?_ ?_⟩
      · intro C i s₃ m₁ m₂ jo hC hi hB _ hn hk hJ hj hb
        obtain ⟨v, ⟨ti, hv⟩, hm⟩ := hB
        have hp := plN_get o1 o2 o3 vs.length h3 i hi
        have hq : (sliceEnds o1 o2 o3 vs.length).1 + i * (sliceEnds o1 o2 o3 vs.length).2.2 = (((plN o1 o2 o3 vs.length).getD i 0 : Nat) : Int) := by
          rw [← hp.2.2, List.getD_eq_getElem?_getD, List.getElem?_eq_getElem hi]; rfl
        have hlt : (plN o1 o2 o3 vs.length).getD i 0 < vs.length := by omega
        rw [hq] at hv
        subst hv; subst hm; subst hJ
        obtain ⟨F3, N3⟩ := elt_frame F8 N8 hn hC (fun b o e q => nI b o (F9.keep b o e) (List.mem_singleton.mp q)) (fun q hq e => nI _ _ (N9 q hq).1 (List.mem_singleton.mp e)) hk
        have S3 := Since.start s₃.heap
        clear F8 N8 F9 N9 hp hq hk hb hj
        (try k_unmd); (try k_fold)
        k_steps
        (with_reducible rename Since _ _ _ => S9)
        exact ⟨_, _, _, _, [], rfl, fun b o _ e => S9.up b o e, S9.has, ⟨_, _, _, _, _, _, _, _, _, _, rfl, rfl⟩, rfl, (fun _ h => nomatch h), fun h => h⟩
      · intro D h' tk gs ys jo hD hl hF hJ hj hgs' hk
        obtain ⟨nD, hl⟩ := hl
        have U0 := up_mix (new := []) (fun _ _ e => e) hO Has.nil hkeep F9 N9 ⟨by k_mem, by k_mem, by k_mem, trivial⟩
        have U1 : Up s.heap hI := fun b o e => UI b o (U0 b o e)
        obtain ⟨oL, _, _, eL, _⟩ := id F9.ns
        have nn' : ∀ b o, Heap.get? _ b = some o → b ∉ [I] ∧ b ∉ ([] : List Addr) := fun b o e => ⟨fun q => nI b o e (List.mem_singleton.mp q), List.not_mem_nil⟩
        obtain ⟨F7, N7⟩ := back_frame F8 N8 (fun b o e => nn' b o (F9.keep b o e)) (nn' _ _ eL) (fun q hq => nn' _ _ (N9 q hq).1) hk
        refine hQ D h' tk gs (up_mix (new := []) (fun _ _ e => e) hO Has.nil hkeep F7 N7 ⟨by k_mem, by k_mem, by k_mem, trivial⟩) ?_ hgs'
        rw [if_neg h3]
        refine' ⟨ys, nD, xW, dW, tW, eW, kW1, kW2, kW3, Has.cons hl (none_of U1 hD) ?_, paired_range rfl (fun i y hi hq => ?_) hF⟩
        · refine has_mix (new := []) (fun _ _ e => e) Has.nil hkeep N7 ⟨by k_mem, by k_mem, by k_mem, by k_mem, trivial⟩ (ApartL.apart ?_)
          simp only [ApartL, NeAll, and_true]
          exact ⟨AW.1.2.2, AW.2.1.2.2, AW.2.2.1.2.2, AW.2.2.2.2.2⟩
        · obtain ⟨objs, hm, ho⟩ := hq
          exact ⟨objs, hm, fun q hq => ⟨(ho q hq).1, none_of U1 (ho q hq).2.1⟩⟩
end
end
section
section
variable {w : World} {A : Around} {E : Value → Shared → Prop} {s : Shared} {g : Heap} {p : Program} {loose : List Str} {mg mb : Str → Option Value}
/-- a list of matches of the places pl of the datum cx -/
def FoundIn (w : World) (h0 h' : Heap) (cx : Addr) (vs : List Value) (pl : List Nat) (D : Addr) : Prop :=
  ∃ ys n, Has h0 h' [(D, listOf ys n)] ∧ Paired (fun q y => ∃ objs, MatchO w cx (vs.getD q .none) q y objs ∧ Has h0 h' objs) pl ys.toList
set_option pp.deepTerms false
set_option pp.deepTerms.threshold 7
set_option pp.maxSteps 15000
set_option maxHeartbeats 4000000 in
/-- _find_array_elements(datum) -/
theorem elements_all {x dx t dt l : Addr} {nn : Nat} {vs : List Value} {j1 j2 j3 : Tok} {R : Result → Shared → Prop} (G : Up g s.heap) (X : (hd.heap_39 w.params).In g) (T : TopRead p loose mg mb g) (hd : A.depth ≤ 432)
    (hh : A.handled = none) (hgs : AllBare s.gens) (hvl : vs.length ≤ 63) (hvh : ∀ q, handedIn (vs.getD q .none) = true)
    (hO : Has g s.heap [(x, instObj 212 dx), (dx, dictOf [⟨PyData.keyHash w.params "_value", .str "_value" j1, .ref l⟩, ⟨PyData.keyHash w.params "path", .str "path" j2, .ref t⟩, ⟨PyData.keyHash w.params "context", .str "context" j3, .none⟩] 3),
        (t, instObj 336 dt), (dt, dictOf [] 0), (l, listOf vs.toArray nn)])
    (hQ : ∀ D h' tk gs, Up s.heap h' → FoundIn w s.heap h' x vs (List.range vs.length) D → AllBare gs → R (.ok (.ret (.ref D))) { s with heap := h', toks := tk, gens := gs }) :
    codeAny (model PR w) A (.call (.ref 733) ⟨[.ref x], []⟩) R s := by
  refine' enterFC G X T hO ?k6 ?k7 ?k8 ?k9 ?kB ?kD ?_ ?c2 ?c3 ?c4
  (case k6 => k_is)
  (case k7 => k_is)
  (case k8 => k_room)
  (case k9 => exact BindsTo.of_eq rfl)
  (case kB => exact rfl)
  (case kD => decide +kernel)
  (case c2 => exact rfl)
  (case c3 => exact rfl)
  (case c4 => exact rfl)
  intro g' L' h' tk' cells' hkeep hUp F' N' Y' X' T' l3
  k_lt l3
  k_cells Y'
  simp only [List.cons_append, List.nil_append] at N'
  (try dsimp only)
  (try k_unmd); (try k_fold)
  k_steps
  refine ListComp_made (cl := [("datum", L' + 1)]) (fun _ => true) (fun i y objs => MatchO w x (vs.getD i .none) i y objs) (fun jo => jo = []) [] (by rfl) (by decide) rfl (by decide) ?_
  (try k_unmd); (try k_fold)
  k_steps
  (with_reducible rename Fr _ _ _ _ => F9); (with_reducible rename News _ _ _ _ => N9)
  refine enum_iter (vs := vs) (News.isList N9 (by k_mem)) (fun e it hI UI nI le li ll hei hle hli st => ?_)
  have F8 := Fr.keeps F9 UI
  have N8 := News.grown N9 UI
  refine CompOk.enum (jo := []) hh hvl le li ll hei hle hli st ⟨List.not_mem_nil, List.not_mem_nil, List.not_mem_nil⟩ (fun z hz => nomatch hz) rfl (fun q hq => nomatch hq) (fun jo hj z hz => nomatch hz) hgs (fun C i s₃ m₁ t₃ jo hC hi hn hk hJ hj => tests_nil) ?_ ?_ (fun C => rfl) (fun C => rfl) (fun C => rfl)
  · intro C i s₃ m₁ t₃ jo hC hi _ hn hk hJ hj hb
    subst hJ
    obtain ⟨F3, N3⟩ := elt_frame F8 N8 hn hC (fun b o e => nI b o (F9.keep b o e)) (fun q hq => nI _ _ (N9 q hq).1) hk
    have S3 := Since.start s₃.heap
    have hvi := hvh i
    clear F8 N8 F9 N9 hk hb hj
    (try k_unmd); (try k_fold)
    k_steps
    (with_reducible rename Since _ _ _ => S9)
    exact ⟨_, _, _, _, [], rfl, fun b o _ e => S9.up b o e, S9.has, ⟨_, _, _, _, _, _, _, _, _, _, rfl, rfl⟩, rfl, (fun _ h => nomatch h), fun h => h⟩
  · intro D h' tk gs ys jo hD hl hF hJ hj hgs' hk
    obtain ⟨nD, hl⟩ := hl
    have U0 := up_mix (new := []) (fun _ _ e => e) hO Has.nil hkeep F9 N9 ⟨by k_mem, by k_mem, by k_mem, by k_mem, by k_mem, trivial⟩
    have U1 : Up s.heap hI := fun b o e => UI b o (U0 b o e)
    obtain ⟨oL, _, _, eL, _⟩ := id F9.ns
    have nn' : ∀ b o, Heap.get? _ b = some o → b ∉ [e, it] ∧ b ∉ ([] : List Addr) := fun b o e => ⟨nI b o e, List.not_mem_nil⟩
    obtain ⟨F7, N7⟩ := back_frame F8 N8 (fun b o e => nn' b o (F9.keep b o e)) (nn' _ _ eL) (fun q hq => nn' _ _ (N9 q hq).1) hk
    refine hQ D h' tk gs (up_mix (new := []) (fun _ _ e => e) hO Has.nil hkeep F7 N7 ⟨by k_mem, by k_mem, by k_mem, by k_mem, by k_mem, trivial⟩) ?_ hgs'
    refine' ⟨ys, nD, Has.cons hl (none_of U1 hD) Has.nil, paired_range (pl := List.range vs.length) (by rw [List.length_range]) (fun i y hi hq => ?_) hF⟩
    obtain ⟨objs, hm, ho⟩ := hq
    rw [List.length_range] at hi
    have ei : (List.range vs.length).getD i 0 = i := by simp [List.getD_eq_getElem?_getD, hi]
    rw [ei]
    exact ⟨objs, hm, fun q hq => ⟨(ho q hq).1, none_of U1 (ho q hq).2.1⟩⟩
end
end
local macro_rules | `(tactic| k_enter) => do
  let fb := Lean.mkIdent `FB; let nb := Lean.mkIdent `NB
  `(tactic| ((with_reducible show codeAny _ _ (PySem.Code.call (Value.ref 733) _) _ _); (with_reducible rename Fr _ _ _ _ => $fb); (with_reducible rename News _ _ _ _ => $nb); (refine' elements_all (fun b o e => Fr.keep $fb b o e) ?X ?T ?d ?hh ?hg ?hv ?hw (Has.of_news $nb (AllMem.sub ?S)) ?_; (case X => k_asm); (case T => k_asm); (case d => k_room); (case S => exact ⟨by k_mem, by k_mem, by k_mem, by k_mem, by k_mem, trivial⟩); (case hh => assumption); (case hg => assumption); (case hv => assumption); (case hw => assumption)); k_whole; intro D' h' tk' gs' U' HF' hgs'; (have N8 := News.grown $nb U'); (have F8 := Fr.keeps $fb U'); (try dsimp only); (try k_unmd); (try k_fold)))
section
section
variable {w : World} {A : Around} {E : Value → Shared → Prop} {s : Shared} {g : Heap} {p : Program} {loose : List Str} {mg mb : Str → Option Value}
set_option pp.deepTerms false
set_option pp.deepTerms.threshold 7
set_option pp.maxSteps 15000
set_option maxHeartbeats 4000000 in
/-- Slice().find(list) -/
theorem find_all {sx sdx l : Addr} {nn : Nat} {vs : List Value} {k0 k1 k2 k3 : Tok} {dep : Bool} {R : Result → Shared → Prop} (G : Up g s.heap) (X : (hd.heap_39 w.params).In g) (T : TopRead p loose mg mb g) (hd : A.depth ≤ 430)
    (hh : A.handled = none) (hgs : AllBare s.gens) (hvl : vs.length ≤ 63) (hvh : ∀ q, handedIn (vs.getD q .none) = true)
    (hO : Has g s.heap [(sx, instObj 726 sdx), (sdx, dictOf [⟨PyData.keyHash w.params "_deprecated_wildcard_use", .str "_deprecated_wildcard_use" k0, .bool dep⟩, ⟨PyData.keyHash w.params "start", .str "start" k1, .none⟩, ⟨PyData.keyHash w.params "end", .str "end" k2, .none⟩, ⟨PyData.keyHash w.params "step", .str "step" k3, .none⟩] 4),
      (l, listOf vs.toArray nn)])
    (hQ : ∀ D h' tk gs, Up s.heap h' → FoundAt w s.heap h' l vs (List.range vs.length) D → AllBare gs → R (.ok (.ret (.ref D))) { s with heap := h', toks := tk, gens := gs }) :
    codeAny (model PR w) A (.call (.ref 690) ⟨[.ref sx, .ref l], []⟩) R s := by
  refine' enterFC G X T hO ?k6 ?k7 ?k8 ?k9 ?kB ?kD ?_ ?c2 ?c3 ?c4
  (case k6 => k_is)
  (case k7 => k_is)
  (case k8 => k_room)
  (case k9 => exact BindsTo.of_eq rfl)
  (case kB => exact rfl)
  (case kD => decide +kernel)
  (case c2 => exact rfl)
  (case c3 => exact rfl)
  (case c4 => exact rfl)
  intro g' L' h' tk' cells' hkeep hUp F' N' Y' X' T' l3
  k_lt l3
  k_cells Y'
  simp only [List.cons_append, List.nil_append] at N'
  (try dsimp only)
  (try k_unmd); (try k_fold)
  have q1 : IsPart .none none := .none
  have hh2 : (A.deeper (envOfC "Slice.find" default L' 690 (.ref 689))).handled = none := hh
  cases dep
  all_goals
    k_steps
    refine wpAny_If ?_
    refine join_test (b₀ := true) ?_ fun tk => ?_
    · (try k_unmd); (try k_fold)
      k_steps
      all_goals exact ⟨rfl, _, rfl⟩
    · simp only [if_true]
      k_steps
      (with_reducible rename Fr _ _ _ _ => F7); (with_reducible rename News _ _ _ _ => N7)
      (with_reducible rename FoundIn _ _ _ _ _ _ _ => hF)
      have U0 := up_mix (new := []) (fun _ _ e => e) hO Has.nil hkeep FB NB ⟨by k_mem, by k_mem, by k_mem, trivial⟩
      refine hQ _ _ _ _ (up_mix (new := []) (fun _ _ e => e) hO Has.nil hkeep F7 N7 ⟨by k_mem, by k_mem, by k_mem, trivial⟩) ?_ (by assumption)
      obtain ⟨ys, nD, hD, hP⟩ := hF
      refine' ⟨ys, nD, xW, dW, tW, eW, kW1, kW2, kW3, (hD.low U0).app (objs := [(_, listOf ys nD)]) ?_, hP.mono fun q y ⟨objs, hm, ho⟩ => ⟨objs, hm, ho.low U0⟩⟩
      refine has_mix (new := []) (fun _ _ e => e) Has.nil hkeep N7 ⟨by k_mem, by k_mem, by k_mem, by k_mem, trivial⟩ (ApartL.apart ?_)
      simp only [ApartL, NeAll, and_true]
      exact ⟨AW.1.2.2, AW.2.1.2.2, AW.2.2.1.2.2, AW.2.2.2.2.2⟩
end
end
section
section
variable {w : World} {A : Around} {E : Value → Shared → Prop} {s : Shared} {g : Heap} {p : Program} {loose : List Str} {mg mb : Str → Option Value}
set_option pp.deepTerms false
set_option pp.deepTerms.threshold 7
set_option pp.maxSteps 15000
set_option maxHeartbeats 4000000 in
/-- slice_.find('text'), slice_.find(7) -/
theorem find_not {sx sdx : Addr} {v : Value} {k0 k1 k2 k3 : Tok} {v1 v2 v3 : Value} {dep : Bool} {R : Result → Shared → Prop} (G : Up g s.heap) (X : (hd.heap_39 w.params).In g) (T : TopRead p loose mg mb g) (hd : A.depth ≤ 430)
    (hv : (∃ tk, v = .str "text" tk) ∨ ∃ tk, v = .int 7 tk)
    (hO : Has g s.heap [(sx, instObj 726 sdx), (sdx, dictOf [⟨PyData.keyHash w.params "_deprecated_wildcard_use", .str "_deprecated_wildcard_use" k0, .bool dep⟩, ⟨PyData.keyHash w.params "start", .str "start" k1, v1⟩, ⟨PyData.keyHash w.params "end", .str "end" k2, v2⟩, ⟨PyData.keyHash w.params "step", .str "step" k3, v3⟩] 4)])
    (hQ : ∀ D h' tk, Up s.heap h' → Has s.heap h' [(D, listOf #[] 0)] → R (.ok (.ret (.ref D))) { s with heap := h', toks := tk }) :
    codeAny (model PR w) A (.call (.ref 690) ⟨[.ref sx, v], []⟩) R s := by
  refine' enterFC G X T hO ?k6 ?k7 ?k8 ?k9 ?kB ?kD ?_ ?c2 ?c3 ?c4
  (case k6 => k_is)
  (case k7 => k_is)
  (case k8 => k_room)
  (case k9 => exact BindsTo.of_eq rfl)
  (case kB => exact rfl)
  (case kD => decide +kernel)
  (case c2 => exact rfl)
  (case c3 => exact rfl)
  (case c4 => exact rfl)
  intro g' L' h' tk' cells' hkeep hUp F' N' Y' X' T' l3
  k_lt l3
  k_cells Y'
  simp only [List.cons_append, List.nil_append] at N'
  (try dsimp only)
  (try k_unmd); (try k_fold)
  rcases hv with ⟨tk, rfl⟩ | ⟨tk, rfl⟩
  all_goals k_steps
  all_goals
    (with_reducible rename Fr _ _ _ _ => F9); (with_reducible rename News _ _ _ _ => N9)
    (rename ((_ : Nat) < _ ∧ _) => l1)
    refine hQ _ _ _ (up_mix (new := []) (fun _ _ e => e) hO Has.nil hkeep F9 N9 ⟨by k_mem, by k_mem, trivial⟩) ?_
    refine has_mix (new := []) (fun _ _ e => e) Has.nil hkeep N9 ⟨by k_mem, trivial⟩ (ApartL.apart ?_)
    simp only [ApartL, NeAll, and_true]
    exact ⟨Nat.ne_of_gt l1.2.2.2.2.2.2.2.1, Nat.ne_of_gt l1.2.2.2.2.2.2.2.2⟩
set_option maxHeartbeats 4000000 in
/-- find of an object, made as the standard wants it -/
theorem find_dict {sx sdx l : Addr} {od : Obj} {kvs : List (Str × Value)} {k0 k1 k2 k3 : Tok} {v1 v2 v3 : Value} {R : Result → Shared → Prop} (G : Up g s.heap) (X : (hd.heap_39 w.params).In g) (T : TopRead p loose mg mb g) (hd : A.depth ≤ 430) (hod : od.IsDictOf (PySem.strKind PR w) kvs)
    (hO : Has g s.heap [(sx, instObj 726 sdx), (sdx, dictOf [⟨PyData.keyHash w.params "_deprecated_wildcard_use", .str "_deprecated_wildcard_use" k0, .bool false⟩, ⟨PyData.keyHash w.params "start", .str "start" k1, v1⟩, ⟨PyData.keyHash w.params "end", .str "end" k2, v2⟩, ⟨PyData.keyHash w.params "step", .str "step" k3, v3⟩] 4),
      (l, od)])
    (hQ : ∀ D h' tk, Up s.heap h' → Has s.heap h' [(D, listOf #[] 0)] → R (.ok (.ret (.ref D))) { s with heap := h', toks := tk }) :
    codeAny (model PR w) A (.call (.ref 690) ⟨[.ref sx, .ref l], []⟩) R s := by
  obtain ⟨es, n, rfl⟩ := dict_lit hod
  refine' enterFC G X T hO ?k6 ?k7 ?k8 ?k9 ?kB ?kD ?_ ?c2 ?c3 ?c4
  (case k6 => k_is)
  (case k7 => k_is)
  (case k8 => k_room)
  (case k9 => exact BindsTo.of_eq rfl)
  (case kB => exact rfl)
  (case kD => decide +kernel)
  (case c2 => exact rfl)
  (case c3 => exact rfl)
  (case c4 => exact rfl)
  intro g' L' h' tk' cells' hkeep hUp F' N' Y' X' T' l3
  k_lt l3
  k_cells Y'
  simp only [List.cons_append, List.nil_append] at N'
  (try dsimp only)
  (try k_unmd); (try k_fold)
  k_steps
  (with_reducible rename Fr _ _ _ _ => F9); (with_reducible rename News _ _ _ _ => N9)
  (rename ((_ : Nat) < _ ∧ _) => l1)
  refine hQ _ _ _ (up_mix (new := []) (fun _ _ e => e) hO Has.nil hkeep F9 N9 ⟨by k_mem, by k_mem, by k_mem, trivial⟩) ?_
  refine has_mix (new := []) (fun _ _ e => e) Has.nil hkeep N9 ⟨by k_mem, trivial⟩ (ApartL.apart ?_)
  simp only [ApartL, NeAll, and_true]
  exact ⟨Nat.ne_of_gt l1.2.2.2.2.2.2.2.1, Nat.ne_of_gt l1.2.2.2.2.2.2.2.2.1, Nat.ne_of_gt l1.2.2.2.2.2.2.2.2.2⟩
end
end
section
section
variable {w : World} {A : Around} {E : Value → Shared → Prop} {s : Shared} {g : Heap} {p : Program} {loose : List Str} {mg mb : Str → Option Value}
set_option pp.deepTerms false
set_option pp.deepTerms.threshold 7
set_option pp.maxSteps 15000
set_option maxHeartbeats 4000000 in
/-- Fields(v) -/
theorem fields_raw {v : Value} {R : Result → Shared → Prop} (G : Up g s.heap) (X : (hd.heap_39 w.params).In g) (T : TopRead p loose mg mb g) (hd : A.depth ≤ 440) (hv : (∃ tk, v = .str "a" tk) ∨ ∃ tk, v = .str "b" tk)
    (hQ : ∀ x dx t k1 k2 h' tk, dx < x → x < t → dx < t → Up s.heap h' → Has s.heap h' [(x, instObj 558 dx), (dx, dictOf [⟨PyData.keyHash w.params "_deprecated_wildcard_use", .str "_deprecated_wildcard_use" k1, .bool false⟩, ⟨PyData.keyHash w.params "fields", .str "fields" k2, .ref t⟩] 2), (t, tupObj [v])] → R (.ok (.ret (.ref x))) { s with heap := h', toks := tk }) :
    codeAny (model PR w) A (.call (.ref 558) ⟨[v], []⟩) R s := by
  refine makeF G X (by k_is) (by k_is) (by k_is) fun x dx h1 U1 H1 l1 l2 => ?_
  refine' enterFV (vs := [v]) (bs := fun t => [("self", .ref x), ("fields", t)]) U1 (X.keeps G) (T.keeps G) H1 ?k6 ?k7 ?k8 ?k9 ?kB (Nat.le_of_ble_eq_true rfl) ?_ ?c2 ?c3 ?c4 ?c5
  (case k6 => k_is)
  (case k7 => k_is)
  (case k8 => k_room)
  (case k9 => rfl)
  (case kB => intro t; exact locs rfl)
  (case c2 => exact rfl)
  (case c3 => exact rfl)
  (case c4 => exact rfl)
  (case c5 => decide)
  intro D g' L' h' hkeep hUp hD F' N' X' T' l3
  have l4 : x < D ∧ dx < D := ⟨l3 _ (.head _), l3 _ (.tail _ (.head _))⟩
  k_lt l3; k_lt2 l1
  dsimp only
  (try k_unmd); (try k_fold)
  rcases hv with ⟨tk, rfl⟩ | ⟨tk, rfl⟩
  all_goals
    k_steps
    (with_reducible rename Fr _ _ _ _ => F9); (with_reducible rename News _ _ _ _ => N9)
    refine' And.intro rfl (hQ x dx D _ _ _ _ l1 l4.1 l4.2 ?u ?v)
    case v => exact has_mix (old := []) U1 H1 hkeep N9 ⟨by k_mem, by k_mem, by k_mem, trivial⟩ Apart.nil
    case u => exact up_mix (g := s.heap) (old := []) U1 Has.nil H1 hkeep F9 N9 trivial
end
end
local macro_rules | `(tactic| walk_at "call ref") => `(tactic| (k_here; (with_reducible show wpAny _ _ (call (Value.ref 558) _ _) _ _ _); (with_reducible rename Fr _ _ _ _ => F9); (with_reducible rename News _ _ _ _ => N9); k_dflt (refine' wpAny_call (fields_raw (fun b o e => Fr.keep F9 b o e) ?X ?T ?d ?v ?_); (case X => k_asm); (case T => k_asm); (case v => assumption); (case d => k_room)); k_whole; intro x' d' t' k1 k2 h' tk' l7 l8 l9 U' H'; k_lt2 l7; k_lt2 l8; k_lt2 l9; (have N8 := News.add F9 N9 U' H'); (have A8 := apart_news H' N9); (simp only [ApartL, NeAll, and_true] at A8); (have F8 := Fr.keeps F9 U'); (simp only [List.cons_append, List.nil_append] at N8); (try ((with_reducible rename Since _ _ _ => S9); (have S8 := Since.step S9 U' H'); clear S9)); clear F9 N9; (try dsimp only); (try k_unmd); (try k_fold)))
section
section
variable {w : World} {A : Around} {E : Value → Shared → Prop} {s : Shared} {g : Heap} {p : Program} {loose : List Str} {mg mb : Str → Option Value}
set_option pp.deepTerms false
set_option pp.deepTerms.threshold 7
set_option pp.maxSteps 15000
set_option maxHeartbeats 4000000 in
/-- Fields._compliant_constructor(v) -/
theorem fields_new {v : Value} {R : Result → Shared → Prop} (G : Up g s.heap) (X : (hd.heap_39 w.params).In g) (T : TopRead p loose mg mb g) (hd : A.depth ≤ 438) (hv : (∃ tk, v = .str "a" tk) ∨ ∃ tk, v = .str "b" tk)
    (hQ : ∀ x dx t k1 k2 h' tk, Up s.heap h' → Has s.heap h' [(x, instObj 558 dx), (dx, dictOf [⟨PyData.keyHash w.params "_deprecated_wildcard_use", .str "_deprecated_wildcard_use" k1, .bool false⟩, ⟨PyData.keyHash w.params "fields", .str "fields" k2, .ref t⟩] 2), (t, tupObj [v])] → R (.ok (.ret (.ref x))) { s with heap := h', toks := tk }) :
    codeAny (model PR w) A (.call (.ref 453) ⟨[.ref 558, v], []⟩) R s := by
  refine' enterFV (objs := []) (vs := [v]) (bs := fun t => [("cls", .ref 558), ("fields", t)]) G X T Has.nil ?k6 ?k7 ?k8 ?k9 ?kB (Nat.le_of_ble_eq_true rfl) ?_ ?c2 ?c3 ?c4 ?c5
  (case k6 => k_is)
  (case k7 => k_is)
  (case k8 => k_room)
  (case k9 => rfl)
  (case kB => intro t; exact locs rfl)
  (case c2 => exact rfl)
  (case c3 => exact rfl)
  (case c4 => exact rfl)
  (case c5 => decide)
  intro D g' L' h' hkeep hUp hD F' N' X' T' l3
  (try dsimp only)
  (try k_unmd); (try k_fold)
  k_steps
  (with_reducible rename Fr _ _ _ _ => F9); (with_reducible rename News _ _ _ _ => N9)
  refine' hQ _ _ _ _ _ _ _ ?u ?v
  case v => exact has_mix (old := []) (new := []) (fun _ _ e => e) Has.nil hkeep N9 ⟨by k_mem, by k_mem, by k_mem, trivial⟩ Apart.nil
  case u => exact up_mix (g := s.heap) (old := []) (new := []) (fun _ _ e => e) Has.nil Has.nil hkeep F9 N9 trivial
set_option maxHeartbeats 4000000 in
/-- DatumInContext(v, path=px, context=cx) of a field -/
theorem dic3F {v : Value} {px dpx cx dcx : Addr} {ep ec : List DictEntry} {np nc : Nat} {R : Result → Shared → Prop} (G : Up g s.heap) (X : (hd.heap_39 w.params).In g) (T : TopRead p loose mg mb g) (hd : A.depth ≤ 440)
    (hO : Has g s.heap [(px, instObj 558 dpx), (dpx, dictOf ep np), (cx, instObj 212 dcx), (dcx, dictOf ec nc)])
    (hQ : ∀ x dx k1 k2 k3 h' tk, Up s.heap h' → Has s.heap h' [(x, instObj 212 dx), (dx, dictOf [⟨PyData.keyHash w.params "_value", .str "_value" k1, v⟩, ⟨PyData.keyHash w.params "path", .str "path" k2, .ref px⟩, ⟨PyData.keyHash w.params "context", .str "context" k3, .ref cx⟩] 3)] →
        R (.ok (.ret (.ref x))) { s with heap := h', toks := tk }) :
    codeAny (model PR w) A (.call (.ref 212) ⟨[v], [("path", .ref px), ("context", .ref cx)]⟩) R s := by
  refine makeF G X (by k_is) (by k_is) (by k_is) fun x dx h1 U1 H1 l1 l2 => ?_
  have p1 := l2 _ _ (hO _ (.head _)).1
  have p2 := l2 _ _ (hO _ (.tail _ (.head _))).1
  have p3 := l2 _ _ (hO _ (.tail _ (.tail _ (.head _)))).1
  have p4 := l2 _ _ (hO _ (.tail _ (.tail _ (.tail _ (.head _))))).1
  refine' enterF (G.trans U1) X T ((H1.low G).app (hO.up U1)) ?k6 ?k7 ?k8 ?k9 ?kB ?_ ?c2 ?c3 ?c4 ?c5
  (case k6 => k_is)
  (case k7 => k_is)
  (case k8 => k_room)
  (case k9 => first | exact BindsTo.of_eq rfl | exact binds_K (X.keeps (G.trans U1)) rfl (by k_is) rfl rfl rfl)
  (case kB => exact locs rfl)
  (case c2 => exact rfl)
  (case c3 => exact rfl)
  (case c4 => exact rfl)
  (case c5 => decide)
  intro g' L' h' hkeep hUp F' N' X' T' l3
  simp only [List.cons_append, List.nil_append] at N'
  clear l3
  k_lt2 l1; k_lt2 p1; k_lt2 p2; k_lt2 p3; k_lt2 p4
  dsimp only
  (try k_unmd); (try k_fold)
  k_steps
  (with_reducible rename Fr _ _ _ _ => F9); (with_reducible rename News _ _ _ _ => N9)
  refine' And.intro rfl (hQ x dx _ _ _ _ _ ?u ?v)
  case v =>
    refine has_mix (old := [(px, instObj 558 dpx), (dpx, dictOf ep np), (cx, instObj 212 dcx), (dcx, dictOf ec nc)]) U1 H1 hkeep N9 ⟨by k_mem, by k_mem, trivial⟩ ?_
    intro q hq p hp
    have h1 : q.1 = x ∨ q.1 = dx := by rcases hq with _ | ⟨_, hq⟩; exact .inl rfl; rcases hq with _ | ⟨_, hq⟩; exact .inr rfl; cases hq
    have h2 : p.1 < dx := l2 _ _ (hO p hp).1
    rcases h1 with h1 | h1 <;> rw [h1] <;> intro e <;> rw [← e] at h2
    · exact absurd (Nat.lt_trans h2 l1) (Nat.lt_irrefl _)
    · exact absurd h2 (Nat.lt_irrefl _)
  case u => exact up_mix (old := [(px, instObj 558 dpx), (dpx, dictOf ep np), (cx, instObj 212 dcx), (dcx, dictOf ec nc)]) U1 hO H1 hkeep F9 N9 ⟨by k_mem, by k_mem, by k_mem, by k_mem, trivial⟩
end
end
local macro_rules | `(tactic| k_enter) => `(tactic| ((with_reducible show codeAny _ _ (PySem.Code.call (Value.ref 453) _) _ _); (with_reducible rename Fr _ _ _ _ => F9); (with_reducible rename News _ _ _ _ => N9); (refine' fields_new (fun b o e => Fr.keep F9 b o e) ?X ?T ?d ?hv ?_; (case X => k_asm); (case T => k_asm); (case d => k_room); (case hv => first | assumption | exact .inl ⟨_, rfl⟩ | exact .inr ⟨_, rfl⟩)); k_whole; intro x' d' t' k1 k2 h' tk' U' H'; (have N8 := News.add F9 N9 U' H'); (have A8 := apart_news H' N9); (simp only [ApartL, NeAll, and_true] at A8); (have F8 := Fr.keeps F9 U'); (simp only [List.cons_append, List.nil_append] at N8); (try ((with_reducible rename Since _ _ _ => S9); (have S8 := Since.step S9 U' H'); clear S9)); clear F9 N9; (try dsimp only); (try k_unmd); (try k_fold)))
local macro_rules | `(tactic| walk_at "call ref") => `(tactic| (k_here; (with_reducible show wpAny _ _ (call (Value.ref 212) _ _) _ _ _); (refine' kw_on (kw' := [("path", Value.ref _), ("context", Value.ref _)]) (by with_unfolding_all rfl) ?_); (with_reducible rename Fr _ _ _ _ => F9); (with_reducible rename News _ _ _ _ => N9); k_dflt (refine' wpAny_call (dic3F (fun b o e => Fr.keep F9 b o e) ?X ?T ?d (Has.of_news N9 (AllMem.sub ?S)) ?_); (case X => k_asm); (case T => k_asm); (case d => k_room); (case S => exact ⟨by k_mem, by k_mem, by k_mem, by k_mem, trivial⟩)); k_whole; intro x' d' k1 k2 k3 h' tk' U' H'; (have N8 := News.add F9 N9 U' H'); (have A8 := apart_news H' N9); (simp only [ApartL, NeAll, and_true] at A8); (have F8 := Fr.keeps F9 U'); (simp only [List.cons_append, List.nil_append] at N8); (try ((with_reducible rename Since _ _ _ => S9); (have S8 := Since.step S9 U' H'); clear S9)); clear F9 N9; (try dsimp only); (try k_unmd); (try k_fold)))
section
section
variable {prog : Program} {w : World} {A : Around} {E : Value → Shared → Prop} {s : Shared} {K : Frag} {C L : Addr} {h₀ : Heap} {m : Str → Option Value} {news : List (Addr × Obj)} {name : Str}
/-- a class method's binding, the mark carried along -/
theorem cls_cmS {mc : Value} {p : Addr} {f : Value} {rest : List Value} {expr : Bool} {Q : Value → Shared → Prop} {hs : Heap} {objs : List (Addr × Obj)} (S : Since hs s.heap objs) (F : Fr h₀ L s.heap m) (X₀ : K.In h₀) (N : News h₀ L s.heap news) (hr : readsIn K C mc = true)
    (e : findCls K (.ref C) mc name = some (.get (.builtin "classmethod.__get__") (.ref p) .none (.ref C))) (hp : recIn K p "classmethod" = some (f :: rest)) (hm : typeIn K (.ref C) = some mc)
    (h : ∀ q h', Since hs h' objs → Fr h₀ L h' m → News h₀ L h' ((q, methodObj f (.ref C)) :: news) → (∀ p ∈ news, p.1 < q) → Q (.ref q) { s with heap := h', toks := s.toks + 1 }) : wpAny (model prog w) A (getAttr (.ref C) name expr) Q E s :=
  let _ := hm
  cls_bind (X₀.keeps F.keep) hr e (wpAny_call (cm_get (s := { s with toks := s.toks + 1 }) (X₀.keeps F.keep) hp (handed_on rfl (h s.heap.objs.size _ (S.step0 fun b o e => Heap.get?_push_of_some _ e) (F.push _) (N.push F _) fun p hp => Heap.lt_size (N p hp).1))))
end
local macro_rules | `(tactic| walk_at "getAttr ref") => `(tactic| (k_here; (with_reducible rename Since _ _ _ => S9); k_dflt (refine' cls_cmS S9 ?k1 ?k2 ?k4 ?k5 ?k6 ?k7 ?k3 ?_; (case k1 => k_asm); (case k2 => k_asm); (case k4 => k_asm); (case k3 => k_is); (case k5 => k_is); (case k6 => k_is); (case k7 => k_is); k_whole; intro q' h' S8 F' N' l1; clear S9; (try k_lt l1))))
section
variable {w : World} {A : Around} {E : Value → Shared → Prop} {s : Shared} {g : Heap} {p : Program} {loose : List Str} {mg mb : Str → Option Value}
/-- a match of a member: its objects -/
def MemberO (w : World) (cx : Addr) (nm : Str) (val : Value) (y : Value) (objs : List (Addr × Obj)) : Prop :=
  ∃ x dx px dpx t k1 k2 k3 k4 k5 tn, y = .ref x ∧ objs = [(x, instObj 212 dx), (dx, dictOf [⟨PyData.keyHash w.params "_value", .str "_value" k1, val⟩, ⟨PyData.keyHash w.params "path", .str "path" k2, .ref px⟩, ⟨PyData.keyHash w.params "context", .str "context" k3, .ref cx⟩] 3),
    (px, instObj 558 dpx), (dpx, dictOf [⟨PyData.keyHash w.params "_deprecated_wildcard_use", .str "_deprecated_wildcard_use" k4, .bool false⟩, ⟨PyData.keyHash w.params "fields", .str "fields" k5, .ref t⟩] 2), (t, tupObj [.str nm tn])]
def MembersAt (w : World) (h0 h' : Heap) (l : Addr) (kvs : List (Str × Value)) (D : Addr) : Prop :=
  ∃ ys n cx dcx t dt j1 j2 j3, Has h0 h' ((D, listOf ys n) :: datO w cx dcx t dt j1 j2 j3 (.ref l)) ∧ Paired (fun i y => ∃ objs, MemberO w cx (kvs.getD i default).1 (kvs.getD i default).2 y objs ∧ Has h0 h' objs) (List.range kvs.length) ys.toList
set_option pp.deepTerms false
set_option pp.deepTerms.threshold 7
set_option pp.maxSteps 15000
set_option maxHeartbeats 4000000 in
/-- Slice().find(members) -/
theorem find_members {sx sdx l lb : Addr} {od : Obj} {k0 k1 k2 k3 ta : Tok} {v1 v2 v3 : Value} {R : Result → Shared → Prop} (G : Up g s.heap) (X : (hd.heap_39 w.params).In g) (T : TopRead p loose mg mb g) (hd : A.depth ≤ 430)
    (hh : A.handled = none) (hgs : AllBare s.gens) (hlo : (l == sysModules) = false) (hod : od.IsDictOf (PySem.strKind PR w) [("a", .int 1 ta), ("b", .ref lb)])
    (hO : Has g s.heap [(sx, instObj 726 sdx), (sdx, dictOf [⟨PyData.keyHash w.params "_deprecated_wildcard_use", .str "_deprecated_wildcard_use" k0, .bool true⟩, ⟨PyData.keyHash w.params "start", .str "start" k1, v1⟩, ⟨PyData.keyHash w.params "end", .str "end" k2, v2⟩, ⟨PyData.keyHash w.params "step", .str "step" k3, v3⟩] 4),
      (l, od)])
    (hQ : ∀ D h' tk gs, Up s.heap h' → MembersAt w s.heap h' l [("a", .int 1 ta), ("b", .ref lb)] D → AllBare gs → R (.ok (.ret (.ref D))) { s with heap := h', toks := tk, gens := gs }) :
    codeAny (model PR w) A (.call (.ref 690) ⟨[.ref sx, .ref l], []⟩) R s := by
  obtain ⟨es, n, rfl⟩ := dict_lit hod
  refine' enterFC G X T hO ?k6 ?k7 ?k8 ?k9 ?kB ?kD ?_ ?c2 ?c3 ?c4
  (case k6 => k_is)
  (case k7 => k_is)
  (case k8 => k_room)
  (case k9 => exact BindsTo.of_eq rfl)
  (case kB => exact rfl)
  (case kD => decide +kernel)
  (case c2 => exact rfl)
  (case c3 => exact rfl)
  (case c4 => exact rfl)
  intro g' L' h' tk' cells' hkeep hUp F' N' Y' X' T' l3
  k_lt l3
  k_cells Y'
  simp only [List.cons_append, List.nil_append] at N'
  (try dsimp only)
  (try k_unmd); (try k_fold)
  k_steps
  refine ListComp_made (cl := [("datum", L' + 1)]) (fun _ => true) (fun i y objs => MemberO w xW (([("a", .int 1 ta), ("b", .ref lb)] : List (Str × Value)).getD i default).1 (([("a", .int 1 ta), ("b", .ref lb)] : List (Str × Value)).getD i default).2 y objs) (fun jo => jo = []) [] (by rfl) (by decide) rfl (by decide) ?_
  (try k_unmd); (try k_fold)
  k_steps
  (with_reducible rename Fr _ _ _ _ => F9); (with_reducible rename News _ _ _ _ => N9)
  show wpAny _ _ (pyIter _) _ _ _
  refine items_iter ⟨_, (N9 _ (by k_mem)).1, rfl, rfl⟩ (N9 (l, dictOf es n) (by k_mem)).1 hod (fun I hI ep UI nI le ll hne st => ?_)
  have F8 := Fr.keeps F9 UI
  have N8 := News.grown N9 UI
  refine CompOk.items (jo := []) (ep := ep) hh (Nat.le_of_ble_eq_true rfl) le ll hne st ⟨List.not_mem_nil, List.not_mem_nil⟩ (fun z hz => nomatch hz) rfl (fun q hq => nomatch hq) (fun jo hj z hz => nomatch hz) hgs (fun C i s₃ m₁ t₃ jo hC hi hn hk hJ hj => tests_nil) ?_ ?_ (fun C => rfl) (fun C => rfl) (fun C => rfl)
  · intro C i s₃ m₁ t₃ jo hC hi _ hn hk hJ hj hb
    subst hJ
    obtain ⟨F3, N3⟩ := elt_frame F8 N8 hn hC (fun b o e => nI b o (F9.keep b o e)) (fun q hq => nI _ _ (N9 q hq).1) hk
    have S3 := Since.start s₃.heap
    clear F8 N8 F9 N9 hk hb hj
    have hi2 : i = 0 ∨ i = 1 := by
      rcases i with _ | _ | i
      · exact .inl rfl
      · exact .inr rfl
      · exact absurd hi (by simp only [List.length_cons, List.length_nil]; omega)
    rcases hi2 with rfl | rfl
    all_goals
      (try dsimp only [List.getD_cons_zero, List.getD_cons_succ])
      (try k_unmd); (try k_fold)
      k_steps
      (with_reducible rename Since _ _ _ => S9)
      refine ⟨_, _, _, _, [], rfl, fun b o _ e => S9.up b o e, S9.has, ⟨_, _, _, _, _, _, _, _, _, _, _, rfl, rfl⟩, rfl, (fun _ h => nomatch h), fun h => h⟩
  · intro D h' tk gs ys jo hD hl hF hJ hj hgs' hk
    obtain ⟨nD, hl⟩ := hl
    have U0 := up_mix (new := []) (fun _ _ e => e) hO Has.nil hkeep F9 N9 ⟨by k_mem, by k_mem, by k_mem, trivial⟩
    have U1 : Up s.heap hI := fun b o e => UI b o (U0 b o e)
    obtain ⟨oL, _, _, eL, _⟩ := id F9.ns
    have nn' : ∀ b o, Heap.get? _ b = some o → b ∉ [I] ∧ b ∉ ([] : List Addr) := fun b o e => ⟨nI b o e, List.not_mem_nil⟩
    obtain ⟨F7, N7⟩ := back_frame F8 N8 (fun b o e => nn' b o (F9.keep b o e)) (nn' _ _ eL) (fun q hq => nn' _ _ (N9 q hq).1) hk
    refine hQ D h' tk gs (up_mix (new := []) (fun _ _ e => e) hO Has.nil hkeep F7 N7 ⟨by k_mem, by k_mem, by k_mem, trivial⟩) ?_ hgs'
    refine' ⟨ys, nD, xW, dW, tW, eW, kW1, kW2, kW3, Has.cons hl (none_of U1 hD) ?_, ?_⟩
    · refine has_mix (new := []) (fun _ _ e => e) Has.nil hkeep N7 ⟨by k_mem, by k_mem, by k_mem, by k_mem, trivial⟩ (ApartL.apart ?_)
      simp only [ApartL, NeAll, and_true]
      exact ⟨AW.1.2.2, AW.2.1.2.2, AW.2.2.1.2.2, AW.2.2.2.2.2⟩
    · rw [List.filter_eq_self.mpr (fun _ _ => rfl)] at hF
      exact hF.mono fun i y ⟨objs, hm, ho⟩ => ⟨objs, hm, fun q hq => ⟨(ho q hq).1, none_of U1 (ho q hq).2.1⟩⟩
end
end
section
local macro_rules | `(tactic| walk_at "exec For Name Attribute cons nil") => `(tactic| (k_here; (rename Fr _ _ _ _ => lF'); (with_unfolding_all refine' For_turns lF' ?_; k_whole)))
local macro_rules | `(tactic| walk_at "getMethod ref") => `(tactic| (k_here; (with_reducible show wpAny _ _ (getMethod (Value.ref 70) _ _) _ _ _); refine pat_method (pat_at (K := Mine.hd.heap_39 _) (by k_in) (by assumption)) ?_))
local macro_rules | `(tactic| walk_at "call builtin:re.Pattern.match") => `(tactic| (k_here; (with_reducible rename Fr _ _ _ _ => F9); (with_reducible rename News _ _ _ _ => N9); refine pat_match (pat_at (K := Mine.hd.heap_39 _) (by k_in) (by assumption)) (by first | exact ok_a | exact ok_b) rfl ?_; intro D' fs' h' U' e1' e2' l1'; (have F8 := Fr.keeps F9 U'); (have H9 := Has.cons e2' e1' Has.nil); (have N8 := News.add F9 N9 U' H9); (have A8 := apart_news H9 N9); (simp only [ApartL, NeAll, and_true] at A8); (simp only [List.cons_append, List.nil_append] at N8); clear F9 N9; (try dsimp only); (try k_unmd); (try k_fold)))
local macro_rules | `(tactic| walk_at "truthy ref") => `(tactic| (k_here; refine match_truthy (News.get (by k_asm) (by k_mem)) ?_))
section
variable {w : World} {A : Around} {E : Value → Shared → Prop} {s : Shared} {g : Heap} {p : Program} {loose : List Str} {mg mb : Str → Option Value}
set_option pp.deepTerms false
set_option pp.deepTerms.threshold 7
set_option pp.maxSteps 15000
set_option maxHeartbeats 4000000 in
/-- str(Fields) -/
theorem fields_str {x dx t : Addr} {nm : Str} {k4 k5 tn : Tok} {R : Result → Shared → Prop} (G : Up g s.heap) (X : (hd.heap_39 w.params).In g) (T : TopRead p loose mg mb g) (hd : A.depth ≤ 430) (hh : A.handled = none)
    (hnm : nm = "a" ∨ nm = "b")
    (hO : Has g s.heap [(x, instObj 558 dx), (dx, dictOf [⟨PyData.keyHash w.params "_deprecated_wildcard_use", .str "_deprecated_wildcard_use" k4, .bool false⟩, ⟨PyData.keyHash w.params "fields", .str "fields" k5, .ref t⟩] 2), (t, tupObj [.str nm tn])])
    (hQ : ∀ t' h' tk, Up s.heap h' → R (.ok (.ret (.str nm t'))) { s with heap := h', toks := tk }) :
    codeAny (model PR w) A (.call (.ref 534) ⟨[.ref x], []⟩) R s := by
  refine' enterF G X T hO ?k6 ?k7 ?k8 ?k9 ?kB ?_ ?c2 ?c3 ?c4 ?c5
  (case k6 => k_is)
  (case k7 => k_is)
  (case k8 => k_room)
  (case k9 => exact BindsTo.of_eq rfl)
  (case kB => exact locs rfl)
  (case c2 => exact rfl)
  (case c3 => exact rfl)
  (case c4 => exact rfl)
  (case c5 => decide)
  intro g' L' h' hkeep hUp F' N' X' T' l3
  k_lt l3
  (try dsimp only)
  (try k_unmd); (try k_fold)
  have hpat : patIn (Mine.hd.heap_39 w.params) 70 = true := by first | kernel_rfl | with_unfolding_all rfl
  rcases hnm with rfl | rfl
  · k_steps
    (rename Fr _ _ _ _ => lF'); (rename News _ _ _ _ => nN')
    (with_unfolding_all refine iter_tupTurns (lo := tupObj [.str "a" tn]) (vs := [.str "a" tn]) (by exact hh) lF' nN' (by k_mem) (by rfl) (by rfl) ?_); clear lF'; intro i' l1; (try k_lt l1)
    k_steps
    (rename Fr _ _ _ _ => F9); (rename News _ _ _ _ => N9)
    have e : Txt.join (Str.ofString ",") [Str.ofString "a"] = "a" := by decide +kernel
    rw [e]
    exact hQ _ _ _ (up_mix (new := []) (fun _ _ e => e) hO Has.nil hkeep F9 N9 ⟨by k_mem, by k_mem, by k_mem, trivial⟩)
  · k_steps
    (rename Fr _ _ _ _ => lF'); (rename News _ _ _ _ => nN')
    (with_unfolding_all refine iter_tupTurns (lo := tupObj [.str "b" tn]) (vs := [.str "b" tn]) (by exact hh) lF' nN' (by k_mem) (by rfl) (by rfl) ?_); clear lF'; intro i' l1; (try k_lt l1)
    k_steps
    (rename Fr _ _ _ _ => F9); (rename News _ _ _ _ => N9)
    have e : Txt.join (Str.ofString ",") [Str.ofString "b"] = "b" := by decide +kernel
    rw [e]
    exact hQ _ _ _ (up_mix (new := []) (fun _ _ e => e) hO Has.nil hkeep F9 N9 ⟨by k_mem, by k_mem, by k_mem, trivial⟩)
end
end
section
/-- a place's text -/
def bracket (q : Nat) : Str := Str.ofString "[" ++ Str.ofString (toString (q : Int)) ++ Str.ofString "]"
/-- the frame behind a join: all that stood before the block stands -/
theorem join_frame {g' h₁ h₅ h' : Heap} {L : Addr} {m : Str → Option Value} {news : List (Addr × Obj)} (F8 : Fr g' L h₁ m) (F5 : Fr g' L h₅ m) (N5 : News g' L h₅ news) (hl : ∀ q ∈ news, q.1 < h₁.objs.size) (hk : ∀ b o, b ≤ h₁.objs.size - 1 → h₅.get? b = some o → h'.get? b = some o) : Fr g' L h' m ∧ News g' L h' news := by
  have hL := F8.ns.lt
  have le : ∀ b, b < h₁.objs.size → b ≤ h₁.objs.size - 1 := fun b hb => Nat.le_sub_one_of_lt hb
  exact ⟨⟨F5.ns.at' fun o e => hk _ o (le _ hL) e, fun b o e => hk b o (le b (Nat.lt_trans (Nat.lt_of_lt_of_le (Heap.lt_size e) F8.above) hL)) (F5.keep b o e), F5.above⟩, fun q hq => ⟨hk _ _ (le _ (hl q hq)) (N5 q hq).1, (N5 q hq).2⟩⟩
section
variable {M : Model} {A : Around} {E : Value → Shared → Prop} {s : Shared} {K : Frag} {h₀ : Heap} {C : Addr} {m mg mb : Str → Option Value} {p : Program} {loose : List Str} {scope : Scope} {cl : List (Str × Addr)} {env : Env} {code : Value} {bi : Addr}
  {x : Str} {pos : Pos} {v : Value} {Q : Value → Shared → Prop}
theorem gName_local (F : Fr h₀ C s.heap m) (hv : m x = some v) (h : Q v s) (hk : (genEnv scope cl C code bi env).scope.kind = .function) (hl : (genEnv scope cl C code bi env).kindOf x = some .local) (hd : (x == ("__debug__" : Str)) = false := by decide) :
    wpAny M A (eval (.Name x pos) (genEnv scope cl C code bi env)) Q E s := wpAny_Name (wpAny_loadName_local hk hl F.ns hv h) hd
theorem gName_boot (F : Fr h₀ C s.heap m) (X : K.In h₀) (T : TopRead p loose mg mb h₀) (e : nsIn K mainGlobals x = some none) (hv : bootBuiltins x = some v) (hn : x ≠ "__name__") (h : Q v s) (hg : env.globals = mainGlobals) (hb : bi = builtinsNs) (hk : (genEnv scope cl C code bi env).scope.kind = .function) (hl : (genEnv scope cl C code bi env).kindOf x = some .globalImplicit) (hd : (x == ("__debug__" : Str)) = false := by decide) :
    wpAny M A (eval (.Name x pos) (genEnv scope cl C code bi env)) Q E s :=
  Name_function_global hk hl (loadGlobal_builtin (env := genEnv scope cl C code bi env) (by show s.heap.Ns env.globals mg; rw [hg]; exact T.g.keeps F.keep) (mg_none_of X T.g e) (by show s.heap.Ns bi mb; rw [hb]; exact T.b.keeps F.keep) ((T.builtins x hn).trans hv) h) hd
end
local macro_rules | `(tactic| walk_at "eval Name") => `(tactic| (k_here; (with_reducible show wpAny _ _ (eval (PySem.Expr.Name _ _) (genEnv _ _ _ _ _ _)) _ _ _); k_dflt (first
  | (refine' gName_local ?F ?v ?_ ?a ?b; (case F => k_asm); (case a => rfl); (case b => rfl); (case v => first | assumption | rfl | simp); k_whole)
  | (refine' gName_boot ?F ?X ?T ?e ?v ?n ?_ ?g ?h ?a ?b; (case F => k_asm); (case X => k_asm); (case T => k_asm); (case g => rfl); (case h => rfl); (case a => rfl); (case b => rfl); (case e => k_is); (case v => boot_fast); (case n => decide); k_whole))))
local macro_rules | `(tactic| k_steps) => `(tactic| repeat' ((fail_if_success (with_reducible show wpAny _ _ (eval (PySem.Expr.GeneratorExp _ _ _ _) _) _ _ _)); (fail_if_success (with_reducible show Exists _)); (first | (k_unfold; (try dsimp only)) | (k_end; wrow_close) | walk1 | (dsimp only; walk1) | (leave1; walk_say "STEP leave1"; try dsimp only) | fail "no step")))
local macro_rules | `(tactic| walk_at "call type:str") => `(tactic| (k_here; (with_reducible show wpAny _ _ (call (Value.type "str") [Value.int _ _]) _ _ _); refine str_of_int (Nat.lt_trans (log2_small (by omega)) (by decide)) ?_))
local macro_rules | `(tactic| walk_at "call builtin:str.join") => `(tactic| (k_here; (with_reducible rename Gen _ _ _ _ _ _ _ _ => X9); refine' join_one X9 ?g ?hok ?_; (case g => assumption); intro h' tk' gs' t' hk' hgs'; clear X9))
section
variable {w : World} {A : Around} {E : Value → Shared → Prop} {s : Shared} {g : Heap} {p : Program} {loose : List Str} {mg mb : Str → Option Value}
set_option pp.deepTerms false
set_option pp.deepTerms.threshold 7
set_option pp.maxSteps 15000
set_option maxHeartbeats 4000000 in
/-- str(Index) -/
theorem index_str {x dx t bm : Addr} {q : Nat} {k4 ti : Tok} {ps : Array Value} {ob : Obj} {R : Result → Shared → Prop} (G : Up g s.heap) (X : (hd.heap_39 w.params).In g) (T : TopRead p loose mg mb g) (hd : A.depth ≤ 430) (hh : A.handled = none) (hgs : AllBare s.gens)
    (BM : BMod g mainGlobals mg bm ob) (htr : TriplesOk ps.toList) (hq : q < 1000000)
    (hO : Has g s.heap [(x, instObj 657 dx), (dx, dictOf [⟨PyData.keyHash w.params "indices", .str "indices" k4, .ref t⟩] 1), (t, tupObj [.int q ti]), (630, tabObj ps)])
    (hQ : ∀ t' h' tk gs ps', (∀ b o, b ≠ 630 → s.heap.get? b = some o → h'.get? b = some o) → h'.get? 630 = some (tabObj ps') → TriplesOk ps'.toList → AllBare gs → R (.ok (.ret (.str (bracket q) t'))) { s with heap := h', toks := tk, gens := gs }) :
    codeAny (model PR w) A (.call (.ref 635) ⟨[.ref x], []⟩) R s := by
  refine' enterF G X T hO ?k6 ?k7 ?k8 ?k9 ?kB ?_ ?c2 ?c3 ?c4 ?c5
  (case k6 => k_is)
  (case k7 => k_is)
  (case k8 => k_room)
  (case k9 => exact BindsTo.of_eq rfl)
  (case kB => exact locs rfl)
  (case c2 => exact rfl)
  (case c3 => exact rfl)
  (case c4 => exact rfl)
  (case c5 => decide)
  intro g' L' h' hkeep hUp F' N' X' T' l3
  have BM' := BM.keeps hUp
  have hCH : CodeHd g' 634 630 := codeHd_of_K X' (by kernel_rfl)
  k_lt l3
  (try dsimp only)
  (try k_unmd); (try k_fold)
  k_steps
  (with_reducible rename Fr _ _ _ _ => F9); (with_reducible rename News _ _ _ _ => N9)
  refine genexp_one (c := 634) (P := 630) (ps := ps) (bm := bm) (ob := ob) (mg := mg) hh rfl rfl (by rfl) (by decide) (by rfl) (by rfl) rfl (by k_room) ?_
  k_steps
  (with_reducible rename News _ _ _ _ => N8)
  have hP : Heap.get? _ 630 = some (tabObj ps) := (N8 (630, tabObj ps) (by k_mem)).1
  (with_reducible rename Fr _ _ _ _ => F8)
  refine ⟨t, .int q ti, toString (q : Int), rfl, ⟨_, N8.get (by k_mem : (t, tupObj [.int q ti]) ∈ _), rfl, _, rfl⟩, hCH.keeps F8.keep |>.code hP htr, (hCH.keeps F8.keep).tab hP, BM'.keeps F8.keep, T'.nolimit.keeps F8.keep, hgs, (by decide), ?_, ?_⟩
  · intro C code A' E' s₂ m₂ hA hC hn hm hk
    have n6 : ∀ b o, g'.get? b = some o → b ≠ 630 := fun b o e r => by
      have r2 := (N8 (630, tabObj ps) (by k_mem)).2.2
      dsimp only at r2
      rw [← r, e] at r2
      cases r2
    have F3 : Fr g' C s₂.heap m₂ := ⟨hn, fun b o e => hk b o (n6 b o e) (F8.keep b o e), Nat.le_trans F8.above (Nat.le_trans (Nat.le_of_lt F8.ns.lt) hC)⟩
    have N3 : News g' C s₂.heap [] := fun _ h => nomatch h
    clear F8 N8 hP
    (try k_unmd); (try k_fold)
    k_steps
    all_goals first | exact ⟨_, rfl⟩ | exact ⟨_, _, rfl, fun b o e => e⟩
  · intro a h₅ tk₅ gs₅ ps₅ hk₅ hok₅ htab₅ hgs₅ X₅
    have h630 := (N8 (630, tabObj ps) (by k_mem)).2
    have hg6 : ∀ b o, g'.get? b = some o → b ∉ [630] ∧ b ∉ ([] : List Addr) := by
      intro b o e
      refine ⟨fun r => ?_, List.not_mem_nil⟩
      have r2 := h630.2
      dsimp only at r2
      rw [← List.mem_singleton.mp r, e] at r2
      cases r2
    have hne6 : ∀ r ∈ ([(x, instObj 657 dx), (dx, dictOf [⟨PyData.keyHash w.params "indices", .str "indices" k4, .ref t⟩] 1), (t, tupObj [.int q ti])] : List (Addr × Obj)), r.1 ∉ [630] ∧ r.1 ∉ ([] : List Addr) := by
      intro r hr
      refine ⟨fun e => ?_, List.not_mem_nil⟩
      have h0 := (hO (630, tabObj ps) (by k_mem)).1
      have e2 := List.mem_singleton.mp e
      dsimp only at h0
      rcases hr with _ | ⟨_, hr⟩
      · have h1 := (hO (x, instObj 657 dx) (by k_mem)).1
        dsimp only at h1 e2
        rw [e2, h0] at h1; cases h1
      · rcases hr with _ | ⟨_, hr⟩
        · have h1 := (hO (dx, dictOf [⟨PyData.keyHash w.params "indices", .str "indices" k4, .ref t⟩] 1) (by k_mem)).1
          dsimp only at h1 e2
          rw [e2, h0] at h1; cases h1
        · rcases hr with _ | ⟨_, hr⟩
          · have h1 := (hO (t, tupObj [.int q ti]) (by k_mem)).1
            dsimp only at h1 e2
            rw [e2, h0] at h1; cases h1
          · cases hr
    have N80 : News g' L' _ [(x, instObj 657 dx), (dx, dictOf [⟨PyData.keyHash w.params "indices", .str "indices" k4, .ref t⟩] 1), (t, tupObj [.int q ti])] := fun r hr => N8 r (by rcases hr with _ | ⟨_, hr⟩; k_mem; rcases hr with _ | ⟨_, hr⟩; k_mem; rcases hr with _ | ⟨_, hr⟩; k_mem; cases hr)
    have hL6 : L' ≠ 630 := fun e => h630.1 e.symm
    obtain ⟨F5, N50⟩ := back_frame (wr := [630]) (Z := []) F8 N80 hg6 ⟨fun e => hL6 (List.mem_singleton.mp e), List.not_mem_nil⟩ hne6 (fun b o hb _ e => hk₅ b o (fun e2 => hb (e2 ▸ .head _)) e)
    have N5 : News g' L' h₅ [(x, instObj 657 dx), (dx, dictOf [⟨PyData.keyHash w.params "indices", .str "indices" k4, .ref t⟩] 1), (t, tupObj [.int q ti]), (630, tabObj ps₅)] := fun r hr => by
      rcases hr with _ | ⟨_, hr⟩
      · exact N50 _ (by k_mem)
      · rcases hr with _ | ⟨_, hr⟩
        · exact N50 _ (by k_mem)
        · rcases hr with _ | ⟨_, hr⟩
          · exact N50 _ (by k_mem)
          · rcases hr with _ | ⟨_, hr⟩
            · exact ⟨htab₅.2, h630⟩
            · cases hr
    have hlt : ∀ r ∈ ([(x, instObj 657 dx), (dx, dictOf [⟨PyData.keyHash w.params "indices", .str "indices" k4, .ref t⟩] 1), (t, tupObj [.int q ti]), (630, tabObj ps₅)] : List (Addr × Obj)), r.1 < _ := fun r hr => by
      rcases hr with _ | ⟨_, hr⟩
      · exact Heap.lt_size (N80 _ (by k_mem)).1
      · rcases hr with _ | ⟨_, hr⟩
        · exact Heap.lt_size (N80 _ (by k_mem)).1
        · rcases hr with _ | ⟨_, hr⟩
          · exact Heap.lt_size (N80 _ (by k_mem)).1
          · rcases hr with _ | ⟨_, hr⟩
            · exact Heap.lt_size hP
            · cases hr
    have hJ := fun (h' : Heap) hk => join_frame (h' := h') F8 F5 N5 hlt hk
    have htr₅ : TriplesOk ps₅.toList := by
      obtain ⟨_, _, _, _, _, _, _, _, _, op, _, _, _, _, _, _, _, e1, e2, e3, _⟩ := hok₅
      exact e3
    have hjn : JoinOk "," [toString (q : Int)] = true := by
      have h1 := len_str_of_int (q : Int)
      show (!(decide (0 + (Str.ofString (toString (q : Int))).length + 1 > sizeLine))) = true
      unfold sizeLine
      simp only [Bool.not_eq_true', decide_eq_false_iff_not]
      omega
    clear N80 N50 hne6 hP hok₅ htab₅ N8
    k_steps
    refine join_one X₅ hgs₅ hjn ?_
    intro h' tk' gs' t' hk' hgs'
    obtain ⟨F7, N7⟩ := hJ h' hk'
    clear hJ X₅ F5 N5 hlt F8
    k_steps
    have ej : Txt.join (Str.ofString ",") [Str.ofString (toString (q : Int))] = Str.ofString (toString (q : Int)) := rfl
    rw [ej]
    refine hQ _ _ _ _ ps₅ (up_but hO hkeep F7 N7 fun r hr hn => ?_) (N7 (630, tabObj ps₅) (by k_mem)).1 htr₅ hgs'
    rcases hr with _ | ⟨_, hr⟩
    · k_mem
    · rcases hr with _ | ⟨_, hr⟩
      · k_mem
      · rcases hr with _ | ⟨_, hr⟩
        · k_mem
        · rcases hr with _ | ⟨_, hr⟩
          · exact absurd rfl hn
          · cases hr
end
end
section
/-- the places that a slice finds in a list of length n -/
def plF (o1 o2 o3 : Option Int) (n : Nat) : List Nat := if o3 = some 0 then [] else plN o1 o2 o3 n
section
variable {w : World} {A : Around} {E : Value → Shared → Prop} {s : Shared} {g : Heap} {p : Program} {loose : List Str} {mg mb : Str → Option Value}
/-- Slice.find on a list -/
theorem find_any {sx sdx l : Addr} {nn : Nat} {vs : List Value} {k0 k1 k2 k3 : Tok} {dep : Bool} {v1 v2 v3 : Value} {o1 o2 o3 : Option Int} {R : Result → Shared → Prop} (G : Up g s.heap) (X : (hd.heap_39 w.params).In g) (T : TopRead p loose mg mb g) (hd : A.depth ≤ 430)
    (hh : A.handled = none) (hgs : AllBare s.gens) (hc3 : (o3.getD 1).natAbs < 1000000) (hvl : vs.length ≤ 63) (hvh : ∀ q, handedIn (vs.getD q .none) = true) (p1 : IsPart v1 o1) (p2 : IsPart v2 o2) (p3 : IsPart v3 o3) (hdep : dep = true → o1 = none ∧ o2 = none ∧ o3 = none)
    (hO : Has g s.heap [(sx, instObj 726 sdx), (sdx, dictOf [⟨PyData.keyHash w.params "_deprecated_wildcard_use", .str "_deprecated_wildcard_use" k0, .bool dep⟩, ⟨PyData.keyHash w.params "start", .str "start" k1, v1⟩, ⟨PyData.keyHash w.params "end", .str "end" k2, v2⟩, ⟨PyData.keyHash w.params "step", .str "step" k3, v3⟩] 4),
      (l, listOf vs.toArray nn)])
    (hQ : ∀ D h' tk gs, Up s.heap h' → FoundAt w s.heap h' l vs (plF o1 o2 o3 vs.length) D → AllBare gs → R (.ok (.ret (.ref D))) { s with heap := h', toks := tk, gens := gs }) :
    codeAny (model PR w) A (.call (.ref 690) ⟨[.ref sx, .ref l], []⟩) R s := by
  by_cases hn : o1.isNone = true ∧ o2.isNone = true ∧ o3.isNone = true
  · obtain ⟨h1, h2, h3⟩ := hn
    rw [Option.isNone_iff_eq_none] at h1 h2 h3
    subst h1; subst h2; subst h3
    cases p1; cases p2; cases p3
    refine find_all G X T hd hh hgs hvl hvh hO fun D h' tk gs U hF hg => hQ D h' tk gs U ?_ hg
    have e : plF none none none vs.length = List.range vs.length := by
      unfold plF
      rw [if_neg (by simp), plN_all]
    rw [e]; exact hF
  · cases dep with
    | true =>
      obtain ⟨h1, h2, h3⟩ := hdep rfl
      exact absurd ⟨by rw [h1]; rfl, by rw [h2]; rfl, by rw [h3]; rfl⟩ hn
    | false => exact find_some G X T hd hh hgs hc3 hvl p1 p2 p3 hn hO hQ
theorem plF_lt {o1 o2 o3 : Option Int} {n q : Nat} (h : q ∈ plF o1 o2 o3 n) : q < n := by
  unfold plF at h
  split at h
  · cases h
  · rename_i h0; exact plN_lt o1 o2 o3 n h0 q h
end
end
local macro_rules | `(tactic| k_enter) => do
  let fb := Lean.mkIdent `FB; let nb := Lean.mkIdent `NB; let d := Lean.mkIdent `DF; let u := Lean.mkIdent `UF; let hf := Lean.mkIdent `HF; let hg := Lean.mkIdent `GF
  `(tactic| ((with_reducible show codeAny _ _ (PySem.Code.call (Value.ref 690) _) _ _); (with_reducible rename Fr _ _ _ _ => $fb); (with_reducible rename News _ _ _ _ => $nb); (refine' find_any (fun b o e => Fr.keep $fb b o e) ?X ?T ?d ?hh ?hg ?c3 ?vl ?vh ?p1 ?p2 ?p3 ?dp (Has.of_news $nb (AllMem.sub ?S)) ?_; (case X => k_asm); (case T => k_asm); (case d => k_room); (case S => exact ⟨by k_mem, by k_mem, by k_mem, trivial⟩); (case hh => assumption); (case hg => assumption); (case p1 => assumption); (case p2 => assumption); (case p3 => assumption); (case dp => assumption); (case c3 => assumption); (case vl => assumption); (case vh => assumption)); k_whole; intro $d h' tk' gs' $u $hf $hg; (try dsimp only); (try k_unmd); (try k_fold)))
section
local macro_rules | `(tactic| k_steps) => `(tactic| repeat' ((fail_if_success (with_reducible show wpAny _ _ (subscriptTail _ (PySem.Expr.Slice _ _ (some _) _) _ _) _ _ _)); (fail_if_success (with_reducible show wpAny _ _ (eval (PySem.Expr.ListComp _ _ _ _) _) _ _ _)); (fail_if_success (with_reducible show wpAny _ _ (eval (PySem.Expr.SetComp _ _ _ _) _) _ _ _)); (fail_if_success (with_reducible show wpAny _ _ (call (Value.type "enumerate") _ _) _ _ _)); (first | (k_unfold; (try dsimp only)) | (k_end; wrow_close) | walk1 | (dsimp only; walk1) | (leave1; walk_say "STEP leave1"; try dsimp only) | fail "no step")))
local macro_rules | `(tactic| walk_at "callWith ref") => `(tactic| (k_here; k_dflt (refine' callWith_F ?k1 ?_; (case k1 => exact FnAt.of (by k_asm) (by k_mem)); k_whole)))
local macro_rules | `(tactic| walk_at "FnAt") => `(tactic| (k_dflt (exact FnAt.of (by k_asm) (by k_mem))))
/-- what a filter leaves of a list -/
def keepT (vs : List Value) (pl : List Nat) (p : Value → Bool) : List Value := ((List.range vs.length).filter fun k => !(pl.contains k && p (vs.getD k .none))).map (vs.getD · .none)
section
variable {prog : Program} {w : World} {A : Around} {E : Value → Shared → Prop} {s : Shared}
theorem range_tailF {value slice : Expr} {r sl : Addr} {n : Nat} {v1 v2 v3 : Value} {o1 o2 o3 : Option Int} {t u v : Tok} {ops : List Value} {Q : Value → Shared → Prop} {h₁ : Heap} (hr : IsRange h₁ r 0 n 1 t u v) (U : Up h₁ s.heap) (hs : s.heap.IsSliceOf sl v1 v2 v3)
    (p1 : IsPart v1 o1) (p2 : IsPart v2 o2) (p3 : IsPart v3 o3) (h0 : o3 ≠ some 0) (hc : (o3.getD 1).natAbs < 1000000) (hn : n < 1000000)
    (h : ∀ D h' t u v tk, Up h₁ h' → h₁.get? D = none → IsRange h' D (sliceEnds o1 o2 o3 n).1 (sliceEnds o1 o2 o3 n).2.1 (sliceEnds o1 o2 o3 n).2.2 t u v → Q (.ref D) { s with heap := h', toks := tk })
    (hsub : subscripted slice false (.ref r) (.ref sl) = operate ops (getItem (.ref r) (.ref sl))) : wpAny (model prog w) A (subscriptTail value slice (.ref r) (.ref sl)) Q E s :=
  tail_any (T := "range") ⟨_, U _ _ hr, rfl⟩ F.slot_range_getitem.lookup (getItem_range_slice (U _ _ hr) hs p1 p2 p3 h0 hc hn fun t u v tk hR => h _ _ t u v tk (fun b o e => Heap.get?_push_of_some _ (U b o e))
    (by
      cases q : h₁.get? s.heap.objs.size with
      | none => rfl
      | some o => exact absurd (Heap.lt_size (U _ _ q)) (Nat.lt_irrefl _)) hR) hsub
/-- the iterator of a slice of range(n) -/
theorem range_iter {D : Addr} {n : Nat} {o1 o2 o3 : Option Int} {t u v : Tok} {Q : Value → Shared → Prop} (hR : s.heap.get? D = some ({ cls := .type "range", data := .fields #[.int (sliceEnds o1 o2 o3 n).1 t, .int (sliceEnds o1 o2 o3 n).2.1 u, .int (sliceEnds o1 o2 o3 n).2.2 v] } : Obj)) (h0 : o3 ≠ some 0) (hc : (o3.getD 1).natAbs < 1000000) (hn : n < 1000000)
    (h : ∀ I h', Up s.heap h' → (∀ b o, s.heap.get? b = some o → b ≠ I) → I < h'.objs.size → IsRangeIter h' I ((sliceEnds o1 o2 o3 n).1 + ((0 : Nat) : Int) * (sliceEnds o1 o2 o3 n).2.2) (((plN o1 o2 o3 n).length : Int) - ((0 : Nat) : Int)) (sliceEnds o1 o2 o3 n).2.2 →
      Q (.ref I) { s with heap := h' }) : wpAny (model prog w) A (pyIter (.ref D)) Q E s := by
  refine wpAny_pyIter_range hR (range_small o1 o2 o3 n h0 hc hn) ?_
  refine h _ _ (fun b o e => Heap.get?_push_of_some _ e) (fun b o e q => ?_) (by rw [Heap.size_push]; exact Nat.lt_succ_self _) ?_
  · have := Heap.lt_size e
    rw [q] at this
    exact Nat.lt_irrefl _ this
  · have l := plN_length o1 o2 o3 n h0
    have e : (((plN o1 o2 o3 n).length : Nat) : Int) = Builtin.Range.rangeSize (sliceEnds o1 o2 o3 n).1 (sliceEnds o1 o2 o3 n).2.1 (sliceEnds o1 o2 o3 n).2.2 := by omega
    rw [e]
    show IsRangeIter _ _ _ _ _
    simpa using Heap.get?_push_size s.heap rfl
end
abbrev rangeO (a b c : Int) (t u v : Tok) : Obj := { cls := .type "range", data := .fields #[.int a t, .int b u, .int c v] }
theorem keepT_nil (vs : List Value) (p : Value → Bool) : keepT vs [] p = vs := by
  unfold keepT
  rw [List.filter_eq_self.mpr (by intro a _; simp)]
  refine List.ext_getElem (by simp) fun i h1 h2 => ?_
  simp [List.getD_eq_getElem?_getD, h2]
theorem keepT_none (vs : List Value) (pl : List Nat) (p : Value → Bool) (h : ∀ j, j < pl.length → p (vs.getD (pl.getD j 0) .none) = false) : keepT vs pl p = vs := by
  have e : keepT vs pl p = keepT vs [] p := by
    unfold keepT
    refine congrArg (List.map _) (List.filter_congr fun k hk => ?_)
    have hc : (pl.contains k && p (vs.getD k .none)) = false := by
      cases hm : pl.contains k with
      | false => rfl
      | true =>
        obtain ⟨j, hj, rfl⟩ := List.getElem_of_mem (List.contains_iff_mem.mp hm)
        have := h j hj
        rw [List.getD_eq_getElem?_getD (l := pl), List.getElem?_eq_getElem hj] at this
        exact this
    rw [hc]; simp
  rw [e, keepT_nil]
theorem cntS_zero (p : Nat → Bool) (kk : Nat → Int) : ∀ n, cntS p kk n = 0 → ∀ j, j < n → p j = false
  | 0, _, j, h => absurd h (Nat.not_lt_zero _)
  | n + 1, h, j, hj => by
    have ih := cntS_zero p kk n
    cases hp : p n with
    | false =>
      have e2 : cntS p kk (n + 1) = cntS p kk n := by rw [cntS, hp]; rfl
      rw [e2] at h
      by_cases e : j = n
      · rw [e]; exact hp
      · exact ih h j (by omega)
    | true =>
      have e2 : cntS p kk (n + 1) = if memS p kk n (kk n) = true then cntS p kk n else cntS p kk n + 1 := by rw [cntS, hp]; rfl
      rw [e2] at h
      cases hm : memS p kk n (kk n) with
      | false => rw [hm] at h; simp at h
      | true =>
        rw [hm, if_pos rfl] at h
        obtain ⟨i, hi, h1, _⟩ := (memS_iff p kk n (kk n)).mp hm
        rw [ih h i hi] at h1; cases h1
theorem memS_places (vs : List Value) (pl : List Nat) (p : Value → Bool) (i : Nat) : memS (fun j => p (vs.getD (pl.getD j 0) .none)) (fun j => ((pl.getD j 0 : Nat) : Int)) pl.length (i : Int) = (pl.contains i && p (vs.getD i .none)) := by
  rw [Bool.eq_iff_iff, memS_iff, Bool.and_eq_true, List.contains_iff_mem]
  constructor
  · rintro ⟨j, hj, h1, h2⟩
    have h3 : pl.getD j 0 = i := by omega
    rw [h3] at h1
    refine ⟨?_, h1⟩
    rw [← h3, List.getD_eq_getElem?_getD, List.getElem?_eq_getElem hj]
    exact List.getElem_mem hj
  · rintro ⟨hm, h1⟩
    obtain ⟨j, hj, rfl⟩ := List.getElem_of_mem hm
    have e : pl.getD j 0 = pl[j] := by rw [List.getD_eq_getElem?_getD, List.getElem?_eq_getElem hj]; rfl
    refine ⟨j, hj, ?_, by rw [e]⟩
    show p (vs.getD (pl.getD j 0) .none) = true
    rw [e]; exact h1
theorem paired_vals {f : Nat → Value} {P : Nat → Value → Prop} : ∀ {l : List Nat} {ys : List Value}, (∀ i y, P i y → y = f i) → Paired P l ys → ys = l.map f
  | _, _, _, .nil => rfl
  | _, _, h, .cons h1 t => by
    rw [List.map_cons, ← h _ _ h1, ← paired_vals h t]
section
variable {w : World} {A : Around} {E : Value → Shared → Prop} {s : Shared} {g : Heap} {p : Program} {loose : List Str} {mg mb : Str → Option Value}
set_option pp.deepTerms false
set_option pp.deepTerms.threshold 7
set_option pp.maxSteps 15000
set_option maxHeartbeats 4000000 in
/-- Slice.filter on a list -/
theorem slice_filter {sx sdx l f c : Addr} {nn : Nat} {vs : List Value} {k0 k1 k2 k3 : Tok} {dep : Bool} {v1 v2 v3 fc : Value} {fo : Option Addr} {fd : FuncData} {fs : Array (Option Value)} {oc : Obj} {o1 o2 o3 : Option Int} {R : Result → Shared → Prop} (P : Value → Bool)
    (G : Up g s.heap) (X : (hd.heap_39 w.params).In g) (T : TopRead p loose mg mb g) (hd : A.depth ≤ 430) (hoc : ∀ xs n, oc.data ≠ .seq xs n)
    (hh : A.handled = none) (hgs : AllBare s.gens) (hc3 : (o3.getD 1).natAbs < 1000000) (hvl : vs.length ≤ 63) (hvh : ∀ q, handedIn (vs.getD q .none) = true) (p1 : IsPart v1 o1) (p2 : IsPart v2 o2) (p3 : IsPart v3 o3)
    (hfn : ∀ (A' : Around) (s' : Shared) (v : Value) (R' : Result → Shared → Prop), A'.depth ≤ 440 → A'.handled = none → v ∈ vs → Up g s'.heap → s'.heap.get? f = some ⟨fc, fo, .func fd, fs⟩ → s'.heap.get? c = some oc →
      (∀ h' tk, Up s'.heap h' → R' (.ok (.ret (.bool (P v)))) { s' with heap := h', toks := tk }) → codeAny (model PR w) A' (.call (.ref f) ⟨[v], []⟩) R' s')
    (hO : Has g s.heap [(sx, instObj 726 sdx), (sdx, dictOf [⟨PyData.keyHash w.params "_deprecated_wildcard_use", .str "_deprecated_wildcard_use" k0, .bool dep⟩, ⟨PyData.keyHash w.params "start", .str "start" k1, v1⟩, ⟨PyData.keyHash w.params "end", .str "end" k2, v2⟩, ⟨PyData.keyHash w.params "step", .str "step" k3, v3⟩] 4),
      (l, listOf vs.toArray nn), (f, ⟨fc, fo, .func fd, fs⟩), (c, oc)])
    (hQ : ∀ nn' h' tk gs, (∀ b o, b ≠ l → s.heap.get? b = some o → h'.get? b = some o) → h'.get? l = some (listOf (keepT vs (plF o1 o2 o3 vs.length) P).toArray nn') → AllBare gs → R (.ok (.ret (.ref l))) { s with heap := h', toks := tk, gens := gs }) :
    codeAny (model PR w) A (.call (.ref 702) ⟨[.ref sx, .ref f, .ref l], []⟩) R s := by
  refine' enterFC G X T hO ?k6 ?k7 ?k8 ?k9 ?kB ?kD ?_ ?c2 ?c3 ?c4
  (case k6 => k_is)
  (case k7 => k_is)
  (case k8 => k_room)
  (case k9 => exact BindsTo.of_eq rfl)
  (case kB => exact rfl)
  (case kD => decide +kernel)
  (case c2 => exact rfl)
  (case c3 => exact rfl)
  (case c4 => exact rfl)
  intro g' L' h' tk' cells' hkeep hUp F' N' Y' X' T' l3
  have np : ∀ (a : Addr) (o : Obj), s.heap.get? a = some o → (∀ xs n, o.data ≠ .seq xs n) → @Ne Nat a l := fun a o e hc q => by
    have h1 := (hO (l, listOf vs.toArray nn) (by k_mem)).1
    dsimp only at h1
    rw [← q, e] at h1
    cases h1
    exact hc _ _ rfl
  have n1 := np sx _ (hO (sx, instObj 726 sdx) (by k_mem)).1 (fun _ _ e => by cases e)
  have n2 := np sdx _ (hO (sdx, dictOf [⟨PyData.keyHash w.params "_deprecated_wildcard_use", .str "_deprecated_wildcard_use" k0, .bool dep⟩, ⟨PyData.keyHash w.params "start", .str "start" k1, v1⟩, ⟨PyData.keyHash w.params "end", .str "end" k2, v2⟩, ⟨PyData.keyHash w.params "step", .str "step" k3, v3⟩] 4) (by k_mem)).1 (fun _ _ e => by cases e)
  have n3 := np f _ (hO (f, ⟨fc, fo, .func fd, fs⟩) (by k_mem)).1 (fun _ _ e => by cases e)
  have n4 := np c _ (hO (c, oc) (by k_mem)).1 hoc
  clear np
  k_lt l3
  k_cells Y'
  simp only [List.cons_append, List.nil_append] at N'
  (try dsimp only)
  (try k_unmd); (try k_fold)
  k_steps
  · rename (o3 == some 0) = true => hz
    have hz := beq_iff_eq.mp hz
    (with_reducible rename Fr _ _ _ _ => F9); (with_reducible rename News _ _ _ _ => N9)
    have U0 := up_mix (new := []) (fun _ _ e => e) hO Has.nil hkeep F9 N9 ⟨by k_mem, by k_mem, by k_mem, by k_mem, by k_mem, trivial⟩
    refine hQ nn _ _ _ (fun b o _ e => U0 b o e) ?_ hgs
    have e : plF o1 o2 o3 vs.length = [] := by unfold plF; rw [if_pos hz]
    rw [e, keepT_nil]
    exact U0 _ _ (hO (l, listOf vs.toArray nn) (by k_mem)).1
  · have h3 : o3 ≠ some 0 := fun e => by
      rename (o3 == some 0) = false => hz
      rw [e] at hz
      exact absurd hz (by decide)
    (with_reducible rename IsRange _ _ _ _ _ _ _ _ => hR)
    (with_reducible rename Fr _ _ _ _ => F9); (with_reducible rename News _ _ _ _ => N9)
    refine range_tailF (o1 := o1) (o2 := o2) (o3 := o3) (n := vs.length) hR (fun b o e => Heap.get?_push_of_some _ e) (Heap.IsSliceOf.new _ _ _ _) p1 p2 p3 h3 hc3 (by omega) (fun DR hI tR uR vR tkI UI nI RI => ?_) (by with_unfolding_all rfl)
    have F8 := Fr.keeps F9 UI
    have H8 : Has _ hI [(DR, rangeO (sliceEnds o1 o2 o3 vs.length).1 (sliceEnds o1 o2 o3 vs.length).2.1 (sliceEnds o1 o2 o3 vs.length).2.2 tR uR vR)] := Has.cons RI nI Has.nil
    have AR := apart_news H8 N9
    simp only [ApartL, NeAll, and_true] at AR
    have N8 := News.add F9 N9 UI (objs := [(DR, rangeO (sliceEnds o1 o2 o3 vs.length).1 (sliceEnds o1 o2 o3 vs.length).2.1 (sliceEnds o1 o2 o3 vs.length).2.2 tR uR vR)]) (Has.cons RI nI Has.nil)
    simp only [List.cons_append, List.nil_append] at N8
    clear F9 N9 hR
    (try k_unmd); (try k_fold)
    k_steps
    (with_reducible rename Fr _ _ _ _ => F9); (with_reducible rename News _ _ _ _ => N9)
    refine SetComp_ints (cl := [("fn", L' + 1), ("data", L' + 1 + 1)]) (fun i => P (vs.getD ((plN o1 o2 o3 vs.length).getD i 0) .none)) (fun i => (((plN o1 o2 o3 vs.length).getD i 0 : Nat) : Int)) (by rfl) (by decide) rfl (by decide) ?_
    (try k_unmd); (try k_fold)
    k_steps
    refine range_iter (o1 := o1) (o2 := o2) (o3 := o3) (n := vs.length) (N9 _ (.head _)).1 h3 hc3 (by omega) (fun I hI2 UJ nJ lJ RJ => ?_)
    have F8 := Fr.keeps F9 UJ
    have N8 := News.grown N9 UJ
    have hpl := plN_small o1 o2 o3 vs.length h3
    refine ⟨I, [I], [I], (plN o1 o2 o3 vs.length).length, _, _, rfl, SetOk.mk (fun C hC => TurnW.name (Walks.range (by exact hh) I (sliceEnds o1 o2 o3 vs.length).1 (sliceEnds o1 o2 o3 vs.length).2.2 (plN o1 o2 o3 vs.length).length) rfl rfl) (by unfold scanBound; omega) RJ (fun b hb => (List.mem_singleton.mp hb) ▸ lJ) ?_ ?_ ?_⟩
    · intro C i s₃ m₁ m₂ hC hi hB hn hk
      obtain ⟨v, ⟨ti, hv⟩, hm⟩ := hB
      have hp := plN_get o1 o2 o3 vs.length h3 i hi
      have hq : (sliceEnds o1 o2 o3 vs.length).1 + i * (sliceEnds o1 o2 o3 vs.length).2.2 = (((plN o1 o2 o3 vs.length).getD i 0 : Nat) : Int) := by
        rw [← hp.2.2, List.getD_eq_getElem?_getD, List.getElem?_eq_getElem hi]; rfl
      have hlt : (plN o1 o2 o3 vs.length).getD i 0 < vs.length := by omega
      rw [hq] at hv
      subst hv; subst hm
      obtain ⟨F3, N3⟩ := elt_frame F8 N8 hn hC (fun b o e q => nJ b o (F9.keep b o e) (List.mem_singleton.mp q)) (fun q hq e => nJ _ _ (N9 q hq).1 (List.mem_singleton.mp e)) (fun b o hb _ e => hk b o hb e)
      clear F8 N8 F9 N9 hk hp hq
      generalize (plN o1 o2 o3 vs.length).getD i 0 = q at hlt F3 ⊢
      have hvi := hvh q
      (try k_unmd); (try k_fold)
      refine wpAny_tests_one ?_
      k_steps
      refine wpAny_call (hfn _ _ _ _ (by first | exact depth_le1 (by with_reducible assumption) (by decide) | exact depth_le0 (by with_reducible assumption) (by decide)) (by exact hh) ?_ (fun b o e => F3.keep b o (hUp b o e)) (N3 (f, ⟨fc, fo, .func fd, fs⟩) (by k_mem)).1 (N3 (c, oc) (by k_mem)).1 fun h5 tk5 U5 => ?_)
      · rw [List.getD_eq_getElem?_getD, List.getElem?_eq_getElem hlt]
        exact List.getElem_mem hlt
      · k_steps
        exact ⟨rfl, h5, tk5, rfl, U5⟩
    · intro C i s₃ m₁ m₂ hC hi hB hn hk
      obtain ⟨v, ⟨ti, hv⟩, hm⟩ := hB
      have hp := plN_get o1 o2 o3 vs.length h3 i hi
      have hq : (sliceEnds o1 o2 o3 vs.length).1 + i * (sliceEnds o1 o2 o3 vs.length).2.2 = (((plN o1 o2 o3 vs.length).getD i 0 : Nat) : Int) := by
        rw [← hp.2.2, List.getD_eq_getElem?_getD, List.getElem?_eq_getElem hi]; rfl
      rw [hq] at hv
      subst hv; subst hm
      obtain ⟨F3, N3⟩ := elt_frame F8 N8 hn hC (fun b o e q => nJ b o (F9.keep b o e) (List.mem_singleton.mp q)) (fun q hq e => nJ _ _ (N9 q hq).1 (List.mem_singleton.mp e)) (fun b o hb _ e => hk b o hb e)
      clear F8 N8 F9 N9 hk hp hq
      (try k_unmd); (try k_fold)
      k_steps
    · intro DS h' tk hDS hSet hk
      obtain ⟨oS, esS, epS, tS, hoS, hrS⟩ := id hSet
      have UD := fun b o e => hk b o (fun q => nJ b o e (List.mem_singleton.mp q)) (UJ b o e)
      have H7 : Has _ h' [(DS, oS)] := Has.cons hoS (none_of UJ hDS) Has.nil
      have AS := apart_news H7 N9
      simp only [ApartL, NeAll, and_true] at AS
      have N7 := News.add F9 N9 UD H7
      have F7 := Fr.keeps F9 UD
      simp only [List.cons_append, List.nil_append] at N7
      clear F8 N8 F9 N9
      (try k_unmd); (try k_fold)
      k_steps
      (with_reducible rename Fr _ _ _ _ => F6); (with_reducible rename News _ _ _ _ => N6)
      have hplF : plF o1 o2 o3 vs.length = plN o1 o2 o3 vs.length := by unfold plF; rw [if_neg h3]
      refine truthy_set (S := memS (fun i => P (vs.getD ((plN o1 o2 o3 vs.length).getD i 0) .none)) (fun i => (((plN o1 o2 o3 vs.length).getD i 0 : Nat) : Int)) (plN o1 o2 o3 vs.length).length) ⟨oS, esS, epS, tS, (N6 (DS, oS) (.head _)).1, hrS⟩ ?_
      by_cases hc : cntS (fun i => P (vs.getD ((plN o1 o2 o3 vs.length).getD i 0) .none)) (fun i => (((plN o1 o2 o3 vs.length).getD i 0 : Nat) : Int)) (plN o1 o2 o3 vs.length).length = 0
      · rw [decide_eq_false (fun h => h hc)]
        k_steps
        have hz := cntS_zero _ _ _ hc
        (with_reducible rename Fr _ _ _ _ => F5); (with_reducible rename News _ _ _ _ => N5)
        have U0 := up_mix (new := []) (fun _ _ e => e) hO Has.nil hkeep F5 N5 ⟨by k_mem, by k_mem, by k_mem, by k_mem, by k_mem, trivial⟩
        refine hQ nn _ _ _ (fun b o _ e => U0 b o e) ?_ hgs
        rw [hplF, keepT_none _ _ _ hz]
        exact U0 _ _ (hO (l, listOf vs.toArray nn) (by k_mem)).1
      · rw [decide_eq_true hc]
        k_steps
        (with_reducible rename Fr _ _ _ _ => F5); (with_reducible rename News _ _ _ _ => N5)
        refine ListComp_made (cl := [("positions_to_remove", L' + 1 + 1 + 1)]) (fun i => !((plN o1 o2 o3 vs.length).contains i && P (vs.getD i .none))) (fun i y objs => y = vs.getD i .none ∧ objs = []) (fun jo => jo = []) [] (by rfl) (by decide) rfl (by decide) ?_
        (try k_unmd); (try k_fold)
        k_steps
        refine enum_iter (vs := vs) (News.isList N5 (by k_mem)) (fun e it hI5 UE nE le li ll hei hle hli st => ?_)
        have F8 := Fr.keeps F5 UE
        have N8 := News.grown N5 UE
        refine CompOk.enum (jo := []) hh hvl le li ll hei hle hli st ⟨List.not_mem_nil, List.not_mem_nil, List.not_mem_nil⟩ (fun z hz => nomatch hz) rfl (fun q hq => nomatch hq) (fun jo hj z hz => nomatch hz) hgs ?_ ?_ ?_ (fun C => rfl) (fun C => rfl) (fun C => rfl)
        · intro C i s₃ m₁ t₃ jo hC hi hn hk hJ hj
          subst hJ
          obtain ⟨F3, N3⟩ := elt_frame F8 N8 hn hC (fun b o e => nE b o (F5.keep b o e)) (fun q hq => nE _ _ (N5 q hq).1) hk
          have hvi := hvh i
          clear F8 N8 F5 N5 hk hj
          (try k_unmd); (try k_fold)
          refine wpAny_tests_one ?_
          k_steps
          refine wpAny_notInSet_of (knd := PySem.intKind PR w) (k := (i : Int)) (S := memS (fun i => P (vs.getD ((plN o1 o2 o3 vs.length).getD i 0) .none)) (fun i => (((plN o1 o2 o3 vs.length).getD i 0 : Nat) : Int)) (plN o1 o2 o3 vs.length).length) (by simp [PySem.intKind, Value.isInt]) rfl ⟨oS, esS, epS, tS, (N3 (DS, oS) (by k_mem)).1, hrS⟩ ?_
          k_steps
          exact ⟨by rw [memS_places], _, _, rfl, fun b o e => e⟩
        · intro C i s₃ m₁ t₃ jo hC hi _ hn hk hJ hj hb
          subst hJ
          obtain ⟨F3, N3⟩ := elt_frame F8 N8 hn hC (fun b o e => nE b o (F5.keep b o e)) (fun q hq => nE _ _ (N5 q hq).1) hk
          have hvi := hvh i
          clear F8 N8 F5 N5 hk hj
          (try k_unmd); (try k_fold)
          k_steps
          exact ⟨_, _, _, [], [], rfl, fun b o _ e => e, Has.nil, ⟨rfl, rfl⟩, rfl, (fun _ h => nomatch h), fun h => h⟩
        · intro D h'' tk'' gs ys jo hD hl hF hJ hj hgs' hk
          obtain ⟨nD, hl⟩ := hl
          have UD2 := fun b o e => hk b o (nE b o e) List.not_mem_nil (UE b o e)
          have H4 : Has _ h'' [(D, listOf ys nD)] := Has.cons hl (none_of UE hD) Has.nil
          have A4 := apart_news H4 N5
          simp only [ApartL, NeAll, and_true] at A4
          have hDl5 := (N5 (l, listOf vs.toArray nn) (by k_mem)).1
          have N4 := News.add F5 N5 UD2 H4
          have F4 := Fr.keeps F5 UD2
          simp only [List.cons_append, List.nil_append] at N4
          clear F8 N8 F5 N5
          (try k_unmd); (try k_fold)
          have hDl : l ≠ D := fun q => by
            have h1 := (N4 (l, listOf vs.toArray nn) (by k_mem)).2
            have h2 := (H4 (D, listOf ys nD) (.head _)).2
            have h3 := hDl5
            dsimp only at h3 h2
            rw [q, h2] at h3; cases h3
          simp only [hplF] at hQ
          have ey : ys.toList = keepT vs (plN o1 o2 o3 vs.length) P := paired_vals (f := fun i => vs.getD i .none) (fun i y ⟨objs, ⟨e, _⟩, _⟩ => e) hF
          have ez : (keepT vs (plN o1 o2 o3 vs.length) P).length ≤ 63 := by
            unfold keepT
            rw [List.length_map]
            refine Nat.le_trans (List.length_filter_le _ _) ?_
            rw [List.length_range]; exact hvl
          obtain ⟨yl⟩ := ys
          dsimp only at ey
          subst ey
          generalize keepT vs (plN o1 o2 o3 vs.length) P = kl at *
          k_steps
          (with_reducible rename Fr _ _ _ _ => F2); (with_reducible rename News _ _ _ _ => N2)
          refine whole_upd (vs := vs) (ys := kl) (nn := nn) (nD := nD) (Fr.keeps F2 fun b o e => Heap.get?_push_of_some _ e) (News.grown N2 fun b o e => Heap.get?_push_of_some _ e) (by k_updF) (Heap.get?_push_of_some _ (N2 (D, listOf kl.toArray nD) (by k_mem)).1) hDl (Heap.IsSliceOf.new _ _ _ _) hvl ez fun h9 n9 F9 N9 => ?_
          clear F2 N2
          (try dsimp only at N9)
          k_steps
          refine hQ n9 _ _ gs (up_but hO hkeep F9 N9 fun r hr hn => ?_) (N9 (l, _) (by k_mem)).1 hgs'
          rcases hr with _ | ⟨_, hr⟩
          · k_mem
          · rcases hr with _ | ⟨_, hr⟩
            · k_mem
            · rcases hr with _ | ⟨_, hr⟩
              · exact absurd rfl hn
              · rcases hr with _ | ⟨_, hr⟩
                · k_mem
                · rcases hr with _ | ⟨_, hr⟩
                  · k_mem
                  · cases hr
end
end
section
theorem bracket_ok : ∀ q, q < 64 → PyData.strOk (bracket q) = true := by decide +kernel
section
variable {h : Heap} {vs : List Value} {ns : List Int} {f : Nat → Nat}
theorem ints_getD (hI : IntsAre vs ns) (q : Nat) (hq : q < vs.length) : ∃ t, vs.getD q .none = Value.int (ns.getD q 0) t := by
  have hn : q < ns.length := hI.length ▸ hq
  obtain ⟨t, e⟩ := ints_at hI q ns[q] (List.getElem?_eq_getElem hn)
  refine ⟨t, ?_⟩
  rw [List.getD_eq_getElem?_getD, e, List.getD_eq_getElem?_getD, List.getElem?_eq_getElem hn]
  rfl
abbrev tupD (ns : List Int) (f : Nat → Nat) (i : Nat) : Dat := .tuple [.int (ns.getD (f i) 0), .str (bracket (f i))]
theorem tup_reads (hI : IntsAre vs ns) : ∀ {l : List Nat} {ys : List Value}, (∀ i ∈ l, f i < vs.length) → Paired (fun i y => ∃ T u, y = Value.ref T ∧ h.get? T = some (tupObj [vs.getD (f i) .none, .str (bracket (f i)) u])) l ys →
    ∃ as, ReadsAll h ys (kqdPs (l.map (tupD ns f))) as
  | _, _, _, .nil => ⟨_, .nil⟩
  | i :: l, _, hl, .cons h1 t => by
    obtain ⟨T, u, rfl, hT⟩ := h1
    obtain ⟨as, r⟩ := tup_reads hI (fun i hi => hl i (.tail _ hi)) t
    obtain ⟨t1, e⟩ := ints_getD hI _ (hl _ (.head _))
    rw [e] at hT
    have r1 : ∃ bs, Reads h (.ref T) (kqdP (tupD ns f i)) bs := by
      rw [tupD, kqdP]
      exact ⟨_, reads_tuple_at hT rfl rfl (ReadsAll.cons (.int _ t1) (ReadsAll.cons (.str _ u) .nil))⟩
    obtain ⟨bs, r1⟩ := r1
    exact ⟨_, ReadsAll.cons r1 r⟩
theorem tup_reads2 : ∀ {l : List Nat} {ys : List Value}, Paired (fun i y => ∃ T t u, y = Value.ref T ∧ h.get? T = some (tupObj [.int (ns.getD (f i) 0) t, .str (bracket (f i)) u])) l ys →
    ∃ as, ReadsAll h ys (kqdPs (l.map (tupD ns f))) as
  | _, _, .nil => ⟨_, .nil⟩
  | i :: l, _, .cons h1 t => by
    obtain ⟨T, t1, u, rfl, hT⟩ := h1
    obtain ⟨as, r⟩ := tup_reads2 t
    have r1 : ∃ bs, Reads h (.ref T) (kqdP (tupD ns f i)) bs := by
      rw [tupD, kqdP]
      exact ⟨_, reads_tuple_at hT rfl rfl (ReadsAll.cons (.int _ t1) (ReadsAll.cons (.str _ u) .nil))⟩
    obtain ⟨bs, r1⟩ := r1
    exact ⟨_, ReadsAll.cons r1 r⟩
theorem tup_ok (ns : List Int) {l : List Nat} (hl : ∀ i ∈ l, f i < 64) : ∀ d ∈ l.map (tupD ns f), kqdOk 8 d = true := by
  intro d hd
  obtain ⟨i, hi, rfl⟩ := List.mem_map.mp hd
  have := bracket_ok _ (hl i hi)
  simp [tupD, kqdOk, this]
end
section
variable {prog : Program} {w : World} {A : Around} {E : Value → Shared → Prop} {s : Shared}
theorem filterMap_some {α β : Type} {f : α → Option β} {g : α → β} : ∀ {l : List α}, (∀ x ∈ l, f x = some (g x)) → l.filterMap f = l.map g
  | [], _ => rfl
  | x :: l, h => by
    rw [List.filterMap_cons, h x (.head _), List.map_cons]
    exact congrArg (_ :: ·) (filterMap_some fun y hy => h y (.tail _ hy))
theorem pick_all (vs : List Value) : (plN none none none vs.length).filterMap (vs.toArray[·]?) = vs := by
  rw [plN_all, filterMap_some (g := fun i => vs.getD i .none) (fun x hx => by
    have hx := List.mem_range.mp hx
    simp [List.getD_eq_getElem?_getD, hx])]
  refine List.ext_getElem (by simp) fun i h1 h2 => ?_
  simp [List.getD_eq_getElem?_getD, h2]
/-- numbers[:] -/
theorem list_copy {value slice : Expr} {l sl : Addr} {vs : List Value} {nn : Nat} {ops : List Value} {Q : Value → Shared → Prop} {h₁ : Heap} (hl : h₁.get? l = some (W.listOf vs.toArray nn)) (U : Up h₁ s.heap) (hs : s.heap.IsSliceOf sl .none .none .none) (hz : vs.length ≤ 63)
    (h : ∀ D h', Up h₁ h' → h₁.get? D = none → h'.get? D = some (W.listOf vs.toArray 0) → Q (.ref D) { s with heap := h' })
    (hsub : subscripted slice false (.ref l) (.ref sl) = operate ops (getItem (.ref l) (.ref sl))) : wpAny (model prog w) A (subscriptTail value slice (.ref l) (.ref sl)) Q E s :=
  list_slice hl U hs .none .none .none (by simp) hz (fun D h' U' n e => h D h' U' n (by rw [pick_all] at e; exact e)) hsub
theorem reads_pts {h : Heap} {D : Nat → Dat} : ∀ (n k : Nat) (ys : List Value), ys.length = n → (∀ i, i < n → ∃ bs, Reads h (ys.getD i .none) (kqdP (D (i + k))) bs) → ∃ as, ReadsAll h ys (kqdPs ((List.range n).map fun i => D (i + k))) as
  | 0, _, ys, hl, _ => by
    have : ys = [] := List.eq_nil_of_length_eq_zero hl
    subst this
    exact ⟨_, .nil⟩
  | n + 1, k, [], hl, _ => by simp at hl
  | n + 1, k, y :: ys, hl, hp => by
    obtain ⟨bs, r⟩ := hp 0 (by omega)
    obtain ⟨as, ra⟩ := reads_pts (h := h) (D := D) n (k + 1) ys (by simpa using hl) fun i hi => by
      obtain ⟨bs, r⟩ := hp (i + 1) (by omega)
      exact ⟨bs, by rw [show i + (k + 1) = i + 1 + k by omega]; simpa using r⟩
    have e : (List.range (n + 1)).map (fun i => D (i + k)) = D (0 + k) :: (List.range n).map fun i => D (i + (k + 1)) := by
      rw [List.range_succ_eq_map, List.map_cons, List.map_map]
      refine congrArg (_ :: ·) (List.map_congr_left fun i _ => ?_)
      show D (i + 1 + k) = D (i + (k + 1))
      rw [show i + 1 + k = i + (k + 1) by omega]
    rw [e, kqdPs]
    exact ⟨_, ReadsAll.cons (by simpa using r) ra⟩
/-- k in places -/
theorem in_ints {l : Addr} {vs : List Value} {pl : List Nat} {nn i : Nat} {t : Tok} {Q : Value → Shared → Prop} (hl : s.heap.get? l = some (W.listOf vs.toArray nn)) (hi : IntsAre vs (castL pl)) (hu : A.units + 64 < cLine) (h : Q (.bool (pl.contains i)) s) :
    wpAny (model prog w) A (compareOp .In (.int (i : Int) t) (.ref l)) Q E s := by
  have e : ((castL pl).map PyData.int).any (fun y => PyData.eqv y (.int (i : Int))) = pl.contains i := by
    rw [Bool.eq_iff_iff, List.any_eq_true, List.contains_iff_mem]
    constructor
    · rintro ⟨y, hy, he⟩
      obtain ⟨x, hx, rfl⟩ := List.mem_map.mp hy
      obtain ⟨q, hq, rfl⟩ := List.mem_map.mp hx
      have : (q : Int) = i := by simpa [PyData.eqv] using he
      have : q = i := by omega
      rw [← this]; exact hq
    · intro hm
      exact ⟨_, List.mem_map_of_mem (List.mem_map_of_mem hm), by simp [PyData.eqv]⟩
  refine SeqAt.in_list_reads (reads_list_at hl rfl rfl (show ReadsAll s.heap vs.toArray.toList ((castL pl).map PyData.int) [] from reads_ints s.heap hi)) (Reads.int _ t) (ke_canLayAll0 _) rfl ?_ (by rw [e]; exact h)
  rw [ke_depthAll]
  have : min 0 (PyData.int (i : Int)).depth = 0 := Nat.zero_min _
  omega
theorem upd_frame {g h h' : Heap} {L l : Addr} {m : Str → Option Value} {rest : List (Addr × Obj)} {o o' : Obj} (F : Fr g L h m) (N : News g L h ((l, o) :: rest)) (hne : ∀ r ∈ rest, r.1 ≠ l) (hk : ∀ b o, b ≠ l → h.get? b = some o → h'.get? b = some o) (e : h'.get? l = some o') :
    Fr g L h' m ∧ News g L h' ((l, o') :: rest) := by
  have hl := (N _ (.head _)).2
  refine ⟨⟨F.ns.at' fun o e => hk _ o (Ne.symm hl.1) e, fun b o e2 => hk b o (fun q => ?_) (F.keep b o e2), F.above⟩, fun r hr => ?_⟩
  · have := hl.2
    dsimp only at this
    rw [← q, e2] at this; cases this
  · rcases List.mem_cons.mp hr with rfl | hr
    · exact ⟨e, hl⟩
    · exact ⟨hk _ _ (hne r hr) (N r (.tail _ hr)).1, (N r (.tail _ hr)).2⟩
end
end
section
section
variable {prog : Program} {w : World} {A : Around} {E : Value → Shared → Prop} {s : Shared}
theorem tup_iter {l : Addr} {vs : List Value} {Q : Value → Shared → Prop} (hl : s.heap.IsTuple l vs.toArray)
    (h : ∀ I h', Up s.heap h' → (∀ b o, s.heap.get? b = some o → b ≠ I) → I < h'.objs.size → l < h'.objs.size → l ≠ I → h'.IsTupleIter I l 0 ∧ h'.IsTuple l vs.toArray → Q (.ref I) { s with heap := h' }) :
    wpAny (model prog w) A (pyIter (.ref l)) Q E s := by
  have hlt : l < s.heap.objs.size := by obtain ⟨o, e, _⟩ := id hl; exact Heap.lt_size e
  refine wpAny_pyIter_tuple hl ?_
  refine h _ _ (fun b o e => Heap.get?_push_of_some _ e) (fun b o e q => ?_) (by rw [Heap.size_push]; exact Nat.lt_succ_self _) (by rw [Heap.size_push]; exact Nat.lt_succ_of_lt hlt) (Nat.ne_of_lt hlt) ⟨⟨_, Heap.get?_push_size _ rfl, rfl, rfl⟩, Heap.IsTuple.at hl (fun o e => Heap.get?_push_of_some _ e)⟩
  have := Heap.lt_size e
  rw [q] at this; exact Nat.lt_irrefl _ this

/-- what the turns over a list are to show -/
theorem CompOk.tup {l : Addr} {vs : List Value} {env : Env} {scope : Scope} {cl : List (Str × Addr)} {x : Str} {px : Pos} {ifs : List Expr} {el : Expr} {p : Nat → Bool} {G₀ : Nat → Value → List (Addr × Obj) → Prop} {J₀ : List (Addr × Obj) → Prop} {Z : List Addr}
    {Q : Value → Shared → Prop} {s₂ : Shared} {I : Addr} {jo : List (Addr × Obj)} (hh : A.handled = none) (hz : vs.length ≤ 63) (lI : I < s₂.heap.objs.size) (ll : l < s₂.heap.objs.size) (hlI : l ≠ I)
    (st : s₂.heap.IsTupleIter I l 0 ∧ s₂.heap.IsTuple l vs.toArray) (hZ : I ∉ Z ∧ l ∉ Z) (lowZ : ∀ z ∈ Z, z < s₂.heap.objs.size)
    (j : J₀ jo) (jAt : ∀ q ∈ jo, s₂.heap.get? q.1 = some q.2 ∧ q.1 ∉ [I]) (jZ : ∀ jo, J₀ jo → ∀ z ∈ Z, z ∈ jo.map (·.1)) (bare : AllBare s₂.gens)
    (tests : ∀ (C i : Nat) (s₃ : Shared) (m₁ : Str → Option Value) jo, s₂.heap.objs.size ≤ C → i < vs.length → s₃.heap.Ns C (fun y => if y = x then some (vs.getD i .none) else m₁ y) → (∀ b o, b ∉ [I] → b ∉ Z → s₂.heap.get? b = some o → s₃.heap.get? b = some o) → J₀ jo → (∀ q ∈ jo, s₃.heap.get? q.1 = some q.2) →
      wpAny (model prog w) A (forIn ifs true fun c r => if r = true then do let ok ← isTrue c (compEnvC scope cl C env) (eval c (compEnvC scope cl C env)); pure (ForInStep.yield ok) else pure (ForInStep.yield r)) (TestR (p i) s₃) (fun _ _ => False) s₃)
    (elt : ∀ (C i : Nat) (s₃ : Shared) (m₁ : Str → Option Value) jo, s₂.heap.objs.size ≤ C → i < vs.length → p i = true → s₃.heap.Ns C (fun y => if y = x then some (vs.getD i .none) else m₁ y) → (∀ b o, b ∉ [I] → b ∉ Z → s₂.heap.get? b = some o → s₃.heap.get? b = some o) → J₀ jo → (∀ q ∈ jo, s₃.heap.get? q.1 = some q.2) → AllBare s₃.gens →
      wpAny (model prog w) A (eval el (compEnvC scope cl C env)) (EltR Z J₀ jo (G₀ i) s₃) (fun _ _ => False) s₃)
    (behind : ∀ D h' tk gs ys jo, s₂.heap.get? D = none → h'.PlainList D ys → Paired (MadeAt s₂.heap h' (D :: ([I] ++ Z)) G₀) ((List.range vs.length).filter p) ys.toList → J₀ jo → (∀ q ∈ jo, h'.get? q.1 = some q.2 ∧ q.1 ∉ [I] ∧ q.1 ≠ D) → AllBare gs →
      (∀ b o, b ∉ [I] → b ∉ Z → s₂.heap.get? b = some o → h'.get? b = some o) → Q (.ref D) { s₂ with heap := h', toks := tk, gens := gs })
    (hx : ∀ C, (compEnvC scope cl C env).kindOf x = some .local)
    (hp : ∀ C, ((compEnvC scope cl C env).scope.kind == .class || ((compEnvC scope cl C env).scope.kind == .module && (compEnvC scope cl C env).locals != (compEnvC scope cl C env).globals)) = false)
    (ht : ∀ v, letOwnedTupleGo (.Name x px) (.ref I) v = pure () := by intro _; rfl) :
    ∃ B St, CompOk prog w A env scope cl (.Name x px) ifs el p G₀ J₀ Z Q s₂ I [I, l] [I] vs.toArray.size B St jo := by
  have n63 : vs.toArray.size = vs.length := by simp
  have hB : ∀ (i : Nat) (m₁ m₂ : Str → Option Value), (∃ v, vs.toArray[i]? = some v ∧ m₂ = fun y => if y = x then some v else m₁ y) → m₂ = fun y => if y = x then some (vs.getD i .none) else m₁ y := by
    rintro i m₁ m₂ ⟨v, hv, rfl⟩
    have hb : vs.getD i .none = v := by rw [List.getD_eq_getElem?_getD]; simp at hv; rw [hv]; rfl
    rw [hb]
  refine ⟨_, _, CompOk.mk (fun C hC => TurnW.name (Walks.tuple hh I l hlI vs.toArray) (hx C) (hp C) ht) ?_ ?_ st ?_ lowZ j jAt jZ bare ?_ ?_ ?_⟩
  · rw [n63]; exact Nat.le_trans hz (by unfold sizeLine; omega)
  · rintro i h ⟨⟨oi, hoi, _⟩, _⟩ b hb
    rw [List.mem_singleton.mp hb]; exact ⟨_, hoi⟩
  · intro b hb
    rcases List.mem_cons.mp hb with rfl | hb
    · exact ⟨lI, hZ.1⟩
    · rw [List.mem_singleton.mp hb]; exact ⟨ll, hZ.2⟩
  · intro C i s₃ m₁ m₂ jo hC hi hb hn hk hJ hj
    have e := hB i m₁ m₂ hb
    subst e
    exact tests C i s₃ m₁ jo hC (n63 ▸ hi) hn hk hJ hj
  · intro C i s₃ m₁ m₂ jo hC hi hb hp hn hk hJ hj hg
    have e := hB i m₁ m₂ hb
    subst e
    exact elt C i s₃ m₁ jo hC (n63 ▸ hi) hp hn hk hJ hj hg
  · rw [n63]; exact behind
end
theorem part_text {v : Value} {o : Option Int} (p : IsPart v o) : (v = .none ∧ o = none) ∨ ∃ i t, v = .int i t ∧ o = some i := by
  cases p with
  | none => exact .inl ⟨rfl, rfl⟩
  | int i t => exact .inr ⟨i, t, rfl, rfl⟩
theorem paired_three {P : Nat → Value → Prop} {a b c : Nat} {ys : List Value} (h : Paired P [a, b, c] ys) : ∃ y0 y1 y2, ys = [y0, y1, y2] ∧ P a y0 ∧ P b y1 ∧ P c y2 := by
  cases h with
  | cons q0 r =>
    cases r with
    | cons q1 r =>
      cases r with
      | cons q2 r =>
        cases r
        exact ⟨_, _, _, rfl, q0, q1, q2⟩
end
section
section
variable {prog : Program} {w : World} {A : Around} {E : Value → Shared → Prop} {s : Shared}
theorem Assign_made {env : Env} {elt target iter : Expr} {ifs : List Expr} {scope : Scope} {cl : List (Str × Addr)} {pos spos py : Pos} {y : Str} {Q : Flow → Shared → Prop} (p : Nat → Bool) (G₀ : Nat → Value → List (Addr × Obj) → Prop) (J₀ : List (Addr × Obj) → Prop) (Z : List Addr)
    (hsw : swapsWith (.ListComp elt [⟨target, iter, ifs, 0⟩] scope pos) (some (.Name y py)) spos.line env = pure true) (hy : env.kindOf y = some .local) (hpy : (env.scope.kind == .class || (env.scope.kind == .module && env.locals != env.globals)) = false)
    (hclos : closureFor scope env = pure cl) (hcell : ∀ y ∈ scope.names, y.2 ≠ .cell) (hkind : scope.kind = .function)
    (hnames : ∀ y ∈ scope.names, y.2 = .local → scope.names.lookup y.1 = some .local)
    (h : wpAny (model prog w) A (eval iter env) (fun xv s₁ => wpAny (model prog w) A (pyIter xv) (fun it s₂ => ∃ I fp wr n B St jo m, it = .ref I ∧ s₂.heap.Ns env.locals m ∧ env.locals ∉ wr ∧ env.locals ∉ Z ∧
      CompOk prog w A env scope cl target ifs elt p G₀ J₀ Z (fun v s' => ∀ C h3 tk3, s₂.heap.objs.size ≤ C → v ≠ .ref C → (∀ b o, b ≠ env.locals → b ≠ C → s'.heap.get? b = some o → h3.get? b = some o) → h3.Ns env.locals (fun z => if z = y then some v else m z) → Q .next { s' with heap := h3, toks := tk3 }) s₂ I fp wr n B St jo) E s₁) E s)
    (hs : ∀ x, foldedSetIterable iter env x = pure x := by intro _; rfl) :
    wpAny (model prog w) A (exec (.Assign [.Name y py] (.ListComp elt [⟨target, iter, ifs, 0⟩] scope pos) spos) env) Q E s := by
  rw [exec_Assign_Name_used y py _ _ hsw, arm_evalThenUse_ListComp]
  dsimp only
  refine wpAny_bind (wpAny_standAt (wpAny_bind (wpAny_bind ?_)))
  refine wpAny_mono (Q := fun _ s' => Q .next s') ?_ (fun _ _ q => wpAny_pure (wpAny_pure q)) fun _ _ e => e
  refine wpAny_comprehension_free (use := some (assign (.Name y py) env)) rfl hs hclos hkind hnames (wpAny_mono h (fun xv s₁ h₁ => wpAny_mono h₁ (fun it s₂ h₂ => ?_) fun _ _ e => e) fun _ _ e => e)
  obtain ⟨I, fp, wr, n, B, St, jo, m, rfl, hmL, hLw, hLZ, K⟩ := h₂
  refine wpAny_newObj_type (wpAny_newFunctionEnv hcell (by intro y hy; simp at hy) (fun h₁ hns₁ hsb₁ => ?_) hkind)
  dsimp only at hns₁ hsb₁ ⊢
  generalize hH2 : s₂.heap.push { cls := .type "list", dict := none, data := .seq ([] : List Value).toArray } = H2 at hns₁ hsb₁ ⊢
  have hC : H2.objs.size = s₂.heap.objs.size + 1 := by rw [← hH2, Heap.size_push]
  have hDC : s₂.heap.objs.size ≠ H2.objs.size := by rw [hC]; exact Nat.ne_of_lt (Nat.lt_succ_self _)
  have hCle : s₂.heap.objs.size ≤ H2.objs.size := by rw [hC]; exact Nat.le_succ _
  have below : ∀ b, b < s₂.heap.objs.size → b ≠ H2.objs.size ∧ b ≠ s₂.heap.objs.size := fun b hb => ⟨by rw [hC]; exact Nat.ne_of_lt (Nat.lt_succ_of_lt hb), Nat.ne_of_lt hb⟩
  have hDf : s₂.heap.objs.size ∉ fp := fun hm => Nat.lt_irrefl _ (K.low _ hm).1
  have hCf : H2.objs.size ∉ fp := fun hm => by have := (K.low _ hm).1; rw [hC] at this; exact Nat.lt_irrefl _ (Nat.lt_of_succ_lt this)
  have hDZ : s₂.heap.objs.size ∉ Z := fun hm => Nat.lt_irrefl _ (K.lowZ _ hm)
  have hCZ : H2.objs.size ∉ Z := fun hm => by have := K.lowZ _ hm; rw [hC] at this; exact Nat.lt_irrefl _ (Nat.lt_of_succ_lt this)
  have old : ∀ b o, s₂.heap.get? b = some o → h₁.get? b = some o := fun b o e => hsb₁.extBut b o (below b (Heap.lt_size e)).1 (Heap.get?_push_of_some _ (hH2 ▸ Heap.get?_push_of_some _ e))
  have hacc : h₁.PlainList s₂.heap.objs.size #[] := ⟨_, hsb₁.extBut _ _ hDC (Heap.get?_push_of_some _ (hH2 ▸ Heap.get?_push_size _ rfl))⟩
  have W := K.turn H2.objs.size hCle
  have hst₁ : St 0 h₁ := W.frame _ _ _ K.start fun b _ o e => old b o e
  have fresh : ∀ a, s₂.heap.objs.size ≤ a → s₂.heap.get? a = none := fun a ha => by
    cases e : s₂.heap.get? a with
    | none => rfl
    | some o' => exact absurd (Heap.lt_size e) (Nat.not_lt.mpr ha)
  have older : ∀ T, h₁.get? T = none → s₂.heap.get? T = none := fun T hT => by
    cases e : s₂.heap.get? T with
    | none => rfl
    | some o' => rw [old T o' e] at hT; cases hT
  have loop : ∀ s₃ : Shared, s₃ = { s₂ with heap := h₁, toks := s₂.toks + ([] : List (Str × Value)).length } →
      codeAny (model prog w) A (.compLoop (.ListComp elt [⟨target, iter, ifs, 0⟩] scope pos) 0 (.ref I) (.ref s₂.heap.objs.size) (compEnvC scope cl H2.objs.size env))
        (compPost (model prog w) A E (some (assign (.Name y py) env)) (fun _ s' => Q .next s') (.ref s₂.heap.objs.size) H2.objs.size) s₃ := by
    rintro s₃ rfl
    refine codeAny_compLoop_made (cenv := compEnvC scope cl H2.objs.size env) W p G₀ J₀ K.live hDC hDf hCf (fun b hb => (K.low b hb).2) hCZ hDZ hst₁ hacc hns₁ K.j
      (fun q hq => ⟨old _ _ (K.jAt q hq).1, (below _ (Heap.lt_size (K.jAt q hq).1)).1, (below _ (Heap.lt_size (K.jAt q hq).1)).2, (K.jAt q hq).2⟩) K.jZ K.bare
      (fun i s₃ m₁ m₂ jo hi hB hn hk hJ hj => K.tests _ i s₃ m₁ m₂ jo hCle hi hB hn (fun b o hw hZ e => hk b o (below b (Heap.lt_size e)).1 hw (below b (Heap.lt_size e)).2 hZ (old b o e)) hJ hj)
      (fun i s₃ m₁ m₂ jo hi hB hp hn hk hJ hj hb => K.elt _ i s₃ m₁ m₂ jo hCle hi hB hp hn (fun b o hw hZ e => hk b o (below b (Heap.lt_size e)).1 hw (below b (Heap.lt_size e)).2 hZ (old b o e)) hJ hj hb)
      (fun h' tk gs m' ys jo hn ha hF hJ hj hb hk => ?_) K.size
    have kk : ∀ b o, b ∉ wr → b ∉ Z → s₂.heap.get? b = some o → h'.get? b = some o := fun b o hw hZ e => hk b o (below b (Heap.lt_size e)).1 hw (below b (Heap.lt_size e)).2 hZ (old b o e)
    have hLs := hmL.lt
    have hLC : env.locals ≠ H2.objs.size := (below _ hLs).1
    have hB := K.behind _ h' tk gs ys jo (fresh _ (Nat.le_refl _)) ha (hF.mono fun _ _ ⟨objs, hg, ho⟩ => ⟨objs, hg, fun q hq => ⟨(ho q hq).1, older _ (ho q hq).2.1, fun hm => (ho q hq).2.2 (.tail _ hm)⟩⟩) hJ
      (fun q hq => ⟨(hj q hq).1, (hj q hq).2.2.2, (hj q hq).2.2.1⟩) hb kk
    show wpAny _ _ (assign (.Name y py) env (.ref s₂.heap.objs.size)) _ _ _
    refine wpAny_assign_Name (wpAny_storeName_local hy (hmL.at' fun o e => kk _ o hLw hLZ e) (fun h2 hn2 hs2 => ?_) hpy)
    replace hs2 : Heap.SameBut env.locals h' h2 := hs2
    refine ⟨m', hn.at' (fun o e => hs2.extBut _ o (Ne.symm hLC) e), fun h3 hs3 => ?_⟩
    replace hs3 : Heap.SameBut H2.objs.size h2 h3 := hs3
    exact hB H2.objs.size h3 _ hCle (fun e => hDC (by injection e)) (fun b o h1 h2 e => hs3.extBut b o h2 (hs2.extBut b o h1 e)) (hn2.at' fun o e => hs3.extBut _ o hLC e)
  exact codeAny_compStart_list (loop _ rfl) (W.self 0 _ _ _ hst₁ (loop _ rfl))
end
theorem tup_pack {prog : Program} {w : World} {A : Around} {env : Env} {scope : Scope} {cl : List (Str × Addr)} {target : Expr} {ifs : List Expr} {elt : Expr} {p : Nat → Bool} {G₀ : Nat → Value → List (Addr × Obj) → Prop} {J₀ : List (Addr × Obj) → Prop} {Z : List Addr} {Qf : (Str → Option Value) → Value → Shared → Prop} {s₂ : Shared} {I : Addr} {fp : List Addr} {n : Nat} {jo : List (Addr × Obj)} {m : Str → Option Value}
    (hm : s₂.heap.Ns env.locals m) (hw : env.locals ≠ I) (hZ : env.locals ∉ Z) (K : ∃ B St, CompOk prog w A env scope cl target ifs elt p G₀ J₀ Z (Qf m) s₂ I fp [I] n B St jo) :
    ∃ I' fp wr n B St jo m, (Value.ref I) = .ref I' ∧ s₂.heap.Ns env.locals m ∧ env.locals ∉ wr ∧ env.locals ∉ Z ∧ CompOk prog w A env scope cl target ifs elt p G₀ J₀ Z (Qf m) s₂ I' fp wr n B St jo := by
  obtain ⟨B, St, K⟩ := K
  exact ⟨I, fp, [I], n, B, St, jo, m, rfl, hm, fun h => hw (List.mem_singleton.mp h), hZ, K⟩
theorem part_len {o : Option Int} (b : (o.getD 0).natAbs ≤ 10) : (partT o).length ≤ 12 := by
  cases o with
  | none => exact Nat.le_trans (Nat.le_of_eq none_len) (by decide)
  | some i =>
    have h := len_str_of_int i
    rw [Option.getD_some] at b
    show (Str.ofString (toString i)).length ≤ 12
    omega
theorem pick_two (a b c : Value) : (plN none (some 2) none [a, b, c].length).filterMap ([a, b, c].toArray[·]?) = [a, b] := by
  have e : plN none (some 2) none [a, b, c].length = [0, 1] := by show plN none (some 2) none 3 = [0, 1]; decide
  rw [e]; rfl
theorem law_text3 (a b c : Str) : Str.ofString "[" ++ Txt.join (Str.ofString ":") [a, b] ++ (Str.ofString ":" ++ c) ++ Str.ofString "]" = Str.ofString "[" ++ (a ++ Str.ofString ":" ++ b ++ (Str.ofString ":" ++ c)) ++ Str.ofString "]" := by
  refine congrArg (· ++ Str.ofString "]") ?_
  show (⟨_⟩ : Str) = ⟨_⟩
  congr 1
  simp [Txt.join, Builtin.Str.glued, Str.empty, app_cps]
theorem law_text2 (a b : Str) : Str.ofString "[" ++ Txt.join (Str.ofString ":") [a, b] ++ Str.ofString "" ++ Str.ofString "]" = Str.ofString "[" ++ (a ++ Str.ofString ":" ++ b ++ Str.ofString "") ++ Str.ofString "]" := by
  refine congrArg (· ++ Str.ofString "]") ?_
  show (⟨_⟩ : Str) = ⟨_⟩
  congr 1
end
section
local macro_rules | `(tactic| walk_at "setItem ref int") => `(tactic| (k_here; (with_reducible show wpAny _ _ (setItem (Value.ref _) (Value.int (Nat.cast _) _) _) _ _ _); k_dflt (refine' set_upd ?F ?N ?U ?q ?z ?_; (case F => k_asm); (case N => k_asm); (case U => k_updF); (case q => assumption); (case z => assumption); k_whole); intro h' n' F' N'; (try dsimp only at N')))
local macro_rules | `(tactic| walk_at "call builtin:callable") => `(tactic| (k_here; (with_reducible show wpAny _ _ (call (Value.builtin "callable") [Value.str _ _]) _ _ _); refine callable_str ?_))
local macro_rules | `(tactic| walk_at "exec For Name Attribute cons nil") => `(tactic| (k_here; (rename Fr _ _ _ _ => lF'); (with_unfolding_all refine' For_turns lF' ?_; k_whole)))
section
variable {w : World} {A : Around} {E : Value → Shared → Prop} {s : Shared} {g : Heap} {p : Program} {loose : List Str} {mg mb : Str → Option Value}
set_option pp.deepTerms false
set_option pp.deepTerms.threshold 7
set_option pp.maxSteps 15000
set_option maxHeartbeats 4000000 in
/-- Index._update_base(list, val, create=False) -/
theorem idx_base {px dpx t l : Addr} {q nn : Nat} {vs : List Value} {k4 ti tv : Tok} {val : Str} {R : Result → Shared → Prop} (G : Up g s.heap) (X : (hd.heap_39 w.params).In g) (T : TopRead p loose mg mb g) (hd : A.depth ≤ 430) (hh : A.handled = none)
    (hq : q < vs.length) (hz : vs.length ≤ 63)
    (hO : Has g s.heap [(px, instObj 657 dpx), (dpx, dictOf [⟨PyData.keyHash w.params "indices", .str "indices" k4, .ref t⟩] 1), (t, tupObj [.int q ti]), (l, listOf vs.toArray nn)])
    (hQ : ∀ nn' h' tk, (∀ b o, b ≠ l → s.heap.get? b = some o → h'.get? b = some o) → h'.get? l = some (listOf (vs.set q (.str val tv)).toArray nn') → R (.ok (.ret (.ref l))) { s with heap := h', toks := tk }) :
    codeAny (model PR w) A (.call (.ref 616) ⟨[.ref px, .ref l, .str val tv], [("create", .bool false)]⟩) R s := by
  refine' enterF G X T hO ?k6 ?k7 ?k8 ?k9 ?kB ?_ ?c2 ?c3 ?c4 ?c5
  (case k6 => k_is)
  (case k7 => k_is)
  (case k8 => k_room)
  (case k9 => first | exact BindsTo.of_eq rfl | exact binds_K (X.keeps G) rfl (by k_is) rfl rfl rfl)
  (case kB => exact locs rfl)
  (case c2 => exact rfl)
  (case c3 => exact rfl)
  (case c4 => exact rfl)
  (case c5 => decide)
  intro g' L' h' hkeep hUp F' N' X' T' l3
  have np : ∀ (a : Addr) (o : Obj), s.heap.get? a = some o → o.cls ≠ .type "list" → @Ne Nat a l := fun a o e hc q => by
    have h1 := (hO (l, listOf vs.toArray nn) (by k_mem)).1
    dsimp only at h1
    rw [← q, e] at h1
    cases h1
    exact hc rfl
  have n1 := np px _ (hO (px, instObj 657 dpx) (by k_mem)).1 (by simp)
  have n2 := np dpx _ (hO (dpx, dictOf [⟨PyData.keyHash w.params "indices", .str "indices" k4, .ref t⟩] 1) (by k_mem)).1 (by simp)
  have n3 := np t _ (hO (t, tupObj [.int q ti]) (by k_mem)).1 (by simp)
  clear np
  k_lt l3
  (try dsimp only)
  (try k_unmd); (try k_fold)
  k_steps
  (rename Fr _ _ _ _ => lF'); (rename News _ _ _ _ => nN')
  (with_unfolding_all refine iter_tupTurns (lo := tupObj [.int q ti]) (vs := [.int q ti]) (by exact hh) lF' nN' (by k_mem) (by rfl) (by rfl) ?_); clear lF'; intro i' l1; (try k_lt l1)
  k_steps
  (with_reducible rename Fr _ _ _ _ => F9); (with_reducible rename News _ _ _ _ => N9)
  refine hQ _ _ _ (up_but hO hkeep F9 N9 fun r hr hn => ?_) (N9 (l, _) (.tail _ (.tail _ (.tail _ (.head _))))).1
  rcases hr with _ | ⟨_, hr⟩
  · k_mem
  · rcases hr with _ | ⟨_, hr⟩
    · k_mem
    · rcases hr with _ | ⟨_, hr⟩
      · k_mem
      · rcases hr with _ | ⟨_, hr⟩
        · exact absurd rfl hn
        · cases hr
end
end
local macro_rules | `(tactic| k_enter) => do
  let fb := Lean.mkIdent `FB; let nb := Lean.mkIdent `NB; let kb := Lean.mkIdent `kB9; let lb := Lean.mkIdent `lB9
  `(tactic| ((with_reducible show codeAny _ _ (PySem.Code.call (Value.ref 616) _) _ _); (with_reducible rename Fr _ _ _ _ => $fb); (with_reducible rename News _ _ _ _ => $nb); (refine' idx_base (fun b o e => Fr.keep $fb b o e) ?X ?T ?d ?hh ?hq ?hz (Has.of_news $nb (AllMem.sub ?S)) ?_; (case X => k_asm); (case T => k_asm); (case d => k_room); (case hh => assumption); (case hq => assumption); (case hz => assumption); (case S => exact ⟨by k_mem, by k_mem, by k_mem, by k_mem, trivial⟩)); k_whole; intro n' h' tk' $kb $lb; (try dsimp only); (try k_unmd); (try k_fold)))
section
section
variable {w : World} {A : Around} {E : Value → Shared → Prop} {s : Shared} {g : Heap} {p : Program} {loose : List Str} {mg mb : Str → Option Value}
set_option pp.deepTerms false
set_option pp.deepTerms.threshold 7
set_option pp.maxSteps 15000
set_option maxHeartbeats 4000000 in
/-- Index.update(list, val) -/
theorem idx_update {px dpx t l : Addr} {q nn : Nat} {vs : List Value} {k4 ti tv : Tok} {val : Str} {R : Result → Shared → Prop} (G : Up g s.heap) (X : (hd.heap_39 w.params).In g) (T : TopRead p loose mg mb g) (hd : A.depth ≤ 428) (hh : A.handled = none)
    (hq : q < vs.length) (hz : vs.length ≤ 63)
    (hO : Has g s.heap [(px, instObj 657 dpx), (dpx, dictOf [⟨PyData.keyHash w.params "indices", .str "indices" k4, .ref t⟩] 1), (t, tupObj [.int q ti]), (l, listOf vs.toArray nn)])
    (hQ : ∀ nn' h' tk, (∀ b o, b ≠ l → s.heap.get? b = some o → h'.get? b = some o) → h'.get? l = some (listOf (vs.set q (.str val tv)).toArray nn') → R (.ok (.ret (.ref l))) { s with heap := h', toks := tk }) :
    codeAny (model PR w) A (.call (.ref 602) ⟨[.ref px, .ref l, .str val tv], []⟩) R s := by
  refine' enterF G X T hO ?k6 ?k7 ?k8 ?k9 ?kB ?_ ?c2 ?c3 ?c4 ?c5
  (case k6 => k_is)
  (case k7 => k_is)
  (case k8 => k_room)
  (case k9 => exact BindsTo.of_eq rfl)
  (case kB => exact locs rfl)
  (case c2 => exact rfl)
  (case c3 => exact rfl)
  (case c4 => exact rfl)
  (case c5 => decide)
  intro g' L' h' hkeep hUp F' N' X' T' l3
  k_lt l3
  (try dsimp only)
  (try k_unmd); (try k_fold)
  k_steps
  refine hQ _ _ _ (fun b o hb e => kB9 b o hb ?_) lB9
  exact up_mix (new := []) (fun _ _ e => e) hO Has.nil hkeep FB NB ⟨by k_mem, by k_mem, by k_mem, by k_mem, trivial⟩ b o e
end
end
local macro_rules | `(tactic| k_enter) => do
  let fb := Lean.mkIdent `FB; let nb := Lean.mkIdent `NB; let kb := Lean.mkIdent `kB9; let lb := Lean.mkIdent `lB9
  `(tactic| ((with_reducible show codeAny _ _ (PySem.Code.call (Value.ref 602) _) _ _); (with_reducible rename Fr _ _ _ _ => $fb); (with_reducible rename News _ _ _ _ => $nb); (refine' idx_update (fun b o e => Fr.keep $fb b o e) ?X ?T ?d ?hh ?hq ?hz (Has.of_news $nb (AllMem.sub ?S)) ?_; (case X => k_asm); (case T => k_asm); (case d => k_room); (case hh => assumption); (case hq => assumption); (case hz => assumption); (case S => exact ⟨by k_mem, by k_mem, by k_mem, by k_mem, trivial⟩)); k_whole; intro n' h' tk' $kb $lb; (try dsimp only); (try k_unmd); (try k_fold)))
section
local macro_rules | `(tactic| k_steps) => `(tactic| repeat' ((fail_if_success (with_reducible show wpAny _ _ (exec (PySem.Stmt.For _ _ _ _ _) _) _ _ _)); (fail_if_success (with_reducible show Exists _)); (first | (k_unfold; (try dsimp only)) | (k_end; wrow_close) | walk1 | (dsimp only; walk1) | (leave1; walk_say "STEP leave1"; try dsimp only) | fail "no step")))
def setAll (vs : List Value) (pl : List Nat) (v : Value) : List Value := pl.foldl (fun a q => a.set q v) vs
theorem setAll_length (v : Value) : ∀ (pl : List Nat) (vs : List Value), (setAll vs pl v).length = vs.length
  | [], _ => rfl
  | q :: pl, vs => by
    show (setAll (vs.set q v) pl v).length = _
    rw [setAll_length v pl, List.length_set]
theorem setAll_snoc (vs : List Value) (pl : List Nat) (q : Nat) (v : Value) : setAll vs (pl ++ [q]) v = (setAll vs pl v).set q v := by
  unfold setAll; rw [List.foldl_append]; rfl
theorem step_map {x : Str} {m' m₀ : Str → Option Value} (h : ∀ y, y ≠ x → m' y = m₀ y) : m' = fun y => if y = x then m' x else m₀ y := by
  funext y
  by_cases hy : y = x
  · rw [if_pos hy, hy]
  · rw [if_neg hy]; exact h y hy
section
variable {w : World} {A : Around} {E : Value → Shared → Prop} {s : Shared} {g : Heap} {p : Program} {loose : List Str} {mg mb : Str → Option Value}
set_option pp.deepTerms false
set_option pp.deepTerms.threshold 7
set_option pp.maxSteps 15000
set_option maxHeartbeats 4000000 in
/-- Slice.update -/
theorem slice_update {sx sdx l : Addr} {nn : Nat} {vs : List Value} {k0 k1 k2 k3 tv : Tok} {dep : Bool} {v1 v2 v3 : Value} {o1 o2 o3 : Option Int} {val : Str} {R : Result → Shared → Prop} (G : Up g s.heap) (X : (hd.heap_39 w.params).In g) (T : TopRead p loose mg mb g) (hd : A.depth ≤ 426)
    (hh : A.handled = none) (hgs : AllBare s.gens) (hc3 : (o3.getD 1).natAbs < 1000000) (hvl : vs.length ≤ 63) (hvh : ∀ q, handedIn (vs.getD q .none) = true) (p1 : IsPart v1 o1) (p2 : IsPart v2 o2) (p3 : IsPart v3 o3) (hdep : dep = true → o1 = none ∧ o2 = none ∧ o3 = none)
    (hO : Has g s.heap [(sx, instObj 726 sdx), (sdx, dictOf [⟨PyData.keyHash w.params "_deprecated_wildcard_use", .str "_deprecated_wildcard_use" k0, .bool dep⟩, ⟨PyData.keyHash w.params "start", .str "start" k1, v1⟩, ⟨PyData.keyHash w.params "end", .str "end" k2, v2⟩, ⟨PyData.keyHash w.params "step", .str "step" k3, v3⟩] 4),
      (l, listOf vs.toArray nn)])
    (hQ : ∀ nn' h' tk gs, (∀ b o, b ≠ l → s.heap.get? b = some o → h'.get? b = some o) → h'.get? l = some (listOf (setAll vs (plF o1 o2 o3 vs.length) (.str val tv)).toArray nn') → AllBare gs → R (.ok (.ret (.ref l))) { s with heap := h', toks := tk, gens := gs }) :
    codeAny (model PR w) A (.call (.ref 697) ⟨[.ref sx, .ref l, .str val tv], []⟩) R s := by
  refine' enterF G X T hO ?k6 ?k7 ?k8 ?k9 ?kB ?_ ?c2 ?c3 ?c4 ?c5
  (case k6 => k_is)
  (case k7 => k_is)
  (case k8 => k_room)
  (case k9 => exact BindsTo.of_eq rfl)
  (case kB => exact locs rfl)
  (case c2 => exact rfl)
  (case c3 => exact rfl)
  (case c4 => exact rfl)
  (case c5 => decide)
  intro g' L' h' hkeep hUp F' N' X' T' l3
  k_lt l3
  (try dsimp only)
  (try k_unmd); (try k_fold)
  k_steps
  refine wpAny_mono (For_found g' hh (by rfl) (by rfl) ?_ (by intro _; rfl)) (fun _ _ e => e) fun _ _ e => e
  k_steps
  obtain ⟨ys, nD, cx, dcx, t, dt, j1, j2, j3, hD, hP⟩ := HF
  obtain ⟨all, hall, hP2⟩ := paired_all (P := fun q y objs => MatchO w cx (vs.getD q .none) q y objs) hP
  have hDh := hD (DF, listOf ys nD) (.head _)
  have hl0 := (NB (l, listOf vs.toArray nn) (by k_mem)).1
  dsimp only at hDh hl0
  have offl : ∀ a, Heap.get? _ a = none → a ≠ l := fun a e q => by rw [q, hl0] at e; cases e
  have offs : ∀ (a : Addr) (o : Obj), Heap.get? _ a = some o → o.cls ≠ .type "list" → a ≠ l := fun a o e hc q => by
    rw [q, hl0] at e; cases e; exact hc rfl
  have Fs := Fr.keeps FB UF
  have N1 := News.grown NB UF
  have N2 := News.add FB NB UF hall
  have N0 := News.add FB NB UF (objs := [(DF, listOf ys nD)]) (fun r hr => hD r (by rw [List.mem_singleton.mp hr]; exact .head _))
  have hlen : ys.size = (plF o1 o2 o3 vs.length).length := by rw [hP.length]; simp
  obtain ⟨V, hV⟩ : ∃ V : Nat → List Value, ∀ i, V i = setAll vs ((plF o1 o2 o3 vs.length).take i) (.str val tv) := ⟨_, fun _ => rfl⟩
  have hV0 : V 0 = vs := by rw [hV]; rfl
  refine ⟨DF, ys, nD, nn, l, (DF, listOf ys nD) :: (sx, instObj 726 sdx) :: (sdx, dictOf [⟨PyData.keyHash w.params "_deprecated_wildcard_use", .str "_deprecated_wildcard_use" k0, .bool dep⟩, ⟨PyData.keyHash w.params "start", .str "start" k1, v1⟩, ⟨PyData.keyHash w.params "end", .str "end" k2, v2⟩, ⟨PyData.keyHash w.params "step", .str "step" k3, v3⟩] 4) :: all, _, V, rfl, Fs, ?_, .head _, ?_, ?_, ?_⟩
  · rw [hV0]
    intro r hr
    rcases List.mem_cons.mp hr with rfl | hr
    · exact N1 (l, listOf vs.toArray nn) (by k_mem)
    · rcases List.mem_cons.mp hr with rfl | hr
      · exact N0 _ (.head _)
      · rcases List.mem_cons.mp hr with rfl | hr
        · exact N1 _ (by k_mem)
        rcases List.mem_cons.mp hr with rfl | hr
        · exact N1 _ (by k_mem)
        · exact N2 r (List.mem_append_left _ hr)
  · intro r hr
    rcases List.mem_cons.mp hr with rfl | hr
    · exact offl _ hDh.2
    · rcases List.mem_cons.mp hr with rfl | hr
      · exact offs _ _ (NB (sx, instObj 726 sdx) (by k_mem)).1 (by simp)
      rcases List.mem_cons.mp hr with rfl | hr
      · exact offs _ _ (NB (sdx, dictOf [⟨PyData.keyHash w.params "_deprecated_wildcard_use", .str "_deprecated_wildcard_use" k0, .bool dep⟩, ⟨PyData.keyHash w.params "start", .str "start" k1, v1⟩, ⟨PyData.keyHash w.params "end", .str "end" k2, v2⟩, ⟨PyData.keyHash w.params "step", .str "step" k3, v3⟩] 4) (by k_mem)).1 (by simp)
      · exact offl _ (hall r hr).2
  · intro i v h tk n' hi hv F3 N3
    obtain ⟨q, hq, objs, ⟨x, dx, px, dpx, t', m1, m2, m3, m4, ti, rfl, rfl⟩, hm⟩ := Paired.at i hP2 (show ys.toList[i]? = some v by simpa using hv)
    have hqv : q < vs.length := plF_lt (List.mem_of_getElem? hq)
    have hstep : V (i + 1) = (V i).set q (.str val tv) := by
      rw [hV, hV, List.take_add_one, hq]
      exact setAll_snoc _ _ _ _
    have hul : (V i).length = vs.length := by rw [hV]; exact setAll_length _ _ _
    rw [hstep]
    generalize V i = us at hul N3 ⊢
    have hqu : q < us.length := by rw [hul]; exact hqv
    have huz : us.length ≤ 63 := by rw [hul]; exact hvl
    have all_rest : ∀ r ∈ all, r ∈ (l, listOf us.toArray n') :: (DF, listOf ys nD) :: (sx, instObj 726 sdx) :: (sdx, dictOf [⟨PyData.keyHash w.params "_deprecated_wildcard_use", .str "_deprecated_wildcard_use" k0, .bool dep⟩, ⟨PyData.keyHash w.params "start", .str "start" k1, v1⟩, ⟨PyData.keyHash w.params "end", .str "end" k2, v2⟩, ⟨PyData.keyHash w.params "step", .str "step" k3, v3⟩] 4) :: all := fun r hr => .tail _ (.tail _ (.tail _ (.tail _ hr)))
    have N4 := show News g' _ h _ from (fun r hr => N3 r (AllMem.sub (l' := (l, listOf us.toArray n') :: (DF, listOf ys nD) :: (sx, instObj 726 sdx) :: (sdx, dictOf [⟨PyData.keyHash w.params "_deprecated_wildcard_use", .str "_deprecated_wildcard_use" k0, .bool dep⟩, ⟨PyData.keyHash w.params "start", .str "start" k1, v1⟩, ⟨PyData.keyHash w.params "end", .str "end" k2, v2⟩, ⟨PyData.keyHash w.params "step", .str "step" k3, v3⟩] 4) :: all) (l := [_, _, _, _, _, _]) ⟨all_rest _ (hm _ (.head _)), all_rest _ (hm _ (.tail _ (.head _))), all_rest _ (hm _ (.tail _ (.tail _ (.head _)))), all_rest _ (hm _ (.tail _ (.tail _ (.tail _ (.head _))))), all_rest _ (hm _ (.tail _ (.tail _ (.tail _ (.tail _ (.head _)))))), .head _, trivial⟩ r hr))
    clear N3 hm hP2 hP hD hall hDh hl0 offl offs Fs N1 N2 N0 FB NB UF GF hstep hq all_rest hvh
    (try k_unmd); (try k_fold)
    k_steps
    exact ⟨_, _, _, rfl, fun b o hb e => kB9 b o hb e, lB9⟩
  · intro h' tk n' m' F6 N6 hm'
    have em := step_map (x := (Str.ofString "datum")) hm'
    rw [em] at F6
    have hVe : V ys.size = setAll vs (plF o1 o2 o3 vs.length) (.str val tv) := by rw [hV, hlen, List.take_length]
    rw [hVe] at N6
    clear hm' em hV hV0 hVe hP hP2 hD hDh hl0 offl offs Fs N1 N2 N0 FB NB hall
    k_steps
    refine hQ _ _ _ _ (up_but hO hkeep F6 N6 fun r hr hn => ?_) (N6 (l, _) (.head _)).1 GF
    rcases hr with _ | ⟨_, hr⟩
    · exact .tail _ (.tail _ (.head _))
    · rcases hr with _ | ⟨_, hr⟩
      · exact .tail _ (.tail _ (.tail _ (.head _)))
      · rcases hr with _ | ⟨_, hr⟩
        · exact absurd rfl hn
        · cases hr
end
end
section
theorem setAll_getD (v : Value) (i : Nat) : ∀ (pl : List Nat) (vs : List Value), i < vs.length → (setAll vs pl v).getD i .none = if pl.contains i = true then v else vs.getD i .none
  | [], vs, _ => by simp [setAll]
  | q :: pl, vs, hi => by
    have ih := setAll_getD v i pl (vs.set q v) (by rw [List.length_set]; exact hi)
    have e0 : setAll vs (q :: pl) v = setAll (vs.set q v) pl v := rfl
    rw [e0, ih]
    by_cases hq : q = i
    · subst hq
      have e1 : (vs.set q v).getD q .none = v := by simp [List.getD_eq_getElem?_getD, hi]
      have e2 : (q :: pl).contains q = true := by simp
      rw [e1, if_pos e2]
      split <;> rfl
    · have e1 : (vs.set q v).getD i .none = vs.getD i .none := by simp [List.getD_eq_getElem?_getD, List.getElem?_set_ne hq]
      have e2 : (q :: pl).contains i = pl.contains i := by
        rw [List.contains_cons]
        have : (i == q) = false := beq_eq_false_iff_ne.mpr (Ne.symm hq)
        rw [this, Bool.false_or]
      rw [e1, e2]
def updD (x : Str) (ns : List Int) (pl : List Nat) (i : Nat) : Dat := if pl.contains i = true then .str x else .int (ns.getD i 0)
section
variable {h : Heap} {vs : List Value} {ns : List Int} {pl : List Nat} {x : Str}
theorem upd_one (hI : IntsAre vs ns) {i : Nat} (hi : i < vs.length) {y : Value} (e : ∃ t, y = if pl.contains i = true then .str x t else vs.getD i .none) : ∃ bs, Reads h y (kqdP (updD x ns pl i)) bs := by
  obtain ⟨t, rfl⟩ := e
  unfold updD
  by_cases hc : pl.contains i = true
  · rw [if_pos hc, if_pos hc, kqdP]
    exact ⟨_, .str x t⟩
  · rw [if_neg hc, if_neg hc, kqdP]
    obtain ⟨u, e⟩ := ints_getD hI i hi
    rw [e]
    exact ⟨_, .int _ u⟩
theorem upd_reads (hI : IntsAre vs ns) {tv : Tok} : ∃ as, ReadsAll h (setAll vs pl (.str x tv)) (kqdPs ((List.range vs.length).map fun i => updD x ns pl (i + 0))) as :=
  reads_pts (D := updD x ns pl) vs.length 0 _ (setAll_length _ _ _) fun i hi => upd_one hI hi ⟨tv, setAll_getD _ i pl vs hi⟩
theorem paired_getD {P : Nat → Value → Prop} {n : Nat} {ys : List Value} (hP : Paired P (List.range n) ys) {i : Nat} (hi : i < n) : P i (ys.getD i .none) := by
  have hl := hP.length
  rw [List.length_range] at hl
  obtain ⟨q, hq, hp⟩ := Paired.at i hP (v := ys.getD i .none) (by rw [List.getD_eq_getElem?_getD, List.getElem?_eq_getElem (by omega)]; rfl)
  rw [List.getElem?_range hi] at hq
  cases hq
  exact hp
theorem upd_reads2 (hI : IntsAre vs ns) {ys : List Value} (hP : Paired (fun i y => ∃ t, y = if pl.contains i = true then Value.str x t else vs.getD i .none) (List.range vs.length) ys) : ∃ as, ReadsAll h ys (kqdPs ((List.range vs.length).map fun i => updD x ns pl (i + 0))) as :=
  reads_pts (D := updD x ns pl) vs.length 0 _ (by have := hP.length; rw [List.length_range] at this; exact this.symm) fun i hi => upd_one hI hi (paired_getD hP hi)
theorem upd_ok (hx : PyData.strOk x = true) (n : Nat) : ∀ d ∈ (List.range n).map (fun i => updD x ns pl (i + 0)), kqdOk 8 d = true := by
  intro d hd
  obtain ⟨i, _, rfl⟩ := List.mem_map.mp hd
  unfold updD
  split
  · exact hx
  · rfl
end
/-- k not in places -/
theorem notIn_ints {prog : Program} {w : World} {A : Around} {E : Value → Shared → Prop} {s : Shared} {l : Addr} {vs : List Value} {pl : List Nat} {nn i : Nat} {t : Tok} {Q : Value → Shared → Prop} (hl : s.heap.get? l = some (W.listOf vs.toArray nn)) (hi : IntsAre vs (castL pl)) (hu : A.units + 64 < cLine) (h : Q (.bool (!pl.contains i)) s) :
    wpAny (model prog w) A (compareOp .NotIn (.int (i : Int) t) (.ref l)) Q E s := by
  have e : ((castL pl).map PyData.int).any (fun y => PyData.eqv y (.int (i : Int))) = pl.contains i := by
    rw [Bool.eq_iff_iff, List.any_eq_true, List.contains_iff_mem]
    constructor
    · rintro ⟨y, hy, he⟩
      obtain ⟨x, hx, rfl⟩ := List.mem_map.mp hy
      obtain ⟨q, hq, rfl⟩ := List.mem_map.mp hx
      have : (q : Int) = i := by simpa [PyData.eqv] using he
      have : q = i := by omega
      rw [← this]; exact hq
    · intro hm
      exact ⟨_, List.mem_map_of_mem (List.mem_map_of_mem hm), by simp [PyData.eqv]⟩
  refine SeqAt.notIn_list_reads (reads_list_at hl rfl rfl (show ReadsAll s.heap vs.toArray.toList ((castL pl).map PyData.int) [] from reads_ints s.heap hi)) (Reads.int _ t) (ke_canLayAll0 _) rfl ?_ (by rw [e]; exact h)
  rw [ke_depthAll]
  have : min 0 (PyData.int (i : Int)).depth = 0 := Nat.zero_min _
  omega
theorem ints_map {vs : List Value} {ns : List Int} (hI : IntsAre vs ns) : ∀ {l : List Nat}, (∀ i ∈ l, i < vs.length) → IntsAre (l.map (vs.getD · .none)) (l.map (ns.getD · 0))
  | [], _ => .nil
  | i :: l, h => by
    obtain ⟨t, e⟩ := ints_getD hI i (h _ (.head _))
    rw [List.map_cons, List.map_cons, e]
    exact .cons _ _ (ints_map hI fun j hj => h j (.tail _ hj))
/-- what the law says a filter leaves -/
def leftL (ns : List Int) (pl : List Nat) (n : Nat) : List Nat := (List.range n).filter fun i => !pl.contains i || (ns.getD i 0).fmod 2 == 0
theorem keepT_law {vs : List Value} {ns : List Int} (hI : IntsAre vs ns) (pl : List Nat) : keepT vs pl oddV = (leftL ns pl vs.length).map (vs.getD · .none) := by
  unfold keepT leftL
  refine congrArg (List.map _) (List.filter_congr fun i hi => ?_)
  obtain ⟨t, e⟩ := ints_getD hI i (List.mem_range.mp hi)
  rw [e, Bool.not_and]
  refine congrArg (fun x : Bool => !pl.contains i || x) ?_
  show (!((ns.getD i 0).fmod 2 == 1)) = ((ns.getD i 0).fmod 2 == 0)
  have h1 := Int.fmod_nonneg_of_pos (ns.getD i 0) (b := 2) (by decide)
  have h2 := Int.fmod_lt_of_pos (ns.getD i 0) (b := 2) (by decide)
  rw [Bool.eq_iff_iff, Bool.not_eq_true', beq_eq_false_iff_ne, beq_iff_eq]
  omega
theorem left_lt {ns : List Int} {pl : List Nat} {n : Nat} : ∀ i ∈ leftL ns pl n, i < n := fun i hi => List.mem_range.mp (List.mem_filter.mp hi).1
theorem left_reads {h : Heap} {vs : List Value} {ns : List Int} (hI : IntsAre vs ns) (pl : List Nat) : ∃ as, ReadsAll h ((leftL ns pl vs.length).map (vs.getD · .none)) (kqdPs (((leftL ns pl vs.length).map (ns.getD · 0)).map Dat.int)) as := by
  rw [kqdPs_ints]
  exact ⟨_, reads_ints h (ints_map hI left_lt)⟩
theorem tst1 {c : Bool} {x : Int} (h : c = true) (h2 : x = 0) : true = (!c || x == 0) := by subst h; subst h2; rfl
theorem tst2 {c : Bool} {x : Int} (h : c = true) (h2 : x ≠ 0) : false = (!c || x == 0) := by
  subst h
  rw [beq_eq_false_iff_ne.mpr h2]; rfl
theorem tst3 {c : Bool} {x : Int} (h : c = false) : true = (!c || x == 0) := by subst h; rfl
end
section
local macro_rules | `(tactic| walk_at "eval Name") => `(tactic| (k_here; (with_reducible show wpAny _ _ (eval (PySem.Expr.Name _ _) (envOfC _ _ _ _ _)) _ _ _); k_dflt (first
  | (refine' nameC_L ?F ?v ?_ ?k ?x ?b; (case x => decide +kernel); (case k => rfl); (case b => decide +kernel); (case F => k_asm); (case v => ((repeat (refine (if_neg (by decide +kernel)).trans ?_)); first | exact if_pos rfl | assumption)); k_whole)
  | (refine' nameC_C ?N ?c ?m ?d ?_ ?k ?x ?b; (case x => decide +kernel); (case k => rfl); (case b => decide +kernel); (case c => rfl); (case N => k_asm); (case m => k_mem); (case d => k_asm); k_whole))))
local macro_rules | `(tactic| walk_at "Exists") => `(tactic| (k_here; refine dict_two (by k_asm) (by k_asm) (Top.nolimit (by k_asm)) (by rfl) (show List.Nodup [(Str.ofString "a" : Str), (Str.ofString "b" : Str)] from by decide +kernel) ?_; intro h' o' F' N' l1 lo' hd'; (try k_lt l1)))
local macro_rules | `(tactic| k_steps) => `(tactic| repeat' ((fail_if_success (with_reducible show wpAny _ _ (call (Value.type "enumerate") _) _ _ _)); (fail_if_success (with_reducible show wpAny _ _ (compareOp CmpOp.In (Value.int _ _) (Value.ref _)) _ _ _)); (fail_if_success (with_reducible show wpAny _ _ (compareOp CmpOp.NotIn (Value.int _ _) (Value.ref _)) _ _ _)); (fail_if_success (with_reducible show wpAny _ _ (newTuple _) _ _ _)); (fail_if_success (with_reducible show wpAny _ _ (call (Value.type "str") [Value.ref _]) _ _ _)); (fail_if_success (with_reducible show wpAny _ _ (compareOp CmpOp.NotEq (Value.ref _) (Value.ref _)) _ _ _)); (fail_if_success (with_reducible show wpAny _ _ (call (Value.ref 534) _ _) _ _ _)); (fail_if_success (with_reducible show wpAny _ _ (call (Value.ref 635) _ _) _ _ _)); (fail_if_success (with_reducible show wpAny _ _ (call (Value.ref 690) _ _) _ _ _)); (fail_if_success (with_reducible show wpAny _ _ (call (Value.ref 697) _ _) _ _ _)); (fail_if_success (with_reducible show wpAny _ _ (call (Value.ref 702) _ _) _ _ _)); (fail_if_success (with_reducible show wpAny _ _ (call (Value.ref 709) _ _) _ _ _)); (fail_if_success (with_reducible show wpAny _ _ (subscriptTail _ (PySem.Expr.Slice _ _ _ _) _ _) _ _ _)); (fail_if_success (with_reducible show wpAny _ _ (call (Value.type "list") _) _ _ _)); (fail_if_success (with_reducible show wpAny _ _ (exec (PySem.Stmt.If _ _ _ _) _) _ _ _)); (fail_if_success (with_reducible show wpAny _ _ (eval (PySem.Expr.ListComp _ _ _ _) _) _ _ _)); (fail_if_success (with_reducible show wpAny _ _ (pyIter _) _ _ _)); (fail_if_success (with_reducible show NextJ _ _ _ _)); (first | (k_unfold; (try dsimp only)) | (k_end; wrow_close) | walk1 | (dsimp only; walk1) | (leave1; walk_say "STEP leave1"; try dsimp only) | fail "no step")))
local macro_rules | `(tactic| walk_at "call builtin:str.join") => `(tactic| (k_here; (with_reducible show wpAny _ _ (call (Value.builtin "str.join") [Value.str _ _, Value.ref _]) _ _ _); (refine join_listC (News.isList (by k_asm) (by k_mem)) (by ((repeat constructor); first | done | fail "a goal is left")) (by decide +kernel) (by (simp only [List.map_cons, List.map_nil, List.sum_cons, List.sum_nil, List.length_cons, List.length_nil]; omega)) ?_); intro _ _; (try dsimp only)))
local macro_rules | `(tactic| walk_at "And") => `(tactic| ((with_reducible show Str.length _ ≤ sizeLine ∧ _); (refine ⟨by (simp only [app_len, join_two, open_len, close_len, colon_len, empty_len, none_len]); unfold sizeLine; omega, ?_⟩)))
local macro_rules | `(tactic| walk_at "binaryOp Add str str") => `(tactic| (k_here; (with_reducible show wpAny _ _ (binaryOp Operator.Add (Value.str _ _) (Value.str _ _)) _ _ _); (refine KXadd.add (K := 100) (L := 100) ?kxaa ?kxab (by decide) ?_; (case kxaa => ((simp only [app_len, join_two, open_len, close_len, colon_len, none_len]); omega)); (case kxab => ((simp only [app_len, join_two, open_len, close_len, colon_len, none_len]); omega))); (intro _ _ lh9; clear lh9); (try dsimp only)))
set_option pp.deepTerms false
set_option pp.deepTerms.threshold 7
set_option pp.maxSteps 15000
set_option maxHeartbeats 40000000 in
theorem law_walk : PySem.Challenge.rw_bm0006_01.Holds := by
  refine Mine.hd ?_
  k_fill
  intro w s₀ s₁ mg mb G Y fa o pm cd doc dV kV ho hd hcd hD hmg hg args vals as hpre hlay hrd hwl hlo
  have KX := km_in_of Y
  km_tabs Y
  have X := (Ground.X G).1
  have V := (Ground.X G).2
  refine Ground.open G ?_
  intro T B D TE TW
  try (refine guard_noD D (by decide +kernel) ?_; clear D)
  have hT9 : TabsAt ([(770, 768), (634, 630)] : List (Addr × Addr)) s₁.heap := List.forall_mem_cons.mpr ⟨⟨codeHd_of_K (c := 770) (P := 768) KX (by kernel_rfl), hT8 768 (by k_mem)⟩, List.forall_mem_cons.mpr ⟨⟨codeHd_of_K (c := 634) (P := 630) KX (by kernel_rfl), hT8 630 (by k_mem)⟩, fun _ h => nomatch h⟩⟩
  have he9 : cd = PySem.Value.ref 770 := law_code (x := PySem.Str.ofString "law") (c := 770) (P := 768) KX (Top.g T) (by kernel_rfl) hmg ho hd
  subst he9
  clear hmg
  wrow_args hpre hlay hrd hwl hlo
  first | refine callC_kw (enter_call ?_) | refine enter_call ?_
  w_top on
  refine kn_postG hT9 (fun _ _ => rfl) (by first | rfl | wrow_post) ?_
  w_call any ho hd hcd hD T F
  clear hd
  kn_ghosts F T
  k_drop
  (try k_fold)
  clear hT8 V B TE TW hD Y hcd hT9
  (with_reducible rename Top _ _ _ _ _ _ => TT)
  (with_reducible rename IntsAre _ _ => hIA)
  (with_reducible rename ¬ _ < _ => hcond)
  have TR := topRead_of TT
  have hdp : callerA.depth ≤ 301 := by decide
  have hh : callerA.handled = none := rfl
  have hU : ∀ env, (callerA.deeper env).units + 64 < cLine := fun env => by first | (show callerA.units + 64 < cLine; decide) | (show callerA.units + 1 + 64 < cLine; decide) | (simp [Around.deeper, callerA, cLine])
  rename_i oP oN oS dP dN dS X0 X' K' F' cH1 N' l0
  clear X0
  rename_i ns hs1 hly hL1 hr1 hl2 a4 a3 lS vsS a0 hLs ra1 w1 r01 hr0 hc0 h₁ tk₁
  clear hs1 hly hL1 hr1 hl2 hLs ra1 w1 r01 hr0 hc0 ho
  have hz63 : ns.length ≤ 63 := by omega
  replace dP : oP.data = Data.cell none := dP
  replace dN : oN.data = Data.cell none := dN
  replace dS : oS.data = Data.cell (some (.ref lS)) := dS
  generalize hLdef : s₁.heap.objs.size = L at *
  (with_reducible rename Fr _ _ _ _ => F0)
  generalize bindL _ _ _ = m0 at F0
  generalize hG0 : ghostOf s₁.heap [(770, 768), (634, 630)] = G0 at *
  have hgs : AllBare s₁.gens := .of_eq hg
  refine wpAny_mono (show wpAny _ _ _ (LawEnd { heap := h₁, gens := s₁.gens, drawn := s₁.drawn, toks := tk₁, os := s₁.os } G0 L) (fun _ _ => False) _ from ?_) (fun f s' hf => ?_) (fun _ _ e => e.elim)
  rotate_left
  · obtain ⟨rfl, h', tk, gs, m, ps1, ps2, rfl, hb, F, e1, e2⟩ := hf
    exact ⟨rfl, F.keep, rfl, hb, ⟨_, e1⟩, ⟨_, e2⟩, trivial⟩
  clear G X T K' hcond a4 a3 a0 hg hLdef hG0 o
  refine seq_cut (fun h => ∃ D vs ns nn oN', Fr G0 L h m0 ∧ News G0 L h [(D, listOf vs.toArray nn), (L + 1 + 1 + 1, oP), (L + 1 + 1, oN'), (L + 1, oS), (768, tabObj #[]), (630, tabObj #[])] ∧ oN'.data = Data.cell (some (.ref D)) ∧ IntsAre vs ns ∧ vs.length ≤ 8 ∧ (∀ x ∈ ns, 0 ≤ x ∧ x < 1000) ∧ NeAll D [(L + 1 + 1 + 1, oP), (L + 1 + 1, oN'), (L + 1, oS), (768, tabObj #[]), (630, tabObj #[])]) ?c1 ?_
  case c1 =>
    clear cH1 codeHd
    k_steps
    refine ListComp_made (cl := [("script", L + 1)]) (fun _ => true) (fun i y objs => (∃ x t, y = .int x t ∧ 0 ≤ x ∧ x < 1000) ∧ objs = []) (fun jo => jo = []) [] (by rfl) (by decide) rfl (by decide) ?_
    (try k_unmd); (try k_fold)
    k_steps
    (with_reducible rename Fr _ _ _ _ => F9); (with_reducible rename News _ _ _ _ => N9)
    (with_reducible rename IsRange _ _ _ _ _ _ _ _ => hR)
    show wpAny _ _ (pyIter _) _ _ _
    refine range0_iter 9 hR (Int.fmod_nonneg_of_pos _ (by decide)) (Int.fmod_lt_of_pos _ (by decide)) (by decide) (fun n I hI hnm hn9 UI nI lI RI => ?_)
    have F8 := Fr.keeps F9 UI
    have N8 := News.grown N9 UI
    refine ⟨I, [I], [I], n, _, _, [], rfl, CompOk.mk (fun C hC => TurnW.name (Walks.range (by exact hh) I 0 1 n) rfl rfl) (by unfold sizeLine; omega) (fun i h st b hb => ⟨_, (List.mem_singleton.mp hb) ▸ st⟩) RI (fun b hb => ⟨(List.mem_singleton.mp hb) ▸ lI, List.not_mem_nil⟩) (fun z hz => nomatch hz) rfl (fun q hq => nomatch hq) (fun jo hj z hz => nomatch hz) hgs (fun C i s₃ m₁ m₂ jo hC hi hB hn hk hJ hj => tests_nil) ?_ ?_⟩
    · intro C i s₃ m₁ m₂ jo hC hi hB _ hn hk hJ hj hb
      obtain ⟨v, ⟨ti, hv⟩, hm⟩ := hB
      have hq : (0 : Int) + i * 1 = (i : Int) := by omega
      rw [hq] at hv
      subst hv; subst hm; subst hJ
      obtain ⟨F3, N3⟩ := elt_frame F8 N8 hn hC (fun b o e q => nI b o (F9.keep b o e) (List.mem_singleton.mp q)) (fun q hq e => nI _ _ (N9 q hq).1 (List.mem_singleton.mp e)) hk
      have S3 := Since.start s₃.heap
      have hi8 : i < 8 := by omega
      clear F8 N8 F9 N9 hq hk hb hj hR RI UI nI
      (try k_unmd); (try k_fold)
      k_steps
      (with_reducible rename Since _ _ _ => S9)
      refine ⟨_, _, _, [], [], rfl, fun b o _ e => S9.up b o e, Has.nil, ⟨⟨_, _, rfl, ?_, ?_⟩, rfl⟩, rfl, (fun _ h => nomatch h), fun h => h⟩
      · exact Int.add_nonneg (by omega) (Int.fmod_nonneg_of_pos _ (by decide))
      · exact Int.lt_of_lt_of_le (Int.add_lt_add_left (Int.fmod_lt_of_pos _ (by decide)) _) (by omega)
    · intro D h' tk gs ys jo hD hl hF hJ hj hgs' hk
      obtain ⟨nD, hl⟩ := hl
      have UD2 := fun b o e => hk b o (fun q => nI b o e (List.mem_singleton.mp q)) List.not_mem_nil (UI b o e)
      have H4 : Has _ h' [(D, listOf ys nD)] := Has.cons hl (none_of UI hD) Has.nil
      have A4 := apart_news H4 N9
      simp only [ApartL, NeAll, and_true] at A4
      have N4 := News.add F9 N9 UD2 H4
      have F4 := Fr.keeps F9 UD2
      simp only [List.cons_append, List.nil_append] at N4
      obtain ⟨ns', hI', hb'⟩ := ints_of_paired (P := fun x => 0 ≤ x ∧ x < 1000) (fun i y ⟨objs, ⟨h1, _⟩, _⟩ => h1) hF
      have hlen : ys.toList.length ≤ 8 := by
        have := hF.length
        rw [List.filter_eq_self.mpr (fun _ _ => rfl), List.length_range] at this
        omega
      obtain ⟨yl⟩ := ys
      dsimp only at hI' hlen N4 H4 A4
      clear F8 N8 F9 N9 hF hk hR RI UI nI H4 UD2
      (try k_unmd); (try k_fold)
      k_steps
      (with_reducible rename Fr _ _ _ _ => F9); (with_reducible rename News _ _ _ _ => N9)
      exact ⟨rfl, _, _, _, rfl, hgs', D, yl, ns', nD, _, F9, N9, by assumption, hI', hlen, hb', A4.1, A4.2.1, A4.2.2.1, A4.2.2.2.1, A4.2.2.2.2, trivial⟩
  clear F0 N' dN
  rintro h2 tk2 gs2 hgs2 ⟨lN, vsN, nsN, nnN, oN', F0, N0, dN, hIN, hlN, hbN, nN⟩
  clear oN
  simp only [NeAll, and_true] at nN
  have hl63 : vsN.length ≤ 63 := by omega
  have hll : vsN.length = nsN.length := hIN.length
  dsimp only
  refine seq_cut (fun h => ∃ v1 v2 v3 o1 o2 o3, Fr G0 L h (fun y => if y = Str.ofString "start" then some v1 else if y = Str.ofString "end" then some v2 else if y = Str.ofString "step" then some v3 else m0 y) ∧ News G0 L h [(lN, listOf vsN.toArray nnN), (L + 1 + 1 + 1, oP), (L + 1 + 1, oN'), (L + 1, oS), (768, tabObj #[]), (630, tabObj #[])] ∧
    IsPart v1 o1 ∧ IsPart v2 o2 ∧ IsPart v3 o3 ∧ (o1.getD 0).natAbs ≤ 10 ∧ (o2.getD 0).natAbs ≤ 10 ∧ (o3.getD 0).natAbs ≤ 10) ?c2 ?_
  case c2 =>
    clear cH1 codeHd
    (try k_unmd); (try k_fold)
    k_steps
    walk1
    k_steps
    (with_reducible rename Fr _ _ _ _ => F9); (with_reducible rename News _ _ _ _ => N9)
    exact ⟨rfl, _, _, _, rfl, hgs2, _, _, _, _, _, _, F9, fun p hp => N9 p (.tail _ hp), by assumption, by assumption, by assumption, by assumption, by assumption, by assumption⟩
  clear F0 N0
  rintro h3 tk3 gs3 hgs3 ⟨v1, v2, v3, o1, o2, o3, F0, N0, p1, p2, p3, b1, b2, b3⟩
  dsimp only
  refine seq_cut (fun h => ∃ m sx sdx k0 k1 k2 k3 dep lP vsP nnP oP', Fr G0 L h m ∧ m (Str.ofString "slice_") = some (.ref sx) ∧ m (Str.ofString "start") = some v1 ∧ m (Str.ofString "end") = some v2 ∧ m (Str.ofString "step") = some v3 ∧
    News G0 L h [(sx, instObj 726 sdx), (sdx, dictOf [⟨PyData.keyHash w.params "_deprecated_wildcard_use", .str "_deprecated_wildcard_use" k0, .bool dep⟩, ⟨PyData.keyHash w.params "start", .str "start" k1, v1⟩, ⟨PyData.keyHash w.params "end", .str "end" k2, v2⟩, ⟨PyData.keyHash w.params "step", .str "step" k3, v3⟩] 4),
      (lP, listOf vsP.toArray nnP), (lN, listOf vsN.toArray nnN), (L + 1 + 1 + 1, oP'), (L + 1 + 1, oN'), (L + 1, oS), (768, tabObj #[]), (630, tabObj #[])] ∧ oP'.data = Data.cell (some (.ref lP)) ∧
    IntsAre vsP (castL (plF o1 o2 o3 vsN.length)) ∧ (dep = true → o1 = none ∧ o2 = none ∧ o3 = none) ∧ @Ne Nat sx 768 ∧ @Ne Nat sx 630 ∧ @Ne Nat sdx 768 ∧ @Ne Nat sdx 630 ∧ @Ne Nat lP 768 ∧ @Ne Nat lP 630) ?c3 ?_
  case c3 =>
    clear cH1 codeHd
    refine wpAny_If ?_
    by_cases hn : o1.isNone = true ∧ o2.isNone = true ∧ o3.isNone = true
    · refine join_test (b₀ := true) ?_ fun tk => ?_
      · (try k_unmd); (try k_fold)
        obtain ⟨hn1, hn2, hn3⟩ := hn
        k_steps
      · simp only [if_true]
        (try k_unmd); (try k_fold)
        obtain ⟨hn1, hn2, hn3⟩ := hn
        rw [Option.isNone_iff_eq_none] at hn1 hn2 hn3
        subst hn1; subst hn2; subst hn3
        cases p1; cases p2; cases p3
        refine seq_cut (fun h => ∃ px pdx j0 j1 j2 j3 sx sdx k0 k1 k2 k3, Fr G0 L h (fun y => if y = Str.ofString "plain" then some (Value.ref px) else if y = Str.ofString "strict" then some (Value.ref sx) else if y = Str.ofString "start" then some .none else if y = Str.ofString "end" then some .none else if y = Str.ofString "step" then some .none else m0 y) ∧
          News G0 L h [(px, instObj 726 pdx), (pdx, dictOf [⟨PyData.keyHash w.params "_deprecated_wildcard_use", .str "_deprecated_wildcard_use" j0, .bool true⟩, ⟨PyData.keyHash w.params "start", .str "start" j1, .none⟩, ⟨PyData.keyHash w.params "end", .str "end" j2, .none⟩, ⟨PyData.keyHash w.params "step", .str "step" j3, .none⟩] 4),
            (sx, instObj 726 sdx), (sdx, dictOf [⟨PyData.keyHash w.params "_deprecated_wildcard_use", .str "_deprecated_wildcard_use" k0, .bool false⟩, ⟨PyData.keyHash w.params "start", .str "start" k1, .none⟩, ⟨PyData.keyHash w.params "end", .str "end" k2, .none⟩, ⟨PyData.keyHash w.params "step", .str "step" k3, .none⟩] 4),
            (lN, listOf vsN.toArray nnN), (L + 1 + 1 + 1, oP), (L + 1 + 1, oN'), (L + 1, oS), (768, tabObj #[]), (630, tabObj #[])]) ?ca ?_
        case ca =>
          (try k_unmd); (try k_fold)
          k_steps
          walk1
          k_steps
          (with_reducible rename Fr _ _ _ _ => F9); (with_reducible rename News _ _ _ _ => N9)
          exact ⟨rfl, _, _, _, rfl, hgs3, _, _, _, _, _, _, _, _, _, _, _, _, F9, News.pick N9 ⟨by k_mem, by k_mem, by k_mem, by k_mem, by k_mem, by k_mem, by k_mem, by k_mem, by k_mem, by k_mem, trivial⟩⟩
        clear F0 N0
        rintro h4 tk4 gs4 hgs4 ⟨px, pdx, j0, j1, j2, j3, sx, sdx, k0, k1, k2, k3, F0, N0⟩
        dsimp only
        (try k_unmd); (try k_fold)
        iterate 8 (first | (k_unfold; (try dsimp only)) | walk1 | (dsimp only; walk1))
        (with_reducible rename News _ _ _ _ => N9)
        refine' nameC_C (News.grown N9 fun b o e => Heap.get?_push_of_some _ e) ?zc ?zm dN ?_ ?zk ?zx ?zb
        (case zx => decide +kernel)
        (case zk => rfl)
        (case zb => decide +kernel)
        (case zc => rfl)
        (case zm => k_mem)
        k_steps
        (with_reducible rename Fr _ _ _ _ => F1); (with_reducible rename News _ _ _ _ => N1)
        rename Obj.IsDictOf _ _ _ => hod
        rename (_ == sysModules) = false => hlo
        refine exec_cut (fun h => Fr G0 L h (fun y => if y = Str.ofString "members" then some (Value.ref h4.objs.size) else if y = Str.ofString "plain" then some (Value.ref px) else if y = Str.ofString "strict" then some (Value.ref sx) else if y = Str.ofString "start" then some .none else if y = Str.ofString "end" then some .none else if y = Str.ofString "step" then some .none else m0 y) ∧
          News G0 L h [(px, instObj 726 pdx), (pdx, dictOf [⟨PyData.keyHash w.params "_deprecated_wildcard_use", .str "_deprecated_wildcard_use" j0, .bool true⟩, ⟨PyData.keyHash w.params "start", .str "start" j1, .none⟩, ⟨PyData.keyHash w.params "end", .str "end" j2, .none⟩, ⟨PyData.keyHash w.params "step", .str "step" j3, .none⟩] 4),
            (sx, instObj 726 sdx), (sdx, dictOf [⟨PyData.keyHash w.params "_deprecated_wildcard_use", .str "_deprecated_wildcard_use" k0, .bool false⟩, ⟨PyData.keyHash w.params "start", .str "start" k1, .none⟩, ⟨PyData.keyHash w.params "end", .str "end" k2, .none⟩, ⟨PyData.keyHash w.params "step", .str "step" k3, .none⟩] 4),
            (lN, listOf vsN.toArray nnN), (L + 1 + 1 + 1, oP), (L + 1 + 1, oN'), (L + 1, oS), (768, tabObj #[]), (630, tabObj #[])]) ?cc ?_
        case cc =>
          obtain ⟨ta, hod⟩ := two_pairs hod
          refine wpAny_If ?_
          k_steps
          (with_reducible rename Fr _ _ _ _ => F9); (with_reducible rename News _ _ _ _ => N9)
          refine ListComp_made (cl := []) (fun _ => true) (fun i y objs => y = (if i = 0 then Value.int 1 ta else Value.ref lN) ∧ objs = []) (fun jo => jo = []) [] (by rfl) (by decide) rfl (by decide) ?_
          (try k_unmd); (try k_fold)
          k_steps
          refine wpAny_call (find_members (fun b o e => Fr.keep F9 b o e) X' TR (depth_le1 hdp (by decide)) (by exact hh) hgs4 hlo hod (Has.of_news N9 (AllMem.sub ⟨by k_mem, by k_mem, by k_mem, trivial⟩)) (fun DF hF tkF gsF UF HF hgF => ?_))
          obtain ⟨⟨yl⟩, nD, cx, dcx, tx, dtx, c1, c2, c3, hD, hP⟩ := HF
          have hP2 : Paired _ [0, 1] yl := hP
          obtain ⟨y0, y1, rfl, q0, q1⟩ := paired_two hP2
          obtain ⟨ob0, ⟨x0, dx0, px0, dpx0, t0, a1, a2, a3, a4, a5, tn0, rfl, rfl⟩, hob0⟩ := q0
          obtain ⟨ob1, ⟨x1, dx1, px1, dpx1, t1, e1, e2, e3, e4, e5, tn1, rfl, rfl⟩, hob1⟩ := q1
          simp only [List.getD_cons_zero, List.getD_cons_succ] at hob0 hob1
          have N2 := News.add F9 N9 UF (hD.app (hob0.app hob1))
          simp only [datO, List.cons_append, List.nil_append] at N2
          have F2 := Fr.keeps F9 UF
          clear hP hD hob0 hob1
          show wpAny _ _ (pyIter _) _ _ _
          refine list_iter (vs := [.ref x0, .ref x1]) (News.isList N2 (by k_mem)) (fun I hI UI nI lI ll hlI st => ?_)
          have F8 := Fr.keeps F2 UI
          have N8 := News.grown N2 UI
          refine CompOk.list (jo := []) hh (Nat.le_of_ble_eq_true rfl) lI ll hlI st ⟨List.not_mem_nil, List.not_mem_nil⟩ (fun z hz => nomatch hz) rfl (fun q hq => nomatch hq) (fun jo hj z hz => nomatch hz) hgF (fun C i s₃ m₁ jo hC hi hn hk hJ hj => tests_nil) ?_ ?_ (fun C => rfl) (fun C => rfl)
          · intro C i s₃ m₁ jo hC hi _ hn hk hJ hj hb
            subst hJ
            obtain ⟨F3, N3⟩ := elt_frame F8 N8 hn hC (fun b o e q => nI b o (F2.keep b o e) (List.mem_singleton.mp q)) (fun q hq e => nI _ _ (N2 q hq).1 (List.mem_singleton.mp e)) hk
            have S3 := Since.start s₃.heap
            clear F8 N8 F9 N9 hk hj UI nI F2 N2 UF st
            rcases i with _ | _ | i
            · replace F3 : Fr G0 C s₃.heap (fun y => if y = Str.ofString "match" then some (Value.ref x0) else m₁ y) := F3
              (try k_unmd); (try k_fold)
              k_steps
              (with_reducible rename Since _ _ _ => S9)
              exact ⟨_, _, _, [], [], rfl, fun b o _ e => S9.up b o e, Has.nil, ⟨(if_pos rfl).symm, rfl⟩, rfl, (fun _ h => nomatch h), fun h => h⟩
            · replace F3 : Fr G0 C s₃.heap (fun y => if y = Str.ofString "match" then some (Value.ref x1) else m₁ y) := F3
              (try k_unmd); (try k_fold)
              k_steps
              (with_reducible rename Since _ _ _ => S9)
              exact ⟨_, _, _, [], [], rfl, fun b o _ e => S9.up b o e, Has.nil, ⟨(if_neg (by decide)).symm, rfl⟩, rfl, (fun _ h => nomatch h), fun h => h⟩
            · exact absurd hi (by simp)
          · intro D h' tk gs ys jo hD hl hF hJ hj hgs' hk
            obtain ⟨nD, hl⟩ := hl
            have ey : ys.toList = [Value.int 1 ta, Value.ref lN] := paired_vals (f := fun i => if i = 0 then Value.int 1 ta else Value.ref lN) (fun i y ⟨objs, ⟨e, _⟩, _⟩ => e) hF
            obtain ⟨yl⟩ := ys
            dsimp only at ey
            subst ey
            have UD2 := fun b o e => hk b o (fun q => nI b o e (List.mem_singleton.mp q)) List.not_mem_nil (UI b o e)
            have N4 := News.add F2 (News.pick N2 (objs := (h4.objs.size, _) :: [(px, instObj 726 pdx), (pdx, dictOf [⟨PyData.keyHash w.params "_deprecated_wildcard_use", .str "_deprecated_wildcard_use" j0, .bool true⟩, ⟨PyData.keyHash w.params "start", .str "start" j1, .none⟩, ⟨PyData.keyHash w.params "end", .str "end" j2, .none⟩, ⟨PyData.keyHash w.params "step", .str "step" j3, .none⟩] 4),
                (sx, instObj 726 sdx), (sdx, dictOf [⟨PyData.keyHash w.params "_deprecated_wildcard_use", .str "_deprecated_wildcard_use" k0, .bool false⟩, ⟨PyData.keyHash w.params "start", .str "start" k1, .none⟩, ⟨PyData.keyHash w.params "end", .str "end" k2, .none⟩, ⟨PyData.keyHash w.params "step", .str "step" k3, .none⟩] 4),
                (lN, listOf vsN.toArray nnN), (L + 1 + 1 + 1, oP), (L + 1 + 1, oN'), (L + 1, oS), (768, tabObj #[]), (630, tabObj #[])]) ⟨by k_mem, by k_mem, by k_mem, by k_mem, by k_mem, by k_mem, by k_mem, by k_mem, by k_mem, by k_mem, by k_mem, trivial⟩) UD2 (Has.cons hl (none_of UI hD) Has.nil)
            have F4 := Fr.keeps F2 UD2
            simp only [List.cons_append, List.nil_append] at N4
            clear F8 N8 F9 N9 hF hk UI nI UD2 F2 N2 UF st hl hj
            (try k_unmd); (try k_fold)
            k_steps
            show wpAny _ _ (compareOp .NotEq (.ref _) (.ref _)) _ _ _
            (with_reducible rename Fr _ _ _ _ => F7); (with_reducible rename News _ _ _ _ => N7)
            refine ne_same (xs := [Value.int 1 ta, Value.ref lN]) (ys := [Value.int 1 _, Value.ref lN]) (ka := nD) (kb := 0) (ds := [Dat.int 1, Dat.list (nsN.map Dat.int)]) (N7 (D, listOf _ nD) (by k_mem)).1 (N7 (_, listOf _ 0) (.head _)).1
              (reads_one_list (N7 (lN, listOf vsN.toArray nnN) (by k_mem)).1 hIN) (reads_one_list (N7 (lN, listOf vsN.toArray nnN) (by k_mem)).1 hIN) (ok_one_list _) (hU _) ?_
            k_steps
            (with_reducible rename Fr _ _ _ _ => F9); (with_reducible rename News _ _ _ _ => N9)
            refine wpAny_call (find_dict (fun b o e => Fr.keep F9 b o e) X' TR (depth_le1 hdp (by decide)) hod (Has.of_news N9 (AllMem.sub ⟨by k_mem, by k_mem, by k_mem, trivial⟩)) (fun D9 h9 tk9 U9 H9 => ?_))
            have N8 := News.add F9 (News.pick N9 (objs := (h4.objs.size, _) :: [(px, instObj 726 pdx), (pdx, dictOf [⟨PyData.keyHash w.params "_deprecated_wildcard_use", .str "_deprecated_wildcard_use" j0, .bool true⟩, ⟨PyData.keyHash w.params "start", .str "start" j1, .none⟩, ⟨PyData.keyHash w.params "end", .str "end" j2, .none⟩, ⟨PyData.keyHash w.params "step", .str "step" j3, .none⟩] 4),
                (sx, instObj 726 sdx), (sdx, dictOf [⟨PyData.keyHash w.params "_deprecated_wildcard_use", .str "_deprecated_wildcard_use" k0, .bool false⟩, ⟨PyData.keyHash w.params "start", .str "start" k1, .none⟩, ⟨PyData.keyHash w.params "end", .str "end" k2, .none⟩, ⟨PyData.keyHash w.params "step", .str "step" k3, .none⟩] 4),
                (lN, listOf vsN.toArray nnN), (L + 1 + 1 + 1, oP), (L + 1 + 1, oN'), (L + 1, oS), (768, tabObj #[]), (630, tabObj #[])]) ⟨by k_mem, by k_mem, by k_mem, by k_mem, by k_mem, by k_mem, by k_mem, by k_mem, by k_mem, by k_mem, by k_mem, trivial⟩) U9 H9
            have F8 := Fr.keeps F9 U9
            simp only [List.cons_append, List.nil_append] at N8
            clear F9 N9
            (try dsimp only); (try k_unmd); (try k_fold)
            k_steps
            show wpAny _ _ (compareOp .NotEq (.ref _) (.ref _)) _ _ _
            (with_reducible rename News _ _ _ _ => N7)
            refine ne_same (xs := []) (ys := []) (ka := 0) (kb := 0) (ds := []) (N7 (D9, listOf #[] 0) (by k_mem)).1 (N7 (_, listOf #[] 0) (.head _)).1 ⟨_, .nil⟩ ⟨_, .nil⟩ (fun _ h => nomatch h) (hU _) ?_
            k_steps
            (with_reducible rename Fr _ _ _ _ => F9); (with_reducible rename News _ _ _ _ => N9)
            refine ListComp_made (cl := []) (fun _ => true) (fun i y objs => (∃ t, y = Value.str (if i = 0 then Str.ofString "a" else Str.ofString "b") t) ∧ objs = []) (fun jo => jo = []) [] (by rfl) (by decide) rfl (by decide) ?_
            (try k_unmd); (try k_fold)
            k_steps
            refine wpAny_call (find_members (fun b o e => Fr.keep F9 b o e) X' TR (depth_le1 hdp (by decide)) (by exact hh) (by assumption) hlo hod (Has.of_news N9 (AllMem.sub ⟨by k_mem, by k_mem, by k_mem, trivial⟩)) (fun DF hF tkF gsF UF HF hgF => ?_))
            obtain ⟨⟨yl⟩, nD, cx, dcx, tx, dtx, c1, c2, c3, hD, hP⟩ := HF
            have hP2 : Paired _ [0, 1] yl := hP
            obtain ⟨y0, y1, rfl, q0, q1⟩ := paired_two hP2
            obtain ⟨ob0, ⟨x0, dx0, px0, dpx0, t0, a1, a2, a3, a4, a5, tn0, rfl, rfl⟩, hob0⟩ := q0
            obtain ⟨ob1, ⟨x1, dx1, px1, dpx1, t1, e1, e2, e3, e4, e5, tn1, rfl, rfl⟩, hob1⟩ := q1
            simp only [List.getD_cons_zero, List.getD_cons_succ] at hob0 hob1
            have N2 := News.add F9 N9 UF (hD.app (hob0.app hob1))
            simp only [datO, List.cons_append, List.nil_append] at N2
            have F2 := Fr.keeps F9 UF
            clear hP hD hob0 hob1
            show wpAny _ _ (pyIter _) _ _ _
            refine list_iter (vs := [.ref x0, .ref x1]) (News.isList N2 (by k_mem)) (fun I hI UI nI lI ll hlI st => ?_)
            have F8 := Fr.keeps F2 UI
            have N8 := News.grown N2 UI
            refine CompOk.list (jo := []) hh (Nat.le_of_ble_eq_true rfl) lI ll hlI st ⟨List.not_mem_nil, List.not_mem_nil⟩ (fun z hz => nomatch hz) rfl (fun q hq => nomatch hq) (fun jo hj z hz => nomatch hz) hgF (fun C i s₃ m₁ jo hC hi hn hk hJ hj => tests_nil) ?_ ?_ (fun C => rfl) (fun C => rfl)
            · intro C i s₃ m₁ jo hC hi _ hn hk hJ hj hb
              subst hJ
              obtain ⟨F3, N3⟩ := elt_frame F8 N8 hn hC (fun b o e q => nI b o (F2.keep b o e) (List.mem_singleton.mp q)) (fun q hq e => nI _ _ (N2 q hq).1 (List.mem_singleton.mp e)) hk
              have S3 := Since.start s₃.heap
              clear F8 N8 F9 N9 hk hj UI nI F2 N2 UF st
              rcases i with _ | _ | i
              · replace F3 : Fr G0 C s₃.heap (fun y => if y = Str.ofString "match" then some (Value.ref x0) else m₁ y) := F3
                (try k_unmd); (try k_fold)
                k_steps
                (with_reducible rename Fr _ _ _ _ => F6); (with_reducible rename News _ _ _ _ => N6)
                (with_reducible rename Since _ _ _ => S9)
                refine kso_call (C := 558) (f := 534) (K := Mine.hd.heap_39 w.params) (Nat.le_of_ble_eq_true rfl) (X'.keeps F6.keep) (InstAt.of_news N6 (h1 := (by k_mem : (px0, instObj 558 dpx0) ∈ _)) (by k_mem)) (by k_is) (by k_is) ?_
                refine wpAny_call (fields_str (x := px0) (dx := dpx0) (t := t0) (fun b o e => Fr.keep F6 b o e) X' TR (by (simp only [depth_in1, depth_deeper, depth_caller]; first | done | decide)) (by exact hh) (by first | exact .inl rfl | exact .inr rfl) (Has.of_news N6 (AllMem.sub ⟨by k_mem, by k_mem, by k_mem, trivial⟩)) (fun t' h7 tk7 U7 => ?_))
                exact ⟨h7, _, _, [], [], rfl, fun b o _ e => U7 b o (S9.up b o e), Has.nil, ⟨⟨t', rfl⟩, rfl⟩, rfl, (fun _ h => nomatch h), fun h => h⟩
              · replace F3 : Fr G0 C s₃.heap (fun y => if y = Str.ofString "match" then some (Value.ref x1) else m₁ y) := F3
                (try k_unmd); (try k_fold)
                k_steps
                (with_reducible rename Fr _ _ _ _ => F6); (with_reducible rename News _ _ _ _ => N6)
                (with_reducible rename Since _ _ _ => S9)
                refine kso_call (C := 558) (f := 534) (K := Mine.hd.heap_39 w.params) (Nat.le_of_ble_eq_true rfl) (X'.keeps F6.keep) (InstAt.of_news N6 (h1 := (by k_mem : (px1, instObj 558 dpx1) ∈ _)) (by k_mem)) (by k_is) (by k_is) ?_
                refine wpAny_call (fields_str (nm := Str.ofString "b") (x := px1) (dx := dpx1) (t := t1) (fun b o e => Fr.keep F6 b o e) X' TR (by (simp only [depth_in1, depth_deeper, depth_caller]; first | done | decide)) (by exact hh) (.inr rfl) (Has.of_news N6 (AllMem.sub ⟨by k_mem, by k_mem, by k_mem, trivial⟩)) (fun t' h7 tk7 U7 => ?_))
                exact ⟨h7, _, _, [], [], rfl, fun b o _ e => U7 b o (S9.up b o e), Has.nil, ⟨⟨t', congrArg (Value.str · t') (if_neg (by decide)).symm⟩, rfl⟩, rfl, (fun _ h => nomatch h), fun h => h⟩
              · exact absurd hi (by simp)
            · intro D h' tk gs ys jo hD hl hF hJ hj hgs' hk
              obtain ⟨nD, hl⟩ := hl
              have hF2 : Paired _ [0, 1] ys.toList := hF
              obtain ⟨z0, z1, ez, ⟨_, ⟨⟨u0, rfl⟩, _⟩, _⟩, ⟨_, ⟨⟨u1, rfl⟩, _⟩, _⟩⟩ := paired_two hF2
              obtain ⟨yl⟩ := ys
              dsimp only at ez
              subst ez
              replace hl : h'.get? D = some (listOf [Value.str (Str.ofString "a") u0, Value.str (Str.ofString "b") u1].toArray nD) := hl
              have UD2 := fun b o e => hk b o (fun q => nI b o e (List.mem_singleton.mp q)) List.not_mem_nil (UI b o e)
              have N4 := News.add F2 (News.pick N2 (objs := [(px, instObj 726 pdx), (pdx, dictOf [⟨PyData.keyHash w.params "_deprecated_wildcard_use", .str "_deprecated_wildcard_use" j0, .bool true⟩, ⟨PyData.keyHash w.params "start", .str "start" j1, .none⟩, ⟨PyData.keyHash w.params "end", .str "end" j2, .none⟩, ⟨PyData.keyHash w.params "step", .str "step" j3, .none⟩] 4),
                  (sx, instObj 726 sdx), (sdx, dictOf [⟨PyData.keyHash w.params "_deprecated_wildcard_use", .str "_deprecated_wildcard_use" k0, .bool false⟩, ⟨PyData.keyHash w.params "start", .str "start" k1, .none⟩, ⟨PyData.keyHash w.params "end", .str "end" k2, .none⟩, ⟨PyData.keyHash w.params "step", .str "step" k3, .none⟩] 4),
                  (lN, listOf vsN.toArray nnN), (L + 1 + 1 + 1, oP), (L + 1 + 1, oN'), (L + 1, oS), (768, tabObj #[]), (630, tabObj #[])]) ⟨by k_mem, by k_mem, by k_mem, by k_mem, by k_mem, by k_mem, by k_mem, by k_mem, by k_mem, by k_mem, trivial⟩) UD2 (Has.cons hl (none_of UI hD) Has.nil)
              have F4 := Fr.keeps F2 UD2
              simp only [List.cons_append, List.nil_append] at N4
              clear F8 N8 F9 N9 hF hF2 hk UI nI UD2 F2 N2 UF st hl hj
              (try k_unmd); (try k_fold)
              k_steps
              show wpAny _ _ (compareOp .NotEq (.ref _) (.ref _)) _ _ _
              (with_reducible rename News _ _ _ _ => N7)
              refine ne_same (xs := [Value.str (Str.ofString "a") u0, Value.str (Str.ofString "b") u1]) (ys := [Value.str (Str.ofString "a") _, Value.str (Str.ofString "b") _]) (ka := nD) (kb := 0) (ds := [Dat.str (Str.ofString "a"), Dat.str (Str.ofString "b")]) (N7 (D, listOf _ nD) (by k_mem)).1 (N7 (_, listOf _ 0) (.head _)).1
                (reads_two_strs ..) (reads_two_strs ..) ok_two_strs (hU _) ?_
              k_steps
              (with_reducible rename Fr _ _ _ _ => F9); (with_reducible rename News _ _ _ _ => N9)
              exact ⟨rfl, _, _, _, rfl, hgs', F9, News.pick N9 ⟨by k_mem, by k_mem, by k_mem, by k_mem, by k_mem, by k_mem, by k_mem, by k_mem, by k_mem, by k_mem, trivial⟩⟩
        clear F1 N1 hod hlo
        rintro h5 tk5 gs5 hgs5 ⟨F0, N0⟩
        dsimp only
        refine seq_cut (fun h => ∃ zx zdx q0 q1 q2 q3 dep, Fr G0 L h (fun y => if y = Str.ofString "slice_" then some (Value.ref zx) else if y = Str.ofString "members" then some (Value.ref h4.objs.size) else if y = Str.ofString "plain" then some (Value.ref px) else if y = Str.ofString "strict" then some (Value.ref sx) else if y = Str.ofString "start" then some .none else if y = Str.ofString "end" then some .none else if y = Str.ofString "step" then some .none else m0 y) ∧
          News G0 L h [(zx, instObj 726 zdx), (zdx, dictOf [⟨PyData.keyHash w.params "_deprecated_wildcard_use", .str "_deprecated_wildcard_use" q0, .bool dep⟩, ⟨PyData.keyHash w.params "start", .str "start" q1, .none⟩, ⟨PyData.keyHash w.params "end", .str "end" q2, .none⟩, ⟨PyData.keyHash w.params "step", .str "step" q3, .none⟩] 4),
            (lN, listOf vsN.toArray nnN), (L + 1 + 1 + 1, oP), (L + 1 + 1, oN'), (L + 1, oS), (768, tabObj #[]), (630, tabObj #[])]) ?cd ?_
        case cd =>
          (try k_unmd); (try k_fold)
          k_steps
          all_goals
            (with_reducible rename Fr _ _ _ _ => F9); (with_reducible rename News _ _ _ _ => N9)
          · exact ⟨rfl, _, _, _, rfl, hgs5, sx, sdx, k0, k1, k2, k3, false, F9, News.pick N9 ⟨by k_mem, by k_mem, by k_mem, by k_mem, by k_mem, by k_mem, by k_mem, by k_mem, trivial⟩⟩
          · exact ⟨rfl, _, _, _, rfl, hgs5, px, pdx, j0, j1, j2, j3, true, F9, News.pick N9 ⟨by k_mem, by k_mem, by k_mem, by k_mem, by k_mem, by k_mem, by k_mem, by k_mem, trivial⟩⟩
        clear F0 N0
        rintro h6 tk6 gs6 hgs6 ⟨zx, zdx, q0, q1, q2, q3, dep, F0, N0⟩
        have z1 := ne_data N0 (a := zx) (b := L + 1 + 1 + 1) (o := instObj 726 zdx) (o' := oP) (by k_mem) (by k_mem) (by rw [dP]; intro h; cases h)
        have z2 := ne_data N0 (a := zdx) (b := L + 1 + 1 + 1) (o := dictOf [⟨PyData.keyHash w.params "_deprecated_wildcard_use", .str "_deprecated_wildcard_use" q0, .bool dep⟩, ⟨PyData.keyHash w.params "start", .str "start" q1, .none⟩, ⟨PyData.keyHash w.params "end", .str "end" q2, .none⟩, ⟨PyData.keyHash w.params "step", .str "step" q3, .none⟩] 4) (o' := oP) (by k_mem) (by k_mem) (by rw [dP]; intro h; cases h)
        dsimp only
        (try k_unmd); (try k_fold)
        k_steps
        (with_reducible rename Fr _ _ _ _ => F9); (with_reducible rename News _ _ _ _ => N9)
        (with_reducible rename IsRange _ _ _ _ _ _ _ _ => hR)
        rename ∀ b o, _ → _ => UR
        rw [← hll] at hR
        refine list_range0 (n := vsN.length) hh hR hl63 (fun D0 nD vs0 h7 tk7 U7 n7 e7 i7 => ?_)
        have H5 : Has _ h7 [(D0, listOf vs0.toArray nD)] := Has.cons e7 n7 Has.nil
        have A5 := apart_news H5 N9
        simp only [ApartL, NeAll, and_true] at A5
        have N5 := News.add F9 N9 U7 H5
        have F5 := Fr.keeps F9 U7
        simp only [List.cons_append, List.nil_append] at N5
        clear hR U7 e7 UR H5 F9 N9
        (try k_unmd); (try k_fold)
        k_steps
        (with_reducible rename Fr _ _ _ _ => F9); (with_reducible rename News _ _ _ _ => N9)
        have epl : plF none none none vsN.length = List.range vsN.length := by
          unfold plF
          rw [if_neg (by simp), plN_all]
        exact ⟨rfl, _, _, _, rfl, hgs6, _, zx, zdx, q0, q1, q2, q3, dep, D0, vs0, nD, _, F9, if_pos rfl,
          (if_neg (by decide +kernel)).trans ((if_neg (by decide +kernel)).trans ((if_neg (by decide +kernel)).trans ((if_neg (by decide +kernel)).trans (if_pos rfl)))),
          (if_neg (by decide +kernel)).trans ((if_neg (by decide +kernel)).trans ((if_neg (by decide +kernel)).trans ((if_neg (by decide +kernel)).trans ((if_neg (by decide +kernel)).trans (if_pos rfl))))),
          (if_neg (by decide +kernel)).trans ((if_neg (by decide +kernel)).trans ((if_neg (by decide +kernel)).trans ((if_neg (by decide +kernel)).trans ((if_neg (by decide +kernel)).trans ((if_neg (by decide +kernel)).trans (if_pos rfl)))))),
          News.pick N9 ⟨by k_mem, by k_mem, by k_mem, by k_mem, by k_mem, by k_mem, by k_mem, by k_mem, by k_mem, trivial⟩, by assumption, by rw [epl]; assumption, (fun _ => ⟨rfl, rfl, rfl⟩),
          ne_cls N9 (o := instObj 726 zdx) (o' := tabObj #[]) (by k_mem) (by k_mem) (fun h => by cases h), ne_cls N9 (o := instObj 726 zdx) (o' := tabObj #[]) (by k_mem) (by k_mem) (fun h => by cases h),
          ne_cls N9 (o := dictOf _ 4) (o' := tabObj #[]) (by k_mem) (by k_mem) (fun h => by cases h), ne_cls N9 (o := dictOf _ 4) (o' := tabObj #[]) (by k_mem) (by k_mem) (fun h => by cases h),
          ne_cls N9 (o := listOf vs0.toArray nD) (o' := tabObj #[]) (by k_mem) (by k_mem) (fun h => by cases h), ne_cls N9 (o := listOf vs0.toArray nD) (o' := tabObj #[]) (by k_mem) (by k_mem) (fun h => by cases h)⟩
    · refine join_test (b₀ := false) ?_ fun tk => ?_
      · (try k_unmd); (try k_fold)
        k_steps
        all_goals first | exact ⟨rfl, _, rfl⟩ | (exfalso; apply hn; refine ⟨?_, ?_, ?_⟩ <;> assumption)
      · simp only [Bool.false_eq_true, if_false]
        (try k_unmd); (try k_fold)
        refine seq_cut (fun h => ∃ sx sdx k0 k1 k2 k3, Fr G0 L h (fun y => if y = Str.ofString "slice_" then some (Value.ref sx) else if y = Str.ofString "start" then some v1 else if y = Str.ofString "end" then some v2 else if y = Str.ofString "step" then some v3 else m0 y) ∧
          News G0 L h [(sx, instObj 726 sdx), (sdx, dictOf [⟨PyData.keyHash w.params "_deprecated_wildcard_use", .str "_deprecated_wildcard_use" k0, .bool false⟩, ⟨PyData.keyHash w.params "start", .str "start" k1, v1⟩, ⟨PyData.keyHash w.params "end", .str "end" k2, v2⟩, ⟨PyData.keyHash w.params "step", .str "step" k3, v3⟩] 4),
            (lN, listOf vsN.toArray nnN), (L + 1 + 1 + 1, oP), (L + 1 + 1, oN'), (L + 1, oS), (768, tabObj #[]), (630, tabObj #[])] ∧
          ApartL [(sx, instObj 726 sdx), (sdx, dictOf [⟨PyData.keyHash w.params "_deprecated_wildcard_use", .str "_deprecated_wildcard_use" k0, .bool false⟩, ⟨PyData.keyHash w.params "start", .str "start" k1, v1⟩, ⟨PyData.keyHash w.params "end", .str "end" k2, v2⟩, ⟨PyData.keyHash w.params "step", .str "step" k3, v3⟩] 4)]
            [(lN, listOf vsN.toArray nnN), (L + 1 + 1 + 1, oP), (L + 1 + 1, oN'), (L + 1, oS), (768, tabObj #[]), (630, tabObj #[])]) ?ca ?_
        case ca =>
          (try k_unmd); (try k_fold)
          k_steps
          (with_reducible rename Fr _ _ _ _ => F9); (with_reducible rename News _ _ _ _ => N9)
          exact ⟨rfl, _, _, _, rfl, hgs3, _, _, _, _, _, _, F9, N9, by simp only [ApartL, NeAll, and_true]; assumption⟩
        clear F0 N0
        rintro h4 tk4 gs4 hgs4 ⟨sx, sdx, k0, k1, k2, k3, F0, N0, n1⟩
        simp only [ApartL, NeAll, and_true] at n1
        dsimp only
        refine seq_cut (fun h => ∃ lP vsP nnP oP', Fr G0 L h (fun y => if y = Str.ofString "slice_" then some (Value.ref sx) else if y = Str.ofString "start" then some v1 else if y = Str.ofString "end" then some v2 else if y = Str.ofString "step" then some v3 else m0 y) ∧
          News G0 L h [(lP, listOf vsP.toArray nnP), (sx, instObj 726 sdx), (sdx, dictOf [⟨PyData.keyHash w.params "_deprecated_wildcard_use", .str "_deprecated_wildcard_use" k0, .bool false⟩, ⟨PyData.keyHash w.params "start", .str "start" k1, v1⟩, ⟨PyData.keyHash w.params "end", .str "end" k2, v2⟩, ⟨PyData.keyHash w.params "step", .str "step" k3, v3⟩] 4),
            (lN, listOf vsN.toArray nnN), (L + 1 + 1 + 1, oP'), (L + 1 + 1, oN'), (L + 1, oS), (768, tabObj #[]), (630, tabObj #[])] ∧
          oP'.data = Data.cell (some (.ref lP)) ∧ IntsAre vsP (castL (plF o1 o2 o3 vsN.length)) ∧ @Ne Nat lP 768 ∧ @Ne Nat lP 630) ?cb ?_
        case cb =>
          (try k_unmd); (try k_fold)
          k_steps
          · rename (o3 == some 0) = true => hz
            have hz := beq_iff_eq.mp hz
            (with_reducible rename Fr _ _ _ _ => F9); (with_reducible rename News _ _ _ _ => N9)
            have e : plF o1 o2 o3 vsN.length = [] := by unfold plF; rw [if_pos hz]
            exact ⟨rfl, _, _, _, rfl, hgs4, _, [], 0, _, F9, N9, by assumption, by rw [e]; exact .nil, by omega, by omega⟩
          · have h3 : o3 ≠ some 0 := fun e => by
              rename (o3 == some 0) = false => hz
              rw [e] at hz
              exact absurd hz (by decide)
            (with_reducible rename Fr _ _ _ _ => F9); (with_reducible rename News _ _ _ _ => N9)
            (with_reducible rename IsRange _ _ _ _ _ _ _ _ => hR)
            rename ∀ b o, _ → _ => UR
            rw [← hll] at hR
            refine list_range0 (n := vsN.length) hh hR hl63 (fun D0 nD vs0 h6 tk6 U6 n6 e6 i6 => ?_)
            have UR6 : Up h4 h6 := fun b o e => U6 b o (UR b o e)
            first | (have F8 := Fr.keeps F9 U6) | (have F8 := Fr.keeps F9 UR6)
            first | (have N8 := News.grown N9 U6) | (have N8 := News.grown N9 UR6)
            have el : vs0.length = vsN.length := by have := i6.length; simpa using this
            have hl0 : vs0.length ≤ 63 := by omega
            clear hR U6
            (try k_unmd); (try k_fold)
            k_steps
            (with_reducible rename Fr _ _ _ _ => F7); (with_reducible rename News _ _ _ _ => N7)
            refine list_slice (h₁ := h6) (o1 := o1) (o2 := o2) (o3 := o3) e6 (fun b o e => Heap.get?_push_of_some _ e) (Heap.IsSliceOf.new _ _ _ _) p1 p2 p3 h3 hl0 (fun D h7 U7 n7 e7 => ?_) (by with_unfolding_all rfl)
            rw [el] at e7
            have epl : plF o1 o2 o3 vsN.length = plN o1 o2 o3 vsN.length := by unfold plF; rw [if_neg h3]
            have ip : IntsAre ((plN o1 o2 o3 vsN.length).filterMap (vs0.toArray[·]?)) (castL (plF o1 o2 o3 vsN.length)) := by
              rw [epl]
              exact ints_pick i6 (plN o1 o2 o3 vsN.length) (fun q hq => plN_lt o1 o2 o3 vsN.length h3 q hq)
            generalize List.filterMap _ _ = vsP at e7 ip
            have H5 : Has h6 h7 [(D, listOf vsP.toArray 0)] := Has.cons e7 n7 Has.nil
            have A5 := apart_news H5 N7
            simp only [ApartL, NeAll, and_true] at A5
            have N5 := News.add F7 N7 U7 H5
            have F5 := Fr.keeps F7 U7
            simp only [List.cons_append, List.nil_append] at N5
            clear F7 N7 U7 H5
            (try k_unmd); (try k_fold)
            k_steps
            (with_reducible rename Fr _ _ _ _ => F9); (with_reducible rename News _ _ _ _ => N9)
            exact ⟨rfl, _, _, _, rfl, hgs4, D, vsP, 0, _, F9, N9, by assumption, by assumption, A5.2.2.2.2.2.2.1, A5.2.2.2.2.2.2.2⟩
        clear F0 N0 dP
        rintro h5 tk5 gs5 hgs5 ⟨lP, vsP, nnP, oP', F0, N0, dP, hIP, n3, n4⟩
        dsimp only
        (try k_unmd); (try k_fold)
        refine wpAny_execs_cons (wpAny_If ?_)
        k_steps
        (with_reducible rename Fr _ _ _ _ => F9); (with_reducible rename News _ _ _ _ => N9)
        refine wpAny_call (find_dict (fun b o e => Fr.keep F9 b o e) X' TR (depth_le1 hdp (by decide)) (by assumption) (Has.of_news N9 (AllMem.sub ⟨by k_mem, by k_mem, by k_mem, trivial⟩)) (fun D9 h9 tk9 U9 H9 => ?_))
        have A9 := apart_news H9 N9
        simp only [ApartL, NeAll, and_true] at A9
        have N8 := News.add F9 N9 U9 H9
        have F8 := Fr.keeps F9 U9
        simp only [List.cons_append, List.nil_append] at N8
        clear F9 N9
        (try dsimp only); (try k_unmd); (try k_fold)
        k_steps
        (with_reducible rename News _ _ _ _ => N7)
        refine ne_same (xs := []) (ys := []) (ka := 0) (kb := 0) (ds := []) (N7 (D9, listOf #[] 0) (by k_mem)).1 (N7 (_, listOf #[] 0) (.head _)).1 ⟨_, .nil⟩ ⟨_, .nil⟩ (fun _ h => nomatch h) (hU _) ?_
        k_steps
        (with_reducible rename Fr _ _ _ _ => F9); (with_reducible rename News _ _ _ _ => N9)
        exact ⟨rfl, _, _, _, rfl, hgs5, _, sx, sdx, k0, k1, k2, k3, false, lP, vsP, nnP, oP', F9, if_pos rfl, (if_neg (by decide +kernel)).trans (if_pos rfl), (if_neg (by decide +kernel)).trans ((if_neg (by decide +kernel)).trans (if_pos rfl)), (if_neg (by decide +kernel)).trans ((if_neg (by decide +kernel)).trans ((if_neg (by decide +kernel)).trans (if_pos rfl))), News.pick N9 ⟨by k_mem, by k_mem, by k_mem, by k_mem, by k_mem, by k_mem, by k_mem, by k_mem, by k_mem, trivial⟩, dP, by assumption, (fun h => by cases h), n1.1.2.2.2.2.1, n1.1.2.2.2.2.2, n1.2.2.2.2.2.1, n1.2.2.2.2.2.2, n3, n4⟩
  clear F0 N0 dP
  rintro h4 tk4 gs4 hgs4 ⟨m1, sx, sdx, k0, k1, k2, k3, dep, lP, vsP, nnP, oP', F0, ms, mst, men, mep, N0, dP, hIP, hdep, u1, u2, u3, u4, u5, u6⟩
  clear oP
  have hvh := handed_ints hIN
  dsimp only
  refine seq_cut (fun h => ∃ DF ys nD cx dcx tx dtx j1 j2 j3 all, Fr G0 L h (fun y => if y = Str.ofString "told" then some (Value.ref DF) else m1 y) ∧
    News G0 L h ((sx, instObj 726 sdx) :: (sdx, dictOf [⟨PyData.keyHash w.params "_deprecated_wildcard_use", .str "_deprecated_wildcard_use" k0, .bool dep⟩, ⟨PyData.keyHash w.params "start", .str "start" k1, v1⟩, ⟨PyData.keyHash w.params "end", .str "end" k2, v2⟩, ⟨PyData.keyHash w.params "step", .str "step" k3, v3⟩] 4) ::
      (lP, listOf vsP.toArray nnP) :: (lN, listOf vsN.toArray nnN) :: (L + 1 + 1 + 1, oP') :: (L + 1 + 1, oN') :: (L + 1, oS) :: (768, tabObj #[]) :: (630, tabObj #[]) :: (DF, listOf ys nD) ::
      (cx, instObj 212 dcx) :: (dcx, dictOf [⟨PyData.keyHash w.params "_value", .str "_value" j1, .ref lN⟩, ⟨PyData.keyHash w.params "path", .str "path" j2, .ref tx⟩, ⟨PyData.keyHash w.params "context", .str "context" j3, .none⟩] 3) :: (tx, instObj 336 dtx) :: (dtx, dictOf [] 0) :: all) ∧
    Paired (fun q y => ∃ objs, MatchO w cx (vsN.getD q .none) q y objs ∧ ∀ r ∈ objs, r ∈ all) (plF o1 o2 o3 vsN.length) ys.toList) ?c4 ?_
  case c4 =>
    clear cH1 codeHd
    (try k_unmd); (try k_fold)
    k_steps
    (with_reducible rename Fr _ _ _ _ => F9); (with_reducible rename News _ _ _ _ => N9)
    refine wpAny_call (find_any (fun b o e => Fr.keep F9 b o e) X' TR (depth_le1 hdp (by decide)) (by exact hh) hgs4 (by cases o3 <;> simp at b3 ⊢; omega) hl63 hvh p1 p2 p3 hdep (Has.of_news N9 (AllMem.sub ⟨by k_mem, by k_mem, by k_mem, trivial⟩)) (fun DF hF tkF gsF UF HF hgF => ?_))
    obtain ⟨ys, nD, cx, dcx, tx, dtx, j1, j2, j3, hD, hP⟩ := HF
    obtain ⟨all, hall, hP2⟩ := paired_all (P := fun q y objs => MatchO w cx (vsN.getD q .none) q y objs) hP
    have N2 := News.add F9 N9 UF (hD.app hall)
    have F2 := Fr.keeps F9 UF
    clear F9 N9 hP hD hall UF
    (try dsimp only); (try k_unmd); (try k_fold)
    k_steps
    (with_reducible rename Fr _ _ _ _ => F9); (with_reducible rename News _ _ _ _ => N9)
    exact ⟨rfl, _, _, _, rfl, hgF, DF, ys, nD, cx, dcx, tx, dtx, j1, j2, j3, all, F9, news_comm N9, hP2⟩
  clear F0 N0
  rintro h5 tk5 gs5 hgs5 ⟨DF, ⟨yl⟩, nD, cx, dcx, tx, dtx, j1, j2, j3, all, F0, N0, hP⟩
  dsimp only at hP ⊢
  refine seq_cut (fun h => ∃ ps, Fr G0 L h (fun y => if y = Str.ofString "told" then some (Value.ref DF) else m1 y) ∧
    News G0 L h [(sx, instObj 726 sdx), (sdx, dictOf [⟨PyData.keyHash w.params "_deprecated_wildcard_use", .str "_deprecated_wildcard_use" k0, .bool dep⟩, ⟨PyData.keyHash w.params "start", .str "start" k1, v1⟩, ⟨PyData.keyHash w.params "end", .str "end" k2, v2⟩, ⟨PyData.keyHash w.params "step", .str "step" k3, v3⟩] 4),
      (lP, listOf vsP.toArray nnP), (lN, listOf vsN.toArray nnN), (L + 1 + 1 + 1, oP'), (L + 1 + 1, oN'), (L + 1, oS), (768, tabObj #[]), (630, tabObj ps)] ∧ TriplesOk ps.toList) ?c5 ?_
  case c5 =>
    clear cH1 codeHd
    obtain ⟨bm, ob, BM⟩ := bmod_of_top TT
    refine wpAny_If ?_
    (try k_unmd); (try k_fold)
    k_steps
    (with_reducible rename Fr _ _ _ _ => F9); (with_reducible rename News _ _ _ _ => N9)
    have hpl : (plF o1 o2 o3 vsN.length).length ≤ 8 := by
      unfold plF
      split
      · simp
      · rename_i h3; exact Nat.le_trans (plN_small o1 o2 o3 vsN.length h3) hlN
    have hyl : yl.length = (plF o1 o2 o3 vsN.length).length := hP.length.symm
    have h630 := N9 (630, tabObj #[]) (by k_mem)
    dsimp only at h630
    refine ListComp_made (cl := []) (fun _ => true) (fun i y objs => ∃ T u, y = Value.ref T ∧ objs = [(T, tupObj [vsN.getD ((plF o1 o2 o3 vsN.length).getD i 0) .none, .str (bracket ((plF o1 o2 o3 vsN.length).getD i 0)) u])]) (fun jo => ∃ ps, jo = [(630, tabObj ps)] ∧ TriplesOk ps.toList) [630] (by rfl) (by decide) rfl (by decide) ?_
    (try k_unmd); (try k_fold)
    k_steps
    show wpAny _ _ (pyIter _) _ _ _
    refine list_iter (vs := yl) (News.isList N9 (by k_mem)) (fun I hI UI nI lI ll hlI st => ?_)
    have F8 := Fr.keeps F9 UI
    have N8 := News.grown N9 UI
    have hI6 : (630 : Nat) ≠ I := nI _ _ h630.1
    have hD6 : @Ne Nat DF 630 := ne_cls N9 (o := listOf ⟨yl⟩ nD) (o' := tabObj #[]) (by k_mem) (by k_mem) (fun h => by cases h)
    refine CompOk.list (jo := [(630, tabObj #[])]) hh (by omega) lI ll hlI st ⟨fun h => hI6 (List.mem_singleton.mp h).symm, fun h => hD6 (List.mem_singleton.mp h)⟩ (fun z hz => (List.mem_singleton.mp hz) ▸ Heap.lt_size (UI _ _ h630.1)) ⟨#[], rfl, trivial⟩ (fun q hq => by rw [List.mem_singleton.mp hq]; exact ⟨UI _ _ h630.1, fun h => hI6 (List.mem_singleton.mp h)⟩)
      (fun jo hj z hz => by obtain ⟨ps, rfl, _⟩ := hj; rw [List.mem_singleton.mp hz]; exact .head _) hgs5 (fun C i s₃ m₁ jo hC hi hn hk hJ hj => tests_nil) ?_ ?_ (fun C => rfl) (fun C => rfl)
    · intro C i s₃ m₁ jo hC hi _ hn hk hJ hj hb
      obtain ⟨ps, rfl, htr⟩ := hJ
      have e6 := hj _ (.head _)
      have hgi : yl[i]? = some (yl.getD i .none) := by rw [List.getD_eq_getElem?_getD, List.getElem?_eq_getElem hi]; rfl
      obtain ⟨q, hq, objs, ⟨x, dx, px, dpx, t', a1, a2, a3, a4, ti, ey, rfl⟩, hm⟩ := Paired.at i hP hgi
      have hqe : (plF o1 o2 o3 vsN.length).getD i 0 = q := by rw [List.getD_eq_getElem?_getD, hq]; rfl
      have hqn : q < vsN.length := plF_lt (List.mem_of_getElem? hq)
      rw [hqe]
      have hmem : ∀ r ∈ [(x, instObj 212 dx), (dx, dictOf [⟨PyData.keyHash w.params "_value", .str "_value" a1, vsN.getD q .none⟩, ⟨PyData.keyHash w.params "path", .str "path" a2, .ref px⟩, ⟨PyData.keyHash w.params "context", .str "context" a3, .ref cx⟩] 3),
          (px, instObj 657 dpx), (dpx, dictOf [⟨PyData.keyHash w.params "indices", .str "indices" a4, .ref t'⟩] 1), (t', tupObj [.int q ti])], r ∈ all := hm
      have N9a : News G0 L _ ([(x, instObj 212 dx), (dx, dictOf [⟨PyData.keyHash w.params "_value", .str "_value" a1, vsN.getD q .none⟩, ⟨PyData.keyHash w.params "path", .str "path" a2, .ref px⟩, ⟨PyData.keyHash w.params "context", .str "context" a3, .ref cx⟩] 3),
          (px, instObj 657 dpx), (dpx, dictOf [⟨PyData.keyHash w.params "indices", .str "indices" a4, .ref t'⟩] 1), (t', tupObj [.int q ti])] ++ [(cx, instObj 212 dcx), (dcx, dictOf [⟨PyData.keyHash w.params "_value", .str "_value" j1, .ref lN⟩, ⟨PyData.keyHash w.params "path", .str "path" j2, .ref tx⟩, ⟨PyData.keyHash w.params "context", .str "context" j3, .none⟩] 3), (tx, instObj 336 dtx), (dtx, dictOf [] 0)]) := fun r hr => (List.mem_append.mp hr).elim
          (fun h => N9 r (.tail _ (.tail _ (.tail _ (.tail _ (.tail _ (.tail _ (.tail _ (.tail _ (.tail _ (.tail _ (.tail _ (.tail _ (.tail _ (.tail _ (hmem r h)))))))))))))))) (fun h => by
            simp only [List.mem_cons, List.not_mem_nil, or_false] at h
            rcases h with rfl | rfl | rfl | rfl <;> exact N9 _ (by k_mem))
      have n630 : ∀ r ∈ ([(x, instObj 212 dx), (dx, dictOf [⟨PyData.keyHash w.params "_value", .str "_value" a1, vsN.getD q .none⟩, ⟨PyData.keyHash w.params "path", .str "path" a2, .ref px⟩, ⟨PyData.keyHash w.params "context", .str "context" a3, .ref cx⟩] 3),
          (px, instObj 657 dpx), (dpx, dictOf [⟨PyData.keyHash w.params "indices", .str "indices" a4, .ref t'⟩] 1), (t', tupObj [.int q ti])] ++ [(cx, instObj 212 dcx), (dcx, dictOf [⟨PyData.keyHash w.params "_value", .str "_value" j1, .ref lN⟩, ⟨PyData.keyHash w.params "path", .str "path" j2, .ref tx⟩, ⟨PyData.keyHash w.params "context", .str "context" j3, .none⟩] 3), (tx, instObj 336 dtx), (dtx, dictOf [] 0)] : List (Addr × Obj)), r.1 ≠ 630 := fun r hr e => by
        have h1 := (N9a r hr).1
        rw [e, h630.1] at h1
        have h2 : r.2.cls = .none := by rw [← Option.some.inj h1]
        simp only [List.cons_append, List.nil_append, List.mem_cons, List.not_mem_nil, or_false] at hr
        rcases hr with rfl | rfl | rfl | rfl | rfl | rfl | rfl | rfl | rfl <;> cases h2
      obtain ⟨F3, N3'⟩ := elt_frame (wr := [I, 630]) F8 (News.grown N9a UI) hn hC (fun b o e h => by
          rcases List.mem_cons.mp h with h | h
          · exact nI b o (F9.keep b o e) h
          · rw [List.mem_singleton.mp h, h630.2.2] at e; cases e)
        (fun r hr h => by
          rcases List.mem_cons.mp h with h | h
          · exact nI _ _ (N9a r hr).1 h
          · exact n630 r hr (List.mem_singleton.mp h)) (fun b o hb _ e => hk b o (fun h => hb (List.mem_cons.mpr (.inl (List.mem_singleton.mp h)))) (fun h => hb (.tail _ h)) e)
      have N3 : News G0 C s₃.heap ((630, tabObj ps) :: _) := fun r hr => by
        rcases List.mem_cons.mp hr with rfl | hr
        · exact ⟨e6, fun h => absurd h (Nat.ne_of_lt (Nat.lt_of_lt_of_le (Heap.lt_size (UI _ _ h630.1)) hC)), h630.2.2⟩
        · exact N3' r hr
      simp only [List.cons_append, List.nil_append] at N3
      replace F3 : Fr G0 C s₃.heap (fun y => if y = Str.ofString "match" then some (Value.ref x) else m₁ y) := by rw [ey] at F3; exact F3
      have S3 := Since.start s₃.heap
      have hv1 := hvh q
      have hq6 : q < 1000000 := by omega
      clear F8 N8 F9 N9 hk hj UI nI st N3' N9a hmem hm
      (try k_unmd); (try k_fold)
      k_steps
      (with_reducible rename Fr _ _ _ _ => F6); (with_reducible rename News _ _ _ _ => N6)
      (with_reducible rename Since _ _ _ => S9)
      refine kso_call (C := 657) (f := 635) (K := Mine.hd.heap_39 w.params) (Nat.le_of_ble_eq_true rfl) (X'.keeps F6.keep) (InstAt.of_news N6 (h1 := (by k_mem : (px, instObj 657 dpx) ∈ _)) (by k_mem)) (by k_is) (by k_is) ?_
      refine wpAny_call (index_str (x := px) (dx := dpx) (t := t') (ps := ps) (fun b o e => Fr.keep F6 b o e) X' TR (by (simp only [depth_in1, depth_deeper, depth_caller]; first | done | decide)) (by exact hh) hb BM htr hq6 (Has.of_news N6 (AllMem.sub ⟨by k_mem, by k_mem, by k_mem, by k_mem, trivial⟩)) (fun u9 h9 tk9 gs9 ps9 hk9 e9 htr9 hgs9 => ?_))
      show wpAny _ _ (spliced _) _ _ _
      walk1
      show wpAny _ _ (newTuple _) _ _ _
      refine wpAny_newObj_type ?_ (by show 2 ≤ sizeLine; unfold sizeLine; omega)
      have hfr : s₃.heap.get? h9.objs.size = none := by
        cases e : s₃.heap.get? h9.objs.size with
        | none => rfl
        | some o =>
          have hne : h9.objs.size ≠ 630 := fun q => by
            have := Heap.lt_size e9
            rw [q] at this; exact Nat.lt_irrefl _ this
          exact absurd (Heap.lt_size (hk9 _ _ hne (S9.up _ _ e))) (Nat.lt_irrefl _)
      exact ⟨_, _, gs9, [(h9.objs.size, tupObj [vsN.getD q .none, .str (bracket q) u9])], [(630, tabObj ps9)], rfl, fun b o hb' e => Heap.get?_push_of_some _ (hk9 b o (fun r => hb' (r ▸ .head _)) (S9.up b o e)), Has.cons (Heap.get?_push_size _ rfl) hfr Has.nil, ⟨_, u9, rfl, rfl⟩, ⟨ps9, rfl, htr9⟩,
        (fun r hr => by rw [List.mem_singleton.mp hr]; exact ⟨Heap.get?_push_of_some _ e9, .inl (.head _)⟩), fun _ => hgs9⟩
    · intro D h' tk gs ys jo hD hl hF hJ hj hgs' hk
      obtain ⟨ps, rfl, htr⟩ := hJ
      obtain ⟨nD2, hl⟩ := hl
      obtain ⟨yl2⟩ := ys
      have hF2 : Paired (fun i y => ∃ T u, y = Value.ref T ∧ h'.get? T = some (tupObj [vsN.getD ((plF o1 o2 o3 vsN.length).getD i 0) .none, .str (bracket ((plF o1 o2 o3 vsN.length).getD i 0)) u])) ((List.range yl.length).filter fun _ => true) yl2 :=
        hF.mono fun i y ⟨objs, ⟨T, u, e1, e2⟩, ho⟩ => ⟨T, u, e1, (ho _ (by rw [e2]; exact .head _)).1⟩
      rw [List.filter_eq_self.mpr (fun _ _ => rfl), hyl] at hF2
      have hfl : ∀ i ∈ List.range (plF o1 o2 o3 vsN.length).length, (plF o1 o2 o3 vsN.length).getD i 0 < vsN.length := fun i hi => by
        have hi := List.mem_range.mp hi
        rw [List.getD_eq_getElem?_getD, List.getElem?_eq_getElem hi]
        exact plF_lt (List.getElem_mem hi)
      obtain ⟨as1, R1⟩ := tup_reads (f := fun i => (plF o1 o2 o3 vsN.length).getD i 0) hIN hfl hF2
      have h6j := hj _ (.head _)
      dsimp only at h6j
      have hD0 : G0.get? D = none := none_of F9.keep (none_of UI hD)
      have hDL : D ≠ L := fun e => by
        obtain ⟨oL, _, _, eL, _⟩ := id F8.ns
        rw [← e, hD] at eL; cases eL
      have hLn : L ∉ [I] ∧ L ∉ [630] := by
        obtain ⟨oL, _, _, eL, _⟩ := id F9.ns
        exact ⟨fun h => nI _ _ eL (List.mem_singleton.mp h), fun h => h630.2.1 (List.mem_singleton.mp h).symm⟩
      have N9b := News.pick N9 (objs := [(sx, instObj 726 sdx), (sdx, dictOf [⟨PyData.keyHash w.params "_deprecated_wildcard_use", .str "_deprecated_wildcard_use" k0, .bool dep⟩, ⟨PyData.keyHash w.params "start", .str "start" k1, v1⟩, ⟨PyData.keyHash w.params "end", .str "end" k2, v2⟩, ⟨PyData.keyHash w.params "step", .str "step" k3, v3⟩] 4),
        (lP, listOf vsP.toArray nnP), (lN, listOf vsN.toArray nnN), (L + 1 + 1 + 1, oP'), (L + 1 + 1, oN'), (L + 1, oS), (768, tabObj #[])]) ⟨by k_mem, by k_mem, by k_mem, by k_mem, by k_mem, by k_mem, by k_mem, by k_mem, trivial⟩
      have n630 : ∀ r ∈ [(sx, instObj 726 sdx), (sdx, dictOf [⟨PyData.keyHash w.params "_deprecated_wildcard_use", .str "_deprecated_wildcard_use" k0, .bool dep⟩, ⟨PyData.keyHash w.params "start", .str "start" k1, v1⟩, ⟨PyData.keyHash w.params "end", .str "end" k2, v2⟩, ⟨PyData.keyHash w.params "step", .str "step" k3, v3⟩] 4),
        (lP, listOf vsP.toArray nnP), (lN, listOf vsN.toArray nnN), (L + 1 + 1 + 1, oP'), (L + 1 + 1, oN'), (L + 1, oS), (768, tabObj #[])], @Ne Nat r.1 630 := fun r hr => by
        simp only [List.mem_cons, List.not_mem_nil, or_false] at hr
        rcases hr with rfl | rfl | rfl | rfl | rfl | rfl | rfl | rfl
        · exact u2
        · exact u4
        · exact u6
        · exact nN.2.2.2.2
        · dsimp only; omega
        · dsimp only; omega
        · dsimp only; omega
        · decide
      obtain ⟨F4, N4b⟩ := back_frame (wr := [I]) (Z := [630]) F8 (News.grown N9b UI) (fun b o e => ⟨fun h => nI b o (F9.keep b o e) (List.mem_singleton.mp h), fun h => by rw [List.mem_singleton.mp h, h630.2.2] at e; cases e⟩) hLn
        (fun r hr => ⟨fun h => nI _ _ (N9b r hr).1 (List.mem_singleton.mp h), fun h => n630 r hr (List.mem_singleton.mp h)⟩) hk
      have N4 : News G0 L h' ((D, listOf yl2.toArray nD2) :: (630, tabObj ps) :: _) := fun r hr => by
        rcases List.mem_cons.mp hr with rfl | hr
        · exact ⟨hl, hDL, hD0⟩
        · rcases List.mem_cons.mp hr with rfl | hr
          · exact ⟨h6j.1, h630.2⟩
          · exact N4b r hr
      clear F8 N8 F9 N9 hF hF2 hk UI nI st hl hj N4b N9b n630 hP all
      (try k_unmd); (try k_fold)
      k_steps
      (with_reducible rename Fr _ _ _ _ => F9); (with_reducible rename News _ _ _ _ => N9)
      refine ListComp_made (cl := [("numbers", L + 1 + 1)]) (fun _ => true) (fun i y objs => ∃ T t u, y = Value.ref T ∧ objs = [(T, tupObj [Value.int (nsN.getD ((plF o1 o2 o3 vsN.length).getD i 0) 0) t, .str (bracket ((plF o1 o2 o3 vsN.length).getD i 0)) u])]) (fun jo => jo = []) [] (by rfl) (by decide) rfl (by decide) ?_
      (try k_unmd); (try k_fold)
      k_steps
      show wpAny _ _ (pyIter _) _ _ _
      have hvl : vsP.length = (plF o1 o2 o3 vsN.length).length := by have := hIP.length; simpa using this
      refine list_iter (vs := vsP) (News.isList N9 (by k_mem)) (fun I hI UI nI lI ll hlI st => ?_)
      have F8 := Fr.keeps F9 UI
      have N8 := News.grown N9 UI
      refine CompOk.list (jo := []) hh (by omega) lI ll hlI st ⟨List.not_mem_nil, List.not_mem_nil⟩ (fun z hz => nomatch hz) rfl (fun q hq => nomatch hq) (fun jo hj z hz => nomatch hz) hgs' (fun C i s₃ m₁ jo hC hi hn hk hJ hj => tests_nil) ?_ ?_ (fun C => rfl) (fun C => rfl)
      · intro C i s₃ m₁ jo hC hi _ hn hk hJ hj hb
        subst hJ
        obtain ⟨F3, N3⟩ := elt_frame F8 N8 hn hC (fun b o e q => nI b o (F9.keep b o e) (List.mem_singleton.mp q)) (fun q hq e => nI _ _ (N9 q hq).1 (List.mem_singleton.mp e)) hk
        have hi2 : i < (plF o1 o2 o3 vsN.length).length := by omega
        have hqn := hfl i (List.mem_range.mpr hi2)
        obtain ⟨ti, et⟩ := ints_getD hIP i hi
        have eq9 : (castL (plF o1 o2 o3 vsN.length)).getD i 0 = (((plF o1 o2 o3 vsN.length).getD i 0 : Nat) : Int) := by
          rw [List.getD_eq_getElem?_getD, List.getElem?_map, List.getD_eq_getElem?_getD, List.getElem?_eq_getElem hi2]
          rfl
        rw [eq9] at et
        rw [et] at F3
        have S3 := Since.start s₃.heap
        clear F8 N8 F9 N9 hk hj UI nI st eq9 et R1 hfl
        generalize (plF o1 o2 o3 vsN.length).getD i 0 = q at hqn F3 ⊢
        have hv1 := hvh q
        have hLq := len_str_of_int (q : Int)
        (try k_unmd); (try k_fold)
        k_steps
        refine wpAny_newObj_type ?_ (by show 2 ≤ sizeLine; unfold sizeLine; omega)
        exact ⟨_, _, _, [(s₃.heap.objs.size, tupObj [Value.int (nsN.getD q 0) _, .str (bracket q) _])], [], rfl, fun b o _ e => Heap.get?_push_of_some _ e, Has.cons (Heap.get?_push_size _ rfl) (Heap.get?_none_of_le (Nat.le_refl _)) Has.nil, ⟨_, _, _, rfl, rfl⟩, rfl, (fun _ h => nomatch h), fun h => h⟩
      · intro D2 h2' tk2' gs2' ys jo hD2 hl2 hF hJ hj hgs2' hk
        obtain ⟨nD3, hl2⟩ := hl2
        obtain ⟨yl3⟩ := ys
        have hF2 : Paired (fun i y => ∃ T t u, y = Value.ref T ∧ h2'.get? T = some (tupObj [Value.int (nsN.getD ((plF o1 o2 o3 vsN.length).getD i 0) 0) t, .str (bracket ((plF o1 o2 o3 vsN.length).getD i 0)) u])) ((List.range vsP.length).filter fun _ => true) yl3 :=
          hF.mono fun i y ⟨objs, ⟨T, t, u, e1, e2⟩, ho⟩ => ⟨T, t, u, e1, (ho _ (by rw [e2]; exact .head _)).1⟩
        rw [List.filter_eq_self.mpr (fun _ _ => rfl), hvl] at hF2
        obtain ⟨as2, R2⟩ := tup_reads2 (f := fun i => (plF o1 o2 o3 vsN.length).getD i 0) hF2
        have UD2 := fun b o e => hk b o (fun q => nI b o e (List.mem_singleton.mp q)) List.not_mem_nil (UI b o e)
        have R1' := PyProof.Rows.ReadsAll.keeps UD2 R1
        have N4 := News.add F9 N9 UD2 (Has.cons hl2 (none_of UI hD2) Has.nil)
        have F4 := Fr.keeps F9 UD2
        simp only [List.cons_append, List.nil_append] at N4
        clear F8 N8 F9 N9 hF hF2 hk UI nI UD2 st R1
        (try k_unmd); (try k_fold)
        k_steps
        (with_reducible rename News _ _ _ _ => N7)
        refine ne_same (xs := yl2) (ys := yl3) (ka := nD2) (kb := nD3) (ds := (List.range (plF o1 o2 o3 vsN.length).length).map (tupD nsN fun i => (plF o1 o2 o3 vsN.length).getD i 0)) (N7 (D, listOf yl2.toArray nD2) (by k_mem)).1 (N7 (D2, listOf yl3.toArray nD3) (by k_mem)).1 ⟨_, R1'⟩ ⟨_, R2⟩ (tup_ok nsN fun i hi => Nat.lt_of_lt_of_le (hfl i hi) (by omega)) (hU _) ?_
        k_steps
        (with_reducible rename Fr _ _ _ _ => F9); (with_reducible rename News _ _ _ _ => N9)
        exact ⟨rfl, _, _, _, rfl, hgs2', ps, F9, News.pick N9 ⟨by k_mem, by k_mem, by k_mem, by k_mem, by k_mem, by k_mem, by k_mem, by k_mem, by k_mem, trivial⟩, htr⟩
  clear F0 N0 hP all
  rintro h6 tk6 gs6 hgs6 ⟨ps, F0, N0, htr⟩
  have mst' : (fun y => if y = Str.ofString "told" then some (Value.ref DF) else m1 y) (Str.ofString "slice_") = some (Value.ref sx) := (if_neg (by decide +kernel)).trans ms
  have mss' : (fun y => if y = Str.ofString "told" then some (Value.ref DF) else m1 y) (Str.ofString "start") = some v1 := (if_neg (by decide +kernel)).trans mst
  have mse' : (fun y => if y = Str.ofString "told" then some (Value.ref DF) else m1 y) (Str.ofString "end") = some v2 := (if_neg (by decide +kernel)).trans men
  have msp' : (fun y => if y = Str.ofString "told" then some (Value.ref DF) else m1 y) (Str.ofString "step") = some v3 := (if_neg (by decide +kernel)).trans mep
  generalize (fun y => if y = Str.ofString "told" then some (Value.ref DF) else m1 y) = m2 at F0 mst' mss' mse' msp'
  clear ms mst men mep
  dsimp only
  refine seq_cut (fun h => Fr G0 L h m2 ∧ News G0 L h [(sx, instObj 726 sdx), (sdx, dictOf [⟨PyData.keyHash w.params "_deprecated_wildcard_use", .str "_deprecated_wildcard_use" k0, .bool dep⟩, ⟨PyData.keyHash w.params "start", .str "start" k1, v1⟩, ⟨PyData.keyHash w.params "end", .str "end" k2, v2⟩, ⟨PyData.keyHash w.params "step", .str "step" k3, v3⟩] 4),
      (lP, listOf vsP.toArray nnP), (lN, listOf vsN.toArray nnN), (L + 1 + 1 + 1, oP'), (L + 1 + 1, oN'), (L + 1, oS), (768, tabObj #[]), (630, tabObj ps)]) ?c6 ?_
  case c6 =>
    clear cH1 codeHd
    refine wpAny_If ?_
    (try k_unmd); (try k_fold)
    k_steps
    (with_reducible rename Fr _ _ _ _ => F9); (with_reducible rename News _ _ _ _ => N9)
    refine wpAny_call (find_not (fun b o e => Fr.keep F9 b o e) X' TR (depth_le1 hdp (by decide)) (.inl ⟨_, rfl⟩) (Has.of_news N9 (AllMem.sub ⟨by k_mem, by k_mem, trivial⟩)) (fun D9 h9 tk9 U9 H9 => ?_))
    have N8 := News.add F9 N9 U9 H9
    have F8 := Fr.keeps F9 U9
    simp only [List.cons_append, List.nil_append] at N8
    clear F9 N9 U9 H9
    (try dsimp only); (try k_unmd); (try k_fold)
    k_steps
    (with_reducible rename News _ _ _ _ => N7)
    refine ne_same (xs := []) (ys := []) (ka := 0) (kb := 0) (ds := []) (N7 (D9, listOf #[] 0) (by k_mem)).1 (N7 (_, listOf #[] 0) (.head _)).1 ⟨_, .nil⟩ ⟨_, .nil⟩ (fun _ h => nomatch h) (hU _) ?_
    k_steps
    (with_reducible rename Fr _ _ _ _ => F9); (with_reducible rename News _ _ _ _ => N9)
    refine wpAny_call (find_not (fun b o e => Fr.keep F9 b o e) X' TR (depth_le1 hdp (by decide)) (.inr ⟨_, rfl⟩) (Has.of_news N9 (AllMem.sub ⟨by k_mem, by k_mem, trivial⟩)) (fun D8 h8 tk8 U8 H8 => ?_))
    have N8 := News.add F9 N9 U8 H8
    have F8 := Fr.keeps F9 U8
    simp only [List.cons_append, List.nil_append] at N8
    clear F9 N9 U8 H8
    (try dsimp only); (try k_unmd); (try k_fold)
    k_steps
    (with_reducible rename News _ _ _ _ => N7)
    refine ne_same (xs := []) (ys := []) (ka := 0) (kb := 0) (ds := []) (N7 (D8, listOf #[] 0) (by k_mem)).1 (N7 (_, listOf #[] 0) (.head _)).1 ⟨_, .nil⟩ ⟨_, .nil⟩ (fun _ h => nomatch h) (hU _) ?_
    k_steps
    (with_reducible rename Fr _ _ _ _ => F9); (with_reducible rename News _ _ _ _ => N9)
    exact ⟨rfl, _, _, _, rfl, hgs6, F9, News.pick N9 ⟨by k_mem, by k_mem, by k_mem, by k_mem, by k_mem, by k_mem, by k_mem, by k_mem, by k_mem, trivial⟩⟩
  clear F0 N0
  rintro h7 tk7 gs7 hgs7 ⟨F0, N0⟩
  dsimp only
  refine seq_cut (fun h => ∃ lC nC, Fr G0 L h (fun y => if y = Str.ofString "changed" then some (Value.ref lC) else m2 y) ∧ News G0 L h ((lC, listOf vsN.toArray nC) :: [(sx, instObj 726 sdx), (sdx, dictOf [⟨PyData.keyHash w.params "_deprecated_wildcard_use", .str "_deprecated_wildcard_use" k0, .bool dep⟩, ⟨PyData.keyHash w.params "start", .str "start" k1, v1⟩, ⟨PyData.keyHash w.params "end", .str "end" k2, v2⟩, ⟨PyData.keyHash w.params "step", .str "step" k3, v3⟩] 4),
      (lP, listOf vsP.toArray nnP), (lN, listOf vsN.toArray nnN), (L + 1 + 1 + 1, oP'), (L + 1 + 1, oN'), (L + 1, oS), (768, tabObj #[]), (630, tabObj ps)]) ∧ NeAll lC [(sx, instObj 726 sdx), (sdx, dictOf [⟨PyData.keyHash w.params "_deprecated_wildcard_use", .str "_deprecated_wildcard_use" k0, .bool dep⟩, ⟨PyData.keyHash w.params "start", .str "start" k1, v1⟩, ⟨PyData.keyHash w.params "end", .str "end" k2, v2⟩, ⟨PyData.keyHash w.params "step", .str "step" k3, v3⟩] 4),
      (lP, listOf vsP.toArray nnP), (lN, listOf vsN.toArray nnN), (L + 1 + 1 + 1, oP'), (L + 1 + 1, oN'), (L + 1, oS), (768, tabObj #[]), (630, tabObj ps)]) ?c7 ?_
  case c7 =>
    clear cH1 codeHd
    (try k_unmd); (try k_fold)
    k_steps
    (with_reducible rename Fr _ _ _ _ => F9); (with_reducible rename News _ _ _ _ => N9)
    refine list_copy (h₁ := h7) (vs := vsN) (N9 (lN, listOf vsN.toArray nnN) (by k_mem)).1 (fun b o e => Heap.get?_push_of_some _ e) (Heap.IsSliceOf.new _ _ _ _) hl63 (fun D h7' U7 n7 e7 => ?_) (by with_unfolding_all rfl)
    have H5 : Has h7 h7' [(D, listOf vsN.toArray 0)] := Has.cons e7 n7 Has.nil
    have A5 := apart_news H5 N9
    have N5 := News.add F9 N9 U7 H5
    have F5 := Fr.keeps F9 U7
    simp only [List.cons_append, List.nil_append] at N5
    clear F9 N9 U7 H5
    (try k_unmd); (try k_fold)
    k_steps
    (with_reducible rename Fr _ _ _ _ => F9); (with_reducible rename News _ _ _ _ => N9)
    exact ⟨rfl, _, _, _, rfl, hgs7, D, 0, F9, N9, A5.1⟩
  clear F0 N0
  rintro h8 tk8 gs8 hgs8 ⟨lC, nC, F0, N0, nC1⟩
  have mst2 : (fun y => if y = Str.ofString "changed" then some (Value.ref lC) else m2 y) (Str.ofString "slice_") = some (Value.ref sx) := (if_neg (by decide +kernel)).trans mst'
  have mch2 : (fun y => if y = Str.ofString "changed" then some (Value.ref lC) else m2 y) (Str.ofString "changed") = some (Value.ref lC) := if_pos rfl
  have mss2 : (fun y => if y = Str.ofString "changed" then some (Value.ref lC) else m2 y) (Str.ofString "start") = some v1 := (if_neg (by decide +kernel)).trans mss'
  have mse2 : (fun y => if y = Str.ofString "changed" then some (Value.ref lC) else m2 y) (Str.ofString "end") = some v2 := (if_neg (by decide +kernel)).trans mse'
  have msp2 : (fun y => if y = Str.ofString "changed" then some (Value.ref lC) else m2 y) (Str.ofString "step") = some v3 := (if_neg (by decide +kernel)).trans msp'
  generalize (fun y => if y = Str.ofString "changed" then some (Value.ref lC) else m2 y) = m3 at F0 mst2 mch2 mss2 mse2 msp2
  clear mst' mss' mse' msp'
  dsimp only
  refine seq_cut (fun h => Fr G0 L h m3 ∧ News G0 L h [(sx, instObj 726 sdx), (sdx, dictOf [⟨PyData.keyHash w.params "_deprecated_wildcard_use", .str "_deprecated_wildcard_use" k0, .bool dep⟩, ⟨PyData.keyHash w.params "start", .str "start" k1, v1⟩, ⟨PyData.keyHash w.params "end", .str "end" k2, v2⟩, ⟨PyData.keyHash w.params "step", .str "step" k3, v3⟩] 4),
      (lP, listOf vsP.toArray nnP), (lN, listOf vsN.toArray nnN), (L + 1 + 1 + 1, oP'), (L + 1 + 1, oN'), (L + 1, oS), (768, tabObj #[]), (630, tabObj ps)]) ?c8 ?_
  case c8 =>
    clear cH1 codeHd
    simp only [NeAll, and_true] at nC1
    refine wpAny_If ?_
    (try k_unmd); (try k_fold)
    k_steps
    (with_reducible rename Fr _ _ _ _ => F9); (with_reducible rename News _ _ _ _ => N9)
    refine wpAny_call (slice_update (val := Str.ofString "new") (o1 := o1) (o2 := o2) (o3 := o3) (vs := vsN) (fun b o e => Fr.keep F9 b o e) X' TR (depth_le1 hdp (by decide)) (by exact hh) hgs8 (by cases o3 <;> simp at b3 ⊢; omega) hl63 hvh p1 p2 p3 hdep (Has.of_news N9 (AllMem.sub ⟨by k_mem, by k_mem, by k_mem, trivial⟩)) (fun nn' h9 tk9 gs9 hk9 e9 hgs9 => ?_))
    have hneC : ∀ r ∈ [(sx, instObj 726 sdx), (sdx, dictOf [⟨PyData.keyHash w.params "_deprecated_wildcard_use", .str "_deprecated_wildcard_use" k0, .bool dep⟩, ⟨PyData.keyHash w.params "start", .str "start" k1, v1⟩, ⟨PyData.keyHash w.params "end", .str "end" k2, v2⟩, ⟨PyData.keyHash w.params "step", .str "step" k3, v3⟩] 4),
      (lP, listOf vsP.toArray nnP), (lN, listOf vsN.toArray nnN), (L + 1 + 1 + 1, oP'), (L + 1 + 1, oN'), (L + 1, oS), (768, tabObj #[]), (630, tabObj ps)], @Ne Nat r.1 lC := fun r hr => by
        simp only [List.mem_cons, List.not_mem_nil, or_false] at hr
        obtain ⟨a1, a2, a3, a4, a5, a6, a7, a8, a9⟩ := nC1
        rcases hr with rfl | rfl | rfl | rfl | rfl | rfl | rfl | rfl | rfl <;> exact Ne.symm (by assumption)
    obtain ⟨vC, e9, rC⟩ : ∃ vC : List Value, h9.get? lC = some (listOf vC.toArray nn') ∧ ∀ h : Heap, ∃ as, ReadsAll h vC (kqdPs ((List.range vsN.length).map fun i => updD (Str.ofString "new") nsN (plF o1 o2 o3 vsN.length) (i + 0))) as := ⟨_, e9, fun h => upd_reads hIN⟩
    obtain ⟨F8, N8⟩ := upd_frame F9 N9 hneC hk9 e9
    clear F9 N9 hk9 e9
    (try dsimp only); (try k_unmd); (try k_fold)
    k_steps
    (with_reducible rename Fr _ _ _ _ => F9); (with_reducible rename News _ _ _ _ => N9)
    refine ListComp_made (cl := [("places", L + 1 + 1 + 1)]) (fun _ => true) (fun i y objs => (∃ t, y = if (plF o1 o2 o3 vsN.length).contains i = true then Value.str (Str.ofString "new") t else vsN.getD i .none) ∧ objs = []) (fun jo => jo = []) [] (by rfl) (by decide) rfl (by decide) ?_
    (try k_unmd); (try k_fold)
    k_steps
    refine enum_iter (vs := vsN) (News.isList N9 (by k_mem)) (fun e it hI UI nI le li ll hei hle hli st => ?_)
    have F8 := Fr.keeps F9 UI
    have N8 := News.grown N9 UI
    refine CompOk.enum (jo := []) hh hl63 le li ll hei hle hli st ⟨List.not_mem_nil, List.not_mem_nil, List.not_mem_nil⟩ (fun z hz => nomatch hz) rfl (fun q hq => nomatch hq) (fun jo hj z hz => nomatch hz) hgs9 (fun C i s₃ m₁ t₃ jo hC hi hn hk hJ hj => tests_nil) ?_ ?_ (fun C => rfl) (fun C => rfl) (fun C => rfl)
    · intro C i s₃ m₁ t₃ jo hC hi _ hn hk hJ hj hb
      subst hJ
      obtain ⟨F3, N3⟩ := elt_frame F8 N8 hn hC (fun b o e => nI b o (F9.keep b o e)) (fun q hq => nI _ _ (N9 q hq).1) hk
      have hvi := hvh i
      clear F8 N8 F9 N9 hk hj UI nI st
      (try k_unmd); (try k_fold)
      k_steps
      refine in_ints (N3 (lP, listOf vsP.toArray nnP) (by k_mem)).1 hIP (hU _) ?_
      k_steps
      · exact ⟨_, _, _, [], [], rfl, fun b o _ e => e, Has.nil, ⟨⟨_, (if_pos (by assumption)).symm⟩, rfl⟩, rfl, (fun _ h => nomatch h), fun h => h⟩
      · exact ⟨_, _, _, [], [], rfl, fun b o _ e => e, Has.nil, ⟨⟨0, (if_neg (Bool.eq_false_iff.mp (by assumption))).symm⟩, rfl⟩, rfl, (fun _ h => nomatch h), fun h => h⟩
    · intro D h' tk gs ys jo hD hl hF hJ hj hgs' hk
      obtain ⟨nD, hl⟩ := hl
      obtain ⟨yl⟩ := ys
      have hF2 : Paired (fun i y => ∃ t, y = if (plF o1 o2 o3 vsN.length).contains i = true then Value.str (Str.ofString "new") t else vsN.getD i .none) ((List.range vsN.length).filter fun _ => true) yl :=
        hF.mono fun i y ⟨objs, ⟨h1, _⟩, _⟩ => h1
      rw [List.filter_eq_self.mpr (fun _ _ => rfl)] at hF2
      have UD2 := fun b o e => hk b o (nI b o e) List.not_mem_nil (UI b o e)
      have N4 := News.add F9 N9 UD2 (Has.cons hl (none_of UI hD) Has.nil)
      have F4 := Fr.keeps F9 UD2
      simp only [List.cons_append, List.nil_append] at N4
      clear F8 N8 F9 N9 hF hk UI nI UD2 st hl hj
      (try k_unmd); (try k_fold)
      k_steps
      (with_reducible rename News _ _ _ _ => N7)
      refine ne_same (xs := vC) (ys := yl) (ka := nn') (kb := nD) (ds := (List.range vsN.length).map fun i => updD (Str.ofString "new") nsN (plF o1 o2 o3 vsN.length) (i + 0)) (N7 (lC, listOf _ nn') (by k_mem)).1 (N7 (D, listOf yl.toArray nD) (by k_mem)).1 (rC _) (upd_reads2 hIN hF2) (upd_ok (by decide +kernel) _) (hU _) ?_
      k_steps
      (with_reducible rename Fr _ _ _ _ => F9); (with_reducible rename News _ _ _ _ => N9)
      refine list_copy (h₁ := h') (vs := vsN) (N9 (lN, listOf vsN.toArray nnN) (by k_mem)).1 (fun b o e => Heap.get?_push_of_some _ e) (Heap.IsSliceOf.new _ _ _ _) hl63 (fun lE h7' U7 n7 e7 => ?_) (by with_unfolding_all rfl)
      have H5 : Has h' h7' [(lE, listOf vsN.toArray 0)] := Has.cons e7 n7 Has.nil
      have N9p := News.pick N9 (objs := (lC, listOf vC.toArray nn') :: [(sx, instObj 726 sdx), (sdx, dictOf [⟨PyData.keyHash w.params "_deprecated_wildcard_use", .str "_deprecated_wildcard_use" k0, .bool dep⟩, ⟨PyData.keyHash w.params "start", .str "start" k1, v1⟩, ⟨PyData.keyHash w.params "end", .str "end" k2, v2⟩, ⟨PyData.keyHash w.params "step", .str "step" k3, v3⟩] 4),
        (lP, listOf vsP.toArray nnP), (lN, listOf vsN.toArray nnN), (L + 1 + 1 + 1, oP'), (L + 1 + 1, oN'), (L + 1, oS), (768, tabObj #[]), (630, tabObj ps)]) ⟨by k_mem, by k_mem, by k_mem, by k_mem, by k_mem, by k_mem, by k_mem, by k_mem, by k_mem, by k_mem, trivial⟩
      have A5 := apart_news H5 N9p
      simp only [ApartL, NeAll, and_true] at A5
      have N5 := News.add F9 N9p U7 H5
      have F5 := Fr.keeps F9 U7
      simp only [List.cons_append, List.nil_append] at N5
      clear F9 N9 N9p U7 H5
      (try k_unmd); (try k_fold)
      k_steps
      (with_reducible rename Fr _ _ _ _ => F9); (with_reducible rename News _ _ _ _ => N9)
      refine wpAny_call (slice_update (val := Str.ofString "new") (o1 := o1) (o2 := o2) (o3 := o3) (vs := vsN) (fun b o e => Fr.keep F9 b o e) X' TR (depth_le1 hdp (by decide)) (by exact hh) hgs' (by cases o3 <;> simp at b3 ⊢; omega) hl63 hvh p1 p2 p3 hdep (Has.of_news N9 (AllMem.sub ⟨by k_mem, by k_mem, by k_mem, trivial⟩)) (fun nn2 hE tkE gsE hkE eE hgsE => ?_))
      have hneE : ∀ r ∈ (lC, listOf vC.toArray nn') :: [(sx, instObj 726 sdx), (sdx, dictOf [⟨PyData.keyHash w.params "_deprecated_wildcard_use", .str "_deprecated_wildcard_use" k0, .bool dep⟩, ⟨PyData.keyHash w.params "start", .str "start" k1, v1⟩, ⟨PyData.keyHash w.params "end", .str "end" k2, v2⟩, ⟨PyData.keyHash w.params "step", .str "step" k3, v3⟩] 4),
        (lP, listOf vsP.toArray nnP), (lN, listOf vsN.toArray nnN), (L + 1 + 1 + 1, oP'), (L + 1 + 1, oN'), (L + 1, oS), (768, tabObj #[]), (630, tabObj ps)], @Ne Nat r.1 lE := fun r hr => by
        simp only [List.mem_cons, List.not_mem_nil, or_false] at hr
        obtain ⟨a0, a1, a2, a3, a4, a5, a6, a7, a8, a9⟩ := A5
        rcases hr with rfl | rfl | rfl | rfl | rfl | rfl | rfl | rfl | rfl | rfl <;> exact Ne.symm (by assumption)
      obtain ⟨vE, eE, rE⟩ : ∃ vE : List Value, hE.get? lE = some (listOf vE.toArray nn2) ∧ ∀ h : Heap, ∃ as, ReadsAll h vE (kqdPs ((List.range vsN.length).map fun i => updD (Str.ofString "new") nsN (plF o1 o2 o3 vsN.length) (i + 0))) as := ⟨_, eE, fun h => upd_reads hIN⟩
      obtain ⟨F8, N8⟩ := upd_frame F9 N9 hneE hkE eE
      clear F9 N9 hkE eE
      (try dsimp only); (try k_unmd); (try k_fold)
      k_steps
      (with_reducible rename News _ _ _ _ => N7)
      refine ne_same (xs := vC) (ys := vE) (ka := nn') (kb := nn2) (ds := (List.range vsN.length).map fun i => updD (Str.ofString "new") nsN (plF o1 o2 o3 vsN.length) (i + 0)) (N7 (lC, listOf _ nn') (by k_mem)).1 (N7 (lE, listOf _ nn2) (by k_mem)).1 (rC _) (rE _) (upd_ok (by decide +kernel) _) (hU _) ?_
      k_steps
      (with_reducible rename Fr _ _ _ _ => F9); (with_reducible rename News _ _ _ _ => N9)
      exact ⟨rfl, _, _, _, rfl, hgsE, F9, News.pick N9 ⟨by k_mem, by k_mem, by k_mem, by k_mem, by k_mem, by k_mem, by k_mem, by k_mem, by k_mem, trivial⟩⟩
  clear F0 N0 nC1 mch2
  rintro h9 tk9 gs9 hgs9 ⟨F0, N0⟩
  dsimp only
  refine seq_cut (fun h => ∃ f c fc fo fd fs oc p8, Fr G0 L h (fun y => if y = Str.ofString "odd" then some (Value.ref f) else m3 y) ∧ News G0 L h ((f, (⟨fc, fo, .func fd, fs⟩ : Obj)) :: (c, oc) :: [(sx, instObj 726 sdx), (sdx, dictOf [⟨PyData.keyHash w.params "_deprecated_wildcard_use", .str "_deprecated_wildcard_use" k0, .bool dep⟩, ⟨PyData.keyHash w.params "start", .str "start" k1, v1⟩, ⟨PyData.keyHash w.params "end", .str "end" k2, v2⟩, ⟨PyData.keyHash w.params "step", .str "step" k3, v3⟩] 4),
      (lP, listOf vsP.toArray nnP), (lN, listOf vsN.toArray nnN), (L + 1 + 1 + 1, oP'), (L + 1 + 1, oN'), (L + 1, oS), (768, tabObj p8), (630, tabObj ps)]) ∧
    OddAt w PR G0 vsN f c ⟨fc, fo, .func fd, fs⟩ oc ∧ (∀ xs n, oc.data ≠ .seq xs n)) ?c9 ?_
  case c9 =>
    (try k_unmd); (try k_fold)
    k_steps
    (with_reducible rename Fr _ _ _ _ => F9); (with_reducible rename News _ _ _ _ => N9)
    (with_reducible rename _ = Data.fields _ => d1)
    (with_reducible rename _ = some (Value.str _ _) => d2)
    refine ⟨rfl, _, _, _, rfl, hgs9, _, _, _, _, _, _, _, _, F9, N9, ?_, ?_⟩
    · clear F9 N9
      intro A' s' v R' hd' hh' hv U ef ec hR
      obtain ⟨x, t, rfl⟩ := ints_mem hIN v hv
      refine enterFn (objs := []) U TR Has.nil ef ⟨_, _, _, _, rfl, ec, d1, d2⟩ (depth_lt0 hd' (by decide)) (BindsTo.of_eq rfl) (by exact locs rfl) ?_ rfl rfl rfl (by decide)
      intro g' L' h1 hkeep hUp F' N' T' l3
      (try dsimp only); (try k_unmd); (try k_fold)
      k_steps
      (with_reducible rename Fr _ _ _ _ => F9); (with_reducible rename News _ _ _ _ => N9)
      exact hR _ _ (up_mix (g := G0) (old := []) (new := []) (fun _ _ e => e) Has.nil Has.nil hkeep F9 N9 trivial)
    · intro xs n e
      rw [d1] at e
      cases e
  clear F0 N0 cH1 codeHd
  rintro h10 tk10 gs10 hgs10 ⟨f, c, fc, fo, fd, fs, oc, p8, F0, N0, hodd, hoc⟩
  have mst3 : (fun y => if y = Str.ofString "odd" then some (Value.ref f) else m3 y) (Str.ofString "slice_") = some (Value.ref sx) := (if_neg (by decide +kernel)).trans mst2
  have mss3 : (fun y => if y = Str.ofString "odd" then some (Value.ref f) else m3 y) (Str.ofString "start") = some v1 := (if_neg (by decide +kernel)).trans mss2
  have mse3 : (fun y => if y = Str.ofString "odd" then some (Value.ref f) else m3 y) (Str.ofString "end") = some v2 := (if_neg (by decide +kernel)).trans mse2
  have msp3 : (fun y => if y = Str.ofString "odd" then some (Value.ref f) else m3 y) (Str.ofString "step") = some v3 := (if_neg (by decide +kernel)).trans msp2
  have mod3 : (fun y => if y = Str.ofString "odd" then some (Value.ref f) else m3 y) (Str.ofString "odd") = some (Value.ref f) := if_pos rfl
  generalize (fun y => if y = Str.ofString "odd" then some (Value.ref f) else m3 y) = m4 at F0 mst3 mss3 mse3 msp3 mod3
  clear mst2 mss2 mse2 msp2
  dsimp only
  refine seq_cut (fun h => ∃ lC nC, Fr G0 L h (fun y => if y = Str.ofString "left" then some (Value.ref lC) else m4 y) ∧ News G0 L h ((lC, listOf vsN.toArray nC) :: (f, (⟨fc, fo, .func fd, fs⟩ : Obj)) :: (c, oc) :: [(sx, instObj 726 sdx), (sdx, dictOf [⟨PyData.keyHash w.params "_deprecated_wildcard_use", .str "_deprecated_wildcard_use" k0, .bool dep⟩, ⟨PyData.keyHash w.params "start", .str "start" k1, v1⟩, ⟨PyData.keyHash w.params "end", .str "end" k2, v2⟩, ⟨PyData.keyHash w.params "step", .str "step" k3, v3⟩] 4),
      (lP, listOf vsP.toArray nnP), (lN, listOf vsN.toArray nnN), (L + 1 + 1 + 1, oP'), (L + 1 + 1, oN'), (L + 1, oS), (768, tabObj p8), (630, tabObj ps)]) ∧ NeAll lC ((f, (⟨fc, fo, .func fd, fs⟩ : Obj)) :: (c, oc) :: [(sx, instObj 726 sdx), (sdx, dictOf [⟨PyData.keyHash w.params "_deprecated_wildcard_use", .str "_deprecated_wildcard_use" k0, .bool dep⟩, ⟨PyData.keyHash w.params "start", .str "start" k1, v1⟩, ⟨PyData.keyHash w.params "end", .str "end" k2, v2⟩, ⟨PyData.keyHash w.params "step", .str "step" k3, v3⟩] 4),
      (lP, listOf vsP.toArray nnP), (lN, listOf vsN.toArray nnN), (L + 1 + 1 + 1, oP'), (L + 1 + 1, oN'), (L + 1, oS), (768, tabObj p8), (630, tabObj ps)])) ?c10 ?_
  case c10 =>
    (try k_unmd); (try k_fold)
    k_steps
    (with_reducible rename Fr _ _ _ _ => F9); (with_reducible rename News _ _ _ _ => N9)
    refine list_copy (h₁ := h10) (vs := vsN) (N9 (lN, listOf vsN.toArray nnN) (by k_mem)).1 (fun b o e => Heap.get?_push_of_some _ e) (Heap.IsSliceOf.new _ _ _ _) hl63 (fun D hx7 U7 n7 e7 => ?_) (by with_unfolding_all rfl)
    have H5 : Has h10 hx7 [(D, listOf vsN.toArray 0)] := Has.cons e7 n7 Has.nil
    have A5 := apart_news H5 N9
    have N5 := News.add F9 N9 U7 H5
    have F5 := Fr.keeps F9 U7
    simp only [List.cons_append, List.nil_append] at N5
    clear F9 N9 U7 H5
    (try k_unmd); (try k_fold)
    k_steps
    (with_reducible rename Fr _ _ _ _ => F9); (with_reducible rename News _ _ _ _ => N9)
    exact ⟨rfl, _, _, _, rfl, hgs10, D, 0, F9, N9, A5.1⟩
  clear F0 N0
  rintro h11 tk11 gs11 hgs11 ⟨lC, nC, F0, N0, nC1⟩
  have mst4 : (fun y => if y = Str.ofString "left" then some (Value.ref lC) else m4 y) (Str.ofString "slice_") = some (Value.ref sx) := (if_neg (by decide +kernel)).trans mst3
  have mch4 : (fun y => if y = Str.ofString "left" then some (Value.ref lC) else m4 y) (Str.ofString "left") = some (Value.ref lC) := if_pos rfl
  have mss4 : (fun y => if y = Str.ofString "left" then some (Value.ref lC) else m4 y) (Str.ofString "start") = some v1 := (if_neg (by decide +kernel)).trans mss3
  have mse4 : (fun y => if y = Str.ofString "left" then some (Value.ref lC) else m4 y) (Str.ofString "end") = some v2 := (if_neg (by decide +kernel)).trans mse3
  have msp4 : (fun y => if y = Str.ofString "left" then some (Value.ref lC) else m4 y) (Str.ofString "step") = some v3 := (if_neg (by decide +kernel)).trans msp3
  have mod4 : (fun y => if y = Str.ofString "left" then some (Value.ref lC) else m4 y) (Str.ofString "odd") = some (Value.ref f) := (if_neg (by decide +kernel)).trans mod3
  generalize (fun y => if y = Str.ofString "left" then some (Value.ref lC) else m4 y) = m5 at F0 mst4 mch4 mss4 mse4 msp4 mod4
  clear mst3 mss3 mse3 msp3 mod3
  dsimp only
  refine seq_cut (fun h => Fr G0 L h m5 ∧ News G0 L h ((f, (⟨fc, fo, .func fd, fs⟩ : Obj)) :: (c, oc) :: [(sx, instObj 726 sdx), (sdx, dictOf [⟨PyData.keyHash w.params "_deprecated_wildcard_use", .str "_deprecated_wildcard_use" k0, .bool dep⟩, ⟨PyData.keyHash w.params "start", .str "start" k1, v1⟩, ⟨PyData.keyHash w.params "end", .str "end" k2, v2⟩, ⟨PyData.keyHash w.params "step", .str "step" k3, v3⟩] 4),
      (lP, listOf vsP.toArray nnP), (lN, listOf vsN.toArray nnN), (L + 1 + 1 + 1, oP'), (L + 1 + 1, oN'), (L + 1, oS), (768, tabObj p8), (630, tabObj ps)])) ?c11 ?_
  case c11 =>
    simp only [NeAll, and_true] at nC1
    refine wpAny_If ?_
    (try k_unmd); (try k_fold)
    k_steps
    (with_reducible rename Fr _ _ _ _ => F9); (with_reducible rename News _ _ _ _ => N9)
    refine wpAny_call (slice_filter oddV (o1 := o1) (o2 := o2) (o3 := o3) (vs := vsN) (fun b o e => Fr.keep F9 b o e) X' TR (depth_le1 hdp (by decide)) hoc (by exact hh) hgs11 (by cases o3 <;> simp at b3 ⊢; omega) hl63 hvh p1 p2 p3 hodd (Has.of_news N9 (AllMem.sub ⟨by k_mem, by k_mem, by k_mem, by k_mem, by k_mem, trivial⟩)) (fun nn' h9 tk9 gs9 hk9 e9 hgs9' => ?_))
    rw [keepT_law hIN] at e9
    have hneC : ∀ r ∈ (f, (⟨fc, fo, .func fd, fs⟩ : Obj)) :: (c, oc) :: [(sx, instObj 726 sdx), (sdx, dictOf [⟨PyData.keyHash w.params "_deprecated_wildcard_use", .str "_deprecated_wildcard_use" k0, .bool dep⟩, ⟨PyData.keyHash w.params "start", .str "start" k1, v1⟩, ⟨PyData.keyHash w.params "end", .str "end" k2, v2⟩, ⟨PyData.keyHash w.params "step", .str "step" k3, v3⟩] 4),
      (lP, listOf vsP.toArray nnP), (lN, listOf vsN.toArray nnN), (L + 1 + 1 + 1, oP'), (L + 1 + 1, oN'), (L + 1, oS), (768, tabObj p8), (630, tabObj ps)], @Ne Nat r.1 lC := fun r hr => by
        simp only [List.mem_cons, List.not_mem_nil, or_false] at hr
        obtain ⟨a1, a2, a3, a4, a5, a6, a7, a8, a9, a10, a11⟩ := nC1
        rcases hr with rfl | rfl | rfl | rfl | rfl | rfl | rfl | rfl | rfl | rfl | rfl <;> exact Ne.symm (by assumption)
    obtain ⟨F8, N8⟩ := upd_frame F9 N9 hneC hk9 e9
    clear F9 N9 hk9 e9
    generalize hK : leftL nsN (plF o1 o2 o3 vsN.length) vsN.length = lk at N8
    have rC : ∀ h : Heap, ∃ as, ReadsAll h (lk.map (vsN.getD · .none)) (kqdPs ((lk.map (nsN.getD · 0)).map Dat.int)) as := fun h => hK ▸ left_reads hIN _
    (try dsimp only); (try k_unmd); (try k_fold)
    k_steps
    (with_reducible rename Fr _ _ _ _ => F9); (with_reducible rename News _ _ _ _ => N9)
    refine ListComp_made (cl := [("places", L + 1 + 1 + 1)]) (fun i => !(plF o1 o2 o3 vsN.length).contains i || (nsN.getD i 0).fmod 2 == 0) (fun i y objs => y = vsN.getD i .none ∧ objs = []) (fun jo => jo = []) [] (by rfl) (by decide) rfl (by decide) ?_
    (try k_unmd); (try k_fold)
    k_steps
    refine enum_iter (vs := vsN) (News.isList N9 (by k_mem)) (fun e it hI UI nI le li ll hei hle hli st => ?_)
    have F8 := Fr.keeps F9 UI
    have N8 := News.grown N9 UI
    refine CompOk.enum (jo := []) hh hl63 le li ll hei hle hli st ⟨List.not_mem_nil, List.not_mem_nil, List.not_mem_nil⟩ (fun z hz => nomatch hz) rfl (fun q hq => nomatch hq) (fun jo hj z hz => nomatch hz) hgs9' ?_ ?_ ?_ (fun C => rfl) (fun C => rfl) (fun C => rfl)
    · intro C i s₃ m₁ t₃ jo hC hi hn hk hJ hj
      subst hJ
      obtain ⟨F3, N3⟩ := elt_frame F8 N8 hn hC (fun b o e => nI b o (F9.keep b o e)) (fun q hq => nI _ _ (N9 q hq).1) hk
      obtain ⟨ti, et⟩ := ints_getD hIN i hi
      rw [et] at F3
      clear F8 N8 F9 N9 hk hj UI nI st
      (try k_unmd); (try k_fold)
      refine wpAny_tests_one ?_
      k_steps
      refine notIn_ints (N3 (lP, listOf vsP.toArray nnP) (by k_mem)).1 hIP (hU _) ?_
      k_steps
      all_goals first
        | (refine ⟨tst1 ?_ ?_, _, _, rfl, fun b o e => e⟩ <;> assumption)
        | (refine ⟨tst2 ?_ ?_, _, _, rfl, fun b o e => e⟩ <;> assumption)
        | (refine ⟨tst3 ?_, _, _, rfl, fun b o e => e⟩; assumption)
    · intro C i s₃ m₁ t₃ jo hC hi _ hn hk hJ hj hb
      subst hJ
      obtain ⟨F3, N3⟩ := elt_frame F8 N8 hn hC (fun b o e => nI b o (F9.keep b o e)) (fun q hq => nI _ _ (N9 q hq).1) hk
      have hvi := hvh i
      clear F8 N8 F9 N9 hk hj UI nI st
      (try k_unmd); (try k_fold)
      k_steps
      exact ⟨_, _, _, [], [], rfl, fun b o _ e => e, Has.nil, ⟨rfl, rfl⟩, rfl, (fun _ h => nomatch h), fun h => h⟩
    · intro D h' tk gs ys jo hD hl hF hJ hj hgs' hk
      obtain ⟨nD, hl⟩ := hl
      obtain ⟨yl⟩ := ys
      have ey : yl = lk.map (vsN.getD · .none) := hK ▸ paired_vals (f := fun i => vsN.getD i .none) (fun i y ⟨objs, ⟨e, _⟩, _⟩ => e) hF
      subst ey
      have UD2 := fun b o e => hk b o (nI b o e) List.not_mem_nil (UI b o e)
      have N4 := News.add F9 N9 UD2 (Has.cons hl (none_of UI hD) Has.nil)
      have F4 := Fr.keeps F9 UD2
      simp only [List.cons_append, List.nil_append] at N4
      clear F8 N8 F9 N9 hF hk UI nI UD2 st hl hj
      (try k_unmd); (try k_fold)
      k_steps
      (with_reducible rename News _ _ _ _ => N7)
      have okL : ∀ d ∈ (lk.map (nsN.getD · 0)).map Dat.int, kqdOk 8 d = true := kqdOk_ints 8 _
      refine ne_same (xs := lk.map (vsN.getD · .none)) (ys := lk.map (vsN.getD · .none)) (ka := nn') (kb := nD) (ds := (lk.map (nsN.getD · 0)).map Dat.int) (N7 (lC, listOf _ nn') (by k_mem)).1 (N7 (D, listOf _ nD) (by k_mem)).1 (rC _) (rC _) okL (hU _) ?_
      k_steps
      (with_reducible rename Fr _ _ _ _ => F9); (with_reducible rename News _ _ _ _ => N9)
      refine list_copy (h₁ := h') (vs := vsN) (N9 (lN, listOf vsN.toArray nnN) (by k_mem)).1 (fun b o e => Heap.get?_push_of_some _ e) (Heap.IsSliceOf.new _ _ _ _) hl63 (fun lE h7' U7 n7 e7 => ?_) (by with_unfolding_all rfl)
      have H5 : Has h' h7' [(lE, listOf vsN.toArray 0)] := Has.cons e7 n7 Has.nil
      have N9p := News.pick N9 (objs := (lC, listOf (lk.map (vsN.getD · .none)).toArray nn') :: (f, (⟨fc, fo, .func fd, fs⟩ : Obj)) :: (c, oc) :: [(sx, instObj 726 sdx), (sdx, dictOf [⟨PyData.keyHash w.params "_deprecated_wildcard_use", .str "_deprecated_wildcard_use" k0, .bool dep⟩, ⟨PyData.keyHash w.params "start", .str "start" k1, v1⟩, ⟨PyData.keyHash w.params "end", .str "end" k2, v2⟩, ⟨PyData.keyHash w.params "step", .str "step" k3, v3⟩] 4),
        (lP, listOf vsP.toArray nnP), (lN, listOf vsN.toArray nnN), (L + 1 + 1 + 1, oP'), (L + 1 + 1, oN'), (L + 1, oS), (768, tabObj p8), (630, tabObj ps)]) ⟨by k_mem, by k_mem, by k_mem, by k_mem, by k_mem, by k_mem, by k_mem, by k_mem, by k_mem, by k_mem, by k_mem, by k_mem, trivial⟩
      have A5 := apart_news H5 N9p
      simp only [ApartL, NeAll, and_true] at A5
      have N5 := News.add F9 N9p U7 H5
      have F5 := Fr.keeps F9 U7
      simp only [List.cons_append, List.nil_append] at N5
      clear F9 N9 N9p U7 H5
      (try k_unmd); (try k_fold)
      k_steps
      (with_reducible rename Fr _ _ _ _ => F9); (with_reducible rename News _ _ _ _ => N9)
      refine wpAny_call (slice_filter oddV (o1 := o1) (o2 := o2) (o3 := o3) (vs := vsN) (fun b o e => Fr.keep F9 b o e) X' TR (depth_le1 hdp (by decide)) hoc (by exact hh) hgs' (by cases o3 <;> simp at b3 ⊢; omega) hl63 hvh p1 p2 p3 hodd (Has.of_news N9 (AllMem.sub ⟨by k_mem, by k_mem, by k_mem, by k_mem, by k_mem, trivial⟩)) (fun nn2 hE tkE gsE hkE eE hgsE => ?_))
      rw [keepT_law hIN, hK] at eE
      have hneE : ∀ r ∈ (lC, listOf (lk.map (vsN.getD · .none)).toArray nn') :: (f, (⟨fc, fo, .func fd, fs⟩ : Obj)) :: (c, oc) :: [(sx, instObj 726 sdx), (sdx, dictOf [⟨PyData.keyHash w.params "_deprecated_wildcard_use", .str "_deprecated_wildcard_use" k0, .bool dep⟩, ⟨PyData.keyHash w.params "start", .str "start" k1, v1⟩, ⟨PyData.keyHash w.params "end", .str "end" k2, v2⟩, ⟨PyData.keyHash w.params "step", .str "step" k3, v3⟩] 4),
        (lP, listOf vsP.toArray nnP), (lN, listOf vsN.toArray nnN), (L + 1 + 1 + 1, oP'), (L + 1 + 1, oN'), (L + 1, oS), (768, tabObj p8), (630, tabObj ps)], @Ne Nat r.1 lE := fun r hr => by
        simp only [List.mem_cons, List.not_mem_nil, or_false] at hr
        obtain ⟨a0, a1, a2, a3, a4, a5, a6, a7, a8, a9, a10, a11⟩ := A5
        rcases hr with rfl | rfl | rfl | rfl | rfl | rfl | rfl | rfl | rfl | rfl | rfl | rfl <;> exact Ne.symm (by assumption)
      obtain ⟨F8, N8⟩ := upd_frame F9 N9 hneE hkE eE
      clear F9 N9 hkE eE
      (try dsimp only); (try k_unmd); (try k_fold)
      k_steps
      (with_reducible rename News _ _ _ _ => N7)
      refine ne_same (xs := lk.map (vsN.getD · .none)) (ys := lk.map (vsN.getD · .none)) (ka := nn') (kb := nn2) (ds := (lk.map (nsN.getD · 0)).map Dat.int) (N7 (lC, listOf _ nn') (by k_mem)).1 (N7 (lE, listOf _ nn2) (by k_mem)).1 (rC _) (rC _) okL (hU _) ?_
      k_steps
      (with_reducible rename Fr _ _ _ _ => F9); (with_reducible rename News _ _ _ _ => N9)
      exact ⟨rfl, _, _, _, rfl, hgsE, F9, News.pick N9 ⟨by k_mem, by k_mem, by k_mem, by k_mem, by k_mem, by k_mem, by k_mem, by k_mem, by k_mem, by k_mem, by k_mem, trivial⟩⟩
  clear F0 N0 mch4 mod4 hodd hoc nC1
  rintro h12 tk12 gs12 hgs12 ⟨F0, N0⟩
  dsimp only
  refine seq_cut (fun h => ∃ lR nR r1 r2 r3, Fr G0 L h (fun y => if y = Str.ofString "parts" then some (Value.ref lR) else m5 y) ∧ News G0 L h ((lR, listOf [Value.str (partT o1) r1, Value.str (partT o2) r2, Value.str (partT o3) r3].toArray nR) :: [(sx, instObj 726 sdx), (sdx, dictOf [⟨PyData.keyHash w.params "_deprecated_wildcard_use", .str "_deprecated_wildcard_use" k0, .bool dep⟩, ⟨PyData.keyHash w.params "start", .str "start" k1, v1⟩, ⟨PyData.keyHash w.params "end", .str "end" k2, v2⟩, ⟨PyData.keyHash w.params "step", .str "step" k3, v3⟩] 4),
      (768, tabObj p8), (630, tabObj ps)])) ?c12 ?_
  case c12 =>
    (try k_unmd); (try k_fold)
    refine Assign_made (cl := []) (fun _ => true) (fun i y objs => (∃ t, y = Value.str (partT (if i = 0 then o1 else if i = 1 then o2 else o3)) t) ∧ objs = []) (fun jo => jo = []) [] (by with_unfolding_all rfl) (by rfl) (by rfl) (by rfl) (by decide) rfl (by decide) ?_
    (try k_unmd); (try k_fold)
    k_steps
    walk1
    (with_reducible rename Fr _ _ _ _ => F9); (with_reducible rename News _ _ _ _ => N9)
    refine tup_iter (vs := [v1, v2, v3]) ⟨_, (N9 (_, tupObj [v1, v2, v3]) (.head _)).1, rfl, _, rfl⟩ (fun I hI UI nI lI ll hlI st => ?_)
    have F8 := Fr.keeps F9 UI
    have N8 := News.grown N9 UI
    refine tup_pack (jo := []) F8.ns (fun h => by obtain ⟨oL, _, _, eL, _⟩ := id F9.ns; exact nI _ _ eL h) List.not_mem_nil (CompOk.tup (jo := []) hh (Nat.le_of_ble_eq_true rfl) lI ll hlI st ⟨List.not_mem_nil, List.not_mem_nil⟩ (fun z hz => nomatch hz) rfl (fun q hq => nomatch hq) (fun jo hj z hz => nomatch hz) hgs12 (fun C i s₃ m₁ jo hC hi hn hk hJ hj => tests_nil) ?_ ?_ (fun C => rfl) (fun C => rfl))
    · intro C i s₃ m₁ jo hC hi _ hn hk hJ hj hb
      subst hJ
      obtain ⟨F3, N3⟩ := elt_frame F8 N8 hn hC (fun b o e q => nI b o (F9.keep b o e) (List.mem_singleton.mp q)) (fun q hq e => nI _ _ (N9 q hq).1 (List.mem_singleton.mp e)) hk
      have hv : ∃ v o, IsPart v o ∧ (o.getD 0).natAbs ≤ 10 ∧ ([v1, v2, v3] : List Value).getD i .none = v ∧ (if i = 0 then o1 else if i = 1 then o2 else o3) = o := by
        rcases i with _ | _ | _ | i
        · exact ⟨v1, o1, p1, b1, rfl, rfl⟩
        · exact ⟨v2, o2, p2, b2, rfl, rfl⟩
        · exact ⟨v3, o3, p3, b3, rfl, rfl⟩
        · exact absurd hi (by simp)
      obtain ⟨v, o, pv, bv, ev, eo⟩ := hv
      rw [ev] at F3
      rw [eo]
      clear F8 N8 F9 N9 hk hj UI nI st ev eo p1 p2 p3 b1 b2 b3
      rcases part_text pv with ⟨rfl, rfl⟩ | ⟨i9, t9, rfl, rfl⟩
      · clear pv
        (try k_unmd); (try k_fold)
        k_steps
        exact ⟨_, _, _, [], [], rfl, fun b o _ e => e, Has.nil, ⟨⟨_, rfl⟩, rfl⟩, rfl, (fun _ h => nomatch h), fun h => h⟩
      · clear pv
        rw [Option.getD_some] at bv
        have hL9 := len_str_of_int i9
        (try k_unmd); (try k_fold)
        k_steps
        exact ⟨_, _, _, [], [], rfl, fun b o _ e => e, Has.nil, ⟨⟨_, rfl⟩, rfl⟩, rfl, (fun _ h => nomatch h), fun h => h⟩
    · intro D h' tk gs ys jo hD hl hF hJ hj hgs' hk
      obtain ⟨nD, hl⟩ := hl
      obtain ⟨yl⟩ := ys
      have hF2 : Paired _ [0, 1, 2] yl := hF
      obtain ⟨z0, z1, z2, rfl, ⟨_, ⟨⟨w0, rfl⟩, _⟩, _⟩, ⟨_, ⟨⟨w1, rfl⟩, _⟩, _⟩, ⟨_, ⟨⟨w2, rfl⟩, _⟩, _⟩⟩ := paired_three hF2
      replace hl : h'.get? D = some (listOf [Value.str (partT o1) w0, Value.str (partT o2) w1, Value.str (partT o3) w2].toArray nD) := hl
      have UD2 := fun b o e => hk b o (fun q => nI b o e (List.mem_singleton.mp q)) List.not_mem_nil (UI b o e)
      have N4 := News.add F9 N9 UD2 (Has.cons hl (none_of UI hD) Has.nil)
      have F4 := Fr.keeps F9 UD2
      simp only [List.cons_append, List.nil_append] at N4
      intro C h3 tk3 hC hDC hk3 hn3
      have hDC' : D ≠ C := fun e => hDC (by rw [e])
      have hL4 := F4.ns.lt
      have FF : Fr G0 L h3 (fun y => if y = Str.ofString "parts" then some (Value.ref D) else m5 y) := ⟨hn3, fun b o e => hk3 b o (fun q => by
        have := Heap.lt_size e
        rw [q] at this
        exact absurd this (Nat.not_lt.mpr F4.above)) (fun q => by
        have h1 := Heap.lt_size (UI _ _ (F9.keep b o e))
        rw [q] at h1
        exact absurd h1 (Nat.not_lt.mpr hC)) (F4.keep b o e), F4.above⟩
      have N5 : News G0 L h3 _ := fun q hq => ⟨hk3 q.1 _ (N4 q hq).2.1 (by
        rcases List.mem_cons.mp hq with rfl | hq'
        · exact hDC'
        · intro e
          have h1 := Heap.lt_size (UI _ _ (N9 q hq').1)
          rw [e] at h1
          exact absurd h1 (Nat.not_lt.mpr hC)) (N4 q hq).1, (N4 q hq).2⟩
      exact ⟨rfl, _, _, _, rfl, hgs', D, nD, w0, w1, w2, FF, News.pick N5 ⟨by k_mem, by k_mem, by k_mem, by k_mem, by k_mem, trivial⟩⟩
  clear F0 N0 
  rintro h13 tk13 gs13 hgs13 ⟨lR, nR, r1, r2, r3, F0, N0⟩
  have mst5 : (fun y => if y = Str.ofString "parts" then some (Value.ref lR) else m5 y) (Str.ofString "slice_") = some (Value.ref sx) := (if_neg (by decide +kernel)).trans mst4
  have mpa5 : (fun y => if y = Str.ofString "parts" then some (Value.ref lR) else m5 y) (Str.ofString "parts") = some (Value.ref lR) := if_pos rfl
  have msp5 : (fun y => if y = Str.ofString "parts" then some (Value.ref lR) else m5 y) (Str.ofString "step") = some v3 := (if_neg (by decide +kernel)).trans msp4
  generalize (fun y => if y = Str.ofString "parts" then some (Value.ref lR) else m5 y) = m6 at F0 mst5 mpa5 msp5
  clear mst4 mss4 mse4 msp4
  dsimp only
  refine seq_cut (fun h => ∃ tt, Fr G0 L h (fun y => if y = Str.ofString "text" then some (Value.str (sliceText o1 o2 o3) tt) else m6 y) ∧ News G0 L h [(sx, instObj 726 sdx), (sdx, dictOf [⟨PyData.keyHash w.params "_deprecated_wildcard_use", .str "_deprecated_wildcard_use" k0, .bool dep⟩, ⟨PyData.keyHash w.params "start", .str "start" k1, v1⟩, ⟨PyData.keyHash w.params "end", .str "end" k2, v2⟩, ⟨PyData.keyHash w.params "step", .str "step" k3, v3⟩] 4),
      (768, tabObj p8), (630, tabObj ps)]) ?c13 ?_
  case c13 =>
    (try k_unmd); (try k_fold)
    k_steps
    (with_reducible rename Fr _ _ _ _ => F9); (with_reducible rename News _ _ _ _ => N9)
    refine list_slice (h₁ := h13) (vs := [Value.str (partT o1) r1, Value.str (partT o2) r2, Value.str (partT o3) r3]) (o1 := none) (o2 := some 2) (o3 := none) (N9 (lR, listOf _ nR) (by k_mem)).1 (fun b o e => Heap.get?_push_of_some _ e) (Heap.IsSliceOf.new _ _ _ _) .none (.int 2 _) .none (by decide) (Nat.le_of_ble_eq_true rfl) (fun D h7 U7 n7 e7 => ?_) (by with_unfolding_all rfl)
    rw [pick_two] at e7
    have N5 := News.add F9 N9 U7 (Has.cons e7 n7 Has.nil)
    have F5 := Fr.keeps F9 U7
    simp only [List.cons_append, List.nil_append] at N5
    clear F9 N9 U7 e7 n7
    have hL1 := part_len b1
    have hL2 := part_len b2
    have hL3 := part_len b3
    clear b1 b2 b3 u1 u2 u3 u4 u5 u6 nN
    rcases part_text p3 with ⟨rfl, rfl⟩ | ⟨i9, t9, rfl, rfl⟩
    · (try k_unmd); (try k_fold)
      k_steps
      (with_reducible rename Fr _ _ _ _ => F9); (with_reducible rename News _ _ _ _ => N9)
      rw [law_text2] at F9
      exact ⟨rfl, _, _, _, rfl, hgs13, _, F9, News.pick N9 ⟨by k_mem, by k_mem, by k_mem, by k_mem, trivial⟩⟩
    · (try k_unmd); (try k_fold)
      k_steps
      (with_reducible rename Fr _ _ _ _ => F9); (with_reducible rename News _ _ _ _ => N9)
      rw [law_text3] at F9
      exact ⟨rfl, _, _, _, rfl, hgs13, _, F9, News.pick N9 ⟨by k_mem, by k_mem, by k_mem, by k_mem, trivial⟩⟩
  clear F0 N0 mpa5 msp5
  rintro h14 tk14 gs14 hgs14 ⟨tt, F0, N0⟩
  have mst6 : (fun y => if y = Str.ofString "text" then some (Value.str (sliceText o1 o2 o3) tt) else m6 y) (Str.ofString "slice_") = some (Value.ref sx) := (if_neg (by decide +kernel)).trans mst5
  have mtx6 : (fun y => if y = Str.ofString "text" then some (Value.str (sliceText o1 o2 o3) tt) else m6 y) (Str.ofString "text") = some (Value.str (sliceText o1 o2 o3) tt) := if_pos rfl
  generalize (fun y => if y = Str.ofString "text" then some (Value.str (sliceText o1 o2 o3) tt) else m6 y) = m7 at F0 mst6 mtx6
  clear mst5
  dsimp only
  (try k_unmd); (try k_fold)
  k_steps
  (with_reducible rename Fr _ _ _ _ => F9); (with_reducible rename News _ _ _ _ => N9)
  refine kso_call (C := 726) (f := 709) (K := Mine.hd.heap_39 w.params) (Nat.le_of_ble_eq_true rfl) (X'.keeps F9.keep) (InstAt.of_news N9 (h1 := (by k_mem : (sx, instObj 726 sdx) ∈ _)) (by k_mem)) (by k_is) (by k_is) ?_
  refine wpAny_call (slice_str (fun b o e => Fr.keep F9 b o e) X' TR (by (simp only [depth_in1, depth_deeper, depth_caller]; first | done | decide)) (by exact hh) p1 p2 p3 (by omega) (by omega) (by omega) (Has.of_news N9 (AllMem.sub ⟨by k_mem, by k_mem, trivial⟩)) (fun t9 h9 tk9 U9 => ?_))
  have F2 := Fr.keeps F9 U9
  have N2 := News.grown N9 U9
  clear F9 N9
  unfold StrBack
  (try dsimp only); (try k_unmd); (try k_fold)
  k_steps
  have e9 : (sliceText o1 o2 o3 == sliceText o1 o2 o3) = true := by first | exact beq_self_eq_true _ | simp
  exact ⟨congrArg (fun b => Flow.ret (Value.bool b)) e9, h9, tk9, gs14, m7, p8, ps, rfl, hgs14, F2, (N2 (768, tabObj p8) (by k_mem)).1, (N2 (630, tabObj ps) (by k_mem)).1⟩
end
end
end Mine
theorem PySem.Challenge.cw_bm0006_01_holds : PySem.Challenge.rw_bm0006_01.Holds := by
  exact Mine.law_walk
