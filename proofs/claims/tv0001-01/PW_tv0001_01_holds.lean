import PyProof.Rows.All
import Wide.All
import OpenK.AllK
import Wide.FinOn
import PySem.Challenge.RW_tv0001_01
open PySem PySem.W PyProof.Rows
set_option Elab.async false
set_option maxRecDepth 100000

namespace Mine
set_option maxHeartbeats 8000000 in
open_top hd for PySem.Challenge.rw_tv0001_01
end Mine

local macro_rules | `(tactic| ktn_open) => `(tactic| first | assumption | exact if_pos rfl | (refine (if_neg (by decide)).trans ?_; ktn_open) | rfl)

namespace Mine
section
open PySem PySem.W PyProof.Rows PySem.Calls
noncomputable abbrev KK : Params → Frag := hd.heap_39

def frs (l : List Env) : List Addr := l.filterMap (·.frame)

/-- the frames' objects, up to slots -/
def Sl (l : List Addr) (h h' : Heap) : Prop := ∀ b ∈ l, ∀ o, h.get? b = some o → ∃ sl, h'.get? b = some { o with slots := sl }

theorem Sl.refl (l : List Addr) (h : Heap) : Sl l h h := fun _ _ o e => ⟨o.slots, e⟩
theorem Sl.trans {l : List Addr} {h₁ h₂ h₃ : Heap} (x : Sl l h₁ h₂) (y : Sl l h₂ h₃) : Sl l h₁ h₃ := fun b hb o e =>
  let ⟨_, e₁⟩ := x b hb o e; let ⟨sl, e₂⟩ := y b hb _ e₁; ⟨sl, e₂⟩
theorem Sl.mono {l l' : List Addr} {h h' : Heap} (x : Sl l h h') (k : ∀ b ∈ l', b ∈ l) : Sl l' h h' := fun b hb o e => x b (k b hb) o e
theorem Sl.ns {l : List Addr} {h h' : Heap} {a : Addr} {m : Str → Option Value} (x : Sl l h h') (ha : a ∈ l) (hn : h.Ns a m) : h'.Ns a m := by
  obtain ⟨o, es, ep, ho, hd, r⟩ := hn
  obtain ⟨sl, hs⟩ := x a ha o ho
  exact ⟨_, es, ep, hs, hd, r⟩

structure Gr (w : World) (g : Heap) : Prop where
  X : (KK w.params).In g
  lim : g.NoLimit
  b : ∃ mb, g.Ns builtinsNs mb ∧ ∀ x : Str, x ≠ "__name__" → mb x = bootBuiltins x

theorem Gr.keeps {w : World} {g g' : Heap} (x : Gr w g) (k : g.StaysIn g') : Gr w g' :=
  ⟨x.X.keeps k, x.lim.keeps k, let ⟨mb, h1, h2⟩ := x.b; ⟨mb, h1.keeps k, h2⟩⟩

structure Fx (w : World) (g hE : Heap) (env : Env) (outer : List Env) (m : Str → Option Value) (news : List (Addr × Obj)) (h : Heap) : Prop where
  gr : Gr w g
  fo : hE.FunFrames g outer
  sl : Sl (frs outer) hE h
  hf : env.frame = some env.locals
  hk : env.scope.kind = .function
  hg : env.globals = mainGlobals
  hb : env.builtins = builtinsNs
  ns : h.Ns env.locals m
  keep : g.StaysIn h
  out : g.get? env.locals = none
  nod : env.locals ∉ frs outer
  N : News g env.locals h news
  dis : ∀ b ∈ frs outer, ∀ p ∈ news, p.1 ≠ b
  dj : (news.map (·.1)).Nodup

theorem stays_refl (h : Heap) : h.StaysIn h := fun _ _ e => e
theorem stays_trans {a b c : Heap} (x : a.StaysIn b) (y : b.StaysIn c) : a.StaysIn c := fun p o e => y p o (x p o e)

section
variable {w : World} {g hE h h' : Heap} {env : Env} {outer : List Env} {m m' : Str → Option Value} {news news' : List (Addr × Obj)}

theorem Fx.frameIn (X : Fx w g hE env outer m news h) {b : Addr} (hb : b ∈ frs outer) : ∃ o, h.get? b = some o := by
  obtain ⟨_, o, ho, _⟩ := X.fo.mem hb
  obtain ⟨sl, hs⟩ := X.sl b hb o ho
  exact ⟨_, hs⟩
theorem Fx.frameOut (X : Fx w g hE env outer m news h) {b : Addr} (hb : b ∈ frs outer) : g.get? b = none := (X.fo.mem hb).1

theorem Fx.to (X : Fx w g hE env outer m news h) (ns' : h'.Ns env.locals m')
    (k : ∀ b o, b ≠ env.locals → (∀ p ∈ news, p.1 ≠ b) → h.get? b = some o → h'.get? b = some o)
    (N' : News g env.locals h' news') (hsub : ∀ p ∈ news', (∃ q ∈ news, q.1 = p.1) ∨ h.get? p.1 = none) (dj' : (news'.map (·.1)).Nodup) :
    Fx w g hE env outer m' news' h' where
  gr := X.gr
  fo := X.fo
  sl := fun b hb o e => by
    obtain ⟨sl, hs⟩ := X.sl b hb o e
    exact ⟨sl, k b _ (fun q => X.nod (q ▸ hb)) (X.dis b hb) hs⟩
  hf := X.hf
  hk := X.hk
  hg := X.hg
  hb := X.hb
  ns := ns'
  keep := fun b o e => k b o (fun q => by rw [q, X.out] at e; cases e) (fun p hp q => by have := (X.N p hp).2.2; rw [q, e] at this; cases this) (X.keep b o e)
  out := X.out
  nod := X.nod
  N := N'
  dis := fun b hb p hp q => by
    rcases hsub p hp with ⟨r, hr, e⟩ | e
    · exact X.dis b hb r hr (e.trans q)
    · obtain ⟨o, ho⟩ := X.frameIn hb
      rw [q, ho] at e; cases e
  dj := dj'

theorem Fx.sub (X : Fx w g hE env outer m news h) (k : ∀ p ∈ news', p ∈ news) (dj' : (news'.map (·.1)).Nodup) : Fx w g hE env outer m news' h :=
  X.to X.ns (fun _ _ _ _ e => e) (fun p hp => X.N p (k p hp)) (fun p hp => .inl ⟨p, k p hp, rfl⟩) dj'

theorem Fx.tail {x : Addr × Obj} (X : Fx w g hE env outer m (x :: news) h) : Fx w g hE env outer m news h :=
  X.sub (fun _ hp => .tail _ hp) (by have := X.dj; simp only [List.map_cons, List.nodup_cons] at this; exact this.2)
theorem Fx.perm (X : Fx w g hE env outer m news h) (p : news'.Perm news) : Fx w g hE env outer m news' h :=
  X.sub (fun _ hp => p.subset hp) ((p.map _).nodup_iff.mpr X.dj)
theorem Fx.sw {x y : Addr × Obj} (X : Fx w g hE env outer m (x :: y :: news) h) : Fx w g hE env outer m (y :: x :: news) h := X.perm (.swap ..)
/-- the third to the front -/
theorem Fx.r3 {x y z : Addr × Obj} (X : Fx w g hE env outer m (x :: y :: z :: news) h) : Fx w g hE env outer m (z :: x :: y :: news) h :=
  X.perm ((List.Perm.swap x z _).trans ((List.Perm.swap y z _).cons x))
/-- the front to the third place -/
theorem Fx.l3 {x y z : Addr × Obj} (X : Fx w g hE env outer m (z :: x :: y :: news) h) : Fx w g hE env outer m (x :: y :: z :: news) h :=
  X.perm (((List.Perm.swap z y _).cons x).trans (List.Perm.swap z x _))

theorem Fx.get {a : Addr} {o : Obj} (X : Fx w g hE env outer m news h) (hm : (a, o) ∈ news) : h.get? a = some o := (X.N _ hm).1
theorem Fx.get0 {a : Addr} {o : Obj} (X : Fx w g hE env outer m ((a, o) :: news) h) : h.get? a = some o := X.get (.head _)

theorem Fx.push (X : Fx w g hE env outer m news h) (o : Obj) (hfree : o.isFreed = false := by rfl) : Fx w g hE env outer m ((h.objs.size, o) :: news) (h.push o) := by
  have hs : ∀ b x, h.get? b = some x → (h.push o).get? b = some x := fun b x e => Heap.get?_push_of_some _ e
  refine X.to (X.ns.push o) (fun b x _ _ e => hs b x e) (fun p hp => ?_) (fun p hp => ?_) ?_
  · rcases List.mem_cons.mp hp with rfl | hp
    · exact ⟨Heap.get?_push_size _ hfree, Nat.ne_of_gt X.ns.lt, X.keep.fresh⟩
    · exact ⟨hs _ _ (X.N p hp).1, (X.N p hp).2⟩
  · rcases List.mem_cons.mp hp with rfl | hp
    · exact .inr (Heap.get?_none_of_le (Nat.le_refl _))
    · exact .inl ⟨p, hp, rfl⟩
  · simp only [List.map_cons, List.nodup_cons]
    refine ⟨fun hm => ?_, X.dj⟩
    obtain ⟨q, hq, e⟩ := List.mem_map.mp hm
    exact Nat.lt_irrefl _ (e ▸ Heap.lt_size (X.N q hq).1)

theorem Fx.upd {a : Addr} {o o' : Obj} (X : Fx w g hE env outer m ((a, o) :: news) h) (ha : h'.get? a = some o') (hs : Heap.SameBut a h h') : Fx w g hE env outer m ((a, o') :: news) h' := by
  have dj := X.dj
  simp only [List.map_cons, List.nodup_cons] at dj
  have h0 := X.N (a, o) (.head _)
  refine X.to (X.ns.sameBut hs (Ne.symm h0.2.1)) (fun b x _ hb e => (hs.2 b fun q => hb (a, o) (.head _) q.symm).trans e) (fun p hp => ?_) (fun p hp => ?_) X.dj
  · rcases List.mem_cons.mp hp with rfl | hp
    · exact ⟨ha, h0.2⟩
    · have hp' := X.N p (.tail _ hp)
      exact ⟨(hs.2 _ fun q => dj.1 (q ▸ List.mem_map_of_mem hp)).trans hp'.1, hp'.2⟩
  · rcases List.mem_cons.mp hp with rfl | hp
    · exact .inl ⟨(a, o), .head _, rfl⟩
    · exact .inl ⟨p, .tail _ hp, rfl⟩

theorem Fx.set {m' : Str → Option Value} (X : Fx w g hE env outer m news h) (hn : h'.Ns env.locals m') (hs : Heap.SameBut env.locals h h') : Fx w g hE env outer m' news h' :=
  X.to hn (fun b _ hb _ e => (hs.2 b hb).trans e) (fun p hp => ⟨(hs.2 _ (X.N p hp).2.1).trans (X.N p hp).1, (X.N p hp).2⟩) (fun p hp => .inl ⟨p, hp, rfl⟩) X.dj

/-- all but the frames and what stands open becomes ground -/
theorem Fx.fz (X : Fx w g hE env outer m news h) : ∃ g', g.StaysIn g' ∧ Fx w g' hE env outer m news h ∧
    ∀ b o, h.get? b = some o → b ≠ env.locals → b ∉ frs outer → (∀ p ∈ news, p.1 ≠ b) → g'.get? b = some o := by
  let S := env.locals :: (frs outer ++ news.map (·.1))
  have st : g.StaysIn (hideAll h S) := fun b o e => hideAll_get _ (X.keep b o e) fun hm => by
    rcases List.mem_cons.mp hm with rfl | hm
    · rw [X.out] at e; cases e
    · rcases List.mem_append.mp hm with hm | hm
      · rw [X.frameOut hm] at e; cases e
      · obtain ⟨p, hp, rfl⟩ := List.mem_map.mp hm
        rw [(X.N p hp).2.2] at e; cases e
  have fo' : ∀ l : List Env, (∀ b ∈ frs l, b ∈ frs outer) → hE.FunFrames g l → hE.FunFrames (hideAll h S) l := by
    intro l
    induction l with
    | nil => intro _ _; trivial
    | cons e r ih =>
      rintro hsub ⟨hk, ⟨L, o, hf, _, ho, hd⟩, hr⟩
      have hL : L ∈ frs (e :: r) := List.mem_filterMap.mpr ⟨e, .head _, hf⟩
      refine ⟨hk, ⟨L, o, hf, hideAll_none _ (.tail _ (List.mem_append_left _ (hsub L hL))), ho, hd⟩, ih (fun b hb => hsub b ?_) hr⟩
      obtain ⟨x, hx, hxf⟩ := List.mem_filterMap.mp hb
      exact List.mem_filterMap.mpr ⟨x, .tail _ hx, hxf⟩
  refine ⟨hideAll h S, st, ?_, fun b o e h1 h2 h3 => hideAll_get _ e fun hm => ?_⟩
  · exact {
      gr := X.gr.keeps st
      fo := fo' outer (fun _ hb => hb) X.fo
      sl := X.sl
      hf := X.hf
      hk := X.hk
      hg := X.hg
      hb := X.hb
      ns := X.ns
      keep := fun b o e => of_hideAll _ e
      out := hideAll_none _ (.head _)
      nod := X.nod
      N := fun p hp => ⟨(X.N p hp).1, (X.N p hp).2.1, hideAll_none _ (.tail _ (List.mem_append_right _ (List.mem_map_of_mem hp)))⟩
      dis := X.dis
      dj := X.dj }
  · rcases List.mem_cons.mp hm with rfl | hm
    · exact h1 rfl
    · rcases List.mem_append.mp hm with hm | hm
      · exact h2 hm
      · obtain ⟨p, hp, rfl⟩ := List.mem_map.mp hm
        exact h3 p hp rfl

/-- the front object becomes ground -/
theorem Fx.fz0 {a : Addr} {o : Obj} (X : Fx w g hE env outer m ((a, o) :: news) h) : ∃ g', g.StaysIn g' ∧ Fx w g' hE env outer m news h ∧ g'.get? a = some o := by
  obtain ⟨g', st, X', k⟩ := X.tail.fz
  refine ⟨g', st, X', k a o X.get0 (X.N _ (.head _)).2.1 (fun hm => X.dis a hm _ (.head _) rfl) fun p hp q => ?_⟩
  have dj := X.dj
  simp only [List.map_cons, List.nodup_cons] at dj
  exact dj.1 (q ▸ List.mem_map_of_mem hp)

theorem Fx.ret {env' : Env} {g' h'' : Heap} {m' : Str → Option Value} {news'' : List (Addr × Obj)} (X : Fx w g hE env outer m news h) (X' : Fx w g' h env' (env :: outer) m' news' h'')
    (k : ∀ p ∈ news'', p ∈ news') (dj' : (news''.map (·.1)).Nodup) : Fx w g' hE env outer m news'' h'' := by
  have hL : env.locals ∈ frs (env :: outer) := List.mem_filterMap.mpr ⟨env, .head _, X.hf⟩
  have hO : ∀ b ∈ frs outer, b ∈ frs (env :: outer) := fun b hb => by
    obtain ⟨x, hx, hxf⟩ := List.mem_filterMap.mp hb
    exact List.mem_filterMap.mpr ⟨x, .tail _ hx, hxf⟩
  have fo' : ∀ l : List Env, (∀ b ∈ frs l, b ∈ frs (env :: outer)) → hE.FunFrames g l → hE.FunFrames g' l := by
    intro l
    induction l with
    | nil => intro _ _; trivial
    | cons e r ih =>
      rintro hsub ⟨hk, ⟨L, o, hf, _, ho, hd⟩, hr⟩
      have hL : L ∈ frs (e :: r) := List.mem_filterMap.mpr ⟨e, .head _, hf⟩
      refine ⟨hk, ⟨L, o, hf, (X'.fo.mem (hsub L hL)).1, ho, hd⟩, ih (fun b hb => hsub b ?_) hr⟩
      obtain ⟨x, hx, hxf⟩ := List.mem_filterMap.mp hb
      exact List.mem_filterMap.mpr ⟨x, .tail _ hx, hxf⟩
  exact {
    gr := X'.gr
    fo := fo' outer hO X.fo
    sl := X.sl.trans (X'.sl.mono hO)
    hf := X.hf
    hk := X.hk
    hg := X.hg
    hb := X.hb
    ns := X'.sl.ns hL X.ns
    keep := X'.keep
    out := X'.frameOut hL
    nod := X.nod
    N := fun p hp => ⟨(X'.N p (k p hp)).1, X'.dis _ hL p (k p hp), (X'.N p (k p hp)).2.2⟩
    dis := fun b hb p hp => X'.dis b (hO b hb) p (k p hp)
    dj := dj' }
end

section
variable {prog : Program} {w : World} {A : Around} {E : Value → Shared → Prop} {s : Shared} {g hE : Heap} {env : Env} {outer : List Env} {m : Str → Option Value} {news : List (Addr × Obj)}

theorem fx_ldn {x : Str} {v : Value} {Q : Value → Shared → Prop} (X : Fx w g hE env outer m news s.heap) (hv : m x = some v) (h : Q v s) (hl : env.kindOf x = some .local := by rfl) :
    wpAny (model prog w) A (loadName env x) Q E s := wpAny_loadName_local X.hk hl X.ns hv h
theorem fx_ld {x : Str} {pos : Pos} {v : Value} {Q : Value → Shared → Prop} (X : Fx w g hE env outer m news s.heap) (hv : m x = some v) (h : Q v s) (hl : env.kindOf x = some .local := by rfl) (hd : (x == ("__debug__" : Str)) = false := by decide) :
    wpAny (model prog w) A (eval (.Name x pos) env) Q E s := wpAny_Name (fx_ldn X hv h hl) hd
theorem fx_st {x : Str} {v : Value} {Q : Unit → Shared → Prop} (X : Fx w g hE env outer m news s.heap)
    (h : ∀ h', Fx w g hE env outer (fun y => if y = x then some v else m y) news h' → Q () { s with heap := h', toks := s.toks + 1 }) (hl : env.kindOf x = some .local := by rfl) :
    wpAny (model prog w) A (storeName env x v) Q E s :=
  wpAny_storeName_local hl X.ns (fun h' hn hs => h h' (X.set hn hs)) (by rw [X.hk]; rfl)

noncomputable def mgK (P : Params) : Str → Option Value := fun x => match (KK P).lookup mainGlobals with
  | some ⟨_, _, .dict es _, _⟩ => nsFind es x
  | _ => none
theorem main_ns {w : World} {g : Heap} (G : Gr w g) : g.Ns mainGlobals (mgK w.params) := by
  refine ⟨_, _, _, G.X mainGlobals _ rfl, rfl, ?_, fun _ => rfl⟩
  intro e he
  simp only [List.mem_toArray, List.mem_cons, List.not_mem_nil, or_false] at he
  rcases he with rfl | rfl | rfl | rfl | rfl | rfl | rfl | rfl | rfl | rfl | rfl | rfl | rfl | rfl | rfl | rfl | rfl <;> exact ⟨_, _, rfl⟩

theorem fx_gl {x : Str} {pos : Pos} {v : Value} {Q : Value → Shared → Prop} (X : Fx w g hE env outer m news s.heap) (hv : mgK w.params x = some v) (h : Q v s)
    (hx : env.kindOf x = some .globalImplicit := by rfl) (hd : (x == ("__debug__" : Str)) = false := by decide) : wpAny (model prog w) A (eval (.Name x pos) env) Q E s :=
  Calls.Name_function_global X.hk hx (Calls.loadGlobal_global (mg := mgK w.params) (by rw [X.hg]; exact (main_ns X.gr).keeps X.keep) hv h) hd
theorem fx_bl {x : Str} {pos : Pos} {v : Value} {Q : Value → Shared → Prop} (X : Fx w g hE env outer m news s.heap) (hmiss : mgK w.params x = none) (hv : bootBuiltins x = some v) (h : Q v s)
    (hn : x ≠ "__name__" := by decide +kernel) (hx : env.kindOf x = some .globalImplicit := by rfl) (hd : (x == ("__debug__" : Str)) = false := by decide) : wpAny (model prog w) A (eval (.Name x pos) env) Q E s := by
  obtain ⟨mb, h1, h2⟩ := X.gr.b
  exact Calls.Name_function_global X.hk hx (Calls.loadGlobal_builtin (mg := mgK w.params) (mb := mb) (by rw [X.hg]; exact (main_ns X.gr).keeps X.keep) hmiss (by rw [X.hb]; exact h1.keeps X.keep) ((h2 x hn).trans hv) h) hd

theorem mg_parse (P : Params) : mgK P "_parse_varint" = some (.ref 21) := by rfl
theorem mg_next (P : Params) : mgK P "next" = none := by rfl
end
end
end Mine

namespace Mine
section
open PySem PySem.W PyProof.Rows PySem.Calls
section
variable {prog : Program} {w : World} {A : Around} {E : Value → Shared → Prop} {s : Shared} {g hE : Heap} {env : Env} {outer : List Env} {m : Str → Option Value} {news : List (Addr × Obj)}

theorem fx_enter {f : Addr} {fd : FuncData} {body : List Stmt} {binds : List (Str × Value)} {args : List Value} {oc : Value} {od : Option Addr} {osl : Array (Option Value)} {Q : Value → Shared → Prop}
    (X : Fx w g hE env outer m news s.heap) (hA : A.frames = some (env :: outer)) (hroom : A.depth < recursionLimit)
    (ho : (KK w.params).lookup f = some ⟨oc, od, .func fd, osl⟩) (hcd : codeIn (KK w.params) fd.code fd.qualname = true) (hbody : fd.body = .stmts body)
    (hbind : bindArgs fd ⟨args, []⟩ = pure binds) (hcell : (fd.scope.names.all fun x => decide (x.2 ≠ .cell)) = true) (hloc : (binds.all fun x => decide (fd.scope.names.lookup x.1 = some .local)) = true)
    (h : ∀ g' h₁, g.StaysIn g' → Fx w g' s.heap (callEnv fd s.heap.objs.size f) (env :: outer) (fun x => List.lookup x binds.reverse) news h₁ →
      wpAny (model prog w) (A.deeper (callEnv fd s.heap.objs.size f)) (execs body (callEnv fd s.heap.objs.size f)) (fun fl s' => Q (match fl with | .ret v => v | _ => .none) s')
        (fun e s' => wpAny (model prog w) (A.deeper (callEnv fd s.heap.objs.size f)) (leaving (callEnv fd s.heap.objs.size f) e) (fun _ s'' => E e s'') (fun e' s'' => E e' s'') s')
        { s with heap := h₁, toks := s.toks + binds.length })
    (hco : fd.scope.isCoroutine = false := by rfl) (hgen : fd.scope.isGenerator = false := by rfl) (hk : fd.scope.kind = .function := by rfl)
    (hgl : fd.globals = mainGlobals := by rfl) (hbl : fd.builtins = builtinsNs := by rfl) :
    wpAny (model prog w) A (call (.ref f) args) Q E s := by
  refine wpAny_call ?_
  have Xs := X.gr.X.keeps X.keep
  refine codeAny_call_def (fd := fd) (body := body) (binds := binds) hroom (Xs _ _ ho) rfl (X.gr.lim.keeps X.keep) (codeRec_of Xs hcd) hbody (BindsTo.of_eq hbind) (fun x hx => of_decide_eq_true (List.all_eq_true.mp hcell x hx)) (locs hloc) (fun h₁ hns hk₁ => ?_) hco hgen hk
  obtain ⟨g', st, X', kp⟩ := X.fz
  refine wpAny_mono (h g' h₁ st ?_) (fun fl s' q => q) fun _ _ q => q
  have hL : ∀ b ∈ frs (env :: outer), b ≠ s.heap.objs.size := fun b hb q => by
    obtain ⟨e, he, hf⟩ := List.mem_filterMap.mp hb
    rcases List.mem_cons.mp he with rfl | he
    · rw [X.hf] at hf
      exact Nat.ne_of_lt X.ns.lt ((Option.some.inj hf).trans q)
    · obtain ⟨o, ho⟩ := X.frameIn (List.mem_filterMap.mpr ⟨e, he, hf⟩)
      exact Nat.ne_of_lt (Heap.lt_size ho) q
  obtain ⟨oL, es, ep, hoL, hdL, _⟩ := id X.ns
  have fo' : ∀ l : List Env, (∀ b ∈ frs l, b ∈ frs outer) → hE.FunFrames g' l → s.heap.FunFrames g' l := by
    intro l
    induction l with
    | nil => intro _ _; trivial
    | cons e r ih =>
      rintro hsub ⟨hk, ⟨L, o, hf, hg, ho, hd⟩, hr⟩
      have hL : L ∈ frs (e :: r) := List.mem_filterMap.mpr ⟨e, .head _, hf⟩
      obtain ⟨sl, hs⟩ := X.sl L (hsub L hL) o ho
      refine ⟨hk, ⟨L, _, hf, hg, hs, hd⟩, ih (fun b hb => hsub b ?_) hr⟩
      obtain ⟨x, hx, hxf⟩ := List.mem_filterMap.mp hb
      exact List.mem_filterMap.mpr ⟨x, .tail _ hx, hxf⟩
  exact {
    gr := X'.gr
    fo := ⟨by rw [X.hk]; decide, ⟨env.locals, oL, X.hf, X'.out, hoL, fun vs q => by rw [hdL] at q; cases q⟩, fo' outer (fun _ hb => hb) X'.fo⟩
    sl := fun b hb o e => ⟨o.slots, hk₁ b o e⟩
    hf := rfl
    hk := hk
    hg := hgl
    hb := hbl
    ns := hns
    keep := fun b o e => hk₁ b o (X'.keep b o e)
    out := X'.keep.fresh
    nod := fun hm => hL _ hm rfl
    N := fun p hp => ⟨hk₁ _ _ (X.N p hp).1, Nat.ne_of_lt (Heap.lt_size (X.N p hp).1), (X'.N p hp).2.2⟩
    dis := fun b hb p hp => by
      obtain ⟨e, he, hf⟩ := List.mem_filterMap.mp hb
      rcases List.mem_cons.mp he with rfl | he
      · rw [X.hf] at hf
        exact fun q => (X.N p hp).2.1 (q.trans (Option.some.inj hf).symm)
      · exact X.dis b (List.mem_filterMap.mpr ⟨e, he, hf⟩) p hp
    dj := X.dj }

/-- an exception on its way above this frame's own code: not yet noted -/
structure Fresh (cls : String) (w : World) (g hE : Heap) (env : Env) (outer : List Env) (m : Str → Option Value) (news : List (Addr × Obj)) (e : Addr) (h : Heap) : Prop where
  X : Fx w g hE env outer m news h
  ne : e ≠ env.locals
  nf : e ∉ frs outer
  nn : ∀ p ∈ news, p.1 ≠ e
  ge : g.get? e = none
  ex : ∃ oe vs a0, h.get? e = some oe ∧ oe.cls = .type cls ∧ oe.data = .fields vs ∧ vs[0]? = some a0 ∧ vs[1]? = some .none

/-- noted, in flight at this frame -/
structure Held (cls : String) (w : World) (g hE : Heap) (env : Env) (outer : List Env) (m : Str → Option Value) (news : List (Addr × Obj)) (e : Addr) (h : Heap) : Prop where
  X : Fx w g hE env outer m news h
  fl : ∃ B a0, Heap.HeldW B (env :: outer) e (.type cls) a0 env.locals h ∧ g.StaysIn B ∧ ∀ p ∈ news, B.get? p.1 = some p.2

/-- noted beneath, in flight nowhere -/
structure Fly (cls : String) (w : World) (g hE : Heap) (env : Env) (outer : List Env) (m : Str → Option Value) (news : List (Addr × Obj)) (e : Addr) (h : Heap) : Prop where
  X : Fx w g hE env outer m news h
  fl : ∃ B a0, Heap.FlyingW B (env :: outer) e (.type cls) a0 h ∧ g.StaysIn B ∧ ∀ p ∈ news, B.get? p.1 = some p.2

variable {cls : String} {e : Addr} {h h' : Heap}

/-- the frames, from one heap to the next up to slots, all ground and open objects kept -/
theorem Fx.up (X : Fx w g hE env outer m news h) (hs : h.UpToSlots h') (kg : g.StaysIn h') (kn : ∀ p ∈ news, h'.get? p.1 = some p.2) : Fx w g hE env outer m news h' where
  gr := X.gr
  fo := X.fo
  sl := fun b hb o e => by
    obtain ⟨sl, h1⟩ := X.sl b hb o e
    obtain ⟨oo, ho, hd⟩ := (X.fo.mem hb).2
    rw [e] at ho; cases ho
    obtain ⟨sl2, h2⟩ := hs b _ h1 hd
    exact ⟨sl2, h2⟩
  hf := X.hf
  hk := X.hk
  hg := X.hg
  hb := X.hb
  ns := hs.ns X.ns
  keep := kg
  out := X.out
  nod := X.nod
  N := fun p hp => ⟨kn p hp, (X.N p hp).2⟩
  dis := X.dis
  dj := X.dj

theorem Fx.funFrames (X : Fx w g hE env outer m news h) {B : Heap} (hB : ∀ b ∈ frs (env :: outer), B.get? b = none) : h.FunFrames B (env :: outer) := by
  obtain ⟨oL, es, ep, hoL, hdL, _⟩ := id X.ns
  have fo' : ∀ l : List Env, (∀ b ∈ frs l, b ∈ frs outer) → hE.FunFrames g l → h.FunFrames B l := by
    intro l
    induction l with
    | nil => intro _ _; trivial
    | cons e r ih =>
      rintro hsub ⟨hk, ⟨L, o, hf, hg, ho, hd⟩, hr⟩
      have hL : L ∈ frs (e :: r) := List.mem_filterMap.mpr ⟨e, .head _, hf⟩
      obtain ⟨sl, hs⟩ := X.sl L (hsub L hL) o ho
      obtain ⟨x, hx, hxf⟩ := List.mem_filterMap.mp (hsub L hL)
      refine ⟨hk, ⟨L, _, hf, hB L (List.mem_filterMap.mpr ⟨x, .tail _ hx, hxf⟩), hs, hd⟩, ih (fun b hb => hsub b ?_) hr⟩
      obtain ⟨x, hx, hxf⟩ := List.mem_filterMap.mp hb
      exact List.mem_filterMap.mpr ⟨x, .tail _ hx, hxf⟩
  exact ⟨by rw [X.hk]; decide, ⟨env.locals, oL, X.hf, hB _ (List.mem_filterMap.mpr ⟨env, .head _, X.hf⟩), hoL, fun vs q => by rw [hdL] at q; cases q⟩, fo' outer (fun _ hb => hb) X.fo⟩

/-- the ground for a raise: all but the frames and the exception -/
theorem Fresh.base (F : Fresh cls w g hE env outer m news e h) : ∃ B, B.StaysIn h ∧ h.FunFrames B (env :: outer) ∧ B.get? e = none ∧ g.StaysIn B ∧ ∀ p ∈ news, B.get? p.1 = some p.2 := by
  let S := e :: frs (env :: outer)
  have X := F.X
  have hfr : ∀ b ∈ frs (env :: outer), b = env.locals ∨ b ∈ frs outer := fun b hb => by
    obtain ⟨x, hx, hxf⟩ := List.mem_filterMap.mp hb
    rcases List.mem_cons.mp hx with rfl | hx
    · rw [X.hf] at hxf; exact .inl (Option.some.inj hxf).symm
    · exact .inr (List.mem_filterMap.mpr ⟨x, hx, hxf⟩)
  refine ⟨hideAll h S, fun b o q => of_hideAll _ q, X.funFrames fun b hb => hideAll_none _ (.tail _ hb), hideAll_none _ (.head _), fun b o q => hideAll_get _ (X.keep b o q) fun hm => ?_, fun p hp => hideAll_get _ (X.N p hp).1 fun hm => ?_⟩
  · rcases List.mem_cons.mp hm with rfl | hm
    · rw [F.ge] at q; cases q
    · rcases hfr b hm with rfl | hm
      · rw [X.out] at q; cases q
      · rw [X.frameOut hm] at q; cases q
  · rcases List.mem_cons.mp hm with q | hm
    · exact F.nn p hp q
    · rcases hfr _ hm with q | hm
      · exact (X.N p hp).2.1 q
      · exact X.dis _ hm p hp rfl

theorem fresh_note {Q : Unit → Shared → Prop} (hA : A.frames = some (env :: outer)) (F : Fresh cls w g hE env outer m news e s.heap)
    (h : ∀ h', Held cls w g hE env outer m news e h' → Q () { s with heap := h' }) : wpAny (model prog w) A (noteFrame (.ref e) env) Q E s := by
  obtain ⟨B, b1, b2, b3, b4, b5⟩ := F.base
  obtain ⟨oe, vs, a0, he, hc, hd, h0, h1⟩ := F.ex
  unfold noteFrame
  simp only [F.X.hf]
  refine wpAny_bind (wpAny_field he hd h1 ?_)
  rw [if_neg (by decide)]
  refine wpAny_entryW hA b2 F.X.hf he b1 b3 hd (Array.getElem?_eq_some_iff.mp h1).1 h0 fun h' hN => ?_
  obtain ⟨k1, k2, k3, k4⟩ := hN
  exact h h' ⟨F.X.up k4 (fun b o q => k1 b o (b4 b o q)) fun p hp => k1 _ _ (b5 p hp), B, a0, ⟨k1, b3, k2, hc ▸ k3⟩, b4, b5⟩

theorem fly_note {Q : Unit → Shared → Prop} (hA : A.frames = some (env :: outer)) (F : Fly cls w g hE env outer m news e s.heap)
    (h : ∀ h', Held cls w g hE env outer m news e h' → Q () { s with heap := h' }) : wpAny (model prog w) A (noteFrame (.ref e) env) Q E s := by
  obtain ⟨B, a0, fl, b4, b5⟩ := F.fl
  refine wpAny_looks_onW hA F.X.hf fl fun h' hh hs => ?_
  exact h h' ⟨F.X.up hs (fun b o q => hh.1 b o (b4 b o q)) fun p hp => hh.1 _ _ (b5 p hp), B, a0, hh, b4, b5⟩

theorem held_land {Q : Unit → Shared → Prop} (F : Held cls w g hE env outer m news e s.heap)
    (h : ∀ h', Fly cls w g hE env outer m news e h' → Q () { s with heap := h' }) : wpAny (model prog w) A (setFlight (.ref e) none) Q E s := by
  obtain ⟨B, a0, fl, b4, b5⟩ := F.fl
  refine wpAny_landsW fl fun h' hh hs => ?_
  exact h h' ⟨F.X.up hs (fun b o q => hh.1 b o (b4 b o q)) fun p hp => hh.1 _ _ (b5 p hp), B, a0, hh, b4, b5⟩
theorem fly_land {Q : Unit → Shared → Prop} (F : Fly cls w g hE env outer m news e s.heap)
    (h : ∀ h', Fly cls w g hE env outer m news e h' → Q () { s with heap := h' }) : wpAny (model prog w) A (setFlight (.ref e) none) Q E s := by
  obtain ⟨B, a0, fl, b4, b5⟩ := F.fl
  refine lands_againW fl fun h' hh hs => ?_
  exact h h' ⟨F.X.up hs (fun b o q => hh.1 b o (b4 b o q)) fun p hp => hh.1 _ _ (b5 p hp), B, a0, hh, b4, b5⟩

theorem setFlight_someW {base : Heap} {l : List Env} {e L : Addr} {cls a0 fl : Value} {Q : Unit → Shared → Prop}
    (hkb : base.StaysIn s.heap) (hl : s.heap.FunFrames base l) (ht : s.heap.TracedAtW base e cls a0 fl)
    (h : ∀ h', base.StaysIn h' → h'.FunFrames base l → h'.TracedAtW base e cls a0 (rawInt L) → s.heap.UpToSlots h' → Q () { s with heap := h' }) :
    wpAny (model prog w) A (setFlight (.ref e) (some L)) Q E s := by
  obtain ⟨oe, vs, T, oT, ts, he, hcls, hd, h1, hnT, hTe, hT, hdT, h3⟩ := ht
  have hsz3 : 3 < ts.size := (Array.getElem?_eq_some_iff.mp h3).1
  have other : ∀ b, b ≠ T → (s.heap.update T (Obj.mapFields (·.setIfInBounds 3 ((some L : Option Addr).elim Value.none fun f => rawInt f)))).get? b = s.heap.get? b :=
    fun b hb => Heap.get?_update_other _ _ (Ne.symm hb)
  have noRecord : ∀ b o, s.heap.get? b = some o → (∀ vs, o.data ≠ .fields vs) → b ≠ T := fun b o hb hnf q => by
    rw [q, hT] at hb; injection hb with hb; subst hb; exact hnf ts hdT
  unfold setFlight
  refine wpAny_bind (wpAny_field he hd h1 ?_)
  rw [if_pos (show (Value.ref T != Value.none) = true from by simp)]
  refine wpAny_setField hT hdT hsz3 (h _ (fun b o hbo => (other b fun q => by rw [q, hnT] at hbo; cases hbo).trans (hkb b o hbo))
    (hl.of_keeps fun b o hb hnf => ⟨o, (other b (noRecord b o hb hnf)).trans hb, rfl⟩) ?_ fun b o hb hnf => ⟨o.slots, (other b (noRecord b o hb hnf)).trans hb⟩)
  exact ⟨oe, vs, T, _, _, (other e (Ne.symm hTe)).trans he, hcls, hd, h1, hnT, hTe, Heap.get?_update_self _ hT (Obj.isFreed_of_fields (Obj.data_mapFields hdT _)), Obj.data_mapFields hdT _, by simp [hsz3]⟩

theorem held_back (F : Held cls w g hE env outer m news e s.heap) (h : ∀ h', Held cls w g hE env outer m news e h' → E (.ref e) { s with heap := h' }) :
    cameBackBy (model prog w) A env E (.ref e) s := by
  obtain ⟨B, a0, ⟨f1, f2, f3, f4⟩, b4, b5⟩ := F.fl
  obtain ⟨oe, vs, T, oT, ts, he, hcls, hd, h1, r⟩ := id f4
  unfold cameBackBy
  refine wpAny_bind (wpAny_field he hd h1 ?_)
  rw [if_neg (by simp)]
  rw [F.X.hf]
  refine setFlight_someW f1 f3 f4 fun h' k1 k2 k3 k4 => ?_
  exact h h' ⟨F.X.up k4 (fun b o q => k1 b o (b4 b o q)) fun p hp => k1 _ _ (b5 p hp), B, a0, ⟨k1, f2, k2, k3⟩, b4, b5⟩

/-- what a callee hands up to its caller -/
theorem Fly.up {env' : Env} {m' : Str → Option Value} {g' hh hh' : Heap} {news' : List (Addr × Obj)} {B : Heap} {a0 : Value} (Y : Fx w g hE env outer m news h) (X' : Fx w g' h env' (env :: outer) m' news' hh)
    (fl : Heap.FlyingW B (env :: outer) e (.type cls) a0 hh') (b4 : g'.StaysIn B) (b5 : ∀ p ∈ news', B.get? p.1 = some p.2) (hs : hh.UpToSlots hh') {news'' : List (Addr × Obj)}
    (k : ∀ p ∈ news'', p ∈ news') (dj' : (news''.map (·.1)).Nodup) : Fly cls w g' hE env outer m news'' e hh' :=
  ⟨(Y.ret X' k dj').up hs (fun b o q => fl.1 b o (b4 b o q)) fun p hp => fl.1 _ _ (b5 p (k p hp)), B, a0, fl, b4, fun p hp => b5 p (k p hp)⟩

section
variable {env' : Env} {m' : Str → Option Value} {g' : Heap} {news' news'' : List (Addr × Obj)} {Q : Unit → Shared → Prop}
theorem fly_leave (hA : A.frames = some (env' :: env :: outer)) (Y : Fx w g hE env outer m news h) (F : Fly cls w g' h env' (env :: outer) m' news' e s.heap) (k : ∀ p ∈ news'', p ∈ news') (dj' : (news''.map (·.1)).Nodup)
    (hQ : ∀ h', Fly cls w g' hE env outer m news'' e h' → Q () { s with heap := h' }) : wpAny (model prog w) A (leaving env' (.ref e)) Q E s := by
  obtain ⟨B, a0, fl, b4, b5⟩ := F.fl
  exact wpAny_leaves_onW hA F.X.hf fl fun h' x1 x2 => hQ h' (Fly.up Y F.X x1 b4 b5 x2 k dj')
theorem held_leave (Y : Fx w g hE env outer m news h) (F : Held cls w g' h env' (env :: outer) m' news' e s.heap) (k : ∀ p ∈ news'', p ∈ news') (dj' : (news''.map (·.1)).Nodup)
    (hQ : ∀ h', Fly cls w g' hE env outer m news'' e h' → Q () { s with heap := h' }) : wpAny (model prog w) A (leaving env' (.ref e)) Q E s := by
  obtain ⟨B, a0, fl, b4, b5⟩ := F.fl
  unfold leaving
  refine wpAny_bind (wpAny_noteFrame_againW F.X.hf fl.2.2.2 ?_)
  refine wpAny_landsW fl fun h' hfl hs => ?_
  obtain ⟨k1, k2, ⟨_, _, k3⟩, k4⟩ := hfl
  exact hQ h' (Fly.up Y F.X ⟨k1, k2, k3, k4⟩ b4 b5 hs k dj')
theorem fresh_leave (hA : A.frames = some (env' :: env :: outer)) (Y : Fx w g hE env outer m news h) (F : Fresh cls w g' h env' (env :: outer) m' news' e s.heap) (k : ∀ p ∈ news'', p ∈ news') (dj' : (news''.map (·.1)).Nodup)
    (hQ : ∀ h', Fly cls w g' hE env outer m news'' e h' → Q () { s with heap := h' }) : wpAny (model prog w) A (leaving env' (.ref e)) Q E s := by
  obtain ⟨B, b1, b2, b3, b4, b5⟩ := F.base
  obtain ⟨oe, vs, a0, he, hc, hd, h0, h1⟩ := F.ex
  refine wpAny_leaving_firstW hA b2 F.X.hf he b1 b3 hd h1 h0 fun h' hL => ?_
  obtain ⟨k1, ⟨_, _, k2⟩, k3, k4⟩ := hL
  exact hQ h' (Fly.up Y F.X ⟨k1, b3, k2, hc ▸ k3⟩ b4 b5 k4 k dj')
end
end
end
end Mine

namespace Mine
section
open PySem PySem.W PyProof.Rows PySem.Calls
abbrev lo (its : List Value) (n : Nat) : Obj := { cls := .type "list", dict := none, data := .seq its.toArray n, slots := #[] }
abbrev ito (tp : Addr) (i : Nat) : Obj := { cls := .type "list_iterator", dict := none, data := .fields #[.ref tp, .int i 0], slots := #[] }

theorem lo_isList {h : Heap} {a : Addr} {its : List Value} {n : Nat} (e : h.get? a = some (lo its n)) : h.IsList a its.toArray := ⟨_, e, rfl, n, rfl⟩
theorem push_toArray' (l : List Value) (v : Value) : l.toArray.push v = (l ++ [v]).toArray := by simp

section
variable {prog : Program} {w : World} {A : Around} {E : Value → Shared → Prop} {s : Shared} {g hE : Heap} {env : Env} {outer : List Env} {m : Str → Option Value} {news rest : List (Addr × Obj)}

theorem fx_listUpd {a : Addr} {its its' : List Value} {n : Nat} {f : Array Value → Array Value} (X : Fx w g hE env outer m ((a, lo its n) :: rest) s.heap) (hf : f its.toArray = its'.toArray) :
    Fx w g hE env outer m ((a, lo its' (if its'.length == its.length then n else n + 1)) :: rest) (s.heap.update a (Obj.mapSeq f)) := by
  refine X.upd ?_ (Heap.SameBut.update ..)
  have q := PySem.IsL.update (l := a) (items := its.toArray) (n := n) X.get0 f
  rw [hf] at q
  simpa using q

theorem fx_List {elts : List Expr} {pos : Pos} {Q : Value → Shared → Prop}
    (h : wpAny (model prog w) A (spliced (backTo pos (starEach elts env))) (fun vs s₁ => vs.length ≤ sizeLine ∧ ∃ g₁ m₁ news₁, Fx w g₁ hE env outer m₁ news₁ s₁.heap ∧
      ∀ a h', Fx w g₁ hE env outer m₁ ((a, lo vs 0) :: news₁) h' → Q (.ref a) { s₁ with heap := h' }) E s) :
    wpAny (model prog w) A (eval (.List elts pos) env) Q E s := by
  refine wpAny_List (wpAny_mono h (fun vs s₁ h₁ => ?_) fun _ _ e => e)
  obtain ⟨hz, g₁, m₁, news₁, X, k⟩ := h₁
  exact ⟨hz, k _ _ (X.push _)⟩

theorem fx_append {o e : Expr} {apos pos : Pos} {Q : Value → Shared → Prop}
    (h : wpAny (model prog w) A (eval o env) (fun ov s₀ => ∃ a its₀ n₀, ov = .ref a ∧ s₀.heap.get? a = some (lo its₀ n₀) ∧
      wpAny (model prog w) A (eval e env) (fun v s₁ => ∃ its n g₁ m₁ rest₁, its.length ≤ sizeLine ∧ Fx w g₁ hE env outer m₁ ((a, lo its n) :: rest₁) s₁.heap ∧
        ∀ h', Fx w g₁ hE env outer m₁ ((a, lo (its ++ [v]) (n + 1)) :: rest₁) h' → Q .none { s₁ with heap := h' }) E s₀) E s)
    (hbase : attributeBase o "append" env (eval o env) = eval o env := by rfl)
    (hs : backTo pos (starEach [e] env) = [(false, eval e env)] := by rfl)
    (hline : (apos.endLine == pos.line) = true := by rfl) :
    wpAny (model prog w) A (eval (.Call (.Attribute o "append" apos) [e] [] pos) env) Q E s := by
  refine wpAny_Call_method (T := "list") (id := "list.append") hbase (by rw [hs]; rfl) hline PySem.F.plainAttrs_list PySem.F.slot_list_append PySem.F.type_list_append (wpAny_mono h (fun ov s₀ h₀ => ?_) fun _ _ q => q)
  obtain ⟨a, its₀, n₀, rfl, ha, hq⟩ := h₀
  refine ⟨⟨_, ha, rfl⟩, fun b q => (by cases q; exact ⟨_, ha, rfl⟩), ?_⟩
  rw [hs]
  refine P.append_list (wpAny_mono hq (fun v s₁ h₁ => ?_) fun _ _ q => q)
  obtain ⟨its, n, g₁, m₁, rest₁, hz, X, k⟩ := h₁
  refine ⟨its.toArray, n, by simpa using hz, X.get0, k _ ?_⟩
  have q := fx_listUpd (its' := its ++ [v]) (f := fun xs => xs.push v) X (by simp)
  simpa using q

theorem wpAny_Expr_none {e : Expr} {pos : Pos} {Q : Flow → Shared → Prop} (h : wpAny (model prog w) A (eval e env) (fun v s' => v = .none ∧ Q .next s') E s)
    (h1 : interactive env = false := by rfl) (h2 : swapsWith e none pos.line env = pure false := by rfl) : wpAny (model prog w) A (exec (.Expr e pos) env) Q E s :=
  wpAny_Expr (wpAny_mono h (fun v s' q => by obtain ⟨rfl, q⟩ := q; exact q) fun _ _ q => q) h1 h2

theorem fx_next {tp it : Addr} {vs : List Value} {i : Nat} {x : Value} {Q : Value → Shared → Prop} (X : Fx w g hE env outer m ((it, ito tp i) :: rest) s.heap) (ht : g.IsList tp vs.toArray) (hx : vs[i]? = some x)
    (h : ∀ h', Fx w g hE env outer m ((it, ito tp (i + 1)) :: rest) h' → Q x { s with heap := h' }) : wpAny (model prog w) A (call (.builtin "next") [.ref it]) Q E s := by
  have hit : s.heap.IsListIter it tp i := ⟨_, X.get0, rfl, rfl⟩
  have hl : s.heap.IsList tp vs.toArray := ht.at fun o e => X.keep _ o e
  obtain ⟨o, ho, hc, hd⟩ := id hit
  obtain ⟨ol, hol, _, nl, hdl⟩ := hl
  have ho' : o = ito tp i := Option.some.inj (ho.symm.trans X.get0)
  subst ho'
  refine call_function_entry (by decide +kernel) (by decide +kernel) PySem.W.kdk_entry_next (PySem.W.kdk_args_next _) ?_
  unfold Builtin.«next»
  refine wpAny_bind (m := someArgs "next" 1 2 _) (wpAny_of_eq (a := [Value.ref it]) (by first | rfl | kernel_rfl!) ?_)
  dsimp only
  refine wpAny_bind (wpAny_specialOf (name := Str.ofString "__next__") hit.typeIs slot_listiter_next.lookup ?_)
  refine wpAny_bind (wpAny_callSpecial?_slot (name := Str.ofString "__next__") hit.typeIs slot_listiter_next
    (wpAny_call_entry slot_listiter_next hit.typeIs entry_listiter_next ?_ (args_listiter_next _)))
  show wpAny _ _ (field (.ref it) 0 >>= _) _ _ s
  refine wpAny_bind (wpAny_field ho hd (x := .ref tp) rfl ?_)
  show wpAny _ _ (if (Value.ref tp == Value.none) = true then _ else _) _ _ s
  rw [if_neg (show ¬ ((Value.ref tp == Value.none) = true) from Bool.false_ne_true)]
  show wpAny _ _ (field (.ref it) 1 >>= _) _ _ s
  refine wpAny_bind (wpAny_field ho hd (x := .int i 0) rfl ?_)
  show wpAny _ _ (seqItems? (.ref tp) >>= _) _ _ s
  refine wpAny_bind (wpAny_seqItems hol hdl ?_)
  have hx' : vs.toArray[i]? = some x := by simpa using hx
  simp only [Int.toNat_natCast, hx']
  refine wpAny_bind (wpAny_setField ho hd (by simp) (wpAny_pure ⟨x, rfl, ?_⟩))
  refine wpAny_pure ⟨x, rfl, h _ ?_⟩
  refine X.upd ?_ (Heap.SameBut.update ..)
  rw [Heap.get?_update_self _ ho (Obj.isFreed_of_fields (Obj.data_mapFields hd _))]
  simp [Obj.mapFields, rawInt]

/-- the iterator is at its end: a fresh StopIteration -/
theorem fx_stop {tp it : Addr} {vs : List Value} {i : Nat} {Q : Value → Shared → Prop} (hh : A.handled = none) (X : Fx w g hE env outer m ((it, ito tp i) :: rest) s.heap) (ht : g.IsList tp vs.toArray) (hx : vs[i]? = none)
    (h : ∀ h' e, Fresh "StopIteration" w g hE env outer m rest e h' → E (.ref e) { s with heap := h' }) : wpAny (model prog w) A (call (.builtin "next") [.ref it]) Q E s := by
  have hit : s.heap.IsListIter it tp i := ⟨_, X.get0, rfl, rfl⟩
  have hl : s.heap.IsList tp vs.toArray := ht.at fun o e => X.keep _ o e
  obtain ⟨o, ho, hc, hd⟩ := id hit
  obtain ⟨ol, hol, _, nl, hdl⟩ := hl
  have ho' : o = ito tp i := Option.some.inj (ho.symm.trans X.get0)
  subst ho'
  refine call_function_entry (by decide +kernel) (by decide +kernel) PySem.W.kdk_entry_next (PySem.W.kdk_args_next _) ?_
  unfold Builtin.«next»
  refine wpAny_bind (m := someArgs "next" 1 2 _) (wpAny_of_eq (a := [Value.ref it]) (by first | rfl | kernel_rfl!) ?_)
  dsimp only
  refine wpAny_bind (wpAny_specialOf (name := Str.ofString "__next__") hit.typeIs slot_listiter_next.lookup ?_)
  refine wpAny_bind (wpAny_callSpecial?_slot (name := Str.ofString "__next__") hit.typeIs slot_listiter_next
    (wpAny_call_entry slot_listiter_next hit.typeIs entry_listiter_next ?_ (args_listiter_next _)))
  show wpAny _ _ (field (.ref it) 0 >>= _) _ _ s
  refine wpAny_bind (wpAny_field ho hd (x := .ref tp) rfl ?_)
  show wpAny _ _ (if (Value.ref tp == Value.none) = true then _ else _) _ _ s
  rw [if_neg (show ¬ ((Value.ref tp == Value.none) = true) from Bool.false_ne_true)]
  show wpAny _ _ (field (.ref it) 1 >>= _) _ _ s
  refine wpAny_bind (wpAny_field ho hd (x := .int i 0) rfl ?_)
  show wpAny _ _ (seqItems? (.ref tp) >>= _) _ _ s
  refine wpAny_bind (wpAny_seqItems hol hdl ?_)
  have hx' : vs.toArray[i]? = none := by simpa using hx
  simp only [Int.toNat_natCast, hx']
  refine wpAny_bind (wpAny_rule (wpAny_bind (wpAny_setField ho hd (by simp) ?_)))
  show wpAny _ _ (newExc (.type "StopIteration") [] >>= _) _ _ _
  refine wpAny_bind ?_
  simp only [newExc, newTuple]
  refine wpAny_bind (wpAny_newObj_type ?_ (by size_fits))
  refine wpAny_bind (m := firstArgMember _ _) (wpAny_of_eq (a := Value.none) (by first | rfl | (simp only [firstArgMember]; rfl)) ?_)
  refine wpAny_newObj_type ?_ (by size_fits)
  simp only [raiseNew]
  refine wpAny_bind (wpAny_handled ?_)
  rw [show A.in1.handled = none from hh]
  refine wpAny_bind (wpAny_pure (wpAny_throw ?_))
  have X1 : Fx w g hE env outer m ((it, { cls := .type "list_iterator", dict := none, data := .fields #[.none, .int i 0], slots := #[] }) :: rest) (s.heap.update it (Obj.mapFields fun x => x.setIfInBounds 0 Value.none)) := by
    refine X.upd ?_ (Heap.SameBut.update ..)
    rw [Heap.get?_update_self _ ho (Obj.isFreed_of_fields (Obj.data_mapFields hd _))]
    simp [Obj.mapFields]
  have X2 := X1.push { cls := Value.type "tuple", data := Data.seq #[] }
  have X3 := X2.push { cls := Value.type "StopIteration", data := Data.fields (#[Value.ref (s.heap.update it (Obj.mapFields fun x => x.setIfInBounds 0 Value.none)).objs.size, Value.none, Value.none, Value.none, Value.bool false, Value.none] ++ ownMembersOf (Value.type "StopIteration") []) }
  have n0 := X3.N _ (.head _)
  have dj := X3.dj
  simp only [List.map_cons, List.nodup_cons, List.mem_cons, not_or] at dj
  refine h _ _ ⟨X3.tail.tail.tail, n0.2.1, fun hm => X3.dis _ hm _ (.head _) rfl, fun p hp q => ?_, n0.2.2, ⟨_, _, Value.ref (s.heap.update it (Obj.mapFields fun x => x.setIfInBounds 0 Value.none)).objs.size, n0.1, rfl, rfl, ?_, ?_⟩⟩
  · exact dj.1.2.2 (q ▸ List.mem_map_of_mem hp)
  · rw [Array.getElem?_append_left (by simp)]; rfl
  · rw [Array.getElem?_append_left (by simp)]; rfl
end
end
end Mine

namespace Mine
section
open PySem
theorem and63 {b : Int} (h : 0 ≤ b) : Builtin.bitAnd b 63 = b % 64 := by
  obtain ⟨n, rfl⟩ := Int.eq_ofNat_of_zero_le h
  have e : Builtin.bitAnd (n : Int) 63 = ((n &&& 63 : Nat) : Int) := by
    unfold Builtin.bitAnd
    simp
  rw [e, show (63 : Nat) = 2 ^ 6 - 1 from rfl, Nat.and_two_pow_sub_one_eq_mod]
  simp

theorem and64 {b : Int} (h : 0 ≤ b) : Builtin.bitAnd b 64 = (b / 64 % 2) * 64 := by
  obtain ⟨n, rfl⟩ := Int.eq_ofNat_of_zero_le h
  have e : Builtin.bitAnd (n : Int) 64 = ((n &&& 64 : Nat) : Int) := by
    unfold Builtin.bitAnd
    simp
  have e2 : n &&& 64 = (n / 64 % 2) * 64 := by
    have hb : n.testBit 6 = decide (n / 64 % 2 = 1) := Nat.testBit_eq_decide_div_mod_eq
    rw [show (n &&& 64) = n &&& 2 ^ 6 from rfl]
    rcases Nat.mod_two_eq_zero_or_one (n / 64) with h | h
    · rw [h]
      apply Nat.eq_of_testBit_eq
      intro i
      rw [Nat.testBit_and, Nat.testBit_two_pow]
      by_cases hi : 6 = i
      · subst hi; rw [hb, h]; simp
      · simp [hi]
    · rw [h]
      apply Nat.eq_of_testBit_eq
      intro i
      rw [Nat.testBit_and, Nat.testBit_two_pow]
      by_cases hi : 6 = i
      · subst hi; rw [hb, h]; simp
      · simp [hi]
  rw [e, e2]
  simp

theorem orLow {v c : Int} (hv : 0 ≤ v) (h0 : 0 ≤ c) (hc : c < 64) : Builtin.bitOr (v * 64) c = v * 64 + c := by
  obtain ⟨x, rfl⟩ := Int.eq_ofNat_of_zero_le hv
  obtain ⟨y, rfl⟩ := Int.eq_ofNat_of_zero_le h0
  have hy : y < 2 ^ 6 := by omega
  have key : ∀ a b : Nat, Builtin.bitOr (a : Int) (b : Int) = ((a ||| b : Nat) : Int) := by
    intro a b
    have n1 : ∀ k : Nat, Builtin.bitNot (k : Int) = -(k : Int) - 1 := fun k => by unfold Builtin.bitNot; omega
    have n2 : ∀ k : Nat, Builtin.bitNot (-(k : Int) - 1) = k := fun k => by unfold Builtin.bitNot; omega
    unfold Builtin.bitOr
    rw [n1, n1]
    unfold Builtin.bitAnd
    rw [show decide (0 ≤ -(a : Int) - 1) = false from decide_eq_false (by omega), show decide (0 ≤ -(b : Int) - 1) = false from decide_eq_false (by omega)]
    simp only [n2, Int.toNat_natCast]
    rw [n1, n2]
  have e := key (x * 64) y
  push_cast at e
  rw [e, Nat.mul_comm, ← Nat.two_pow_add_eq_or_of_lt hy]
  push_cast
  omega

/-- a number read from octets: what is left behind it -/
def pgo : Int → List Int → Option (Int × List Int)
  | _, [] => none
  | val, b :: r => if b / 64 % 2 = 0 then some (val * 64 + b % 64, r) else pgo (val * 64 + b % 64) r

theorem pgo_len : ∀ {val : Int} {l : List Int} {v : Int} {r : List Int}, pgo val l = some (v, r) → r.length < l.length
  | _, [], _, _, h => by cases h
  | val, b :: t, v, r, h => by
    unfold pgo at h
    split at h
    · cases h; simp
    · have := pgo_len h; simp; omega
theorem pgo_nonneg : ∀ {val : Int} {l : List Int} {v : Int} {r : List Int}, 0 ≤ val → pgo val l = some (v, r) → 0 ≤ v
  | _, [], _, _, _, h => by cases h
  | val, b :: t, v, r, hv, h => by
    unfold pgo at h
    split at h
    · cases h; omega
    · exact pgo_nonneg (by omega) h
end
end Mine

namespace Mine
section
open PySem PySem.W PyProof.Rows PySem.Calls
section
variable {prog : Program} {w : World} {A : Around} {E : Value → Shared → Prop} {s : Shared} {g hE : Heap} {env : Env} {outer : List Env} {m : Str → Option Value} {news rest : List (Addr × Obj)}

noncomputable def fdAt (P : Params) (f : Addr) : FuncData := match (KK P).lookup f with
  | some ⟨_, _, .func fd, _⟩ => fd
  | _ => default
noncomputable def bodyOf (fd : FuncData) : List Stmt := match fd.body with
  | .stmts b => b
  | _ => []

theorem fx_builtin1 {id : String} {fn : Str} {p pos : Pos} {e : Expr} {Q : Value → Shared → Prop}
    (h : wpAny (model prog w) A (eval (.Name fn p) env) (fun f s₁ => f = .builtin id ∧ wpAny (model prog w) A (eval e env) (fun v s₂ => wpAny (model prog w) A (call (.builtin id) [v]) Q E s₂) E s₁) E s)
    (hs : backTo pos (starEach [e] env) = [(false, eval e env)] := by rfl) :
    wpAny (model prog w) A (eval (.Call (.Name fn p) [e] [] pos) env) Q E s := by
  refine Call_Name hs (wpAny_mono h (fun f s₁ h₁ => ?_) fun _ _ q => q)
  obtain ⟨rfl, h₁⟩ := h₁
  exact _root_.PySem.callWith_builtin1 h₁


theorem pgo_drop {ns : List Int} {i : Nat} {n val : Int} (h : ns[i]? = some n) : pgo val (ns.drop i) = if n / 64 % 2 = 0 then some (val * 64 + n % 64, ns.drop (i + 1)) else pgo (val * 64 + n % 64) (ns.drop (i + 1)) := by
  have hlt : i < ns.length := (List.getElem?_eq_some_iff.mp h).1
  have e : ns.drop i = n :: ns.drop (i + 1) := by
    rw [List.drop_eq_getElem_cons hlt]
    rw [(List.getElem?_eq_some_iff.mp h).2]
  rw [e, pgo]
theorem pgo_dropNone {ns : List Int} {i : Nat} {val : Int} (h : ns[i]? = none) : pgo val (ns.drop i) = none := by
  rw [List.drop_eq_nil_of_le (List.getElem?_eq_none_iff.mp h), pgo]

set_option maxHeartbeats 2000000 in
theorem parse_spec {it tp : Addr} {i : Nat} {vs : List Value} {ns : List Int} {Q : Value → Shared → Prop} (X : Fx w g hE env outer m ((it, ito tp i) :: rest) s.heap) (hA : A.frames = some (env :: outer)) (hn : A.handled = none)
    (hd : A.depth + 1 < recursionLimit) (ht : g.IsList tp vs.toArray) (hi : IntsAre vs ns) (hlen : ns.length ≤ 10000) (hpos : ∀ n ∈ ns, 0 ≤ n)
    (ok : ∀ v rst, pgo 0 (ns.drop i) = some (v, rst) → ∀ g' h' tk t, g.StaysIn g' → Fx w g' hE env outer m ((it, ito tp (ns.length - rst.length)) :: rest) h' → Q (.int v t) { s with heap := h', toks := tk })
    (stop : pgo 0 (ns.drop i) = none → ∀ g' e h' tk, g.StaysIn g' → Fly "StopIteration" w g' hE env outer m rest e h' → E (.ref e) { s with heap := h', toks := tk }) :
    wpAny (model prog w) A (call (.ref 21) [.ref it]) Q E s := by
  refine fx_enter (fd := fdAt w.params 21) (body := bodyOf (fdAt w.params 21)) (binds := [("iterator", .ref it)]) X hA (by omega) rfl (by rfl) (by rfl) (by rfl) (by rfl) (by rfl) fun g₁ h₁ st X₁ => ?_
  have hA₁ : (A.deeper (callEnv (fdAt w.params 21) s.heap.objs.size 21)).frames = some (callEnv (fdAt w.params 21) s.heap.objs.size 21 :: env :: outer) := Around.frames_deeper hA
  have ht₁ : g₁.IsList tp vs.toArray := ht.at fun o e => st _ o e
  have hlv : vs.length = ns.length := hi.length
  refine wpAny_execs_cons (wpAny_Assign_Name (fx_builtin1 (id := "next") (fx_bl X₁ (by rfl) PyProof.Rows.Boot.«next» ⟨rfl, fx_ld X₁ (by rfl) ?_⟩)))
  cases hx : ns[i]? with
  | none =>
    have hx' : vs[i]? = none := by rw [List.getElem?_eq_none_iff] at hx ⊢; omega
    refine fx_stop hn X₁ ht₁ hx' fun h₂ e F => ?_
    exact fresh_leave hA₁ X F (fun p hp => hp) X.tail.dj fun h' F' => stop (pgo_dropNone hx) _ _ _ _ st F'
  | some n =>
    obtain ⟨t, hx'⟩ := hi.get i n hx
    refine fx_next X₁ ht₁ hx' fun h₂ X₂ => ?_
    refine fx_st X₂ fun h₃ X₃ => ?_
    refine wpAny_execs_cons (wpAny_Assign_Name (wpAny_BinOp (fx_ld X₃ (by ktn_open) (wpAny_Constant_int (and_int (fx_st X₃ fun h₄ X₄ => ?_))))))
    have hn0 : 0 ≤ n := hpos n (List.mem_of_getElem? hx)
    rw [and63 hn0] at X₄
    refine wpAny_execs_cons (wpAny_While ?_)
    have hi' : i < ns.length := (List.getElem?_eq_some_iff.mp hx).1
    refine codeAny_whileLoop (fun k s' => ∃ h' tk m' j b v tb tv, s' = { s with heap := h', toks := tk } ∧ Fx w g₁ s.heap (callEnv (fdAt w.params 21) s.heap.objs.size 21) (env :: outer) m' ((it, ito tp j) :: rest) h' ∧
      m' "iterator" = some (.ref it) ∧ m' "b" = some (.int b tb) ∧ m' "val" = some (.int v tv) ∧ j ≤ ns.length ∧ k = ns.length - j ∧ 0 ≤ b ∧ 0 ≤ v ∧ v.natAbs < 2 ^ (6 * j) ∧
      pgo 0 (ns.drop i) = if b / 64 % 2 = 0 then some (v, ns.drop j) else pgo v (ns.drop j)) ?_ _
      ⟨h₄, _, _, i + 1, n, n % 64, _, _, rfl, X₄, by ktn_open, by ktn_open, by ktn_open, by omega, rfl, hn0, by omega, ?_, ?_⟩
    · rintro k _ ⟨h', tk, m', j, b, v, tb, tv, rfl, X', hm1, hm2, hm3, hj, rfl, hb, hv, hbd, hpg⟩
      refine isTrue_plain (wpAny_BinOp (fx_ld X' hm2 (wpAny_Constant_int (and_int (truthy_int ?_)))))
      rw [and64 hb]
      by_cases hz : b / 64 % 2 = 0
      · rw [if_pos hz] at hpg
        rw [hz]
        refine wpAny_execs_nil ?_
        refine wpAny_execs_cons (wpAny_Return_some (fx_ld X' hm3 ?_))
        have := ok v _ hpg g₁ h' (tk + 1 + 1) tv st
        refine this ?_
        have e : ns.length - (ns.drop j).length = j := by rw [List.length_drop]; omega
        rw [e]
        exact X.ret X' (fun p hp => hp) X'.dj
      · rw [if_neg hz] at hpg
        have hz' : (b / 64 % 2 * 64 != 0) = true := by
          have : b / 64 % 2 = 1 := by omega
          rw [this]; rfl
        rw [hz']
        refine wpAny_execs_cons (wpAny_AugAssign_Name (fx_ldn X' hm3 (wpAny_Constant_int (ilshift_int (by omega) ?_ (fx_st X' fun h₅ X₅ => ?_)))))
        · have := intBits_le hbd
          omega
        · refine wpAny_execs_cons (wpAny_Assign_Name (fx_builtin1 (id := "next") (fx_bl X₅ (by rfl) PyProof.Rows.Boot.«next» ⟨rfl, fx_ld X₅ (by ktn_open) ?_⟩)))
          cases hy : ns[j]? with
          | none =>
            have hy' : vs[j]? = none := by rw [List.getElem?_eq_none_iff] at hy ⊢; omega
            refine fx_stop hn X₅ ht₁ hy' fun h₂ e F => ?_
            refine fresh_note hA₁ F fun h₆ Hd => held_back Hd fun h₇ Hd' => ?_
            exact held_leave X Hd' (fun p hp => hp) X.tail.dj fun h' F' => stop (hpg.trans (pgo_dropNone hy)) _ _ _ _ st F'
          | some c =>
            obtain ⟨t, hy'⟩ := hi.get j c hy
            have hc0 : 0 ≤ c := hpos c (List.mem_of_getElem? hy)
            have hj' : j < ns.length := (List.getElem?_eq_some_iff.mp hy).1
            refine fx_next X₅ ht₁ hy' fun h₆ X₆ => ?_
            refine fx_st X₆ fun h₇ X₇ => ?_
            refine wpAny_execs_cons (wpAny_AugAssign_Name (fx_ldn X₇ (by ktn_open) (wpAny_BinOp (fx_ld X₇ (by ktn_open) (wpAny_Constant_int (and_int (ior_int (fx_st X₇ fun h₈ X₈ => ?_))))))))
            rw [and63 hc0, show (2 : Int) ^ (6 : Int).toNat = 64 from rfl, orLow hv (by omega) (by omega)] at X₈
            refine wpAny_execs_nil ?_
            refine ⟨ns.length - (j + 1), by omega, h₈, _, _, j + 1, c, v * 64 + c % 64, _, _, rfl, X₈, by ktn_open, by ktn_open, by ktn_open, by omega, rfl, hc0, by omega, ?_, ?_⟩
            · have : (2 : Nat) ^ (6 * (j + 1)) = 2 ^ (6 * j) * 64 := by rw [Nat.mul_add, Nat.pow_add]
              rw [this]
              omega
            · rw [hpg, pgo_drop hy]
    · have : (2 : Nat) ^ (6 * (i + 1)) = 2 ^ (6 * i) * 64 := by rw [Nat.mul_add, Nat.pow_add]
      have h2 : 0 < (2 : Nat) ^ (6 * i) := Nat.pow_pos (by decide)
      rw [this]
      omega
    · rw [pgo_drop hx]; simp
end
end
end Mine

namespace Mine
section
open PySem PySem.W PyProof.Rows PySem.Calls
abbrev rit (x left : Int) : Obj := { cls := .type "range_iterator", dict := none, data := .fields #[rawInt x, rawInt left, rawInt 1], slots := #[] }

section
variable {prog : Program} {w : World} {A : Around} {E : Value → Shared → Prop} {s : Shared} {g hE : Heap} {env : Env} {outer : List Env} {m : Str → Option Value} {news rest : List (Addr × Obj)}

theorem fx_loop {R : Result → Shared → Prop} {x : Str} {px : Pos} {body : List Stmt} {I : Addr} (ob : Nat → Obj) (N : Nat) (P : Nat → Value → Prop) (G : Heap → Prop) (gk : ∀ g g' : Heap, g.StaysIn g' → G g → G g')
    (item : ∀ i (s : Shared) (Q : Option Value → Shared → Prop) (E : Value → Shared → Prop) g m news, i < N → G g → Fx w g hE env outer m ((I, ob i) :: news) s.heap →
      (∀ v h' tk, P i v → Fx w g hE env outer m ((I, ob (i + 1)) :: news) h' → Q (some v) { s with heap := h', toks := tk }) → wpAny (model prog w) A (pyNext (.ref I)) Q E s)
    (fin : ∀ (s : Shared) (Q : Option Value → Shared → Prop) (E : Value → Shared → Prop) g m news, G g → Fx w g hE env outer m ((I, ob N) :: news) s.heap →
      (∀ h' tk, Fx w g hE env outer m news h' → Q none { s with heap := h', toks := tk }) → wpAny (model prog w) A (pyNext (.ref I)) Q E s)
    (J : Nat → Heap → (Str → Option Value) → List (Addr × Obj) → Prop)
    (X : Fx w g hE env outer m ((I, ob 0) :: news) s.heap) (hG : G g) (hx : env.kindOf x = some .local) (h0 : J 0 g m news)
    (turn : ∀ i g' m' news' h' tk v, i < N → P i v → J i g' m' news' → g.StaysIn g' → Fx w g' hE env outer (fun y => if y = x then some v else m' y) ((I, ob (i + 1)) :: news') h' →
      wpAny (model prog w) A (execs body env) (fun f s₂ => match f with
        | .next | .cont => ∃ g'' m'' news'' h'' tk'', s₂ = { s with heap := h'', toks := tk'' } ∧ g'.StaysIn g'' ∧ Fx w g'' hE env outer m'' ((I, ob (i + 1)) :: news'') h'' ∧ J (i + 1) g'' m'' news''
        | .brk => R (.ok .next) s₂
        | .ret v => R (.ok (.ret v)) s₂) (notedBy (model prog w) A env fun e s' => R (.error e) s') { s with heap := h', toks := tk })
    (done : ∀ g' m' news' h' tk, J N g' m' news' → g.StaysIn g' → Fx w g' hE env outer m' news' h' → R (.ok .next) { s with heap := h', toks := tk }) :
    codeAny (model prog w) A (.forLoop (.Name x px) (.ref I) body [] env) R s := by
  refine codeAny_forLoop (fun k s' => ∃ i g' m' news' h' tk, s' = { s with heap := h', toks := tk } ∧ i ≤ N ∧ k = N - i ∧ J i g' m' news' ∧ g.StaysIn g' ∧ Fx w g' hE env outer m' ((I, ob i) :: news') h') ?_ N
    ⟨0, g, m, news, s.heap, s.toks, rfl, Nat.zero_le _, rfl, h0, stays_refl g, X⟩
  rintro k _ ⟨i, g', m', news', h', tk, rfl, hi, rfl, hJ, st, X'⟩
  by_cases hlt : i < N
  · refine item i _ _ _ g' m' news' hlt (gk _ _ st hG) X' fun v h₁ tk₁ hP X₁ => ?_
    refine wpAny_assign_Name (fx_st X₁ (fun h₂ X₂ => ?_) hx)
    refine wpAny_mono (turn i g' m' news' h₂ _ v hlt hP hJ st X₂) (fun f s₂ q => ?_) fun _ _ q => q
    have go : (∃ g'' m'' news'' h'' tk'', s₂ = { s with heap := h'', toks := tk'' } ∧ g'.StaysIn g'' ∧ Fx w g'' hE env outer m'' ((I, ob (i + 1)) :: news'') h'' ∧ J (i + 1) g'' m'' news'') →
        ∃ k', k' < N - i ∧ ∃ i g' m' news' h' tk, s₂ = { s with heap := h', toks := tk } ∧ i ≤ N ∧ k' = N - i ∧ J i g' m' news' ∧ g.StaysIn g' ∧ Fx w g' hE env outer m' ((I, ob i) :: news') h' := by
      rintro ⟨g'', m'', news'', h'', tk'', e, st', X'', hJ'⟩
      exact ⟨N - (i + 1), by omega, i + 1, g'', m'', news'', h'', tk'', e, hlt, rfl, hJ', stays_trans st st', X''⟩
    cases f with
    | next => exact go q
    | cont => exact go q
    | brk => exact q
    | ret v => exact q
  · have hin : i = N := by omega
    subst hin
    refine fin _ _ _ g' m' news' (gk _ _ st hG) X' fun h₁ tk₁ X₁ => wpAny_execs_nil ?_
    exact done g' m' news' h₁ tk₁ hJ st X₁

theorem Fx.ext {a : Addr} {o : Obj} {h h' : Heap} (X : Fx w g hE env outer m ((a, o) :: news) h) (hs : Heap.ExtBut a h h') : Fx w g hE env outer m news h' := by
  have dj := X.dj
  simp only [List.map_cons, List.nodup_cons] at dj
  have k : ∀ b x, b ≠ a → h.get? b = some x → h'.get? b = some x := fun b x hb e => hs b x hb e
  have h0 := X.N (a, o) (.head _)
  refine X.to ?_ (fun b x _ hb e => k b x (fun q => hb (a, o) (.head _) q.symm) e) (fun p hp => ?_) (fun p hp => .inl ⟨p, .tail _ hp, rfl⟩) dj.2
  · exact X.ns.extBut hs (Ne.symm h0.2.1)
  · have hp' := X.N p (.tail _ hp)
    exact ⟨k _ _ (fun q => dj.1 (q ▸ List.mem_map_of_mem hp)) hp'.1, hp'.2⟩

theorem fx_rangeLoop {R : Result → Shared → Prop} {x : Str} {px : Pos} {body : List Stmt} {I : Addr} {a : Int} {N : Nat}
    (J : Nat → Heap → (Str → Option Value) → List (Addr × Obj) → Prop)
    (X : Fx w g hE env outer m ((I, rit a N) :: news) s.heap) (hn : A.handled = none) (hx : env.kindOf x = some .local) (h0 : J 0 g m news)
    (turn : ∀ i g' m' news' h' tk t, i < N → J i g' m' news' → g.StaysIn g' → Fx w g' hE env outer (fun y => if y = x then some (.int (a + (i : Nat)) t) else m' y) ((I, rit (a + ((i + 1 : Nat) : Int)) (N - ((i + 1 : Nat) : Int))) :: news') h' →
      wpAny (model prog w) A (execs body env) (fun f s₂ => match f with
        | .next | .cont => ∃ g'' m'' news'' h'' tk'', s₂ = { s with heap := h'', toks := tk'' } ∧ g'.StaysIn g'' ∧ Fx w g'' hE env outer m'' ((I, rit (a + ((i + 1 : Nat) : Int)) (N - ((i + 1 : Nat) : Int))) :: news'') h'' ∧ J (i + 1) g'' m'' news''
        | .brk => R (.ok .next) s₂
        | .ret v => R (.ok (.ret v)) s₂) (notedBy (model prog w) A env fun e s' => R (.error e) s') { s with heap := h', toks := tk })
    (done : ∀ g' m' news' h' tk, J N g' m' news' → g.StaysIn g' → Fx w g' hE env outer m' news' h' → R (.ok .next) { s with heap := h', toks := tk }) :
    codeAny (model prog w) A (.forLoop (.Name x px) (.ref I) body [] env) R s := by
  refine fx_loop (fun i => rit (a + (i : Int)) (N - (i : Int))) N (fun i v => ∃ t, v = .int (a + (i : Nat)) t) (fun _ => True) (fun _ _ _ _ => trivial) ?_ ?_ J ?_ trivial hx h0 ?_ done
  · intro i s Q E g m news hi _ X hQ
    refine wpAny_pyNext_range_item X.get0 (by omega) fun h' e hs => hQ _ h' _ ⟨_, rfl⟩ ?_
    refine X.upd ?_ hs
    rw [e]
    rw [show a + (i : Int) + 1 = a + ((i + 1 : Nat) : Int) by omega, show (N : Int) - (i : Int) - 1 = N - ((i + 1 : Nat) : Int) by omega]
  · intro s Q E g m news _ X hQ
    refine wpAny_pyNext_range_end hn X.get0 (by omega) fun h' he => hQ h' s.toks (X.ext he)
  · simpa using X
  · rintro i g' m' news' h' tk v hi ⟨t, rfl⟩ hJ st X'
    exact turn i g' m' news' h' tk t hi hJ st X'

theorem fx_pyNext {tp it : Addr} {vs : List Value} {i : Nat} {x : Value} {Q : Option Value → Shared → Prop} (X : Fx w g hE env outer m ((it, ito tp i) :: rest) s.heap) (ht : g.IsList tp vs.toArray) (hx : vs[i]? = some x)
    (h : ∀ h', Fx w g hE env outer m ((it, ito tp (i + 1)) :: rest) h' → Q (some x) { s with heap := h' }) : wpAny (model prog w) A (pyNext (.ref it)) Q E s := by
  have hit : s.heap.IsListIter it tp i := ⟨_, X.get0, rfl, rfl⟩
  have hl : s.heap.IsList tp vs.toArray := ht.at fun o e => X.keep _ o e
  obtain ⟨o, ho, hc, hd⟩ := id hit
  obtain ⟨ol, hol, _, nl, hdl⟩ := hl
  have ho' : o = ito tp i := Option.some.inj (ho.symm.trans X.get0)
  subst ho'
  unfold pyNext
  refine wpAny_bind (wpAny_attempt (wpAny_callSpecial?_slot (name := Str.ofString "__next__") hit.typeIs slot_listiter_next
    (wpAny_call_entry slot_listiter_next hit.typeIs entry_listiter_next ?_ (args_listiter_next _))))
  show wpAny _ _ (field (.ref it) 0 >>= _) _ _ s
  refine wpAny_bind (wpAny_field ho hd (x := .ref tp) rfl ?_)
  show wpAny _ _ (if (Value.ref tp == Value.none) = true then _ else _) _ _ s
  rw [if_neg (show ¬ ((Value.ref tp == Value.none) = true) from Bool.false_ne_true)]
  show wpAny _ _ (field (.ref it) 1 >>= _) _ _ s
  refine wpAny_bind (wpAny_field ho hd (x := .int i 0) rfl ?_)
  show wpAny _ _ (seqItems? (.ref tp) >>= _) _ _ s
  refine wpAny_bind (wpAny_seqItems hol hdl ?_)
  have hx' : vs.toArray[i]? = some x := by simpa using hx
  simp only [Int.toNat_natCast, hx']
  refine wpAny_bind (wpAny_setField ho hd (by simp) (wpAny_pure ⟨x, rfl, wpAny_pure (h _ ?_)⟩))
  refine X.upd ?_ (Heap.SameBut.update ..)
  rw [Heap.get?_update_self _ ho (Obj.isFreed_of_fields (Obj.data_mapFields hd _))]
  simp [Obj.mapFields, rawInt]

theorem fx_listLoop {R : Result → Shared → Prop} {x : Str} {px : Pos} {body : List Stmt} {I l : Addr} {vs : List Value}
    (J : Nat → Heap → (Str → Option Value) → List (Addr × Obj) → Prop)
    (X : Fx w g hE env outer m ((I, ito l 0) :: news) s.heap) (hl : g.IsList l vs.toArray) (hn : A.handled = none) (hx : env.kindOf x = some .local) (h0 : J 0 g m news)
    (turn : ∀ i g' m' news' h' tk v, i < vs.length → vs[i]? = some v → J i g' m' news' → g.StaysIn g' → Fx w g' hE env outer (fun y => if y = x then some v else m' y) ((I, ito l (i + 1)) :: news') h' →
      wpAny (model prog w) A (execs body env) (fun f s₂ => match f with
        | .next | .cont => ∃ g'' m'' news'' h'' tk'', s₂ = { s with heap := h'', toks := tk'' } ∧ g'.StaysIn g'' ∧ Fx w g'' hE env outer m'' ((I, ito l (i + 1)) :: news'') h'' ∧ J (i + 1) g'' m'' news''
        | .brk => R (.ok .next) s₂
        | .ret v => R (.ok (.ret v)) s₂) (notedBy (model prog w) A env fun e s' => R (.error e) s') { s with heap := h', toks := tk })
    (done : ∀ g' m' news' h' tk, J vs.length g' m' news' → g.StaysIn g' → Fx w g' hE env outer m' news' h' → R (.ok .next) { s with heap := h', toks := tk }) :
    codeAny (model prog w) A (.forLoop (.Name x px) (.ref I) body [] env) R s := by
  refine fx_loop (fun i => ito l i) vs.length (fun i v => vs[i]? = some v) (fun g => g.IsList l vs.toArray) (fun _ _ st q => q.at fun o e => st _ o e) ?_ ?_ J X hl hx h0 turn done
  · intro i s Q E g m news hi hl X hQ
    exact fx_pyNext X hl (x := vs[i]) (by simp [hi]) fun h' X' => hQ _ h' s.toks (by simp [hi]) X'
  · intro s Q E g m news hl X hQ
    refine wpAny_pyNext_list_end hn ⟨_, X.get0, rfl, rfl⟩ (hl.at fun o e => X.keep _ o e) (by simp) fun h' he => hQ h' s.toks (X.ext he)
end
end
end Mine

namespace Mine
section
open PySem PySem.W PyProof.Rows PySem.Calls
theorem Fx.r22 {w : World} {g hE h : Heap} {env : Env} {outer : List Env} {m : Str → Option Value} {rest : List (Addr × Obj)} {a b c d : Addr × Obj} (X : Fx w g hE env outer m (a :: b :: c :: d :: rest) h) : Fx w g hE env outer m (c :: d :: a :: b :: rest) h :=
  X.perm ((List.perm_append_comm (l₁ := [c, d]) (l₂ := [a, b])).append_right rest)
theorem Fx.s34 {w : World} {g hE h : Heap} {env : Env} {outer : List Env} {m : Str → Option Value} {rest : List (Addr × Obj)} {a b c d : Addr × Obj} (X : Fx w g hE env outer m (a :: b :: c :: d :: rest) h) : Fx w g hE env outer m (a :: b :: d :: c :: rest) h :=
  X.perm (((List.Perm.swap c d rest).cons b).cons a)
section
variable {prog : Program} {w : World} {A : Around} {E : Value → Shared → Prop} {s : Shared} {g hE : Heap} {env : Env} {outer : List Env} {m : Str → Option Value} {news rest : List (Addr × Obj)}

theorem fx_fn1 {f : Addr} {fd : FuncData} {oc : Value} {od : Option Addr} {osl : Array (Option Value)} {fn : Str} {p pos : Pos} {e : Expr} {Q : Value → Shared → Prop}
    (ho : (KK w.params).lookup f = some ⟨oc, od, .func fd, osl⟩) (X : Fx w g hE env outer m news s.heap) (hv : mgK w.params fn = some (.ref f))
    (h : wpAny (model prog w) A (eval e env) (fun v s₂ => (∃ g₂ m₂ news₂, Fx w g₂ hE env outer m₂ news₂ s₂.heap) ∧ wpAny (model prog w) A (call (.ref f) [v]) Q E s₂) E s)
    (hx : env.kindOf fn = some .globalImplicit := by rfl) (hd : (fn == ("__debug__" : Str)) = false := by decide) (hs : backTo pos (starEach [e] env) = [(false, eval e env)] := by rfl) :
    wpAny (model prog w) A (eval (.Call (.Name fn p) [e] [] pos) env) Q E s := by
  refine Call_Name hs (fx_gl X hv ?_ hx hd)
  refine callWith_function (o := ⟨oc, od, .func fd, osl⟩) (fd := fd) (evalArgs_plain (spliced_cons (wpAny_mono h (fun v s₂ q => spliced_nil ?_) fun _ _ q => q)))
  obtain ⟨⟨g₂, m₂, news₂, X₂⟩, q⟩ := q
  exact ⟨⟨(X₂.gr.X.keeps X₂.keep) _ _ ho, rfl⟩, q⟩

theorem fx_fn2 {f : Addr} {fd : FuncData} {oc : Value} {od : Option Addr} {osl : Array (Option Value)} {fn : Str} {p pos : Pos} {e e2 : Expr} {Q : Value → Shared → Prop}
    (ho : (KK w.params).lookup f = some ⟨oc, od, .func fd, osl⟩) (X : Fx w g hE env outer m news s.heap) (hv : mgK w.params fn = some (.ref f))
    (h : wpAny (model prog w) A (eval e env) (fun v s₁ => wpAny (model prog w) A (eval e2 env) (fun v2 s₂ => (∃ g₂ m₂ news₂, Fx w g₂ hE env outer m₂ news₂ s₂.heap) ∧ wpAny (model prog w) A (call (.ref f) [v, v2]) Q E s₂) E s₁) E s)
    (hx : env.kindOf fn = some .globalImplicit := by rfl) (hd : (fn == ("__debug__" : Str)) = false := by decide) (hs : backTo pos (starEach [e, e2] env) = [(false, eval e env), (false, eval e2 env)] := by rfl) :
    wpAny (model prog w) A (eval (.Call (.Name fn p) [e, e2] [] pos) env) Q E s := by
  refine Call_Name hs (fx_gl X hv ?_ hx hd)
  refine callWith_function (o := ⟨oc, od, .func fd, osl⟩) (fd := fd) (evalArgs_plain (spliced_cons (wpAny_mono h (fun v s₁ q₁ => spliced_cons (wpAny_mono q₁ (fun v2 s₂ q => spliced_nil ?_) fun _ _ q => q)) fun _ _ q => q)))
  obtain ⟨⟨g₂, m₂, news₂, X₂⟩, q⟩ := q
  exact ⟨⟨(X₂.gr.X.keeps X₂.keep) _ _ ho, rfl⟩, q⟩

theorem fx_range1 {fn : Str} {p pos : Pos} {e : Expr} {Q : Value → Shared → Prop} (hfn : fn = "range") (X : Fx w g hE env outer m news s.heap)
    (h : wpAny (model prog w) A (eval e env) (fun v s₁ => ∃ n t g₁ m₁ news₁, v = .int n t ∧ n < 2 ^ 62 ∧ -(2 ^ 62) ≤ n ∧ Fx w g₁ hE env outer m₁ news₁ s₁.heap ∧
      ∀ r a b c h' tk, Fx w g₁ hE env outer m₁ news₁ h' → IsRange h' r 0 n 1 a b c → Q (.ref r) { s₁ with heap := h', toks := tk }) E s)
    (hx : env.kindOf fn = some .globalImplicit := by rfl) (hs : backTo pos (starEach [e] env) = [(false, eval e env)] := by rfl) :
    wpAny (model prog w) A (eval (.Call (.Name fn p) [e] [] pos) env) Q E s := by
  subst hfn
  refine Call_Name hs (fx_bl X (by rfl) PyProof.Rows.Boot.«range» ?_ (by decide +kernel) hx)
  refine _root_.PySem.callWith_type1 (wpAny_mono h (fun v s₁ q => ?_) fun _ _ q => q)
  obtain ⟨n, t, g₁, m₁, news₁, rfl, _, _, X₁, k⟩ := q
  refine call_range_1 (k _ _ _ _ _ _ (X₁.push _).tail (IsRange.new ..))

theorem fx_range2 {fn : Str} {p pos : Pos} {e e2 : Expr} {Q : Value → Shared → Prop} (hfn : fn = "range") (X : Fx w g hE env outer m news s.heap)
    (h : wpAny (model prog w) A (eval e env) (fun v s₀ => ∃ a₀ t₀, v = .int a₀ t₀ ∧ wpAny (model prog w) A (eval e2 env) (fun v s₁ => ∃ n t g₁ m₁ news₁, v = .int n t ∧ Fx w g₁ hE env outer m₁ news₁ s₁.heap ∧
      ∀ r a b c h' tk, Fx w g₁ hE env outer m₁ news₁ h' → IsRange h' r a₀ n 1 a b c → Q (.ref r) { s₁ with heap := h', toks := tk }) E s₀) E s)
    (hx : env.kindOf fn = some .globalImplicit := by rfl) (hs : backTo pos (starEach [e, e2] env) = [(false, eval e env), (false, eval e2 env)] := by rfl) :
    wpAny (model prog w) A (eval (.Call (.Name fn p) [e, e2] [] pos) env) Q E s := by
  subst hfn
  refine Call_Name hs (fx_bl X (by rfl) PyProof.Rows.Boot.«range» ?_ (by decide +kernel) hx)
  refine _root_.PySem.callWith_type rfl (Calls.evalArgs_plain (Calls.spliced_cons (wpAny_mono h (fun v s₀ q => ?_) fun _ _ q => q)))
  obtain ⟨a₀, t₀, rfl, q⟩ := q
  refine Calls.spliced_cons (wpAny_mono q (fun v s₁ q => Calls.spliced_nil ?_) fun _ _ q => q)
  obtain ⟨n, t, g₁, m₁, news₁, rfl, X₁, k⟩ := q
  refine call_range_2 (k _ _ _ _ _ _ (X₁.push _).tail (IsRange.new ..))

theorem fx_iterRange {r : Addr} {a n : Int} {t u v : Tok} {Q : Value → Shared → Prop} (X : Fx w g hE env outer m news s.heap) (hr : IsRange s.heap r a n 1 t u v) (h1 : -(2 ^ 62) ≤ a) (h2 : a < 2 ^ 62) (h3 : -(2 ^ 62) ≤ n) (h4 : n < 2 ^ 62)
    (h : ∀ I h', Fx w g hE env outer m ((I, rit a ((n - a).toNat : Int)) :: news) h' → Q (.ref I) { s with heap := h' }) : wpAny (model prog w) A (pyIter (.ref r)) Q E s := by
  refine wpAny_pyIter_range hr (small_one h1 h2 h3 h4) (h _ _ ?_)
  have e : (((n - a).toNat : Nat) : Int) = Builtin.Range.rangeSize a n 1 := by rw [rangeSize_one]; split <;> omega
  rw [e]
  exact X.push _
theorem fx_iterList {l : Addr} {vs : List Value} {Q : Value → Shared → Prop} (X : Fx w g hE env outer m news s.heap) (hl : s.heap.IsList l vs.toArray)
    (h : ∀ I h', Fx w g hE env outer m ((I, ito l 0) :: news) h' → Q (.ref I) { s with heap := h' }) : wpAny (model prog w) A (pyIter (.ref l)) Q E s :=
  wpAny_pyIter_list hl (h _ _ (X.push _))
end
end
end Mine

namespace Mine
section
open PySem PySem.W PyProof.Rows PySem.Calls
/-- so many branches -/
def kids (f : List Int → Option (PyData × List Int) × List Int) : Nat → List Int → List PyData → List Int → Option (PyData × List Int) × List Int
  | 0, r, acc, log => (some (.list acc, r), log)
  | k + 1, r, acc, log => match f r with
    | (none, lg) => (none, log ++ lg)
    | (some (t, r'), lg) => kids f k r' (acc ++ [t]) (log ++ lg)

/-- a tree read from octets, the numbers read on the way -/
def tr : Nat → List Int → Option (PyData × List Int) × List Int
  | 0, _ => (none, [])
  | n + 1, l => match pgo 0 l with
    | none => (none, [])
    | some (v, r) => kids (tr n) (v % 3).toNat r [.int v] [v]

theorem kids_len {f : List Int → Option (PyData × List Int) × List Int} (hf : ∀ l t r lg, f l = (some (t, r), lg) → lg.length + r.length ≤ l.length) :
    ∀ k l acc log t r lg, kids f k l acc log = (some (t, r), lg) → lg.length + r.length ≤ log.length + l.length
  | 0, l, acc, log, t, r, lg, h => by
    simp only [kids, Prod.mk.injEq, Option.some.injEq] at h
    obtain ⟨⟨_, rfl⟩, rfl⟩ := h
    exact Nat.le_refl _
  | k + 1, l, acc, log, t, r, lg, h => by
    rw [kids] at h
    split at h
    · cases h
    · rename_i t' r' lg' e
      have h1 := hf _ _ _ _ e
      have h2 := kids_len hf k _ _ _ _ _ _ h
      rw [List.length_append] at h2
      omega
theorem tr_len : ∀ n l t r lg, tr n l = (some (t, r), lg) → lg.length + r.length ≤ l.length
  | 0, _, _, _, _, h => by cases h
  | n + 1, l, t, r, lg, h => by
    rw [tr] at h
    split at h
    · cases h
    · rename_i v r' e
      have h1 := pgo_len e
      have h2 := kids_len (tr_len n) _ _ _ _ _ _ _ h
      simp only [List.length_cons, List.length_nil] at h2
      omega

theorem pgo_suffix : ∀ {val : Int} {l : List Int} {v : Int} {r : List Int}, pgo val l = some (v, r) → ∃ pre, l = pre ++ r
  | _, [], _, _, h => by cases h
  | val, b :: t, v, r, h => by
    unfold pgo at h
    split at h
    · cases h; exact ⟨[b], rfl⟩
    · obtain ⟨pre, e⟩ := pgo_suffix h
      exact ⟨b :: pre, by rw [e]; rfl⟩

theorem suffix_drop {ns : List Int} {i : Nat} {pre r : List Int} (h : ns.drop i = pre ++ r) (hi : i ≤ ns.length) : ns.drop (ns.length - r.length) = r := by
  have h1 : ns = (ns.take i ++ pre) ++ r := by rw [List.append_assoc, ← h, List.take_append_drop]
  have h2 : (ns.take i ++ pre).length = ns.length - r.length := by
    have := congrArg List.length h1
    rw [List.length_append] at this
    omega
  rw [← h2]
  have h3 : (ns.take i ++ pre ++ r).drop (ns.take i ++ pre).length = r := List.drop_left' rfl
  rwa [← h1] at h3
theorem kids_suffix {f : List Int → Option (PyData × List Int) × List Int} (hf : ∀ l t r lg, f l = (some (t, r), lg) → ∃ pre, l = pre ++ r) :
    ∀ k l acc log t r lg, kids f k l acc log = (some (t, r), lg) → ∃ pre, l = pre ++ r
  | 0, l, acc, log, t, r, lg, h => by
    simp only [kids, Prod.mk.injEq, Option.some.injEq] at h
    obtain ⟨⟨_, rfl⟩, rfl⟩ := h
    exact ⟨[], rfl⟩
  | k + 1, l, acc, log, t, r, lg, h => by
    rw [kids] at h
    split at h
    · cases h
    · rename_i t' r' lg' e
      obtain ⟨p1, h1⟩ := hf _ _ _ _ e
      obtain ⟨p2, h2⟩ := kids_suffix hf k _ _ _ _ _ _ h
      exact ⟨p1 ++ p2, by rw [h1, h2, List.append_assoc]⟩
theorem tr_suf : ∀ n l t r lg, tr n l = (some (t, r), lg) → ∃ pre, l = pre ++ r
  | 0, _, _, _, _, h => by cases h
  | n + 1, l, t, r, lg, h => by
    rw [tr] at h
    split at h
    · cases h
    · rename_i v r' e
      obtain ⟨p1, h1⟩ := pgo_suffix e
      obtain ⟨p2, h2⟩ := kids_suffix (tr_suf n) _ _ _ _ _ _ _ h
      exact ⟨p1 ++ p2, by rw [h1, h2, List.append_assoc]⟩
theorem tr_suffix {n : Nat} {ns : List Int} {j : Nat} {t : PyData} {r lg : List Int} (h : tr n (ns.drop j) = (some (t, r), lg)) (hj : j ≤ ns.length) : ns.drop (ns.length - r.length) = r := by
  obtain ⟨p, hp⟩ := tr_suf _ _ _ _ _ h
  exact suffix_drop hp hj

mutual
theorem Reads.stays {h h' : Heap} (k : h.StaysIn h') : ∀ {v : Value} {d : PyData} {as : List Addr}, Reads h v d as → Reads h' v d as
  | _, _, _, .none => .none
  | _, _, _, .bool b => .bool b
  | _, _, _, .int i t => .int i t
  | _, _, _, .str x t => .str x t
  | _, _, _, .list ho hc hd r => .list (k _ _ ho) hc hd (ReadsAll.stays k r)
  | _, _, _, .tuple ho hc hd r => .tuple (k _ _ ho) hc hd (ReadsAll.stays k r)
  | _, _, _, .dict ho hc hd r q => .dict (k _ _ ho) hc hd (ReadsAll.stays k r) (ReadsAll.stays k q)
theorem ReadsAll.stays {h h' : Heap} (k : h.StaysIn h') : ∀ {vs : List Value} {ds : List PyData} {as : List Addr}, ReadsAll h vs ds as → ReadsAll h' vs ds as
  | _, _, _, .nil => .nil
  | _, _, _, .cons r q => .cons (Reads.stays k r) (ReadsAll.stays k q)
end
theorem ReadsAll.snoc {h : Heap} {v : Value} {d : PyData} {bs : List Addr} (r : Reads h v d bs) : ∀ {vs : List Value} {ds : List PyData} {as : List Addr}, ReadsAll h vs ds as → ∃ cs, ReadsAll h (vs ++ [v]) (ds ++ [d]) cs
  | _, _, _, .nil => ⟨_, .cons r .nil⟩
  | _, _, _, .cons p q => let ⟨cs, y⟩ := ReadsAll.snoc r q; ⟨_, .cons p y⟩

section
variable {prog : Program} {w : World}

/-- what a call of the tree reader does, the fuel at hand -/
def TreeDoes (prog : Program) (w : World) (n : Nat) : Prop :=
  ∀ (A : Around) (E : Value → Shared → Prop) (s : Shared) (g hE : Heap) (env : Env) (outer : List Env) (m : Str → Option Value) (rest : List (Addr × Obj)) (it tp lg : Addr) (i ln : Nat) (vs lvs : List Value) (ns lns : List Int) (Q : Value → Shared → Prop),
    Fx w g hE env outer m ((it, ito tp i) :: (lg, lo lvs ln) :: rest) s.heap → A.frames = some (env :: outer) → A.handled = none → A.depth + n + 2 < recursionLimit →
    g.IsList tp vs.toArray → IntsAre vs ns → ns.length ≤ 10000 → (∀ n ∈ ns, 0 ≤ n) → IntsAre lvs lns → lns.length + (ns.drop i).length ≤ 20000 → (ns.drop i).length < n →
    (∀ t r log', tr n (ns.drop i) = (some (t, r), log') → ∀ v g' h' tk lvs' ln' as, g.StaysIn g' → Fx w g' hE env outer m ((it, ito tp (ns.length - r.length)) :: (lg, lo lvs' ln') :: rest) h' → IntsAre lvs' (lns ++ log') → Reads g' v t as →
      Q v { s with heap := h', toks := tk }) →
    (∀ log', tr n (ns.drop i) = (none, log') → ∀ e g' h' tk lvs' ln', g.StaysIn g' → Fly "StopIteration" w g' hE env outer m ((lg, lo lvs' ln') :: rest) e h' → IntsAre lvs' (lns ++ log') → E (.ref e) { s with heap := h', toks := tk }) →
    wpAny (model prog w) A (call (.ref 42) [.ref it, .ref lg]) Q E s

set_option maxHeartbeats 4000000 in
theorem tree_step (n : Nat) (IH : TreeDoes prog w n) : TreeDoes prog w (n + 1) := by
  intro A E s g hE env outer m rest it tp lg i ln vs lvs ns lns Q X hA hn hd ht hi hlen hpos hli hll hfu ok stop
  refine fx_enter (fd := fdAt w.params 42) (body := bodyOf (fdAt w.params 42)) (binds := [("walk", .ref it), ("log", .ref lg)]) X hA (by omega) rfl (by rfl) (by rfl) (by rfl) (by rfl) (by rfl) fun g₁ h₁ st X₁ => ?_
  have hA₁ : (A.deeper (callEnv (fdAt w.params 42) s.heap.objs.size 42)).frames = some (callEnv (fdAt w.params 42) s.heap.objs.size 42 :: env :: outer) := Around.frames_deeper hA
  have hd₁ : (A.deeper (callEnv (fdAt w.params 42) s.heap.objs.size 42)).depth = A.depth + 1 := rfl
  have ht₁ : g₁.IsList tp vs.toArray := ht.at fun o e => st _ o e
  refine wpAny_execs_cons (wpAny_Assign_Name (fx_fn1 (f := 21) rfl X₁ (by rfl) (fx_ld X₁ (by rfl) ⟨⟨_, _, _, X₁⟩, ?_⟩)))
  refine parse_spec X₁ hA₁ hn (by omega) ht₁ hi hlen hpos (fun v r hp g₂ h₂ tk t st₂ X₂ => ?_) (fun hp g₂ e h₂ tk st₂ F => ?_)
  · have hv0 : 0 ≤ v := pgo_nonneg (Int.le_refl 0) hp
    have hrl := pgo_len hp
    have htr : tr (n + 1) (ns.drop i) = kids (tr n) (v % 3).toNat r [.int v] [v] := by rw [tr, hp]
    have hil0 : i ≤ ns.length := by
      rcases Nat.lt_or_ge ns.length i with q | q
      · rw [List.drop_eq_nil_of_le (Nat.le_of_lt q)] at hrl; exact absurd hrl (Nat.not_lt_zero _)
      · exact q
    have hrd : ns.drop (ns.length - r.length) = r := by
      obtain ⟨pre, hpre⟩ := pgo_suffix hp
      exact suffix_drop hpre hil0
    have hi1 := congrArg List.length hrd
    rw [List.length_drop] at hi1
    have hrN : r.length ≤ ns.length := by omega
    refine fx_st X₂ fun h₃ X₃ => ?_
    refine wpAny_execs_cons (wpAny_Expr_none (fx_append (fx_ld X₃ (by ktn_open) ⟨lg, _, _, rfl, X₃.sw.get0, fx_ld X₃ (by ktn_open) ⟨_, _, _, _, _, ?_, X₃.sw, fun h₄ X₄ => ⟨rfl, ?_⟩⟩⟩)))
    · rw [sizeLine_eq, hli.length]; omega
    refine wpAny_execs_cons (wpAny_Assign_Name (fx_List (wpAny_items_cons (fx_ld X₄ (by ktn_open) (wpAny_items_nil ⟨by show 1 ≤ _; rw [sizeLine_eq]; decide, _, _, _, X₄.sw, fun ta h₅ X₅ => fx_st X₅ fun h₆ X₆ => ?_⟩)))))
    refine wpAny_execs_cons (wpAny_For (fx_range1 rfl X₆ (wpAny_BinOp (fx_ld X₆ (by ktn_open) (wpAny_Constant_int (mod_int' (by decide) ⟨_, _, _, _, _, rfl, ?_, ?_, X₆, fun ra tc1 tc2 tc3 h₇ tk₇ X₇ hr => ?_⟩))))))
    · rw [Int.fmod_eq_emod_of_nonneg _ (by decide)]; omega
    · rw [Int.fmod_eq_emod_of_nonneg _ (by decide)]; omega
    refine fx_iterRange X₇ hr (by decide) (by decide) (by rw [Int.fmod_eq_emod_of_nonneg _ (by decide)]; omega) (by rw [Int.fmod_eq_emod_of_nonneg _ (by decide)]; omega) fun I h₈ X₈ => ?_
    have eK : (v.fmod 3 - 0).toNat = (v % 3).toNat := by rw [Int.fmod_eq_emod_of_nonneg _ (by decide), Int.sub_zero]
    rw [eK] at X₈
    generalize hK : (v % 3).toNat = K at X₈ htr
    dsimp only
    refine fx_rangeLoop (fun k g' m' news' => ∃ tvs tn acc j lvs' ln' lg' as, news' = (ta, lo tvs tn) :: (it, ito tp j) :: (lg, lo lvs' ln') :: rest ∧ m' "walk" = some (.ref it) ∧ m' "log" = some (.ref lg) ∧ m' "tree" = some (.ref ta) ∧
      IntsAre lvs' (lns ++ lg') ∧ ReadsAll g' tvs acc as ∧ j ≤ ns.length ∧ tvs.length = k + 1 ∧ (lns ++ lg').length + (ns.drop j).length ≤ 20000 ∧ (ns.drop j).length < n ∧ tr (n + 1) (ns.drop i) = kids (tr n) (K - k) (ns.drop j) acc lg') X₈ hn (by rfl)
      ⟨[.int v t], 0, [.int v], ns.length - r.length, _, _, [v], _, rfl, by ktn_open, by ktn_open, by ktn_open, hli.append (.cons v t .nil), .cons (.int v t) .nil, by omega, rfl, ?_, ?_, ?_⟩ ?_ ?_
    · rw [hrd]; simp only [List.length_append, List.length_cons, List.length_nil]; omega
    · rw [hrd]; omega
    · rw [hrd, htr]; rfl
    · rintro k g₃ m₃ _ h₉ tk₉ tt hk ⟨tvs, tn, acc, j, lvs', ln', lg', as, rfl, hm1, hm2, hm3, hil, hra, hj, htl, hll', hfu', hrel⟩ st₃ X₉
      have ht₃ : g₃.IsList tp vs.toArray := (ht₁.at fun o e => st₂ _ o e).at fun o e => st₃ _ o e
      refine wpAny_execs_cons (wpAny_Expr_none (fx_append (w := w) (hE := s.heap) (outer := env :: outer) (fx_ld X₉ (by ktn_open) ⟨ta, _, _, rfl, X₉.sw.get0, fx_fn2 (f := 42) rfl X₉ (by rfl) (fx_ld X₉ (by ktn_open) (fx_ld X₉ (by ktn_open) ⟨⟨_, _, _, X₉⟩, ?_⟩))⟩)))
      refine IH _ _ _ g₃ s.heap _ _ _ _ it tp lg j ln' vs lvs' ns (lns ++ lg') _ X₉.r22 hA₁ hn (by omega) ht₃ hi hlen hpos hil hll' hfu' (fun t' r' log' htr' v' g₄ h' tk' lvs₂ ln₂ as₂ st₄ X' hil₂ hrd₂ => ?_) (fun log' htr' e g₄ h' tk' lvs₂ ln₂ st₄ F hil₂ => ?_)
      · have hlen' := tr_len _ _ _ _ _ htr'
        have hrs := tr_suffix htr' hj
        refine ⟨tvs, tn, g₄, _, _, ?_, X'.r22.sw, fun h'' X'' => ⟨rfl, wpAny_execs_nil ⟨g₄, _, _, h'', _, rfl, st₄, X''.sw, ?_⟩⟩⟩
        · rw [sizeLine_eq]; omega
        obtain ⟨cs, hcs⟩ := ReadsAll.snoc hrd₂ (ReadsAll.stays st₄ hra)
        refine ⟨_, _, acc ++ [t'], ns.length - r'.length, lvs₂, ln₂, lg' ++ log', cs, rfl, by ktn_open, by ktn_open, by ktn_open, by rw [← List.append_assoc]; exact hil₂, hcs, by omega, by simp [htl], ?_, ?_, ?_⟩
        · rw [hrs]; simp only [List.length_append] at *; omega
        · rw [hrs]; omega
        · rw [hrs, hrel, show K - k = (K - (k + 1)) + 1 by omega, kids, htr']
      · refine fly_note hA₁ F fun h₆ Hd => held_back Hd fun h₇ Hd' => ?_
        refine held_leave X Hd' (news'' := (lg, lo lvs₂ ln₂) :: rest) (fun p hp => ?_) X.tail.dj fun h' F' => ?_
        · rcases List.mem_cons.mp hp with rfl | hp
          · exact .head _
          · exact .tail _ (.tail _ (.tail _ hp))
        refine stop (lg' ++ log') ?_ _ _ _ _ _ _ (stays_trans (stays_trans (stays_trans st st₂) st₃) st₄) F' (by rw [← List.append_assoc]; exact hil₂)
        rw [hrel, show K - k = (K - (k + 1)) + 1 by omega, kids, htr']
    · rintro g₃ m₃ _ h₉ tk₉ ⟨tvs, tn, acc, j, lvs', ln', lg', as, rfl, hm1, hm2, hm3, hil, hra, hj, htl, hll', hfu', hrel⟩ st₃ X₉
      rw [Nat.sub_self, kids] at hrel
      refine wpAny_execs_cons (wpAny_Return_some (fx_ld X₉ hm3 ?_))
      obtain ⟨g₄, st₄, X', hta⟩ := X₉.fz0
      refine ok _ _ _ hrel _ g₄ h₉ tk₉ lvs' ln' (ta :: as) (stays_trans (stays_trans (stays_trans st st₂) st₃) st₄) ?_ hil (.list hta rfl rfl (by simpa using ReadsAll.stays st₄ hra))
      have ej : ns.length - (ns.drop j).length = j := by rw [List.length_drop]; omega
      rw [ej]
      exact X.ret X' (fun p hp => hp) X'.dj
  · refine fly_leave hA₁ X F (fun p hp => hp) X.tail.dj fun h' F' => ?_
    have e0 : tr (n + 1) (ns.drop i) = (none, []) := by rw [tr, hp]
    exact stop [] e0 _ _ _ _ _ _ (stays_trans st st₂) F' (by simpa using hli)
end
end
end Mine

namespace Mine
section
open PySem PySem.W PyProof.Rows PySem.Calls
abbrev tu (its : List Value) : Obj := { cls := .type "tuple", dict := none, data := .seq its.toArray, slots := #[] }

section
variable {prog : Program} {w : World} {A : Around} {E : Value → Shared → Prop} {s : Shared} {g hE : Heap} {env : Env} {outer : List Env} {m : Str → Option Value} {news rest : List (Addr × Obj)}

theorem tree_spec : ∀ n, TreeDoes prog w n
  | 0 => fun _ _ _ _ _ _ _ _ _ _ _ _ _ _ _ _ _ _ _ _ _ _ _ _ _ _ _ _ _ hfu _ _ => absurd hfu (Nat.not_lt_zero _)
  | n + 1 => tree_step n (tree_spec n)

theorem fx_Tuple {elts : List Expr} {k : Nat} {pos : Pos} {Q : Value → Shared → Prop}
    (h : wpAny (model prog w) A (spliced (backTo pos (starEach elts env))) (fun vs s₁ => vs.length ≤ sizeLine ∧ ∃ g₁ m₁ news₁, Fx w g₁ hE env outer m₁ news₁ s₁.heap ∧
      ∀ a h', Fx w g₁ hE env outer m₁ ((a, tu vs) :: news₁) h' → Q (.ref a) { s₁ with heap := h' }) E s) :
    wpAny (model prog w) A (eval (.Tuple elts k pos) env) Q E s := by
  refine wpAny_Tuple (wpAny_mono h (fun vs s₁ h₁ => ?_) fun _ _ e => e)
  obtain ⟨hz, g₁, m₁, news₁, X, k⟩ := h₁
  exact ⟨hz, k _ _ (X.push _)⟩

theorem fx_iter {l : Addr} {vs : List Value} {Q : Value → Shared → Prop} (X : Fx w g hE env outer m news s.heap) (hl : s.heap.IsList l vs.toArray)
    (h : ∀ I h', Fx w g hE env outer m ((I, ito l 0) :: news) h' → Q (.ref I) { s with heap := h' }) : wpAny (model prog w) A (call (.builtin "iter") [.ref l]) Q E s := by
  refine call_function_entry (by decide +kernel) (by decide +kernel) PySem.W.kdk_entry_iter (PySem.W.kdk_args_iter _) ?_
  unfold Builtin.«iter»
  refine wpAny_bind (m := someArgs "iter" 1 2 _) (wpAny_of_eq (a := [Value.ref l]) (by first | rfl | kernel_rfl!) ?_)
  show wpAny _ _ (pyIter (.ref l) >>= _) _ _ _
  exact wpAny_bind (fx_iterList X hl fun I h' X' => wpAny_pure ⟨_, rfl, h I h' X'⟩)

theorem fx_len {l : Addr} {vs : List Value} {Q : Value → Shared → Prop} (hl : s.heap.IsList l vs.toArray) (hz : vs.length ≤ sizeLine)
    (h : ∀ t tk, Q (.int vs.length t) { s with toks := tk }) : wpAny (model prog w) A (call (.builtin "len") [.ref l]) Q E s := by
  refine call_len_list hl ?_ ?_
  · rw [sizeLine_eq] at hz; simp only [List.size_toArray]; omega
  · have := h (s.toks + 1) (s.toks + 1 + 1)
    simpa only [List.size_toArray] using this

variable {cls : String} {e : Addr}
theorem fx_handle {x : Str} {T : String} {np pos : Pos} {b₀ : Stmt} {suite : List Stmt} {hs : List ExceptHandler} {Q : Flow → Shared → Prop} (F : Fly cls w g hE env outer m news e s.heap)
    (hmiss : mgK w.params x = none) (hv : bootBuiltins x = some (.type T)) (hexc : isSubtype (.type T) (.type "BaseException") = pure true)
    (hnt : isSubtype (.type ((Manifest.find? T).elim "type" fun x => x.metatype)) (.type "tuple") = pure false) (hsub : isSubtype (.type cls) (.type T) = pure true)
    (h : ∀ h', Fx w g hE env outer m news h' → wpAny (model prog w) (A.mark (some (.ref e))) (execs (b₀ :: suite) env) Q (notedBy (model prog w) (A.mark (some (.ref e))) env (cameBackBy (model prog w) A env E)) { s with heap := h' })
    (hn : x ≠ "__name__" := by decide +kernel) (hx : env.kindOf x = some .globalImplicit := by rfl) (hd : (x == ("__debug__" : Str)) = false := by decide) :
    wpAny (model prog w) A (handleBy (.ref e) env (.ExceptHandler (some (.Name x np)) none (b₀ :: suite) pos :: hs)) Q E s := by
  refine wpAny_handleBy_builtin (X := cls) (T := T) (b := true) hexc hnt hsub (fx_bl F.X hmiss hv ⟨rfl, ?_, ?_⟩ hn hx hd)
  · obtain ⟨B, a0, fl, _⟩ := F.fl
    obtain ⟨ob, h1, h2⟩ := fl.there
    exact ⟨ob, h1, h2⟩
  · exact fly_land F fun h' F' => h h' F'.X

theorem catch_fly {x : Str} {T : String} {np pos : Pos} {b₀ : Stmt} {suite : List Stmt} {hs : List ExceptHandler} {Q : Flow → Shared → Prop} (hA : A.frames = some (env :: outer)) (F : Fly cls w g hE env outer m news e s.heap)
    (hmiss : mgK w.params x = none) (hv : bootBuiltins x = some (.type T)) (hexc : isSubtype (.type T) (.type "BaseException") = pure true)
    (hnt : isSubtype (.type ((Manifest.find? T).elim "type" fun x => x.metatype)) (.type "tuple") = pure false) (hsub : isSubtype (.type cls) (.type T) = pure true)
    (h : ∀ h', Fx w g hE env outer m news h' → wpAny (model prog w) (A.mark (some (.ref e))) (execs (b₀ :: suite) env) Q (notedBy (model prog w) (A.mark (some (.ref e))) env (cameBackBy (model prog w) A env E)) { s with heap := h' })
    (hn : x ≠ "__name__" := by decide +kernel) (hx : env.kindOf x = some .globalImplicit := by rfl) (hd : (x == ("__debug__" : Str)) = false := by decide) :
    wpAny (model prog w) A (noteFrame (.ref e) env) (fun _ s₂ => wpAny (model prog w) A (setFlight (.ref e) none) (fun _ s₃ => wpAny (model prog w) A (handleBy (.ref e) env (.ExceptHandler (some (.Name x np)) none (b₀ :: suite) pos :: hs)) Q E s₃) E s₂) E s :=
  fly_note hA F fun _ Hd => held_land Hd fun _ F' => fx_handle F' hmiss hv hexc hnt hsub (fun h' X' => h h' X') hn hx hd
theorem catch_fresh {x : Str} {T : String} {np pos : Pos} {b₀ : Stmt} {suite : List Stmt} {hs : List ExceptHandler} {Q : Flow → Shared → Prop} (hA : A.frames = some (env :: outer)) (F : Fresh cls w g hE env outer m news e s.heap)
    (hmiss : mgK w.params x = none) (hv : bootBuiltins x = some (.type T)) (hexc : isSubtype (.type T) (.type "BaseException") = pure true)
    (hnt : isSubtype (.type ((Manifest.find? T).elim "type" fun x => x.metatype)) (.type "tuple") = pure false) (hsub : isSubtype (.type cls) (.type T) = pure true)
    (h : ∀ h', Fx w g hE env outer m news h' → wpAny (model prog w) (A.mark (some (.ref e))) (execs (b₀ :: suite) env) Q (notedBy (model prog w) (A.mark (some (.ref e))) env (cameBackBy (model prog w) A env E)) { s with heap := h' })
    (hn : x ≠ "__name__" := by decide +kernel) (hx : env.kindOf x = some .globalImplicit := by rfl) (hd : (x == ("__debug__" : Str)) = false := by decide) :
    wpAny (model prog w) A (noteFrame (.ref e) env) (fun _ s₂ => wpAny (model prog w) A (setFlight (.ref e) none) (fun _ s₃ => wpAny (model prog w) A (handleBy (.ref e) env (.ExceptHandler (some (.Name x np)) none (b₀ :: suite) pos :: hs)) Q E s₃) E s₂) E s :=
  fresh_note hA F fun _ Hd => held_land Hd fun _ F' => fx_handle F' hmiss hv hexc hnt hsub (fun h' X' => h h' X') hn hx hd

theorem stop_exc : isSubtype (.type "StopIteration") (.type "BaseException") = pure true := by rw [isSubtype_type]; kernel_rfl
theorem stop_nt : isSubtype (.type ((Manifest.find? "StopIteration").elim "type" fun x => x.metatype)) (.type "tuple") = pure false := by rw [isSubtype_type]; kernel_rfl
theorem value_exc : isSubtype (.type "ValueError") (.type "BaseException") = pure true := by rw [isSubtype_type]; kernel_rfl
theorem value_nt : isSubtype (.type ((Manifest.find? "ValueError").elim "type" fun x => x.metatype)) (.type "tuple") = pure false := by rw [isSubtype_type]; kernel_rfl
theorem value_sub : isSubtype (.type "ValueError") (.type "ValueError") = pure true := by rw [isSubtype_type]; kernel_rfl

end

/-- tree by tree, until the octets end; whether they end between two trees -/
def rd (n : Nat) : Nat → List Int → List PyData → List PyData × Bool
  | 0, _, acc => (acc, false)
  | k + 1, l, acc => match tr n l with
    | (none, lg) => (acc, lg.isEmpty)
    | (some (t, r), _) => rd n k r (acc ++ [t])

theorem kids_lenN {f : List Int → Option (PyData × List Int) × List Int} (hf : ∀ l t r lg, f l = (some (t, r), lg) → lg.length + r.length ≤ l.length) (hfN : ∀ l lg, f l = (none, lg) → lg.length ≤ l.length) :
    ∀ k l acc log lg, kids f k l acc log = (none, lg) → lg.length ≤ log.length + l.length
  | 0, l, acc, log, lg, h => by
    simp only [kids, Prod.mk.injEq] at h
    cases h.1
  | k + 1, l, acc, log, lg, h => by
    rw [kids] at h
    split at h
    · rename_i lg' e
      have := hfN _ _ e
      simp only [Prod.mk.injEq, true_and] at h
      subst h
      rw [List.length_append]
      omega
    · rename_i t' r' lg' e
      have h1 := hf _ _ _ _ e
      have h2 := kids_lenN hf hfN k _ _ _ _ h
      rw [List.length_append] at h2
      omega
theorem tr_lenN : ∀ n l lg, tr n l = (none, lg) → lg.length ≤ l.length
  | 0, l, lg, h => by cases h; exact Nat.zero_le _
  | n + 1, l, lg, h => by
    rw [tr] at h
    split at h
    · cases h; exact Nat.zero_le _
    · rename_i v r' e
      have h1 := pgo_len e
      have h2 := kids_lenN (tr_len n) (tr_lenN n) _ _ _ _ _ h
      simp only [List.length_cons, List.length_nil] at h2
      omega

theorem tr_short {n : Nat} {l : List Int} {t : PyData} {r lg : List Int} (h : tr n l = (some (t, r), lg)) : r.length < l.length := by
  cases n with
  | zero => cases h
  | succ n =>
    rw [tr] at h
    split at h
    · cases h
    · rename_i v r' e
      have h1 := pgo_len e
      obtain ⟨p, hp⟩ := kids_suffix (tr_suf n) _ _ _ _ _ _ _ h
      have := congrArg List.length hp
      rw [List.length_append] at this
      omega

section
variable {prog : Program} {w : World} {A : Around} {E : Value → Shared → Prop} {s : Shared} {g hE : Heap} {env : Env} {outer : List Env} {m : Str → Option Value} {news rest : List (Addr × Obj)}
set_option maxHeartbeats 4000000 in
theorem read_spec {tp : Addr} {vs : List Value} {ns : List Int} {Q : Value → Shared → Prop} (X : Fx w g hE env outer m rest s.heap) (hA : A.frames = some (env :: outer)) (hn : A.handled = none)
    (hd : A.depth + 410 < recursionLimit) (ht : g.IsList tp vs.toArray) (hi : IntsAre vs ns) (hlen : ns.length ≤ 400) (hpos : ∀ n ∈ ns, 0 ≤ n)
    (ok : ∀ v g' h' tk as, g.StaysIn g' → Fx w g' hE env outer m rest h' → Reads g' v (.tuple [.list (rd (ns.length + 1) (ns.length + 1) ns []).1, .bool (rd (ns.length + 1) (ns.length + 1) ns []).2]) as → Q v { s with heap := h', toks := tk }) :
    wpAny (model prog w) A (call (.ref 49) [.ref tp]) Q E s := by
  refine fx_enter (fd := fdAt w.params 49) (body := bodyOf (fdAt w.params 49)) (binds := [("tape", .ref tp)]) X hA (by omega) rfl (by rfl) (by rfl) (by rfl) (by rfl) (by rfl) fun g₁ h₁ st X₁ => ?_
  have hA₁ : (A.deeper (callEnv (fdAt w.params 49) s.heap.objs.size 49)).frames = some (callEnv (fdAt w.params 49) s.heap.objs.size 49 :: env :: outer) := Around.frames_deeper hA
  have hd₁ : (A.deeper (callEnv (fdAt w.params 49) s.heap.objs.size 49)).depth = A.depth + 1 := rfl
  have ht₁ : g₁.IsList tp vs.toArray := ht.at fun o e => st _ o e
  have hvl := hi.length
  generalize hRD : rd (ns.length + 1) (ns.length + 1) ns [] = RD at ok
  refine wpAny_execs_cons (wpAny_Assign_Name (fx_builtin1 (id := "iter") (fx_bl X₁ (by rfl) PyProof.Rows.Boot.«iter» ⟨rfl, fx_ld X₁ (by rfl) (fx_iter X₁ (ht₁.at fun o e => X₁.keep _ o e) fun it h₂ X₂ => fx_st X₂ fun h₃ X₃ => ?_)⟩)))
  refine wpAny_execs_cons (wpAny_Assign_Name (fx_List (wpAny_items_nil ⟨Nat.zero_le _, _, _, _, X₃, fun lg h₄ X₄ => fx_st X₄ fun h₅ X₅ => ?_⟩)))
  refine wpAny_execs_cons (wpAny_Assign_Name (fx_List (wpAny_items_nil ⟨Nat.zero_le _, _, _, _, X₅, fun ts h₆ X₆ => fx_st X₆ fun h₇ X₇ => ?_⟩)))
  refine wpAny_execs_cons (wpAny_Assign_Name (wpAny_Constant_int (fx_st X₇ fun h₈ X₈ => ?_)))
  refine wpAny_execs_cons (wpAny_For (fx_range1 rfl X₈ (wpAny_BinOp (fx_builtin1 (id := "len") (fx_bl X₈ (by rfl) PyProof.Rows.Boot.«len» ⟨rfl, fx_ld X₈ (by ktn_open) (fx_len (ht₁.at fun o e => X₈.keep _ o e) (by rw [sizeLine_eq]; omega) fun t9 tk9 => wpAny_Constant_int (add_int ⟨_, _, _, _, _, rfl, ?_, ?_, X₈, fun ra tc1 tc2 tc3 h₉ tk₉ X₉ hr => ?_⟩))⟩)))))
  · rw [hvl]; omega
  · rw [hvl]; omega
  refine fx_iterRange X₉ hr (by decide) (by decide) (by rw [hvl]; omega) (by rw [hvl]; omega) fun I h₁₀ X₁₀ => ?_
  have eN : ((vs.length : Int) + 1 - 0).toNat = ns.length + 1 := by rw [hvl]; omega
  rw [eN] at X₁₀
  dsimp only
  refine fx_rangeLoop (fun k g' m' news' => ∃ tvs tn acc j lvs' ln' lg' as td, news' = (ts, lo tvs tn) :: (it, ito tp j) :: (lg, lo lvs' ln') :: rest ∧ m' "walk" = some (.ref it) ∧ m' "log" = some (.ref lg) ∧ m' "trees" = some (.ref ts) ∧
    m' "done" = some (.int (lvs'.length : Nat) td) ∧ IntsAre lvs' lg' ∧ ReadsAll g' tvs acc as ∧ j ≤ ns.length ∧ k ≤ j ∧ tvs.length ≤ k ∧ lg'.length + (ns.drop j).length ≤ ns.length ∧
    RD = rd (ns.length + 1) (ns.length + 1 - k) (ns.drop j) acc) X₁₀.s34 hn (by rfl)
    ⟨[], 0, [], 0, [], 0, [], _, _, rfl, by ktn_open, by ktn_open, by ktn_open, by ktn_open, .nil, .nil, Nat.zero_le _, Nat.le_refl _, Nat.le_refl _, by simp, hRD.symm⟩ ?_ ?_
  · rintro k g₃ m₃ _ h₉ tk₉ tt hk ⟨tvs, tn, acc, j, lvs', ln', lg', as, td, rfl, hm1, hm2, hm3, hm4, hil, hra, hj, hkj, htl, hll, hrel⟩ st₃ X₉
    have ht₃ : g₃.IsList tp vs.toArray := ht₁.at fun o e => st₃ _ o e
    have hjl : (ns.drop j).length ≤ ns.length := by rw [List.length_drop]; omega
    rw [show ns.length + 1 - k = (ns.length + 1 - (k + 1)) + 1 by omega, rd] at hrel
    refine wpAny_execs_cons (wpAny_Try_except (wpAny_execs_cons (wpAny_Expr_none (fx_append (w := w) (hE := s.heap) (outer := env :: outer) (fx_ld X₉ (by ktn_open) ⟨ts, _, _, rfl, X₉.sw.get0, fx_fn2 (f := 42) rfl X₉ (by rfl) (fx_ld X₉ (by ktn_open) (fx_ld X₉ (by ktn_open) ⟨⟨_, _, _, X₉⟩, ?_⟩))⟩)))))
    refine tree_spec (ns.length + 1) _ _ _ g₃ s.heap _ _ _ _ it tp lg j ln' vs lvs' ns lg' _ X₉.r22 hA₁ hn (by omega) ht₃ hi (by omega) hpos hil (by omega) (by omega) (fun t' r' log' htr' v' g₄ h' tk' lvs₂ ln₂ as₂ st₄ X' hil₂ hrd₂ => ?_) (fun log' htr' e g₄ h' tk' lvs₂ ln₂ st₄ F hil₂ => ?_)
    · have hlen' := tr_len _ _ _ _ _ htr'
      have hrs := tr_suffix htr' hj
      have hsh := tr_short htr'
      rw [htr'] at hrel
      refine ⟨tvs, tn, g₄, _, _, ?_, X'.r22.sw, fun h'' X'' => ⟨rfl, wpAny_execs_nil (wpAny_execs_nil ?_)⟩⟩
      · rw [sizeLine_eq]; omega
      refine wpAny_execs_cons (wpAny_Assign_Name (fx_builtin1 (id := "len") (fx_bl X'' (by rfl) PyProof.Rows.Boot.«len» ⟨rfl, fx_ld X'' (by ktn_open) (fx_len (lo_isList (X''.get (.tail _ (.tail _ (.tail _ (.head _)))))) ?_ fun t9 tk9 => fx_st X'' fun h₁₁ X₁₁ => ?_)⟩)))
      · rw [sizeLine_eq, hil₂.length, List.length_append]; omega
      refine wpAny_execs_nil ⟨g₄, _, _, h₁₁, _, rfl, st₄, X₁₁.sw, ?_⟩
      obtain ⟨cs, hcs⟩ := ReadsAll.snoc hrd₂ (ReadsAll.stays st₄ hra)
      have hjl2 : (ns.drop j).length = ns.length - j := List.length_drop ..
      refine ⟨_, _, acc ++ [t'], ns.length - r'.length, lvs₂, ln₂, lg' ++ log', cs, t9, rfl, by ktn_open, by ktn_open, by ktn_open, by ktn_open, hil₂, hcs, by omega, by omega, by simp; omega, ?_, ?_⟩
      · rw [hrs, List.length_append]; omega
      · rw [hrs]; exact hrel
    · rw [htr'] at hrel
      refine catch_fly hA₁ F (by rfl) PyProof.Rows.Boot.«StopIteration» stop_exc stop_nt isSubtype_stop fun h₁₁ X₁₁ => ?_
      refine wpAny_execs_cons (wpAny_Return_some (fx_Tuple (w := w) (hE := s.heap) (outer := env :: outer) (wpAny_items_cons (fx_ld X₁₁ (by ktn_open) (wpAny_items_cons (wpAny_Compare1 (fx_ld X₁₁ (by ktn_open) (fx_builtin1 (id := "len") (fx_bl X₁₁ (by rfl) PyProof.Rows.Boot.«len» ⟨rfl, fx_ld X₁₁ (by ktn_open) (fx_len (lo_isList (X₁₁.get (.head _))) ?_ fun t9 tk9 => P.eq_int (wpAny_items_nil ⟨by show 2 ≤ _; rw [sizeLine_eq]; decide, _, _, _, X₁₁, fun tup h₁₂ X₁₂ => ?_⟩))⟩)))))))))
      · have := tr_lenN _ _ _ htr'
        rw [sizeLine_eq, hil₂.length, List.length_append]; omega
      obtain ⟨g₅, st₅, X₁₃, e1⟩ := X₁₂.fz0
      obtain ⟨g₆, st₆, X₁₄, e2⟩ := X₁₃.tail.tail.fz0
      have st' : g.StaysIn g₆ := stays_trans (stays_trans (stays_trans (stays_trans st st₃) st₄) st₅) st₆
      have hb : ((lvs'.length : Int) == (lvs₂.length : Int)) = log'.isEmpty := by
        rw [hil.length, hil₂.length, List.length_append]
        cases log' with
        | nil => simp
        | cons a l => simp; omega
      have hrd : ∃ as, Reads g₆ (.ref tup) (.tuple [.list acc, .bool log'.isEmpty]) as := by
        rw [← hb]
        exact ⟨_, .tuple (st₆ _ _ e1) rfl rfl (.cons (.list e2 rfl rfl (by simpa using ReadsAll.stays st₆ (ReadsAll.stays st₅ (ReadsAll.stays st₄ hra)))) (.cons (.bool _) .nil))⟩
      obtain ⟨as', hrd⟩ := hrd
      subst hrel
      exact ok _ g₆ _ _ _ st' (X.ret X₁₄ (fun p hp => hp) X₁₄.dj) hrd
  · rintro g₃ m₃ _ h₉ tk₉ ⟨tvs, tn, acc, j, lvs', ln', lg', as, td, rfl, hm1, hm2, hm3, hm4, hil, hra, hj, hkj, htl, hll, hrel⟩ st₃ X₉
    omega
end
end
end Mine

namespace Mine
section
open PySem PySem.W PyProof.Rows PySem.Calls
section
open MeetsSeq SeqAt

/-- remove, by an equality that may hang on the heap: the item at j is the first that is equal, or there is none -/
theorem remAt_loop (l : Addr) (items : Array Value) (n : Nat) (x : Value) (e : Value → Bool) (j : Nat) (hj : j ≤ items.size) (hit : ∀ h : j < items.size, e items[j] = true) (hs1 : items.size ≤ sizeLine)
    (hno : ∀ m (hm : m < items.size), m < j → e items[m] = false) (k : Nat) :
    ∀ i : Nat, j - i = k → i ≤ j → Meets (Builtin.«list.remove.loop» ⟨[.ref l, x, rawInt i], []⟩)
      (fun A R s => s.heap.get? l = some { cls := .type "list", dict := none, data := .seq items n, slots := #[] } ∧ (∀ y, y ∈ items → EqAt A.in1 s y x (e y)) ∧
        (if j < items.size then R (.ok (.ret .none)) { s with heap := s.heap.update l (Obj.mapSeq fun xs => xs.eraseIdxIfInBounds j) } else raisesNew "ValueError" A R s)) := by
  induction k with
  | zero =>
    intro i hk hij prog w A R s h
    obtain ⟨hp, g, d, tk, os⟩ := s; obtain ⟨hl, he, h⟩ := h
    obtain rfl : i = j := by omega
    wp_walk using PySem.AutoSeq1.wpAny_loadPart' hl
    by_cases hlt : i < items.size
    · rw [if_pos hlt] at h
      have hi : items[((i : Nat) : Int).toNat]? = some items[i] := by simp [hlt]
      rw [hi]
      refine wpAny_bind ((he _ (Array.getElem_mem hlt)) prog w _ _ ?_)
      rw [hit hlt]
      have hz' : (items.eraseIdxIfInBounds i).size ≤ sizeLine + 1 := Nat.le_trans (size_erased items _) (Nat.le_succ_of_le hs1)
      wp_walk using (wpAny_updateSeq hl rfl (hz := hs1) (_hz' := hz')), PySem.AutoSeq1.wpAny_loadPart' hl
      simpa using h
    · rw [if_neg hlt] at h
      have hi : items[((i : Nat) : Int).toNat]? = none := by simp; omega
      rw [hi]
      wp_walk
      exact_raiseError plainExc_ValueError h.1 h.2
  | succ k ih =>
    intro i hk hij prog w A R s h
    obtain ⟨hp, g, d, tk, os⟩ := s; obtain ⟨hl, he, h⟩ := h
    have hlt : i < items.size := by omega
    wp_walk using PySem.AutoSeq1.wpAny_loadPart' hl
    have hi : items[((i : Nat) : Int).toNat]? = some items[i] := by simp [hlt]
    have hc : ((i : Int) + 1) = ((i + 1 : Nat) : Int) := by push_cast; rfl
    rw [hi]
    refine wpAny_bind ((he _ (Array.getElem_mem hlt)) prog w _ _ ?_)
    rw [hno i hlt (by omega)]
    wp_walk
    rw [hc]
    refine ⟨plainId_quiet plain_remove_loop _, codeAny_builtin entry_remove_loop ?_⟩
    rw [Around.under_plainId plain_remove_loop _]
    exact ih (i + 1) (by omega) (by omega) prog w A R _ ⟨hl, he, h⟩

theorem remAt (l : Addr) (items : Array Value) (n : Nat) (x : Value) (e : Value → Bool) (j : Nat) (hj : j ≤ items.size) (hit : ∀ h : j < items.size, e items[j] = true) (hs1 : items.size ≤ sizeLine)
    (hno : ∀ m (hm : m < items.size), m < j → e items[m] = false) : Meets (Builtin.«list.remove» ⟨[.ref l, x], []⟩)
      (fun A R s => s.heap.get? l = some { cls := .type "list", dict := none, data := .seq items n, slots := #[] } ∧ (∀ y, y ∈ items → EqAt A.in1 s y x (e y)) ∧
        (if j < items.size then R (.ok (.ret .none)) { s with heap := s.heap.update l (Obj.mapSeq fun xs => xs.eraseIdxIfInBounds j) } else raisesNew "ValueError" A R s)) := by
  intro prog w A R s h
  obtain ⟨hp, g, d, tk, os⟩ := s; obtain ⟨hl, he, h⟩ := h
  wp_walk using PySem.AutoSeq1.wpAny_loadPart' hl
  refine ⟨plainId_quiet plain_remove_loop _, codeAny_builtin entry_remove_loop ?_⟩
  rw [Around.under_plainId plain_remove_loop _]
  exact remAt_loop l items n x e j hj hit hs1 hno _ 0 rfl (Nat.zero_le _) prog w A R _ ⟨hl, he, h⟩
end

section
variable {prog : Program} {w : World} {A : Around} {E : Value → Shared → Prop} {s : Shared} {g hE : Heap} {env : Env} {outer : List Env} {m : Str → Option Value} {news rest : List (Addr × Obj)}

theorem Fx.raised {cls : String} {e : Addr} {h h' : Heap} (X : Fx w g hE env outer m news h) (x : Heap.NewExc h h' e cls) : Fresh cls w g hE env outer m news e h' := by
  obtain ⟨ob, t0, he, hc, hd⟩ := x.there
  refine ⟨X.to (X.ns.keeps x.keeps) (fun b o _ _ q => x.keeps b o q) (fun p hp => ⟨x.keeps _ _ (X.N p hp).1, (X.N p hp).2⟩) (fun p hp => .inl ⟨p, hp, rfl⟩) X.dj, ?_, ?_, ?_, ?_, ⟨ob, _, t0, he, hc, hd, rfl, rfl⟩⟩
  · rintro rfl
    obtain ⟨o, _, _, ho, _⟩ := X.ns
    rw [x.new] at ho; cases ho
  · intro hm
    obtain ⟨o, ho⟩ := X.frameIn hm
    rw [x.new] at ho; cases ho
  · rintro p hp rfl
    have := (X.N p hp).1
    rw [x.new] at this; cases this
  · cases q : g.get? e with
    | none => rfl
    | some o => have := X.keep _ _ q; rw [x.new] at this; cases this

/-- a method of a list, by its name -/
theorem fx_meth {o : Expr} {name : Str} {id : String} {apos pos : Pos} {args : List Expr} {Q : Value → Shared → Prop} (slot : Slot "list" name id) (hty : typeOf (.builtin id) = pure (.type "method_descriptor"))
    (h : wpAny (model prog w) A (eval o env) (fun ov s₀ => ∃ a its₀ n₀, ov = .ref a ∧ s₀.heap.get? a = some (lo its₀ n₀) ∧
      wpAny (model prog w) A (callWith pos (.builtin id) [.ref a] (backTo pos (starEach args env)) []) Q E s₀) E s)
    (hfew : ((backTo pos (starEach args env)).all (fun x => !x.1) && (backToKw pos (keywordEach [] env)).all (fun x => x.1.isSome)
      && decide (args.length + ([] : List Keyword).length + (if ([] : List Keyword).isEmpty then 0 else 1) < 30)) = true := by rfl)
    (hbase : attributeBase o name env (eval o env) = eval o env := by rfl)
    (hline : (apos.endLine == pos.line) = true := by rfl) :
    wpAny (model prog w) A (eval (.Call (.Attribute o name apos) args [] pos) env) Q E s := by
  refine wpAny_Call_method (T := "list") (id := id) hbase hfew hline PySem.F.plainAttrs_list slot hty (wpAny_mono h (fun ov s₀ h₀ => ?_) fun _ _ q => q)
  obtain ⟨a, its₀, n₀, rfl, ha, hq⟩ := h₀
  exact ⟨⟨_, ha, rfl⟩, fun b q => (by cases q; exact ⟨_, ha, rfl⟩), hq⟩

theorem fx_pop {a : Addr} {its : List Value} {y : Value} {n : Nat} {pos : Pos} {Q : Value → Shared → Prop} (X : Fx w g hE env outer m ((a, lo (its ++ [y]) n) :: rest) s.heap) (hz : its.length + 1 ≤ sizeLine)
    (h : ∀ h' n', Fx w g hE env outer m ((a, lo its n') :: rest) h' → Q y { s with heap := h' }) :
    wpAny (model prog w) A (callWith pos (.builtin "list.pop") [.ref a] [] []) Q E s := by
  refine P.pop_list (items := (its ++ [y]).toArray) (n := n) (y := y) X.get0 (by simp) (h _ _ (fx_listUpd X ?_)) (by simpa using hz)
  apply Array.toList_inj.mp
  simp [List.eraseIdx_append_of_length_le]

theorem fx_insert0 {a : Addr} {its : List Value} {n : Nat} {t : Tok} {v : Value} {Q : Value → Shared → Prop} (X : Fx w g hE env outer m ((a, lo its n) :: rest) s.heap) (hz : its.length ≤ sizeLine)
    (h : ∀ h' n', Fx w g hE env outer m ((a, lo (v :: its) n') :: rest) h' → Q .none { s with heap := h' }) :
    wpAny (model prog w) A (call (.builtin "list.insert") [.ref a, .int 0 t, v]) Q E s := by
  refine call_meets PySem.F.slot_list_insert ⟨_, X.get0, rfl⟩ PySem.F.entry_list_insert (PySem.F.args_list_insert_3 _ _ _) (AutoSeq1.list_insert_list_int_val_1 a its.toArray n 0 t v (by decide) (by simpa using hz)) ⟨X.get0, ?_⟩
  refine h _ _ (fx_listUpd X ?_)
  apply Array.toList_inj.mp
  simp

theorem fx_remove {a : Addr} {its : List Value} {x : Value} {n : Nat} (e : Value → Bool) (j : Nat) {Q : Value → Shared → Prop} (hn : A.handled = none) (X : Fx w g hE env outer m ((a, lo its n) :: rest) s.heap) (hz : its.length ≤ sizeLine)
    (he : ∀ y, y ∈ its → SeqAt.EqAt A.in1 s y x (e y)) (hj : j ≤ its.length) (hit : ∀ h : j < its.length, e its[j] = true) (hno : ∀ m (hm : m < its.length), m < j → e its[m] = false)
    (ok : j < its.length → ∀ h' n', Fx w g hE env outer m ((a, lo (its.eraseIdx j) n') :: rest) h' → Q .none { s with heap := h' })
    (no : j = its.length → ∀ h' tk e, Fresh "ValueError" w g hE env outer m ((a, lo its n) :: rest) e h' → E (.ref e) { s with heap := h', toks := tk }) :
    wpAny (model prog w) A (call (.builtin "list.remove") [.ref a, x]) Q E s := by
  refine call_meets PySem.F.slot_list_remove ⟨_, X.get0, rfl⟩ PySem.F.entry_list_remove (PySem.F.args_list_remove_2 _ _)
    (remAt a its.toArray n x e j (by simpa using hj) (by simpa using hit) (by simpa using hz) (by simpa using hno)) ⟨X.get0, (by simpa using he), ?_⟩
  by_cases hlt : j < its.length
  · rw [if_pos (by simpa using hlt)]
    refine ok hlt _ _ (fx_listUpd X ?_)
    apply Array.toList_inj.mp
    simp
  · rw [if_neg (by simpa using hlt)]
    exact ⟨hn, fun h' tk e x => no (by omega) h' tk e (X.raised x)⟩
end
end
end Mine

namespace Mine
section
open PySem PySem.W PyProof.Rows PySem.Calls
def octU (mk : Int) : Nat → Int → List Int → List Int
  | 0, _, acc => acc
  | f + 1, n, acc => if 0 < n then octU mk f (n / 64) ((n % 64 + 64 + mk) :: acc) else acc
def octs (n mk : Int) : List Int := octU mk 8 (n / 64) [n % 64 + mk]
theorem octU_zero (mk : Int) (f : Nat) (acc : List Int) : octU mk f 0 acc = acc := by cases f <;> simp [octU]
theorem octU_len (mk : Int) : ∀ f n acc, (octU mk f n acc).length ≤ f + acc.length
  | 0, _, _ => by simp [octU]
  | f + 1, n, acc => by
    unfold octU
    split
    · have := octU_len mk f (n / 64) ((n % 64 + 64 + mk) :: acc)
      simp only [List.length_cons] at this
      omega
    · omega
theorem octs_len (n mk : Int) : (octs n mk).length ≤ 9 := octU_len mk 8 _ _

section
variable {prog : Program} {w : World} {A : Around} {E : Value → Shared → Prop} {s : Shared} {g hE : Heap} {env : Env} {outer : List Env} {m : Str → Option Value} {news rest : List (Addr × Obj)}

set_option maxHeartbeats 4000000 in
theorem octets_spec {n mk : Int} {t u : Tok} {Q : Value → Shared → Prop} (X : Fx w g hE env outer m rest s.heap) (hA : A.frames = some (env :: outer))
    (hd : A.depth + 1 < recursionLimit) (h0 : 0 ≤ n) (hb : n < 64 ^ 8)
    (ok : ∀ a g' h' tk vs k, g.StaysIn g' → Fx w g' hE env outer m rest h' → g'.get? a = some (lo vs k) → IntsAre vs (octs n mk) → Q (.ref a) { s with heap := h', toks := tk }) :
    wpAny (model prog w) A (call (.ref 35) [.int n t, .int mk u]) Q E s := by
  refine fx_enter (fd := fdAt w.params 35) (body := bodyOf (fdAt w.params 35)) (binds := [("number", .int n t), ("mark", .int mk u)]) X hA (by omega) rfl (by rfl) (by rfl) (by rfl) (by rfl) (by rfl) fun g₁ h₁ st X₁ => ?_
  refine wpAny_execs_cons (wpAny_Assign_Name (fx_List (wpAny_items_cons (wpAny_BinOp (wpAny_BinOp (fx_ld X₁ (by rfl) (wpAny_Constant_int (mod_int' (by decide) (fx_ld X₁ (by rfl) (add_int (wpAny_items_nil ⟨by show 1 ≤ _; rw [sizeLine_eq]; decide, _, _, _, X₁, fun a h₂ X₂ => fx_st X₂ fun h₃ X₃ => ?_⟩)))))))))))
  refine wpAny_execs_cons (wpAny_Assign_Name (wpAny_BinOp (fx_ld X₃ (by ktn_open) (wpAny_Constant_int (floordiv_int (by decide) (fx_st X₃ fun h₄ X₄ => ?_))))))
  rw [Int.fmod_eq_emod_of_nonneg _ (by decide), Int.fdiv_eq_ediv_of_nonneg _ (by decide)] at X₄
  refine wpAny_execs_cons (wpAny_While ?_)
  dsimp only
  refine codeAny_whileLoop (fun k s' => ∃ h' tk m' cur acc vs ln f tc tm, s' = { s with heap := h', toks := tk } ∧ Fx w g₁ s.heap (callEnv (fdAt w.params 35) s.heap.objs.size 35) (env :: outer) m' ((a, lo vs ln) :: rest) h' ∧
    m' "octets" = some (.ref a) ∧ m' "number" = some (.int cur tc) ∧ m' "mark" = some (.int mk tm) ∧ IntsAre vs acc ∧ vs.length + f ≤ 10 ∧ k = cur.toNat ∧ 0 ≤ cur ∧ cur < 64 ^ f ∧ octs n mk = octU mk f cur acc) ?_ _
    ⟨h₄, _, _, n / 64, [n % 64 + mk], _, _, 8, _, _, rfl, X₄, by ktn_open, by ktn_open, by ktn_open, .cons _ _ .nil, by show 1 + 8 ≤ 10; decide, rfl, by omega, by omega, rfl⟩
  rintro k _ ⟨h', tk, m', cur, acc, vs, ln, f, tc, tm, rfl, X', hm1, hm2, hm3, hi, hl, rfl, hc0, hcb, hrel⟩
  refine wpAny_isTrue_Compare1 (fx_ld X' hm2 (wpAny_Constant_int (P.gt_int (wpAny_truthy_bool ?_))))
  by_cases hz : 0 < cur
  · rw [show decide (cur > 0) = true from decide_eq_true hz]
    cases f with
    | zero => simp at hcb; omega
    | succ f =>
      rw [octU, if_pos hz] at hrel
      refine wpAny_execs_cons (wpAny_Expr_none (fx_meth PySem.F.slot_list_insert PySem.F.type_list_insert (fx_ld X' hm1 ⟨a, _, _, rfl, X'.get0, callWith_method1 (wpAny_items_cons (wpAny_Constant_int (wpAny_items_cons (wpAny_BinOp (wpAny_BinOp (wpAny_BinOp (fx_ld X' hm2 (wpAny_Constant_int (mod_int' (by decide) (wpAny_Constant_int (add_int (fx_ld X' hm3 (add_int (wpAny_items_nil ?_))))))))))))))⟩)))
      refine fx_insert0 X' (by rw [sizeLine_eq]; omega) fun h₅ n' X₅ => ⟨rfl, ?_⟩
      refine wpAny_execs_cons (wpAny_Assign_Name (wpAny_BinOp (fx_ld X₅ hm2 (wpAny_Constant_int (floordiv_int (by decide) (fx_st X₅ fun h₆ X₆ => wpAny_execs_nil ?_))))))
      rw [Int.fmod_eq_emod_of_nonneg _ (by decide), Int.fdiv_eq_ediv_of_nonneg _ (by decide)] at X₆
      refine ⟨(cur / 64).toNat, by omega, h₆, _, _, cur / 64, (cur % 64 + 64 + mk) :: acc, _, _, f, _, _, rfl, X₆, by ktn_open, by ktn_open, by ktn_open, .cons _ _ hi, by simp only [List.length_cons]; omega, rfl, by omega, ?_, hrel⟩
      rw [Int.pow_succ] at hcb
      omega
  · rw [show decide (cur > 0) = false from decide_eq_false hz]
    obtain rfl : cur = 0 := by omega
    rw [octU_zero] at hrel
    refine wpAny_execs_nil (wpAny_execs_cons (wpAny_Return_some (fx_ld X' hm1 ?_)))
    obtain ⟨g₂, st₂, X₂', e⟩ := X'.fz0
    exact ok a g₂ h' _ vs ln (stays_trans st st₂) (X.ret X₂' (fun p hp => hp) X₂'.dj) e (hrel ▸ hi)
end
end
end Mine

namespace Mine
section
open PySem PySem.W PyProof.Rows PySem.Calls
section
variable {prog : Program} {w : World} {A : Around} {E : Value → Shared → Prop} {s : Shared} {g hE : Heap} {env : Env} {outer : List Env} {m : Str → Option Value} {news rest : List (Addr × Obj)}

theorem fx_slice {value : Expr} {lower upper step : Option Expr} {p pos : Pos} {Q : Value → Shared → Prop}
    (h : wpAny (model prog w) A (eval value env) (fun o s₁ => wpAny (model prog w) A (evalPart lower env) (fun vl s₂ => wpAny (model prog w) A (evalPart upper env) (fun vu s₃ => wpAny (model prog w) A (evalPart step env) (fun vk s₄ =>
      ∃ l its lo' hi st g₁ m₁ news₁, o = .ref l ∧ s₄.heap.IsList l (List.toArray its) ∧ its.length ≤ sizeLine ∧ IsPart vl lo' ∧ IsPart vu hi ∧ IsPart vk st ∧ st ≠ some 0 ∧ Fx w g₁ hE env outer m₁ news₁ s₄.heap ∧
        ∀ a h', Fx w g₁ hE env outer m₁ ((a, lo (slicePick its.toArray lo' hi st).toList 0) :: news₁) h' → Q (.ref a) { s₄ with heap := h' }) E s₃) E s₂) E s₁) E s)
    (hs : ∀ l sl, ∃ ops, subscripted (.Slice lower upper step p) false (.ref l) (.ref sl) = operate ops (getItem (.ref l) (.ref sl)) := by intro _ _; exact ⟨_, by with_unfolding_all rfl⟩) :
    wpAny (model prog w) A (eval (.Subscript value (.Slice lower upper step p) pos) env) Q E s := by
  refine Subscript_ (wpAny_mono h (fun o s₁ h₁ => wpAny_Slice (wpAny_mono h₁ (fun vl s₂ h₂ => wpAny_mono h₂ (fun vu s₃ h₃ => wpAny_mono h₃ (fun vk s₄ h₄ => ?_) fun _ _ x => x) fun _ _ x => x) fun _ _ x => x)) fun _ _ x => x)
  obtain ⟨l, its, lo', hi, st, g₁, m₁, news₁, rfl, hl, hz, pl, pu, pk, hst, X, k⟩ := h₄
  obtain ⟨ops, hs⟩ := hs l s₄.heap.objs.size
  refine tail_any (ops := ops) (T := "list") (Heap.IsList.typeIs (s := { s₄ with heap := s₄.heap.push { cls := .type "slice", data := .fields #[vl, vu, vk] } }) (hl.push _)) list_getitem_lookup
    (wpAny_getItem_list_slice (hl.push _) (Heap.IsSliceOf.new ..) pl pu pk hst ?_ (by simpa using hz)) hs
  have X2 := (X.push { cls := .type "slice", data := .fields #[vl, vu, vk] }).tail.push (lo (slicePick its.toArray lo' hi st).toList 0)
  exact k _ _ X2

theorem fx_itemL {value idx : Expr} {pos : Pos} {Q : Value → Shared → Prop}
    (h : wpAny (model prog w) A (eval value env) (fun o s₁ => wpAny (model prog w) A (eval idx env) (fun i s₂ => ∃ l its k t v, o = .ref l ∧ i = .int k t ∧ s₂.heap.IsList l (List.toArray its) ∧ 0 ≤ k ∧ k < 2 ^ 63 ∧ its[k.toNat]? = some v ∧ Q v s₂) E s₁) E s)
    (hs : ∀ l k t, subscripted idx false (.ref l) (.int k t) = operate [.ref l, .int k t] (getItem (.ref l) (.int k t)) := by intro _ _ _; with_unfolding_all rfl) :
    wpAny (model prog w) A (eval (.Subscript value idx pos) env) Q E s := by
  refine Subscript_ (wpAny_mono h (fun o s₁ h₁ => wpAny_mono h₁ (fun i s₂ h₂ => ?_) fun _ _ x => x) fun _ _ x => x)
  obtain ⟨l, its, k, t, v, rfl, rfl, hl, h0, h1, hv, hQ⟩ := h₂
  exact tail_any hl.typeIs slot_list_getitem.lookup (wpAny_getItem_list hl h0 h1 (by simpa using hv) hQ) (hs l k t)

theorem fx_itemT {value idx : Expr} {pos : Pos} {Q : Value → Shared → Prop}
    (h : wpAny (model prog w) A (eval value env) (fun o s₁ => wpAny (model prog w) A (eval idx env) (fun i s₂ => ∃ l its k t v, o = .ref l ∧ i = .int k t ∧ IsTup s₂.heap l (List.toArray its) ∧ 0 ≤ k ∧ k < 2 ^ 63 ∧ its[k.toNat]? = some v ∧ Q v s₂) E s₁) E s)
    (hs : ∀ l k t, subscripted idx false (.ref l) (.int k t) = operate [.ref l, .int k t] (getItem (.ref l) (.int k t)) := by intro _ _ _; with_unfolding_all rfl) :
    wpAny (model prog w) A (eval (.Subscript value idx pos) env) Q E s := by
  refine Subscript_ (wpAny_mono h (fun o s₁ h₁ => wpAny_mono h₁ (fun i s₂ h₂ => ?_) fun _ _ x => x) fun _ _ x => x)
  obtain ⟨l, its, k, t, v, rfl, rfl, hl, h0, h1, hv, hQ⟩ := h₂
  have hlt : k.toNat < its.length := (List.getElem?_eq_some_iff.mp hv).1
  have hj : seqIndex? k its.length = some k.toNat := seqIndex_of h0 (by omega)
  exact item_tupleT hl (by omega) h1 hj hv hQ (hs l k t)

theorem fx_extend {a b : Addr} {its its2 : List Value} {n n2 : Nat} {Q : Value → Shared → Prop} (X : Fx w g hE env outer m ((a, lo its n) :: rest) s.heap) (hb : s.heap.get? b = some (lo its2 n2)) (hz : its.length + its2.length ≤ sizeLine)
    (h : ∀ h' n', Fx w g hE env outer m ((a, lo (its ++ its2) n') :: rest) h' → Q .none { s with heap := h' }) :
    wpAny (model prog w) A (call (.builtin "list.extend") [.ref a, .ref b]) Q E s := by
  refine call_meets PySem.F.slot_list_extend ⟨_, X.get0, rfl⟩ PySem.F.entry_list_extend (PySem.F.args_list_extend_2 _ _) (AutoSeq1.list_extend_list_list_0 a its.toArray n b its2.toArray n2 ?_ (by simp only [List.size_toArray]; omega) (by simp only [List.size_toArray]; omega)) ⟨X.get0, hb, ?_⟩
  · simp [Builtin.List.listTooLong]
    intro _
    exact hz
  · exact h _ _ (fx_listUpd X (by simp))
end
end
end Mine

namespace Mine
section
open PySem PySem.W PyProof.Rows PySem.Calls
theorem part_some {M : Model} {A : Around} {E : Value → Shared → Prop} {s : Shared} {env : Env} {e : Expr} {Q : Value → Shared → Prop} (h : wpAny M A (eval e env) Q E s) : wpAny M A (evalPart (some e) env) Q E s := h
theorem part_none {M : Model} {A : Around} {E : Value → Shared → Prop} {s : Shared} {env : Env} {Q : Value → Shared → Prop} (h : Q .none s) : wpAny M A (evalPart none env) Q E s := wpAny_pure h

/-- trees of numbers, as lists -/
inductive Tree where
  | node (n : Int) (ch : List Tree)

mutual
def Tree.dat : Tree → PyData
  | .node n ch => .list (.int n :: Tree.dats ch)
def Tree.dats : List Tree → List PyData
  | [] => []
  | t :: r => t.dat :: Tree.dats r
end
mutual
def Tree.nums : Tree → List Int
  | .node n ch => n :: Tree.numss ch
def Tree.numss : List Tree → List Int
  | [] => []
  | t :: r => t.nums ++ Tree.numss r
end
mutual
def Tree.ht : Tree → Nat
  | .node _ ch => Tree.hts ch + 1
def Tree.hts : List Tree → Nat
  | [] => 0
  | t :: r => max t.ht (Tree.hts r)
end
theorem Tree.dats_map : ∀ l : List Tree, Tree.dats l = l.map Tree.dat
  | [] => rfl
  | t :: r => by rw [Tree.dats, Tree.dats_map r]; rfl
theorem Tree.numss_flat : ∀ l : List Tree, Tree.numss l = l.flatMap Tree.nums
  | [] => rfl
  | t :: r => by rw [Tree.numss, Tree.numss_flat r]; rfl
theorem Tree.ht_le : ∀ {l : List Tree} {t : Tree}, t ∈ l → t.ht ≤ Tree.hts l
  | _ :: r, _, .head _ => Nat.le_max_left ..
  | _ :: r, _, .tail _ h => Nat.le_trans (Tree.ht_le h) (Nat.le_max_right ..)

theorem Tree.len_le : ∀ l : List Tree, l.length ≤ (Tree.numss l).length
  | [] => Nat.le_refl _
  | .node n ch :: r => by
    rw [Tree.numss, List.length_append, List.length_cons, Tree.nums, List.length_cons]
    have := Tree.len_le r
    omega

theorem Reads.listInv {h : Heap} {v : Value} {ds : List PyData} {as : List Addr} (r : Reads h v (.list ds) as) : ∃ a vs bs, v = .ref a ∧ h.IsList a (List.toArray vs) ∧ ReadsAll h vs ds bs := by
  cases r with
  | list ho hc hd r => exact ⟨_, _, _, rfl, ⟨_, ho, hc, _, by rw [hd]⟩, r⟩
theorem ReadsAll.get {h : Heap} : ∀ {vs : List Value} {ds : List PyData} {as : List Addr}, ReadsAll h vs ds as → ∀ {i : Nat} {v : Value}, vs[i]? = some v → ∃ d bs, ds[i]? = some d ∧ Reads h v d bs
  | _, _, _, .nil, _, _, e => by simp at e
  | _, _, _, .cons r q, 0, v, e => by
    simp only [List.getElem?_cons_zero, Option.some.injEq] at e
    subst e
    exact ⟨_, _, rfl, r⟩
  | _, _, _, .cons r q, i + 1, v, e => by
    simp only [List.getElem?_cons_succ] at e ⊢
    exact ReadsAll.get q e
theorem ReadsAll.len {h : Heap} : ∀ {vs : List Value} {ds : List PyData} {as : List Addr}, ReadsAll h vs ds as → vs.length = ds.length
  | _, _, _, .nil => rfl
  | _, _, _, .cons _ q => congrArg (· + 1) (ReadsAll.len q)

/-- what the reader of numbers does, on trees of so much height -/
def NumsDo (prog : Program) (w : World) (n : Nat) : Prop :=
  ∀ (A : Around) (E : Value → Shared → Prop) (s : Shared) (g hE : Heap) (env : Env) (outer : List Env) (m : Str → Option Value) (rest : List (Addr × Obj)) (l : Addr) (vs : List Value) (ts : List Tree) (as : List Addr) (Q : Value → Shared → Prop),
    Fx w g hE env outer m rest s.heap → A.frames = some (env :: outer) → A.handled = none → A.depth + n + 1 < recursionLimit →
    g.IsList l vs.toArray → ReadsAll g vs (Tree.dats ts) as → Tree.hts ts ≤ n → (Tree.numss ts).length ≤ 10000 →
    (∀ a g' h' tk ws k, g.StaysIn g' → Fx w g' hE env outer m rest h' → g'.get? a = some (lo ws k) → IntsAre ws (Tree.numss ts) → Q (.ref a) { s with heap := h', toks := tk }) →
    wpAny (model prog w) A (call (.ref 56) [.ref l]) Q E s

set_option maxHeartbeats 4000000 in
theorem nums_step {prog : Program} {w : World} (n : Nat) (IH : ∀ k, k < n → NumsDo prog w k) : NumsDo prog w n := by
  intro A E s g hE env outer m rest l vs ts as Q X hA hn hd hl hr hh hz ok
  refine fx_enter (fd := fdAt w.params 56) (body := bodyOf (fdAt w.params 56)) (binds := [("trees", .ref l)]) X hA (by omega) rfl (by rfl) (by rfl) (by rfl) (by rfl) (by rfl) fun g₁ h₁ st X₁ => ?_
  have hA₁ : (A.deeper (callEnv (fdAt w.params 56) s.heap.objs.size 56)).frames = some (callEnv (fdAt w.params 56) s.heap.objs.size 56 :: env :: outer) := Around.frames_deeper hA
  have hd₁ : (A.deeper (callEnv (fdAt w.params 56) s.heap.objs.size 56)).depth = A.depth + 1 := rfl
  have hl₁ : g₁.IsList l vs.toArray := hl.at fun o e => st _ o e
  have hr₁ := ReadsAll.stays st hr
  have hvl := ReadsAll.len hr
  rw [Tree.dats_map, List.length_map] at hvl
  refine wpAny_execs_cons (wpAny_Assign_Name (fx_List (wpAny_items_nil ⟨Nat.zero_le _, _, _, _, X₁, fun a h₂ X₂ => fx_st X₂ fun h₃ X₃ => ?_⟩)))
  refine wpAny_execs_cons (wpAny_For (fx_ld X₃ (by ktn_open) (fx_iterList X₃ (hl₁.at fun o e => X₃.keep _ o e) fun I h₄ X₄ => ?_)))
  dsimp only
  refine fx_listLoop (fun i g' m' news' => ∃ ws k, news' = (a, lo ws k) :: rest ∧ m' "numbers" = some (.ref a) ∧ IntsAre ws (Tree.numss (ts.take i))) X₄ hl₁ hn (by rfl) ⟨[], 0, rfl, by ktn_open, .nil⟩ ?_ ?_
  · rintro i g₂ m₂ _ h₅ tk₅ v hi hv ⟨ws, k, rfl, hm1, hiw⟩ st₂ X₅
    obtain ⟨d, bs, hd', hrv⟩ := ReadsAll.get (ReadsAll.stays st₂ hr₁) hv
    rw [Tree.dats_map, List.getElem?_map] at hd'
    obtain ⟨t, ht, rfl⟩ := Option.map_eq_some_iff.mp hd'
    obtain ⟨n₀, ch⟩ := t
    rw [Tree.dat] at hrv
    obtain ⟨b, us, cs, rfl, hlb, hrb⟩ := Reads.listInv hrv
    cases hrb with
    | @cons v₀ us' _ _ as0 bs0 hr0 hrc =>
    cases hr0 with
    | int _ t₀ =>
    have htk : ts.take (i + 1) = ts.take i ++ [.node n₀ ch] := by rw [List.take_add_one, ht]; rfl
    have hmem : Tree.node n₀ ch ∈ ts := List.mem_of_getElem? ht
    have hht := Tree.ht_le hmem
    rw [Tree.ht] at hht
    have hsum : Tree.numss (ts.take (i + 1)) = Tree.numss (ts.take i) ++ (n₀ :: Tree.numss ch) := by
      rw [htk, Tree.numss_flat, Tree.numss_flat, List.flatMap_append]; simp [Tree.nums]
    have hle : (Tree.numss (ts.take (i + 1))).length ≤ 10000 := by
      refine Nat.le_trans ?_ hz
      conv => rhs; rw [← List.take_append_drop (i + 1) ts]
      rw [Tree.numss_flat, Tree.numss_flat, List.flatMap_append, List.length_append]
      omega
    rw [hsum, List.length_append, List.length_cons] at hle
    refine wpAny_execs_cons (wpAny_Expr_none (fx_append (w := w) (hE := s.heap) (outer := env :: outer) (fx_ld X₅ (by ktn_open) ⟨a, _, _, rfl, X₅.sw.get0, fx_itemL (fx_ld X₅ (by ktn_open) (wpAny_Constant_int ⟨b, _, 0, _, _, rfl, rfl, hlb.at fun o e => X₅.keep _ o e, by decide, by decide, by rfl, _, _, _, _, _, ?_, X₅.sw, fun h₆ X₆ => ⟨rfl, ?_⟩⟩))⟩)))
    · rw [sizeLine_eq, hiw.length]; omega
    refine wpAny_execs_cons (wpAny_Expr_none (fx_meth PySem.F.slot_list_extend PySem.F.type_list_extend (fx_ld X₆ (by ktn_open) ⟨a, _, _, rfl, X₆.get0, callWith_method1 (wpAny_items_cons ?_)⟩)))
    refine fx_fn1 (f := 56) rfl X₆ (by rfl) (fx_slice (w := w) (hE := s.heap) (outer := env :: outer) (fx_ld X₆ (by ktn_open) (part_some (wpAny_Constant_int (part_none (part_none ⟨b, _, some 1, none, none, _, _, _, rfl, hlb.at fun o e => X₆.keep _ o e, ?_, .int _ _, .none, .none, by simp, X₆, fun sl h₇ X₇ => ⟨⟨_, _, _, X₇⟩, ?_⟩⟩))))))
    · rw [sizeLine_eq, List.length_cons, ReadsAll.len hrc, Tree.dats_map, List.length_map]
      have := Tree.len_le ch
      omega
    have esl : (slicePick (List.toArray (Value.int n₀ t₀ :: us')) (some 1) none none).toList = us' := by
      have := slicePick_from (List.toArray (Value.int n₀ t₀ :: us')) 1 (by simp)
      rw [show (some (1 : Int)) = some ((1 : Nat) : Int) from rfl, this]
      simp
    rw [esl] at X₇
    obtain ⟨g₃, st₃, X₈, hsl⟩ := X₇.fz0
    refine IH (Tree.hts ch) (by omega) _ _ _ g₃ s.heap _ _ _ _ sl us' ch _ _ X₈ hA₁ hn (by omega) (lo_isList hsl) (ReadsAll.stays st₃ hrc) (Nat.le_refl _) (by omega) fun a₂ g₄ h' tk' ws₂ k₂ st₄ X' hg2 hi2 => ?_
    refine wpAny_items_nil ?_
    refine fx_extend X' (X'.keep _ _ hg2) ?_ fun h'' n' X'' => ⟨rfl, wpAny_execs_nil ⟨g₄, _, _, h'', _, rfl, stays_trans st₃ st₄, X''.sw, _, _, rfl, by ktn_open, ?_⟩⟩
    · rw [sizeLine_eq, List.length_append, hiw.length, hi2.length]; simp only [List.length_cons, List.length_nil]; omega
    · rw [hsum, List.append_assoc]
      exact hiw.append (.cons _ _ hi2)
  · rintro g₂ m₂ _ h₅ tk₅ ⟨ws, k, rfl, hm1, hiw⟩ st₂ X₅
    refine wpAny_execs_cons (wpAny_Return_some (fx_ld X₅ hm1 ?_))
    obtain ⟨g₃, st₃, X', e⟩ := X₅.fz0
    rw [hvl, List.take_length] at hiw
    exact ok a g₃ h₅ _ ws k (stays_trans (stays_trans st st₂) st₃) (X.ret X' (fun p hp => hp) X'.dj) e hiw

theorem nums_spec {prog : Program} {w : World} : ∀ n, NumsDo prog w n := by
  have all : ∀ n k, k < n → NumsDo prog w k := by
    intro n
    induction n with
    | zero => intro k h; exact absurd h (Nat.not_lt_zero _)
    | succ n ih => exact fun k h => nums_step k fun j hj => ih j (by omega)
  exact fun n => all (n + 1) n (Nat.lt_succ_self _)
end
end Mine

namespace Mine
section
open PySem PySem.W PyProof.Rows PySem.Calls
mutual
theorem eqv_dat : ∀ a b : Tree, PyData.eqv a.dat b.dat = true ↔ a = b
  | .node n ch, .node n' ch' => by
    simp only [Tree.dat, PyData.eqv, PyData.eqvAll, Bool.and_eq_true, beq_iff_eq, Tree.node.injEq, eqv_dats ch ch']
theorem eqv_dats : ∀ a b : List Tree, PyData.eqvAll (Tree.dats a) (Tree.dats b) = true ↔ a = b
  | [], [] => by simp [Tree.dats, PyData.eqvAll]
  | [], b :: s => by simp [Tree.dats, PyData.eqvAll]
  | a :: r, [] => by simp [Tree.dats, PyData.eqvAll]
  | a :: r, b :: s => by
    simp only [Tree.dats, PyData.eqvAll, Bool.and_eq_true, List.cons.injEq, eqv_dat a b, eqv_dats r s]
end
mutual
theorem lay_dat : ∀ a : Tree, a.dat.canLay0 = true
  | .node n ch => by simp [Tree.dat, PyData.canLay0, PyData.canLayAll0, lay_dats ch]
theorem lay_dats : ∀ a : List Tree, PyData.canLayAll0 (Tree.dats a) = true
  | [] => rfl
  | a :: r => by simp [Tree.dats, PyData.canLayAll0, lay_dat a, lay_dats r]
end
mutual
theorem depth_dat : ∀ a : Tree, a.dat.depth ≤ a.ht
  | .node n ch => by
    have := depth_dats ch
    simp only [Tree.dat, PyData.depth, PyData.depthAll, Tree.ht]
    omega
theorem depth_dats : ∀ a : List Tree, PyData.depthAll (Tree.dats a) ≤ Tree.hts a
  | [] => by simp [Tree.dats, PyData.depthAll, Tree.hts]
  | a :: r => by
    have := depth_dat a
    have := depth_dats r
    simp only [Tree.dats, PyData.depthAll, Tree.hts]
    omega
end

open Classical in
/-- what is taken away, item by item -/
noncomputable def uldT : List Tree → List Tree → List Tree → List Tree × List Tree
  | [], act, mis => (mis, act)
  | x :: r, act, mis => if x ∈ act then uldT r (act.erase x) mis else uldT r act (mis ++ [x])

theorem map_eraseIdx {α β : Type _} (f : α → β) : ∀ (l : List α) (j : Nat), (l.eraseIdx j).map f = (l.map f).eraseIdx j
  | [], _ => rfl
  | _ :: _, 0 => rfl
  | a :: r, j + 1 => congrArg (f a :: ·) (map_eraseIdx f r j)
theorem Tree.dats_append (a b : List Tree) : Tree.dats (a ++ b) = Tree.dats a ++ Tree.dats b := by simp [Tree.dats_map]

theorem ReadsAll.snocInv {h : Heap} : ∀ {vs : List Value} {ds : List PyData} {d : PyData} {as : List Addr}, ReadsAll h vs (ds ++ [d]) as → ∃ us v bs cs, vs = us ++ [v] ∧ ReadsAll h us ds bs ∧ Reads h v d cs
  | _, [], _, _, .cons r .nil => ⟨[], _, _, _, rfl, .nil, r⟩
  | _, x :: ds, _, _, .cons r q => by
    obtain ⟨us, v, bs, cs, rfl, h1, h2⟩ := ReadsAll.snocInv q
    exact ⟨_ :: us, v, _, cs, rfl, .cons r h1, h2⟩
theorem ReadsAll.eraseIdx {h : Heap} : ∀ {vs : List Value} {ds : List PyData} {as : List Addr} (j : Nat), ReadsAll h vs ds as → ∃ bs, ReadsAll h (vs.eraseIdx j) (ds.eraseIdx j) bs
  | _, _, _, _, .nil => ⟨_, .nil⟩
  | _, _, _, 0, .cons r q => ⟨_, q⟩
  | _, _, _, j + 1, .cons r q => by
    obtain ⟨bs, q'⟩ := ReadsAll.eraseIdx j q
    exact ⟨_, .cons r q'⟩
theorem ReadsAll.append {h : Heap} : ∀ {vs us : List Value} {ds es : List PyData} {as bs : List Addr}, ReadsAll h vs ds as → ReadsAll h us es bs → ∃ cs, ReadsAll h (vs ++ us) (ds ++ es) cs
  | _, _, _, _, _, _, .nil, q => ⟨_, q⟩
  | _, _, _, _, _, _, .cons r p, q => by
    obtain ⟨cs, q'⟩ := ReadsAll.append p q
    exact ⟨_, .cons r q'⟩

section
variable {prog : Program} {w : World} {A : Around} {E : Value → Shared → Prop} {s : Shared} {g hE : Heap} {env : Env} {outer : List Env} {m : Str → Option Value} {news rest : List (Addr × Obj)}

open Classical in
set_option maxHeartbeats 4000000 in
theorem fx_removeT {a : Addr} {ys : List Value} {x : Value} {n : Nat} {act : List Tree} {t : Tree} {as bs : List Addr} {Q : Value → Shared → Prop} (hn : A.handled = none) (X : Fx w g hE env outer m ((a, lo ys n) :: rest) s.heap) (hz : ys.length ≤ sizeLine)
    (hr : ReadsAll g ys (Tree.dats act) as) (hx : Reads g x t.dat bs) (hu : A.units + 1 + t.ht < cLine)
    (ok : t ∈ act → ∀ h' n' ys' as', Fx w g hE env outer m ((a, lo ys' n') :: rest) h' → ReadsAll g ys' (Tree.dats (act.erase t)) as' → Q .none { s with heap := h' })
    (no : t ∉ act → ∀ h' tk e, Fresh "ValueError" w g hE env outer m ((a, lo ys n) :: rest) e h' → E (.ref e) { s with heap := h', toks := tk }) :
    wpAny (model prog w) A (call (.builtin "list.remove") [.ref a, x]) Q E s := by
  have hlen : ys.length = act.length := by rw [ReadsAll.len hr, Tree.dats_map, List.length_map]
  have item : ∀ i (hi : i < ys.length), ∃ cs, Reads g ys[i] (act[i]'(hlen ▸ hi)).dat cs := fun i hi => by
    obtain ⟨d, cs, hd, hc⟩ := ReadsAll.get hr (List.getElem?_eq_getElem hi)
    rw [Tree.dats_map, List.getElem?_map, List.getElem?_eq_getElem (hlen ▸ hi)] at hd
    cases hd
    exact ⟨cs, hc⟩
  have tell : ∀ i (hi : i < ys.length), decide (∃ cs, Reads g ys[i] t.dat cs) = decide (act[i]'(hlen ▸ hi) = t) := fun i hi => by
    obtain ⟨cs, hc⟩ := item i hi
    refine decide_eq_decide.mpr ⟨fun ⟨cs', hc'⟩ => ?_, fun e => ⟨cs, e ▸ hc⟩⟩
    have := SeqAt.Reads.unique _ _ _ _ _ (lay_dat _) hc hc'
    exact (eqv_dat _ _).mp (by rw [this]; exact (eqv_dat _ _).mpr rfl)
  refine fx_remove (fun y => decide (∃ cs, Reads g y t.dat cs)) (act.idxOf t) hn X hz ?_ ?_ ?_ ?_ ?_ ?_
  · intro y hy
    obtain ⟨i, hi, rfl⟩ := List.mem_iff_getElem.mp hy
    obtain ⟨cs, hc⟩ := item i hi
    have e := SeqAt.eqAt_reads _ _ A.in1 s _ _ _ _ (Reads.stays X.keep hc) (Reads.stays X.keep hx) (lay_dat _) (lay_dat _) (by
      refine Nat.lt_of_le_of_lt ?_ hu
      have := depth_dat t
      show A.units + 1 + min _ _ ≤ _
      omega)
    rw [show PyData.eqv (act[i]'(hlen ▸ hi)).dat t.dat = decide (act[i]'(hlen ▸ hi) = t) from by
      rw [Bool.eq_iff_iff, decide_eq_true_iff]; exact eqv_dat _ _, ← tell i hi] at e
    exact e
  · rw [hlen]; exact List.idxOf_le_length
  · intro h
    rw [tell _ h, decide_eq_true_iff]
    exact List.getElem_idxOf (by omega)
  · intro i hi hlt
    rw [tell _ hi, decide_eq_false_iff_not]
    intro e
    have := List.not_of_lt_findIdx (xs := act) (p := (· == t)) (i := i) hlt
    simp [e] at this
  · intro hlt h' n' X'
    have hm : t ∈ act := List.idxOf_lt_length_iff.mp (hlen ▸ hlt)
    obtain ⟨cs, hc⟩ := ReadsAll.eraseIdx (act.idxOf t) hr
    refine ok hm h' n' _ cs X' ?_
    rw [List.erase_eq_eraseIdx_of_idxOf rfl, Tree.dats_map, map_eraseIdx]
    rw [Tree.dats_map] at hc
    exact hc
  · intro he h' tk e F
    refine no (fun hm => ?_) h' tk e F
    have := List.idxOf_lt_length_iff.mpr hm
    omega

open Classical in
set_option maxHeartbeats 4000000 in
theorem uld_spec {e1 a1 : Addr} {xs ys : List Value} {n1 n2 : Nat} {es act : List Tree} {as bs : List Addr} {Q : Value → Shared → Prop} (X : Fx w g hE env outer m ((e1, lo xs n1) :: (a1, lo ys n2) :: rest) s.heap) (hA : A.frames = some (env :: outer)) (hn : A.handled = none)
    (hd : A.depth + 1 < recursionLimit) (hu : A.units + 10 + Tree.hts es < cLine) (hr1 : ReadsAll g xs (Tree.dats es) as) (hr2 : ReadsAll g ys (Tree.dats act) bs) (hz : es.length + act.length ≤ 10000)
    (ok : ∀ tp ms g' h' tk n1' n2' vs k us bs' cs', g.StaysIn g' → Fx w g' hE env outer m ((e1, lo [] n1') :: (a1, lo us n2') :: rest) h' → g'.get? tp = some { cls := .type "tuple", data := .seq #[.ref ms, .ref a1] } → g'.get? ms = some (lo vs k) →
      ReadsAll g' vs (Tree.dats (uldT es.reverse act []).1) bs' → ReadsAll g' us (Tree.dats (uldT es.reverse act []).2) cs' → Q (.ref tp) { s with heap := h', toks := tk }) :
    wpAny (model prog w) A (call (.ref 28) [.ref e1, .ref a1]) Q E s := by
  refine fx_enter (fd := fdAt w.params 28) (body := bodyOf (fdAt w.params 28)) (binds := [("expected", .ref e1), ("actual", .ref a1)]) X hA (by omega) rfl (by rfl) (by rfl) (by rfl) (by rfl) (by rfl) fun g₁ h₁ st X₁ => ?_
  have hA₁ : (A.deeper (callEnv (fdAt w.params 28) s.heap.objs.size 28)).frames = some (callEnv (fdAt w.params 28) s.heap.objs.size 28 :: env :: outer) := Around.frames_deeper hA
  have hu₁ : (A.deeper (callEnv (fdAt w.params 28) s.heap.objs.size 28)).units = A.units + 3 := rfl
  refine wpAny_execs_cons (wpAny_Assign_Name (fx_List (wpAny_items_nil ⟨Nat.zero_le _, _, _, _, X₁, fun mi h₂ X₂ => fx_st X₂ fun h₃ X₃ => ?_⟩)))
  refine wpAny_execs_cons (wpAny_While ?_)
  dsimp only
  refine codeAny_whileLoop (fun k s' => ∃ g' h' tk m' es' act' mis xs' n1' ys' n2' ms nm as' bs' cs', s' = { s with heap := h', toks := tk } ∧ g₁.StaysIn g' ∧ Fx w g' s.heap (callEnv (fdAt w.params 28) s.heap.objs.size 28) (env :: outer) m' ((e1, lo xs' n1') :: (a1, lo ys' n2') :: (mi, lo ms nm) :: rest) h' ∧
    m' "expected" = some (.ref e1) ∧ m' "actual" = some (.ref a1) ∧ m' "missing" = some (.ref mi) ∧ ReadsAll g' xs' (Tree.dats es') as' ∧ ReadsAll g' ys' (Tree.dats act') bs' ∧ ReadsAll g' ms (Tree.dats mis) cs' ∧
    (∀ t ∈ es', t.ht ≤ Tree.hts es) ∧ es'.length + act'.length + mis.length ≤ 10000 ∧ k = es'.length ∧ uldT es.reverse act [] = uldT es'.reverse act' mis) ?_ _
    ⟨g₁, h₃, _, _, es, act, [], xs, n1, ys, n2, [], _, _, _, _, rfl, stays_refl _, X₃.l3, by ktn_open, by ktn_open, by ktn_open, ReadsAll.stays st hr1, ReadsAll.stays st hr2, .nil, fun t ht => Tree.ht_le ht, hz, rfl, rfl⟩
  rintro k _ ⟨g', h', tk, m', es', act', mis, xs', n1', ys', n2', ms, nm, as', bs', cs', rfl, st', X', hm1, hm2, hm3, hx, hy, hm, hht, hl, rfl, hrel⟩
  have hxl := ReadsAll.len hx
  have hyl := ReadsAll.len hy
  have hml := ReadsAll.len hm
  rw [Tree.dats_map, List.length_map] at hxl hyl hml
  refine wpAny_isTrue_value (fx_ld X' hm1 (wpAny_truthy_list (lo_isList X'.get0) (by simp only [List.size_toArray]; omega) ?_))
  rcases List.eq_nil_or_concat es' with rfl | ⟨init, t, rfl⟩
  · cases hx
    refine wpAny_execs_nil (wpAny_execs_cons (wpAny_Return_some (fx_Tuple (w := w) (hE := s.heap) (outer := env :: outer) (wpAny_items_cons (fx_ld X' hm3 (wpAny_items_cons (fx_ld X' hm2 (wpAny_items_nil ⟨by show 2 ≤ _; rw [sizeLine_eq]; decide, _, _, _, X', fun tup h₅ X₅ => ?_⟩))))))))
    obtain ⟨g₂, st₂, X₆, e1'⟩ := X₅.fz0
    obtain ⟨g₃, st₃, X₇, e2'⟩ := X₆.r3.fz0
    rw [List.reverse_nil, uldT] at hrel
    refine ok tup mi g₃ h₅ _ _ _ _ _ _ _ _ (stays_trans (stays_trans (stays_trans st st') st₂) st₃) (X.ret X₇ (fun p hp => hp) X₇.dj) (st₃ _ _ e1') e2' (by rw [hrel]; exact ReadsAll.stays st₃ (ReadsAll.stays st₂ hm)) (by rw [hrel]; exact ReadsAll.stays st₃ (ReadsAll.stays st₂ hy))
  · simp only [List.concat_eq_append] at hx hht hl hrel ⊢
    rw [Tree.dats_append, Tree.dats, Tree.dats] at hx
    obtain ⟨us, v, bs1, cs1, rfl, hxi, hxv⟩ := ReadsAll.snocInv hx
    rw [List.length_append, List.length_singleton] at hxl hl
    rw [List.reverse_append, List.reverse_singleton, List.singleton_append, uldT] at hrel
    have hb : (!(us ++ [v]).toArray.isEmpty) = true := by simp
    rw [hb]
    have hui := ReadsAll.len hxi
    rw [Tree.dats_map, List.length_map] at hui
    refine wpAny_execs_cons (wpAny_Assign_Name (fx_meth PySem.F.slot_list_pop PySem.F.type_list_pop (fx_ld X' hm1 ⟨e1, _, _, rfl, X'.get0, fx_pop X' (by rw [sizeLine_eq]; omega) fun h₄ n4 X₄ => fx_st X₄ fun h₅ X₅ => ?_⟩)))
    refine wpAny_execs_cons (wpAny_Try_except (wpAny_execs_cons (wpAny_Expr_none (fx_meth PySem.F.slot_list_remove PySem.F.type_list_remove (fx_ld X₅ (by ktn_open) ⟨a1, _, _, rfl, X₅.sw.get0, callWith_method1 (wpAny_items_cons (fx_ld X₅ (by ktn_open) (wpAny_items_nil ?_)))⟩)))))
    refine fx_removeT hn X₅.sw (by rw [sizeLine_eq]; omega) hy hxv ?_ (fun hin h₆ n6 ys6 as6 X₆ hy6 => ?_) (fun hin h₆ tk6 e F => ?_)
    · have := hht t (by simp)
      omega
    · rw [if_pos hin] at hrel
      refine ⟨rfl, wpAny_execs_nil (wpAny_execs_nil (wpAny_execs_nil ?_))⟩
      have := List.length_erase_of_mem hin
      refine ⟨init.length, by simp, g', h₆, _, _, init, act'.erase t, mis, us, _, ys6, _, ms, _, _, _, _, rfl, st', X₆.sw, by ktn_open, by ktn_open, by ktn_open, hxi, hy6, hm, fun t' ht' => hht t' (by simp [ht']), by omega, rfl, hrel⟩
    · rw [if_neg hin] at hrel
      refine catch_fresh hA₁ F (by rfl) PyProof.Rows.Boot.«ValueError» value_exc value_nt value_sub fun h₇ X₇ => ?_
      refine wpAny_execs_cons (wpAny_Expr_none (fx_append (w := w) (hE := s.heap) (outer := env :: outer) (fx_ld X₇ (by ktn_open) ⟨mi, _, _, rfl, X₇.r3.get0, fx_ld X₇ (by ktn_open) ⟨ms, nm, _, _, _, by rw [sizeLine_eq]; omega, X₇.r3, fun h₈ X₈ => ⟨rfl, wpAny_execs_nil (wpAny_execs_nil ?_)⟩⟩⟩)))
      obtain ⟨cs8, hm8⟩ := ReadsAll.snoc hxv hm
      refine ⟨init.length, by simp, g', h₈, _, _, init, act', mis ++ [t], us, _, ys', _, _, _, _, _, _, rfl, st', X₈.sw.r3, by ktn_open, by ktn_open, by ktn_open, hxi, hy, by rw [Tree.dats_append]; exact hm8, fun t' ht' => hht t' (by simp [ht']), by simp; omega, rfl, hrel⟩
end
end
end Mine

namespace Mine
section
open PySem PySem.W PyProof.Rows PySem.Calls
section
variable {prog : Program} {w : World} {A : Around} {E : Value → Shared → Prop} {s : Shared} {g hE : Heap} {env : Env} {outer : List Env} {m : Str → Option Value} {news rest : List (Addr × Obj)}

theorem Fx.kept {a : Addr} {o : Obj} {h h' : Heap} (X : Fx w g hE env outer m news h) (k : h.StaysIn h') (ha : h.get? a = none) (he : h'.get? a = some o) : Fx w g hE env outer m ((a, o) :: news) h' := by
  refine X.to (X.ns.keeps k) (fun b x _ _ e => k b x e) (fun p hp => ?_) (fun p hp => ?_) ?_
  · rcases List.mem_cons.mp hp with rfl | hp
    · refine ⟨he, ?_, ?_⟩
      · rintro rfl
        obtain ⟨o, _, _, ho, _⟩ := X.ns
        rw [ha] at ho; cases ho
      · show g.get? a = none
        cases q : g.get? a with
        | none => rfl
        | some o => have := X.keep _ _ q; rw [ha] at this; cases this
    · exact ⟨k _ _ (X.N p hp).1, (X.N p hp).2⟩
  · rcases List.mem_cons.mp hp with rfl | hp
    · exact .inr ha
    · exact .inl ⟨p, hp, rfl⟩
  · simp only [List.map_cons, List.nodup_cons]
    refine ⟨fun hm => ?_, X.dj⟩
    obtain ⟨q, hq, e⟩ := List.mem_map.mp hm
    have := (X.N q hq).1
    rw [e, ha] at this; cases this

theorem fx_copy {fn : Str} {p pos : Pos} {e : Expr} {Q : Value → Shared → Prop} (hfn : fn = "list") (X : Fx w g hE env outer m news s.heap)
    (h : wpAny (model prog w) A (eval e env) (fun v s₁ => ∃ l its g₁ m₁ news₁, v = .ref l ∧ s₁.heap.IsList l (List.toArray its) ∧ its.length ≤ sizeLine ∧ Fx w g₁ hE env outer m₁ news₁ s₁.heap ∧
      ∀ a n h', Fx w g₁ hE env outer m₁ ((a, lo its n) :: news₁) h' → Q (.ref a) { s₁ with heap := h' }) E s)
    (hx : env.kindOf fn = some .globalImplicit := by rfl) (hs : backTo pos (starEach [e] env) = [(false, eval e env)] := by rfl) :
    wpAny (model prog w) A (eval (.Call (.Name fn p) [e] [] pos) env) Q E s := by
  subst hfn
  refine Call_Name hs (fx_bl X (by rfl) PyProof.Rows.Boot.«list» ?_ (by decide +kernel) hx)
  refine _root_.PySem.callWith_type1 (wpAny_mono h (fun v s₁ q => ?_) fun _ _ q => q)
  obtain ⟨l, its, g₁, m₁, news₁, rfl, ⟨o, ho, hc, n, hd⟩, hz, X₁, k⟩ := q
  exact call_list_seq (hsz := by simpa using hz) l (.inl rfl) ho hc hd fun h' c' hk hD => k _ _ _ (X₁.kept hk (Heap.get?_none_of_le (Nat.le_refl _)) hD)

set_option maxHeartbeats 4000000 in
theorem told_spec {l1 l2 : Addr} {xs ys : List Value} {es act : List Tree} {as bs : List Addr} {Q : Value → Shared → Prop} (X : Fx w g hE env outer m rest s.heap) (hA : A.frames = some (env :: outer)) (hn : A.handled = none)
    (hd : A.depth + 2 < recursionLimit) (hu : A.units + 20 + Tree.hts es < cLine) (hl1 : g.IsList l1 xs.toArray) (hl2 : g.IsList l2 ys.toArray) (hr1 : ReadsAll g xs (Tree.dats es) as) (hr2 : ReadsAll g ys (Tree.dats act) bs) (hz : es.length + act.length ≤ 10000)
    (ok : ∀ tp g' h' tk cs, g.StaysIn g' → Fx w g' hE env outer m rest h' → Reads g' (.ref tp) (.tuple [.list (Tree.dats (uldT es.reverse act []).1), .list (Tree.dats (uldT es.reverse act []).2)]) cs → Q (.ref tp) { s with heap := h', toks := tk }) :
    wpAny (model prog w) A (call (.ref 63) [.ref l1, .ref l2]) Q E s := by
  have hxl := ReadsAll.len hr1
  have hyl := ReadsAll.len hr2
  rw [Tree.dats_map, List.length_map] at hxl hyl
  refine fx_enter (fd := fdAt w.params 63) (body := bodyOf (fdAt w.params 63)) (binds := [("first", .ref l1), ("second", .ref l2)]) X hA (by omega) rfl (by rfl) (by rfl) (by rfl) (by rfl) (by rfl) fun g₁ h₁ st X₁ => ?_
  have hA₁ : (A.deeper (callEnv (fdAt w.params 63) s.heap.objs.size 63)).frames = some (callEnv (fdAt w.params 63) s.heap.objs.size 63 :: env :: outer) := Around.frames_deeper hA
  have hu₁ : (A.deeper (callEnv (fdAt w.params 63) s.heap.objs.size 63)).units = A.units + 3 := rfl
  have hd₁ : (A.deeper (callEnv (fdAt w.params 63) s.heap.objs.size 63)).depth = A.depth + 1 := rfl
  refine wpAny_execs_cons (wpAny_Assign_Name (fx_copy rfl X₁ (fx_ld X₁ (by rfl) ⟨l1, xs, _, _, _, rfl, hl1.at fun o e => X₁.keep _ _ (st _ o e), by rw [sizeLine_eq]; omega, X₁, fun b1 n1 h₂ X₂ => fx_st X₂ fun h₃ X₃ => ?_⟩)))
  refine wpAny_execs_cons (wpAny_Assign_Name (fx_copy rfl X₃ (fx_ld X₃ (by ktn_open) ⟨l2, ys, _, _, _, rfl, hl2.at fun o e => X₃.keep _ _ (st _ o e), by rw [sizeLine_eq]; omega, X₃, fun b2 n2 h₄ X₄ => fx_st X₄ fun h₅ X₅ => ?_⟩)))
  refine wpAny_execs_cons (wpAny_Assign_Name (fx_fn2 (f := 28) rfl X₅ (by rfl) (fx_ld X₅ (by ktn_open) (fx_ld X₅ (by ktn_open) ⟨⟨_, _, _, X₅⟩, ?_⟩))))
  refine uld_spec X₅.sw hA₁ hn (by omega) (by omega) (ReadsAll.stays st hr1) (ReadsAll.stays st hr2) hz fun tp ms g₂ h₆ tk₆ n1' n2' vs k us bs' cs' st₂ X₆ htp hms hrm hru => fx_st X₆ fun h₇ X₇ => ?_
  have htp' : IsTup h₇ tp #[.ref ms, .ref b2] := ⟨_, X₇.keep _ _ htp, rfl, _, rfl⟩
  refine wpAny_execs_cons (wpAny_If (wpAny_isTrue_BoolOp (wpAny_allTrue_Or_cons (wpAny_isTrue_Compare1 (fx_ld X₇ (by ktn_open) (fx_List (wpAny_items_nil ⟨Nat.zero_le _, _, _, _, X₇, fun em h₈ X₈ => ?_⟩)))))))
  refine SeqAt.compareNe_reads (da := .list []) (db := .list []) (as := _) (bs := _) (.list X₈.tail.get0 rfl rfl .nil) (.list X₈.get0 rfl rfl .nil) rfl rfl (by simp only [PyData.depth, PyData.depthAll]; omega) (wpAny_truthy_bool ?_)
  rw [show (!PyData.eqv (.list []) (.list [])) = false from rfl]
  refine wpAny_allTrue_Or_cons (wpAny_isTrue_Compare1 (fx_itemT (fx_ld X₈.tail (by ktn_open) (wpAny_Constant_int ⟨tp, [.ref ms, .ref b2], 1, _, .ref b2, rfl, rfl, ⟨_, X₈.tail.keep _ _ htp, rfl, _, rfl⟩, by decide, by decide, rfl, fx_ld X₈.tail (by ktn_open) (wpAny_isNot_ref_self (wpAny_truthy_bool (wpAny_allTrue_Or_nil (wpAny_execs_nil ?_))))⟩))))
  refine wpAny_execs_cons (wpAny_Return_some (fx_ld X₈.tail (by ktn_open) ?_))
  obtain ⟨g₃, st₃, X₉, e2⟩ := X₈.tail.tail.fz0
  have hrd : ∃ cs, Reads g₃ (.ref tp) (.tuple [.list (Tree.dats (uldT es.reverse act []).1), .list (Tree.dats (uldT es.reverse act []).2)]) cs := ⟨_, .tuple (st₃ _ _ htp) rfl rfl (.cons (.list (st₃ _ _ hms) rfl rfl (by simpa using ReadsAll.stays st₃ hrm)) (.cons (.list e2 rfl rfl (by simpa using ReadsAll.stays st₃ hru)) .nil))⟩
  obtain ⟨cs, hrd⟩ := hrd
  exact ok tp g₃ h₈ _ cs (stays_trans (stays_trans st st₂) st₃) (X.ret X₉ (fun p hp => hp) X₉.dj) hrd
end
end
end Mine

namespace Mine
section
open PySem PySem.W PyProof.Rows PySem.Calls
def NsO (o : Obj) (m : Str → Option Value) : Prop := ∃ es ep, o.data = .dict es ep ∧ StrKeys es ∧ ∀ name, nsFind es name = m name
theorem NsO.ns {o : Obj} {m : Str → Option Value} (x : NsO o m) {h : Heap} {a : Addr} (e : h.get? a = some o) : h.Ns a m :=
  let ⟨es, ep, r⟩ := x; ⟨o, es, ep, e, r⟩
theorem NsO.of {m : Str → Option Value} {h : Heap} {a : Addr} (x : h.Ns a m) : ∃ o, h.get? a = some o ∧ NsO o m :=
  let ⟨o, es, ep, e, r⟩ := x; ⟨o, e, es, ep, r⟩

section
variable {prog : Program} {w : World} {A : Around} {E : Value → Shared → Prop} {s : Shared} {g hE : Heap} {env cenv : Env} {outer : List Env} {m : Str → Option Value} {news rest : List (Addr × Obj)}

/-- a cell that is ground -/
theorem fx_ldCell {x : Str} {pos : Pos} {c : Addr} {v : Value} {Q : Value → Shared → Prop} (X : Fx w g hE env outer m news s.heap) (hv : g.IsCell c (some v)) (h : Q v s)
    (hc : cenv.cells.lookup x = some c := by rfl) (hk : cenv.scope.kind = .function := by rfl) (hl : cenv.kindOf x = some .cell := by rfl) (hd : (x == ("__debug__" : Str)) = false := by decide) :
    wpAny (model prog w) A (eval (.Name x pos) cenv) Q E s := wpAny_Name (wpAny_loadName_cell hk hl hc (hv.keeps X.keep) h) hd
theorem fx_stCell {x : Str} {c : Addr} {o : Obj} {v₀ : Option Value} {v : Value} {Q : Unit → Shared → Prop} (X : Fx w g hE env outer m ((c, o) :: rest) s.heap) (hd : o.data = .cell v₀)
    (h : ∀ g' h', g.StaysIn g' → Fx w g' hE env outer m rest h' → g'.IsCell c (some v) → Q () { s with heap := h' })
    (hc : env.cells.lookup x = some c := by rfl) (hl : env.kindOf x = some .cell := by rfl) :
    wpAny (model prog w) A (storeName env x v) Q E s := by
  refine wpAny_storeName_cell X.hk hl hc ⟨o, X.get0, hd⟩ fun h' hv hs => ?_
  obtain ⟨o', ho, hd'⟩ := hv
  obtain ⟨g', st, X', e⟩ := (X.upd ho hs).fz0
  exact h g' h' st X' ⟨o', e, hd'⟩
/-- a name of a comprehension's own -/
theorem fx_ldC {x : Str} {pos : Pos} {o : Obj} {mC : Str → Option Value} {v : Value} {Q : Value → Shared → Prop} (ho : s.heap.get? cenv.locals = some o) (hn : NsO o mC) (hv : mC x = some v) (h : Q v s)
    (hk : cenv.scope.kind = .function := by rfl) (hl : cenv.kindOf x = some .local := by rfl) (hd : (x == ("__debug__" : Str)) = false := by decide) :
    wpAny (model prog w) A (eval (.Name x pos) cenv) Q E s := wpAny_Name (wpAny_loadName_local hk hl (hn.ns ho) hv h) hd
theorem fx_glC {x : Str} {pos : Pos} {v : Value} {Q : Value → Shared → Prop} (X : Fx w g hE env outer m news s.heap) (hv : mgK w.params x = some v) (h : Q v s)
    (hk : cenv.scope.kind = .function := by rfl) (hg : cenv.globals = mainGlobals := by rfl) (hx : cenv.kindOf x = some .globalImplicit := by rfl) (hd : (x == ("__debug__" : Str)) = false := by decide) : wpAny (model prog w) A (eval (.Name x pos) cenv) Q E s :=
  Calls.Name_function_global hk hx (Calls.loadGlobal_global (mg := mgK w.params) (by rw [hg]; exact (main_ns X.gr).keeps X.keep) hv h) hd

set_option maxHeartbeats 4000000 in
theorem fx_compBlock {elt iter : Expr} {x : Str} {px : Pos} {ifs : List Expr} {scope : Scope} {cl : List (Str × Addr)} {pos : Pos} {I : Addr} (ob : Nat → Obj) (N : Nat) (P : Nat → Value → Prop) (G : Heap → Prop) (gk : ∀ g g' : Heap, g.StaysIn g' → G g → G g')
    (item : ∀ i (s : Shared) (Q : Option Value → Shared → Prop) (E : Value → Shared → Prop) g m news, i < N → G g → Fx w g hE env outer m ((I, ob i) :: news) s.heap →
      (∀ v h' tk, P i v → Fx w g hE env outer m ((I, ob (i + 1)) :: news) h' → Q (some v) { s with heap := h', toks := tk }) → wpAny (model prog w) A (pyNext (.ref I)) Q E s)
    (fin : ∀ (s : Shared) (Q : Option Value → Shared → Prop) (E : Value → Shared → Prop) g m news, G g → Fx w g hE env outer m ((I, ob N) :: news) s.heap →
      (∀ h' tk, Fx w g hE env outer m news h' → Q none { s with heap := h', toks := tk }) → wpAny (model prog w) A (pyNext (.ref I)) Q E s)
    (self : ∀ (s : Shared) (Q : Value → Shared → Prop) (E : Value → Shared → Prop) g m news, Fx w g hE env outer m ((I, ob 0) :: news) s.heap → Q (.ref I) s → wpAny (model prog w) A (pyIter (.ref I)) Q E s)
    (J : Nat → List Value → Heap → List (Addr × Obj) → Prop) {RR : Value → Addr → Result → Shared → Prop}
    (X : Fx w g hE env outer m ((I, ob 0) :: news) s.heap) (hG : G g) (hz : N ≤ sizeLine) (hcell : ∀ y ∈ scope.names, y.2 ≠ .cell) (hkind : scope.kind = .function) (hx : scope.names.lookup x = some .local) (h0 : J 0 [] g news)
    (turn : ∀ i acc n C D oC mC g' news' h' tk v E', i < N → P i v → J i acc g' news' → g.StaysIn g' → NsO oC mC → mC x = some v → Fx w g' hE env outer m ((D, lo acc n) :: (C, oC) :: (I, ob (i + 1)) :: news') h' →
      wpAny (model prog w) A (forIn ifs true fun c r => if r = true then do let ok ← isTrue c (compEnvC scope cl C env) (eval c (compEnvC scope cl C env)); pure (ForInStep.yield ok) else pure (ForInStep.yield r))
        (fun ok s₃ => if ok = true then wpAny (model prog w) A (eval elt (compEnvC scope cl C env))
            (fun y s₄ => ∃ g'' news'' h'' tk'', s₄ = { s with heap := h'', toks := tk'' } ∧ g'.StaysIn g'' ∧ Fx w g'' hE env outer m ((D, lo acc n) :: (C, oC) :: (I, ob (i + 1)) :: news'') h'' ∧ J (i + 1) (acc ++ [y]) g'' news'') E' s₃
          else ∃ g'' news'' h'' tk'', s₃ = { s with heap := h'', toks := tk'' } ∧ g'.StaysIn g'' ∧ Fx w g'' hE env outer m ((D, lo acc n) :: (C, oC) :: (I, ob (i + 1)) :: news'') h'' ∧ J (i + 1) acc g'' news'') E' { s with heap := h', toks := tk })
    (done : ∀ acc n C D oC mC g' news' h' tk, J N acc g' news' → g.StaysIn g' → NsO oC mC → Fx w g' hE env outer m ((D, lo acc n) :: (C, oC) :: news') h' → RR (.ref D) C (.ok .next) { s with heap := h', toks := tk }) :
    wpAny (model prog w) A (newList []) (fun acc s₃ => wpAny (model prog w) A (newFunctionEnv scope env.globals cl [] env.qual none .none (some env)) (fun cenv s₄ =>
      codeAny (model prog w) A (.compStart (.ListComp elt [⟨.Name x px, iter, ifs, 0⟩] scope pos) 0 (.ref I) acc { cenv with scope := relabel scope env }) (RR acc cenv.locals) s₄) E s₃) E s := by
  refine wpAny_newObj_type (wpAny_newFunctionEnv hcell (by intro y hy; simp at hy) (fun h₁ hns₁ hsb₁ => ?_) hkind)
  dsimp only at hns₁ hsb₁ ⊢
  have X1 := X.push (lo [] 0)
  generalize hH2 : s.heap.push { cls := .type "list", dict := none, data := .seq ([] : List Value).toArray } = H2 at hns₁ hsb₁ ⊢
  have X1 : Fx w g hE env outer m ((s.heap.objs.size, lo [] 0) :: (I, ob 0) :: news) H2 := by rw [← hH2]; exact X1
  have X2 := X1.push { cls := .type (if (some env).isSome then "dict" else "frame"), data := .dict #[] }
  obtain ⟨oC, hoC, hnC⟩ := NsO.of hns₁
  have X3 := (X2.upd hoC hsb₁).sw
  generalize hD : s.heap.objs.size = D at X3 ⊢
  generalize hC : H2.objs.size = C at X3 hnC ⊢
  have loop : ∀ s₃ : Shared, s₃ = { s with heap := h₁, toks := s.toks + ([] : List (Str × Value)).length } →
      codeAny (model prog w) A (.compLoop (.ListComp elt [⟨.Name x px, iter, ifs, 0⟩] scope pos) 0 (.ref I) (.ref D) (compEnvC scope cl C env)) (RR (.ref D) C) s₃ := by
    rintro s₃ rfl
    refine codeAny_compLoop_tests (fun k s' => ∃ i acc n oC mC g' news' h' tk, s' = { s with heap := h', toks := tk } ∧ i ≤ N ∧ k = N + 1 - i ∧ acc.length ≤ i ∧ J i acc g' news' ∧ g.StaysIn g' ∧ NsO oC mC ∧
      Fx w g' hE env outer m ((I, ob i) :: (D, lo acc n) :: (C, oC) :: news') h') ?_ (N + 1) ⟨0, [], 0, oC, _, g, news, h₁, _, rfl, Nat.zero_le _, rfl, Nat.le_refl _, h0, stays_refl g, hnC, X3.r3⟩
    rintro k _ ⟨i, acc, n, oC', mC, g', news', h', tk, rfl, hi, rfl, hal, hJ, st, hno, X'⟩
    by_cases hlt : i < N
    · refine item i _ _ _ g' m _ hlt (gk _ _ st hG) X' fun v h₁ tk₁ hP Y₁ => ?_
      refine wpAny_assign_Name (wpAny_storeName_local (env := compEnvC scope cl C env) (lookup_relabel_local hx) (hno.ns (Y₁.get (.tail _ (.tail _ (.head _))))) (fun h₂ hn₂ hs₂ => ?_) (by simp [compEnvC, relabel, hkind]))
      obtain ⟨o₂, ho₂, hno₂⟩ := NsO.of hn₂
      have Y₂ := (Y₁.r3.upd ho₂ hs₂).r3
      refine wpAny_mono (turn i acc n C D o₂ _ g' news' h₂ _ v _ hlt hP hJ st hno₂ (if_pos rfl) Y₂) (fun ok s₃ q => ?_) fun _ _ q => q
      cases ok with
      | false =>
        obtain ⟨g'', news'', h'', tk'', rfl, st', Y', hJ'⟩ := q
        exact ⟨N + 1 - (i + 1), by omega, i + 1, acc, n, o₂, _, g'', news'', h'', tk'', rfl, hlt, rfl, by omega, hJ', stays_trans st st', hno₂, Y'.r3⟩
      | true =>
        refine wpAny_mono q (fun y s₄ q => ?_) fun _ _ q => q
        obtain ⟨g'', news'', h'', tk'', rfl, st', Y', hJ'⟩ := q
        refine wpAny_list_append_plain (hsz := by simp only [List.size_toArray]; omega) ⟨n, Y'.get0⟩ fun h₅ hl₅ hs₅ => ?_
        obtain ⟨n₅, e₅⟩ := hl₅
        have Y₅ := Y'.upd (o' := lo (acc ++ [y]) n₅) (by rw [e₅]; simp) hs₅
        exact ⟨N + 1 - (i + 1), by omega, i + 1, acc ++ [y], n₅, o₂, _, g'', news'', h₅, tk'', rfl, hlt, rfl, by simp; omega, hJ', stays_trans st st', hno₂, Y₅.r3⟩
    · have hin : i = N := by omega
      subst hin
      exact fin _ _ _ g' m _ (gk _ _ st hG) X' fun h₁ tk₁ Y₁ => done acc n C D oC' mC g' news' h₁ tk₁ hJ st hno Y₁
  exact codeAny_compStart_list (loop _ rfl) (self _ _ _ _ _ _ X3.r3 (loop _ rfl))
end
end
end Mine

namespace Mine
section
open PySem PySem.W PyProof.Rows PySem.Calls
section
variable {prog : Program} {w : World} {A : Around} {E : Value → Shared → Prop} {s : Shared} {g hE : Heap} {env cenv : Env} {outer : List Env} {m : Str → Option Value} {news rest : List (Addr × Obj)}

/-- a turn of a comprehension -/
def CTurn (prog : Program) (w : World) (A : Around) (hE : Heap) (env : Env) (outer : List Env) (m : Str → Option Value) (scope : Scope) (cl : List (Str × Addr)) (x : Str) (ifs : List Expr) (elt : Expr)
    (J : Nat → List Value → Heap → List (Addr × Obj) → Prop) (P : Nat → Value → Prop) (ob : Nat → Obj) (I : Addr) (N : Nat) (g : Heap) (s : Shared) : Prop :=
  ∀ i acc n C D oC mC g' news' h' tk v E', i < N → P i v → J i acc g' news' → g.StaysIn g' → NsO oC mC → mC x = some v → Fx w g' hE env outer m ((D, lo acc n) :: (C, oC) :: (I, ob (i + 1)) :: news') h' →
    wpAny (model prog w) A (forIn ifs true fun c r => if r = true then do let ok ← isTrue c (compEnvC scope cl C env) (eval c (compEnvC scope cl C env)); pure (ForInStep.yield ok) else pure (ForInStep.yield r))
      (fun ok s₃ => if ok = true then wpAny (model prog w) A (eval elt (compEnvC scope cl C env))
          (fun y s₄ => ∃ g'' news'' h'' tk'', s₄ = { s with heap := h'', toks := tk'' } ∧ g'.StaysIn g'' ∧ Fx w g'' hE env outer m ((D, lo acc n) :: (C, oC) :: (I, ob (i + 1)) :: news'') h'' ∧ J (i + 1) (acc ++ [y]) g'' news'') E' s₃
        else ∃ g'' news'' h'' tk'', s₃ = { s with heap := h'', toks := tk'' } ∧ g'.StaysIn g'' ∧ Fx w g'' hE env outer m ((D, lo acc n) :: (C, oC) :: (I, ob (i + 1)) :: news'') h'' ∧ J (i + 1) acc g'' news'') E' { s with heap := h', toks := tk }

set_option maxHeartbeats 4000000 in
theorem fx_Assign_compRange {elt iter : Expr} {x y : Str} {px py : Pos} {ifs : List Expr} {scope : Scope} {cl : List (Str × Addr)} {pos spos : Pos} {Q : Flow → Shared → Prop} (hn : A.handled = none)
    (h : wpAny (model prog w) A (eval iter env) (fun xv s₁ => wpAny (model prog w) A (pyIter xv) (fun it s₂ => ∃ (J : Nat → List Value → Heap → List (Addr × Obj) → Prop) (I : Addr) (N : Nat) (g₁ : Heap) (m₁ : Str → Option Value) (news₁ : List (Addr × Obj)),
      it = .ref I ∧ Fx w g₁ hE env outer m₁ ((I, rit 0 (N : Nat)) :: news₁) s₂.heap ∧ N ≤ sizeLine ∧ J 0 [] g₁ news₁ ∧
      CTurn prog w A hE env outer m₁ scope cl x ifs elt J (fun i v => ∃ t, v = .int (i : Nat) t) (fun i => rit (i : Nat) (N - (i : Nat))) I N g₁ s₂ ∧
      (∀ D acc n g' news' h' tk, J N acc g' news' → g₁.StaysIn g' → Fx w g' hE env outer (fun z => if z = y then some (.ref D) else m₁ z) ((D, lo acc n) :: news') h' → Q .next { s₂ with heap := h', toks := tk })) E s₁) E s)
    (hsw : swapsWith (.ListComp elt [⟨.Name x px, iter, ifs, 0⟩] scope pos) (some (.Name y py)) spos.line env = pure true := by rfl)
    (hclos : closureFor scope env = pure cl := by rfl) (hcell : ∀ y ∈ scope.names, y.2 ≠ .cell := by decide) (hkind : scope.kind = .function := by rfl)
    (hnames : ∀ z ∈ scope.names, z.2 = .local → scope.names.lookup z.1 = some .local := by decide) (hx : scope.names.lookup x = some .local := by rfl)
    (hy : env.kindOf y = some .local := by rfl) (hs : ∀ x, foldedSetIterable iter env x = pure x := by intro _; rfl) :
    wpAny (model prog w) A (exec (.Assign [.Name y py] (.ListComp elt [⟨.Name x px, iter, ifs, 0⟩] scope pos) spos) env) Q E s := by
  rw [exec_Assign_Name_used _ _ _ _ hsw]
  refine wpAny_bind (wpAny_standAt (wpAny_bind ?_))
  show wpAny _ A (do let _ ← comprehension (.ListComp elt [⟨.Name x px, iter, ifs, 0⟩] scope pos) scope env _ (newList []) false (eval iter env) (some (assign (.Name y py) env))) _ _ s
  refine wpAny_bind (wpAny_mono (wpAny_comprehension_free (use := some (assign (.Name y py) env)) (Q := fun _ s' => Q .next s') rfl hs hclos hkind hnames
    (wpAny_mono h (fun xv s₁ h₁ => wpAny_mono h₁ (fun it s₂ h₂ => ?_) fun _ _ e => e) fun _ _ e => e)) (fun _ s' hq => wpAny_pure (wpAny_pure hq)) fun _ _ e => e)
  obtain ⟨J, I, N, g₁, m₁, news₁, rfl, X, hz, h0, turn, done⟩ := h₂
  refine fx_compBlock (RR := fun acc C => compPost (model prog w) A E (some (assign (.Name y py) env)) (fun _ s' => Q .next s') acc C) (fun i => rit (i : Nat) (N - (i : Nat))) N (fun i v => ∃ t, v = .int (i : Nat) t) (fun _ => True) (fun _ _ _ _ => trivial) ?_ ?_ ?_ J (by simpa using X) trivial hz hcell hkind hx h0 turn ?_
  · intro i s Q E g m news hi _ X hQ
    refine wpAny_pyNext_range_item X.get0 (by omega) fun h' e hs => hQ _ h' _ ⟨_, rfl⟩ ?_
    refine X.upd ?_ hs
    rw [e]
    rw [show (i : Int) + 1 = ((i + 1 : Nat) : Int) by omega, show (N : Int) - (i : Int) - 1 = N - ((i + 1 : Nat) : Int) by omega]
  · intro s Q E g m news _ X hQ
    refine wpAny_pyNext_range_end hn X.get0 (by omega) fun h' he => hQ h' s.toks (X.ext he)
  · intro s Q E g m news X hQ
    exact wpAny_pyIter_rangeiter X.get0 hQ
  · intro acc n C D oC mC g' news' h' tk hJ st hno X'
    show wpAny _ A (assign (.Name y py) env (.ref D)) _ _ _
    refine wpAny_assign_Name (fx_st X' (fun h₂ X₂ => ?_) hy)
    refine ⟨mC, hno.ns X₂.sw.get0, fun h₃ hs₃ => done D acc n g' news' h₃ _ hJ st (X₂.sw.ext hs₃.extBut)⟩

set_option maxHeartbeats 4000000 in
theorem fx_compList {elt iter : Expr} {x : Str} {px : Pos} {ifs : List Expr} {scope : Scope} {cl : List (Str × Addr)} {pos : Pos} {Q : Value → Shared → Prop} (hn : A.handled = none)
    (h : wpAny (model prog w) A (eval iter env) (fun xv s₁ => wpAny (model prog w) A (pyIter xv) (fun it s₂ => ∃ (J : Nat → List Value → Heap → List (Addr × Obj) → Prop) (I : Addr) (l : Addr) (its : List Value) (g₁ : Heap) (m₁ : Str → Option Value) (news₁ : List (Addr × Obj)),
      it = .ref I ∧ g₁.IsList l its.toArray ∧ Fx w g₁ hE env outer m₁ ((I, ito l 0) :: news₁) s₂.heap ∧ its.length ≤ sizeLine ∧ J 0 [] g₁ news₁ ∧
      CTurn prog w A hE env outer m₁ scope cl x ifs elt J (fun i v => its[i]? = some v) (fun i => ito l i) I its.length g₁ s₂ ∧
      (∀ D acc n g' news' h' tk, J its.length acc g' news' → g₁.StaysIn g' → Fx w g' hE env outer m₁ ((D, lo acc n) :: news') h' → Q (.ref D) { s₂ with heap := h', toks := tk })) E s₁) E s)
    (hclos : closureFor scope env = pure cl := by rfl) (hcell : ∀ y ∈ scope.names, y.2 ≠ .cell := by decide) (hkind : scope.kind = .function := by rfl)
    (hnames : ∀ z ∈ scope.names, z.2 = .local → scope.names.lookup z.1 = some .local := by decide) (hx : scope.names.lookup x = some .local := by rfl)
    (hs : ∀ x, foldedSetIterable iter env x = pure x := by intro _; rfl) :
    wpAny (model prog w) A (eval (.ListComp elt [⟨.Name x px, iter, ifs, 0⟩] scope pos) env) Q E s := by
  rw [eval_ListComp]
  refine wpAny_comprehension_free (use := none) rfl hs hclos hkind hnames (wpAny_mono h (fun xv s₁ h₁ => wpAny_mono h₁ (fun it s₂ h₂ => ?_) fun _ _ e => e) fun _ _ e => e)
  obtain ⟨J, I, l, its, g₁, m₁, news₁, rfl, hl, X, hz, h0, turn, done⟩ := h₂
  refine fx_compBlock (RR := fun acc C => compPost (model prog w) A E none Q acc C) (fun i => ito l i) its.length (fun i v => its[i]? = some v) (fun g => g.IsList l its.toArray) (fun _ _ st q => q.at fun o e => st _ o e) ?_ ?_ ?_ J X hl hz hcell hkind hx h0 turn ?_
  · intro i s Q E g m news hi hl X hQ
    exact fx_pyNext X hl (List.getElem?_eq_getElem hi) fun h' X' => hQ _ h' _ (List.getElem?_eq_getElem hi) X'
  · intro s Q E g m news hl X hQ
    have hit : s.heap.IsListIter I l its.length := ⟨_, X.get0, rfl, rfl⟩
    refine wpAny_pyNext_list_end hn hit (hl.at fun o e => X.keep _ o e) (by simp) fun h' he => hQ h' s.toks (X.ext he)
  · intro s Q E g m news X hQ
    exact wpAny_pyIter_listiter ⟨_, X.get0, rfl, rfl⟩ hQ
  · intro acc n C D oC mC g' news' h' tk hJ st hno X'
    exact ⟨mC, hno.ns X'.sw.get0, fun h₃ hs₃ => done D acc n g' news' h₃ _ hJ st (X'.sw.ext hs₃.extBut)⟩
end
end
end Mine

namespace Mine
section
open PySem PySem.W PyProof.Rows PySem.Calls
section
variable {prog : Program} {w : World} {A : Around} {E : Value → Shared → Prop} {s : Shared} {g hE : Heap} {env cenv : Env} {outer : List Env} {m : Str → Option Value} {news rest : List (Addr × Obj)}

theorem Fx.stay {h h' : Heap} (X : Fx w g hE env outer m news h) (k : h.StaysIn h') : Fx w g hE env outer m news h' :=
  X.to (X.ns.keeps k) (fun b x _ _ e => k b x e) (fun p hp => ⟨k _ _ (X.N p hp).1, (X.N p hp).2⟩) (fun p hp => .inl ⟨p, hp, rfl⟩) X.dj

theorem fx_addL {l b : Addr} {vs ws : List Value} {Q : Value → Shared → Prop} (X : Fx w g hE env outer m news s.heap) (hl : s.heap.IsList l vs.toArray) (hb : s.heap.IsList b ws.toArray) (hz : vs.length + ws.length ≤ sizeLine)
    (h : ∀ a h', Fx w g hE env outer m ((a, lo (vs ++ ws) 0) :: news) h' → Q (.ref a) { s with heap := h' }) :
    wpAny (model prog w) A (binaryOp .Add (.ref l) (.ref b)) Q E s := by
  obtain ⟨⟨cls, dd, data, sl⟩, ho, hc, n, hd⟩ := id hl
  obtain ⟨⟨cls2, dd2, data2, sl2⟩, ho2, hc2, n2, hd2⟩ := id hb
  simp only at hc hd hc2 hd2
  subst hc hd hc2 hd2
  have e : vs.toArray ++ ws.toArray = (vs ++ ws).toArray := by simp
  refine concat_meets ⟨_, ho, rfl⟩ ⟨_, ho2, rfl⟩ noFill_list_add seq_list_add PySem.F.slot_list_add PySem.F.entry_list_add (PySem.F.args_list_add_2 _ _) (list_addW l b vs.toArray ws.toArray n n2 dd dd2 sl sl2 (by simpa using hz)) ⟨ho, ho2, ?_⟩
  rw [e]
  exact h _ _ (X.push _)

theorem fx_mulL {l : Addr} {v : Value} {k : Nat} {x : Int} {u : Tok} {Q : Value → Shared → Prop} (X : Fx w g hE env outer m news s.heap) (hl : s.heap.get? l = some (lo [v] k)) (h0 : 0 ≤ x) (h1 : x < 100)
    (h : ∀ a h', Fx w g hE env outer m ((a, lo (List.replicate x.toNat v) 0) :: news) h' → Q (.ref a) { s with heap := h' }) :
    wpAny (model prog w) A (binaryOp .Mult (.ref l) (.int x u)) Q E s := by
  refine wpAny_binaryOp_repeat_ref (T := "list") (U := "int") (by decide) ⟨_, hl, rfl⟩ (fun s' => typeIs_int s' x u) noFill_list_mul PySem.F.fills_int_mul PySem.F.slot_int_rmul repeat_list PySem.F.slot_int_index.lookup
    (call_meets PySem.F.slot_int_rmul (typeIs_int s x u) PySem.F.entry_int_rmul (PySem.F.args_int_rmul_2 _ _) (int___rmul___int_list x u l #[v] k)
      ⟨hl, rfl, ⟨_, hl, rfl⟩, call_meets PySem.F.slot_list_mul ⟨_, hl, rfl⟩ PySem.F.entry_list_mul (PySem.F.args_list_mul_2 _ _)
        (AutoListH.list___mul___list_int_3 l #[v] k x u (by simp [Builtin.List.listFitsIndex]; omega) (by simp; omega) (by simp [Builtin.List.listTooLong, sizeLine]; omega))
        ⟨hl, ?_⟩⟩)
  have e : (List.foldl (fun x1 x2 => x1 ++ x2) #[] (List.replicate (if (#[v] : Array Value).isEmpty = true then 0 else x.toNat) #[v])) = (List.replicate x.toNat v).toArray := by
    rw [if_neg (by simp)]
    have key : ∀ n (acc : Array Value), List.foldl (fun x1 x2 => x1 ++ x2) acc (List.replicate n #[v]) = acc ++ (List.replicate n v).toArray := by
      intro n
      induction n with
      | zero => intro acc; simp
      | succ n ih => intro acc; rw [List.replicate_succ, List.foldl_cons, ih, List.replicate_succ]; apply Array.toList_inj.mp; simp
    rw [key]; simp
  rw [e]
  exact h _ _ (X.push _)

theorem fx_sum {l : Addr} {vs : List Value} {ns : List Int} {Q : Value → Shared → Prop} (X : Fx w g hE env outer m news s.heap) (hh : A.handled = none) (hl : s.heap.IsList l vs.toArray) (hi : IntsAre vs ns)
    (h : ∀ h' tk t', Fx w g hE env outer m news h' → Q (.int ns.sum t') { s with heap := h', toks := tk }) : wpAny (model prog w) A (call (.builtin "sum") [.ref l]) Q E s := by
  obtain ⟨xs, hx⟩ := hi.allInts.items
  have hl' : s.heap.IsList l (intItems xs) := hx ▸ hl
  refine sum_intListG hh hl' fun h' tk t' hk => ?_
  have e1 : ns = xs.toList.map (·.1) := by
    rw [← nums_intItems, ← hx]
    exact (show numsOf vs.toArray.toList = ns from hi.numsOf).symm
  have e2 : preSum (numAt xs) xs.size = ns.sum := by
    rw [preSum_eq, List.take_of_length_le (by simp), e1]
  rw [e2]
  exact h h' tk t' (X.stay hk)

theorem fx_unpack2 {x y : Str} {px py : Pos} {k : Nat} {tpos pos : Pos} {value : Expr} {Q : Flow → Shared → Prop} (hh : A.handled = none)
    (h : wpAny (model prog w) A (eval value env) (fun v s₁ => ∃ t a b g₁ m₁ news₁, v = .ref t ∧ IsTup s₁.heap t #[a, b] ∧ Fx w g₁ hE env outer m₁ news₁ s₁.heap ∧
      ∀ h' tk, Fx w g₁ hE env outer (fun z => if z = y then some b else if z = x then some a else m₁ z) news₁ h' → Q .next { s₁ with heap := h', toks := tk }) E s)
    (hs : swapsWithSole [.Tuple [.Name x px, .Name y py] k tpos] value pos.line env = pure false := by rfl)
    (hw : swappedStores [.Tuple [.Name x px, .Name y py] k tpos] value env = pure none := by rfl)
    (hx : env.kindOf x = some .local := by rfl) (hy : env.kindOf y = some .local := by rfl) :
    wpAny (model prog w) A (exec (.Assign [.Tuple [.Name x px, .Name y py] k tpos] value pos) env) Q E s := by
  refine Assign_Tuple (wpAny_mono h (fun v s₁ q => ?_) fun _ _ q => q) hs hw
  obtain ⟨t, a, b, g₁, m₁, news₁, rfl, ht, X, k⟩ := q
  refine assign_Tuple_tuple hh ht rfl rfl fun h' he => ?_
  have X1 := X.stay fun b o e => he b o (Nat.ne_of_lt (Heap.lt_size e)) e
  show wpAny _ _ (do holding [b] (assign (.Name x px) env a); assignInOrder [assign (.Name y py) env] [b]) _ _ _
  refine wpAny_bind (wpAny_holding (wpAny_assign_Name (fx_st X1 (fun h₂ X₂ => ?_) hx)))
  show wpAny _ _ (do holding [] (assign (.Name y py) env b); assignInOrder [] []) _ _ _
  refine wpAny_bind (wpAny_holding (wpAny_assign_Name (fx_st X₂ (fun h₃ X₃ => ?_) hy)))
  exact wpAny_pure (k _ _ X₃)

def IsO (o : Obj) (its : List Value) : Prop := o.cls = .type "list" ∧ ∃ n, o.data = .seq its.toArray n
theorem IsO.at {o : Obj} {its : List Value} (x : IsO o its) {h : Heap} {a : Addr} (e : h.get? a = some o) : h.IsList a its.toArray := ⟨o, e, x.1, x.2⟩
/-- an item of a list is set -/
theorem fx_setItem {o i value : Expr} {pos' pos : Pos} {Q : Flow → Shared → Prop}
    (h : wpAny (model prog w) A (eval value env) (fun v s₁ => wpAny (model prog w) A (eval o env) (fun ov s₂ => wpAny (model prog w) A (eval i env) (fun iv s₃ =>
      ∃ l its ob k t g₁ m₁ news₁, ov = .ref l ∧ iv = .int k t ∧ IsO ob its ∧ 0 ≤ k ∧ k < its.length ∧ its.length < 2 ^ 62 ∧ Fx w g₁ hE env outer m₁ ((l, ob) :: news₁) s₃.heap ∧
        ∀ h' ob', IsO ob' (its.set k.toNat v) → Fx w g₁ hE env outer m₁ ((l, ob') :: news₁) h' → Q .next { s₃ with heap := h' }) E s₂) E s₁) E s)
    (hs : swapsWith value (some (.Subscript o i pos')) pos.line env = pure false := by rfl) :
    wpAny (model prog w) A (exec (.Assign [.Subscript o i pos'] value pos) env) Q E s := by
  refine wpAny_Assign_Subscript (wpAny_mono h (fun v s₁ h₁ => wpAny_mono h₁ (fun ov s₂ h₂ => wpAny_mono h₂ (fun iv s₃ h₃ => ?_) fun _ _ q => q) fun _ _ q => q) fun _ _ q => q) hs
  obtain ⟨l, its, ob, k, t, g₁, m₁, news₁, rfl, rfl, hl, h0, h1, hz, X, q⟩ := h₃
  refine wpAny_setItem_list (hl.at X.get0) h0 (by omega) (by simpa using h1) fun h' hl' hs' => ?_
  obtain ⟨ob', ho', hc', n', hd'⟩ := id hl'
  exact q h' ob' ⟨hc', n', by simpa using hd'⟩ (X.upd ho' hs')

theorem fx_index {l : Addr} {vs : List Value} {ns : List Int} {k : Int} {t : Tok} {Q : Value → Shared → Prop} (hl : s.heap.IsList l vs.toArray) (hi : IntsAre vs ns) (hz : ns.length < 2 ^ 60) (hk : k ∈ ns)
    (h : Q (.int (ns.idxOf k : Nat) s.toks) { s with toks := s.toks + 1 }) : wpAny (model prog w) A (call (.builtin "list.index") [.ref l, .int k t]) Q E s := by
  obtain ⟨⟨cls, dd, data, sl⟩, ho, rfl, n, rfl⟩ := id hl
  have e := hi.length
  have lt : ns.idxOf k < ns.length := List.idxOf_lt_length_iff.mpr hk
  refine call_meets PySem.F.slot_list_index ⟨_, ho, rfl⟩ PySem.F.entry_list_index (PySem.F.args_list_index_2 _ _)
    (SeqAt.list_indexAt l vs.toArray n dd sl (.int k t) (isInt k) (ns.idxOf k) (by simp; omega) (by omega) ?_ fun j hjs hlt => ?_) ⟨ho, fun y hy => (eq_isInt k t hi y (by simpa using hy)).at _ _, h⟩
  · show isInt k vs[ns.idxOf k] = true
    rw [isInt_at k hi _ (by omega) lt]
    simpa using List.getElem_idxOf lt
  · show isInt k vs[j] = false
    rw [isInt_at k hi j (by simpa using hjs) (by omega)]
    exact ne_of_lt_idxOf hlt _
end
end
end Mine

namespace Mine
section
open PySem PySem.W PyProof.Rows PySem.Calls
noncomputable abbrev lawE (w : World) (L fa : Addr) (cd : Value) : Env := envOfC "law" (fdAt w.params 68).scope L fa cd
noncomputable abbrev lawB (w : World) : List Stmt := bodyOf (fdAt w.params 68)

/-- numbers of a ring: each tells its place -/
def RingOk (rs : List Int) : Prop := ∀ (i : Nat) (r : Int), rs[i]? = some r → 0 ≤ r ∧ r < 64 ^ 8 ∧ r / 3 % 16 = i

theorem RingOk.snoc {rs : List Int} {r : Int} {k : Nat} (h : RingOk rs) (e : rs.length = k) (hr : 0 ≤ r ∧ r < 64 ^ 8 ∧ r / 3 % 16 = k) : RingOk (rs ++ [r]) := by
  intro i x hx
  rcases Nat.lt_trichotomy i rs.length with q | q | q
  · rw [List.getElem?_append_left q] at hx; exact h i x hx
  · rw [q, List.getElem?_concat_length] at hx
    cases hx
    rw [q, e]; exact hr
  · rw [List.getElem?_eq_none (by simp; omega)] at hx; cases hx
theorem ring_num (c : Int) (k : Nat) (hk : k < 5) : 0 ≤ (c.fmod 10).fmod 3 + 3 * (0 + (k : Int) + 16 * (c.fdiv 10).fmod (10 ^ Int.toNat 9)) ∧ (c.fmod 10).fmod 3 + 3 * (0 + (k : Int) + 16 * (c.fdiv 10).fmod (10 ^ Int.toNat 9)) < 64 ^ 8 ∧
    ((c.fmod 10).fmod 3 + 3 * (0 + (k : Int) + 16 * (c.fdiv 10).fmod (10 ^ Int.toNat 9))) / 3 % 16 = k := by
  rw [show (10 : Int) ^ Int.toNat 9 = 1000000000 from rfl, Int.fmod_eq_emod_of_nonneg _ (by decide), Int.fmod_eq_emod_of_nonneg _ (by decide), Int.fmod_eq_emod_of_nonneg _ (by decide)]
  have h1 := Int.emod_nonneg (c.fdiv 10) (b := 1000000000) (by decide)
  have h2 := Int.emod_lt_of_pos (c.fdiv 10) (b := 1000000000) (by decide)
  have h3 := Int.emod_nonneg (c % 10) (b := 3) (by decide)
  have h4 := Int.emod_lt_of_pos (c % 10) (b := 3) (by decide)
  generalize c.fdiv 10 % 1000000000 = q at *
  generalize c % 10 % 3 = a at *
  refine ⟨by omega, by omega, by omega⟩

theorem ints_get {vs : List Value} {ns : List Int} (h : IntsAre vs ns) : ∀ {i : Nat} {n : Int}, ns[i]? = some n → ∃ t, vs[i]? = some (.int n t) := by
  induction h with
  | nil => intro i n e; simp at e
  | cons n u _ ih =>
    intro i k e
    cases i with
    | zero => simp only [List.getElem?_cons_zero, Option.some.injEq] at e ⊢; subst e; exact ⟨u, rfl⟩
    | succ i => simp only [List.getElem?_cons_succ] at e ⊢; exact ih e
theorem ints_set {vs : List Value} {ns : List Int} (h : IntsAre vs ns) : ∀ (i : Nat) (n : Int) (t : Tok), IntsAre (vs.set i (.int n t)) (ns.set i n) := by
  induction h with
  | nil => intro i n t; exact .nil
  | cons k u h ih =>
    intro i n t
    cases i with
    | zero => exact .cons _ _ h
    | succ i => exact .cons _ _ (ih i n t)
theorem ints_snoc {vs : List Value} {ns : List Int} (h : IntsAre vs ns) (n : Int) (t : Tok) : IntsAre (vs ++ [.int n t]) (ns ++ [n]) := h.append (.cons _ _ .nil)

section
variable {prog : Program} {w : World} {A : Around} {E : Value → Shared → Prop} {s : Shared} {g hE : Heap} {m : Str → Option Value}

set_option maxHeartbeats 4000000 in
theorem segA {L fa : Addr} {cd : Value} {ax : Addr} {vs : List Value} {ns : List Int} {oR oC : Obj} {Q : Flow → Shared → Prop} (X : Fx w g hE (lawE w L fa cd) [] m [(L + 1 + 1, oC), (L + 1, oR)] s.heap)
    (hoR : oR.data = .cell none) (hm : m "script" = some (.ref ax)) (hl : g.IsList ax vs.toArray) (hi : IntsAre vs ns) (hlen : ns.length ≤ 63) (hn : A.handled = none)
    (next : ∀ g' h' tk m' ca cv cs ra rv rn rs, g.StaysIn g' → Fx w g' hE (lawE w L fa cd) [] m' [(ra, lo rv rn), (L + 1 + 1, oC)] h' → m' "cells" = some (.ref ca) → g'.IsList ca (List.toArray cv) → IntsAre cv cs → cs.length = 6 →
      g'.IsCell (L + 1) (some (.ref ra)) → IntsAre rv rs → rs.length = 5 → RingOk rs → wpAny (model prog w) A (execs (List.drop 4 (lawB w)) (lawE w L fa cd)) Q E { s with heap := h', toks := tk }) :
    wpAny (model prog w) A (execs (lawB w) (lawE w L fa cd)) Q E s := by
  have hvl := hi.length
  refine wpAny_execs_cons (wpAny_Assign_Name (fx_List (wpAny_items_cons (wpAny_Constant_int (wpAny_items_cons (wpAny_Constant_int (wpAny_items_cons (wpAny_Constant_int (wpAny_items_cons (wpAny_Constant_int (wpAny_items_cons (wpAny_Constant_int (wpAny_items_cons (wpAny_Constant_int (wpAny_items_nil ⟨by show 6 ≤ _; rw [sizeLine_eq]; decide, _, _, _, X, fun ca h₂ X₂ => fx_st X₂ fun h₃ X₃ => ?_⟩)))))))))))))))
  obtain ⟨cv0, icv0, Z₃⟩ : ∃ cv0, IntsAre cv0 [2, 70, 1, 4202, 33, 1] ∧ Fx w g hE (lawE w L fa cd) [] (fun y => if y = ("cells" : Str) then some (Value.ref ca) else m y) ((ca, lo cv0 0) :: [(L + 1 + 1, oC), (L + 1, oR)]) h₃ :=
    ⟨_, .cons _ _ (.cons _ _ (.cons _ _ (.cons _ _ (.cons _ _ (.cons _ _ .nil))))), X₃⟩
  clear X₂ X₃
  have X₃ := Z₃
  clear Z₃
  dsimp only
  refine wpAny_execs_cons (wpAny_For (fx_range1 rfl X₃ (fx_builtin1 (id := "len") (fx_bl X₃ (by rfl) PyProof.Rows.Boot.«len» ⟨rfl, fx_ld X₃ (by ktn_open) (fx_len (hl.at fun o e => X₃.keep _ o e) (by rw [sizeLine_eq]; omega) fun t9 tk9 => ⟨_, _, _, _, _, rfl, by omega, by omega, X₃, fun r tc1 tc2 tc3 h₄ tk₄ X₄ hr => ?_⟩)⟩))))
  refine fx_iterRange X₄ hr (by decide) (by decide) (by omega) (by omega) fun I h₅ X₅ => ?_
  rw [show ((vs.length : Int) - 0).toNat = ns.length by omega] at X₅
  dsimp only
  refine fx_rangeLoop (fun k g' m' news' => ∃ ob cv cs, news' = [(ca, ob), (L + 1 + 1, oC), (L + 1, oR)] ∧ IsO ob cv ∧ IntsAre cv cs ∧ cs.length = 6 ∧ m' "cells" = some (.ref ca) ∧ m' "script" = some (.ref ax)) X₅ hn (by rfl)
    ⟨_, _, _, rfl, ⟨rfl, _, rfl⟩, icv0, rfl, by ktn_open, by ktn_open⟩ ?_ ?_
  · rintro k g₂ m₂ _ h₆ tk₆ tt hk ⟨ob, cv, cs, rfl, hob, hic, hcl, hm1, hm2⟩ st₂ X₆
    obtain ⟨c, hc⟩ : ∃ c, cs[k % 6]? = some c := ⟨_, List.getElem?_eq_getElem (by omega)⟩
    obtain ⟨tc, hc'⟩ := ints_get hic hc
    obtain ⟨n, hn'⟩ : ∃ c, ns[k]? = some c := ⟨_, List.getElem?_eq_getElem hk⟩
    obtain ⟨tn, hn''⟩ := ints_get hi hn'
    have ek : ((0 : Int) + (k : Nat)).fmod 6 = ((k % 6 : Nat) : Int) := by rw [Int.fmod_eq_emod_of_nonneg _ (by decide)]; omega
    have ek2 : ((0 : Int) + (k : Nat)) = (k : Nat) := by omega
    have hcvl := hic.length
    refine wpAny_execs_cons (fx_setItem (wpAny_BinOp (fx_itemL (fx_ld X₆ (by ktn_open) (wpAny_BinOp (fx_ld X₆ (by ktn_open) (wpAny_Constant_int (mod_int' (by decide) ⟨ca, cv, _, _, _, rfl, rfl, hob.at X₆.sw.get0, by rw [ek]; omega, by rw [ek]; omega, by rw [ek]; exact hc', fx_itemL (fx_ld X₆ (by ktn_open) (fx_ld X₆ (by ktn_open) ⟨ax, vs, _, _, _, rfl, rfl, hl.at fun o e => X₆.keep _ o (st₂ _ o e), by omega, by omega, by rw [ek2]; exact hn'', add_int (fx_ld X₆ (by ktn_open) (wpAny_BinOp (fx_ld X₆ (by ktn_open) (wpAny_Constant_int (mod_int' (by decide) ⟨ca, cv, ob, _, _, _, _, _, rfl, rfl, hob, by rw [ek]; omega, by rw [ek]; omega, by omega, X₆.sw, fun h₇ ob' hob' X₇ => wpAny_execs_nil ?_⟩)))))⟩))⟩))))))))
    exact ⟨g₂, _, _, h₇, _, rfl, stays_refl _, X₇.sw, ob', _, _, rfl, hob', ints_set hic _ _ _, by simpa using hcl, by ktn_open, by ktn_open⟩
  · rintro g₂ m₂ _ h₆ tk₆ ⟨ob, cv, cs, rfl, hob, hic, hcl, hm1, hm2⟩ st₂ X₆
    obtain ⟨g₃, st₃, X₇, eca⟩ := X₆.fz0
    have st' : g.StaysIn g₃ := stays_trans st₂ st₃
    refine wpAny_execs_cons (wpAny_Assign_Name (fx_List (wpAny_items_nil ⟨Nat.zero_le _, _, _, _, X₇.sw, fun ra h₈ X₈ => ?_⟩)))
    refine fx_stCell (c := L + 1) X₈.sw hoR fun g₄ h₉ st₄ X₉ hcell => ?_
    have hca : g₄.IsList ca cv.toArray := hob.at (st₄ _ _ eca)
    refine wpAny_execs_cons (wpAny_For (fx_range1 rfl X₉ (wpAny_Constant_int ⟨_, _, _, _, _, rfl, by decide, by decide, X₉, fun r tc1 tc2 tc3 h₁₀ tk₁₀ X₁₀ hr => ?_⟩)))
    refine fx_iterRange X₁₀ hr (by decide) (by decide) (by decide) (by decide) fun I2 h₁₁ X₁₁ => ?_
    rw [show ((5 : Int) - 0).toNat = 5 by decide] at X₁₁
    dsimp only
    refine fx_rangeLoop (fun k g' m' news' => ∃ rv rn rs, news' = [(ra, lo rv rn), (L + 1 + 1, oC)] ∧ IntsAre rv rs ∧ rs.length = k ∧ RingOk rs ∧ m' "cells" = some (.ref ca)) X₁₁ hn (by rfl)
      ⟨[], 0, [], rfl, .nil, rfl, fun i r e => by simp at e, by ktn_open⟩ ?_ ?_
    · rintro k g₅ m₅ _ h₁₂ tk₁₂ tt hk ⟨rv, rn, rs, rfl, hir, hrl, hok, hm1⟩ st₅ X₁₂
      have hrvl := hir.length
      obtain ⟨c, hc⟩ : ∃ c, cs[k]? = some c := ⟨_, List.getElem?_eq_getElem (by omega)⟩
      obtain ⟨tc, hc'⟩ := ints_get hic hc
      have ek2 : ((0 : Int) + (k : Nat)) = (k : Nat) := by omega
      have hl5 : h₁₂.IsList ca cv.toArray := hca.at fun o e => X₁₂.keep _ o (st₅ _ o e)
      refine wpAny_execs_cons (wpAny_Expr_none (fx_append (w := w) (hE := hE) (outer := []) (fx_ldCell X₁₂ (hcell.keeps st₅) ⟨ra, _, _, rfl, X₁₂.sw.get0, wpAny_BinOp (wpAny_BinOp (wpAny_BinOp (fx_itemL (fx_ld X₁₂ (by ktn_open) (fx_ld X₁₂ (by ktn_open) ⟨ca, cv, _, _, _, rfl, rfl, hl5, by omega, by omega, by rw [ek2]; exact hc', wpAny_Constant_int (mod_int' (by decide) (wpAny_Constant_int (mod_int' (by decide) ?_)))⟩)))))⟩)))
      dsimp only
      refine wpAny_BinOp (wpAny_Constant_int (wpAny_BinOp (fx_ld X₁₂ (by ktn_open) (wpAny_BinOp (wpAny_Constant_int (wpAny_BinOp (wpAny_BinOp (fx_itemL (fx_ld X₁₂ (by ktn_open) (fx_ld X₁₂ (by ktn_open) ⟨ca, cv, _, _, _, rfl, rfl, hl5, by omega, by omega, by rw [ek2]; exact hc', wpAny_Constant_int (floordiv_int (by decide) ?_)⟩))))))))))
      dsimp only
      refine wpAny_BinOp (wpAny_Constant_int (wpAny_Constant_int (AutoIntOps.pow_4 (by decide) (by decide) (by decide) (by decide) (by decide +kernel) ?_)))
      dsimp only
      refine mod_int' (by decide +kernel) (mul_int (add_int (mul_int (add_int ⟨rv, rn, _, _, _, by rw [sizeLine_eq]; omega, X₁₂.sw, fun h₁₃ X₁₃ => ⟨rfl, wpAny_execs_nil ?_⟩⟩))))
      exact ⟨g₅, _, _, h₁₃, _, rfl, stays_refl _, X₁₃.sw, _, _, _, rfl, ints_snoc hir _ _, by simp; omega, hok.snoc hrl (ring_num c k hk), by ktn_open⟩
    · rintro g₅ m₅ _ h₁₂ tk₁₂ ⟨rv, rn, rs, rfl, hir, hrl, hok, hm1⟩ st₅ X₁₂
      exact next g₅ h₁₂ _ m₅ ca cv cs ra rv rn rs (stays_trans (stays_trans st' st₄) st₅) X₁₂ hm1 (hca.at fun o e => st₅ _ o e) hic hcl (hcell.keeps st₅) hir hrl hok
end
end
end Mine

namespace Mine
section
open PySem PySem.W PyProof.Rows PySem.Calls
def wsum (rs : List Int) : Int := (rs.map (fun r => r % 3)).sum
theorem wsum_snoc (rs : List Int) (r : Int) : wsum (rs ++ [r]) = wsum rs + r % 3 := by simp [wsum]
theorem wsum_bounds : ∀ rs : List Int, 0 ≤ wsum rs ∧ wsum rs ≤ 2 * rs.length
  | [] => by simp [wsum]
  | r :: rs => by
    have := wsum_bounds rs
    simp only [wsum, List.map_cons, List.sum_cons, List.length_cons] at *
    omega
theorem fill_num (k : Nat) (h5 : 5 ≤ k) (hk : k < 16) : 0 ≤ 3 * (k : Int) + (k : Int).fmod 2 * 1440 ∧ 3 * (k : Int) + (k : Int).fmod 2 * 1440 < 64 ^ 8 ∧ (3 * (k : Int) + (k : Int).fmod 2 * 1440) / 3 % 16 = k ∧ (3 * (k : Int) + (k : Int).fmod 2 * 1440) % 3 = 0 := by
  rw [Int.fmod_eq_emod_of_nonneg _ (by decide)]
  refine ⟨by omega, by omega, by omega, by omega⟩

section
variable {prog : Program} {w : World} {A : Around} {E : Value → Shared → Prop} {s : Shared} {g hE : Heap} {env : Env} {outer : List Env} {m : Str → Option Value}

/-- what was made ground for a while opens again -/
theorem Fx.thaw {g' : Heap} {m₀ : Str → Option Value} {a : Addr} {o : Obj} {news₀ news : List (Addr × Obj)} {h₀ h : Heap} (X₀ : Fx w g hE env outer m₀ ((a, o) :: news₀) h₀) (X : Fx w g' hE env outer m news h) (st : g.StaysIn g') (e : g'.get? a = some o) :
    Fx w g hE env outer m ((a, o) :: news) h where
  gr := X₀.gr
  fo := X₀.fo
  sl := X.sl
  hf := X.hf
  hk := X.hk
  hg := X.hg
  hb := X.hb
  ns := X.ns
  keep := stays_trans st X.keep
  out := X₀.out
  nod := X.nod
  N := fun p hp => by
    rcases List.mem_cons.mp hp with rfl | hp
    · exact ⟨X.keep _ _ e, (X₀.N _ (.head _)).2⟩
    · refine ⟨(X.N p hp).1, (X.N p hp).2.1, ?_⟩
      cases q : g.get? p.1 with
      | none => rfl
      | some x => have := st _ _ q; rw [(X.N p hp).2.2] at this; cases this
  dis := fun b hb p hp => by
    rcases List.mem_cons.mp hp with rfl | hp
    · exact X₀.dis b hb _ (.head _)
    · exact X.dis b hb p hp
  dj := by
    simp only [List.map_cons, List.nodup_cons]
    refine ⟨fun hm => ?_, X.dj⟩
    obtain ⟨p, hp, q⟩ := List.mem_map.mp hm
    have := (X.N p hp).2.2
    rw [q, e] at this; cases this

theorem take_snoc {α : Type _} {l : List α} {i : Nat} {x : α} (h : l[i]? = some x) : l.take (i + 1) = l.take i ++ [x] := by rw [List.take_add_one, h]; rfl

set_option maxHeartbeats 4000000 in
theorem segB {L fa : Addr} {cd : Value} {ca ra : Addr} {cv rv : List Value} {cs rs : List Int} {rn : Nat} {oC : Obj} {Q : Flow → Shared → Prop} (X : Fx w g hE (lawE w L fa cd) [] m [(ra, lo rv rn), (L + 1 + 1, oC)] s.heap) (hn : A.handled = none)
    (hm : m "cells" = some (.ref ca)) (hca : g.IsList ca cv.toArray) (hic : IntsAre cv cs) (hcl : cs.length = 6) (hcell : g.IsCell (L + 1) (some (.ref ra))) (hir : IntsAre rv rs) (hrl : rs.length = 5) (hok : RingOk rs)
    (next : ∀ g' h' tk m' rv rn rs t, g.StaysIn g' → Fx w g' hE (lawE w L fa cd) [] m' [(L + 1 + 1, oC)] h' → g'.get? ra = some (lo rv rn) → g'.IsCell (L + 1) (some (.ref ra)) → IntsAre rv rs → 5 ≤ rs.length → rs.length ≤ 13 → RingOk rs → wsum rs < rs.length →
      m' "wanted" = some (.int (wsum rs) t) → wpAny (model prog w) A (execs (List.drop 6 (lawB w)) (lawE w L fa cd)) Q E { s with heap := h', toks := tk }) :
    wpAny (model prog w) A (execs (List.drop 4 (lawB w)) (lawE w L fa cd)) Q E s := by
  obtain ⟨g₁, st₁, X₁, era⟩ := X.fz0
  have hrvl := hir.length
  refine wpAny_execs_cons (wpAny_Assign_Name (fx_builtin1 (id := "sum") (fx_bl X₁ (by rfl) PyProof.Rows.Boot.«sum» ⟨rfl, ?_⟩)))
  refine fx_compList (cl := []) (w := w) (hE := hE) (outer := []) hn (fx_ldCell X₁ (hcell.keeps st₁) (fx_iterList X₁ (lo_isList (X₁.keep _ _ era)) fun I h₂ X₂ =>
    ⟨fun i acc g' news' => IntsAre acc ((rs.take i).map (fun r => r % 3)) ∧ news' = [(L + 1 + 1, oC)], I, ra, rv, g₁, m, [(L + 1 + 1, oC)], rfl, lo_isList era, X₂, by rw [sizeLine_eq]; omega, ⟨by simpa using .nil, rfl⟩, ?_, ?_⟩))
  · rintro i acc n C D oO mC g' news' h' tk v E' hi hP ⟨hacc, rfl⟩ st hno hmC X'
    obtain ⟨r, hr⟩ : ∃ c, rs[i]? = some c := ⟨_, List.getElem?_eq_getElem (by omega)⟩
    obtain ⟨t, hr'⟩ := ints_get hir hr
    rw [hP] at hr'
    cases hr'
    refine wpAny_tests_nil ?_
    refine wpAny_BinOp (fx_ldC (X'.get (.tail _ (.head _))) hno hmC (wpAny_Constant_int (mod_int' (by decide) ⟨g', _, h', _, rfl, stays_refl _, X', ?_, rfl⟩)))
    rw [take_snoc hr, List.map_append, Int.fmod_eq_emod_of_nonneg _ (by decide)]
    exact ints_snoc hacc _ _
  · rintro D acc n g₂ news₂ h₃ tk₃ ⟨hacc, rfl⟩ st₂ X₃
    rw [hrvl, List.take_length] at hacc
    refine fx_sum X₃ hn (lo_isList X₃.get0) hacc fun h₄ tk₄ t₄ X₄ => fx_st X₄ fun h₅ X₅ => ?_
    change IntsAre acc _ at hacc
    have X₆ : Fx w g hE (lawE w L fa cd) [] (fun y => if y = ("wanted" : Str) then some (Value.int (wsum rs) t₄) else m y) [(ra, lo rv rn), (L + 1 + 1, oC)] h₅ := X.thaw X₅.tail (stays_trans st₁ st₂) (st₂ _ _ era)
    have wb := wsum_bounds rs
    obtain ⟨c, hc⟩ : ∃ c, cs[5]? = some c := ⟨_, List.getElem?_eq_getElem (by omega)⟩
    obtain ⟨tc, hc'⟩ := ints_get hic hc
    have hc3 : 0 ≤ c.fmod 3 ∧ c.fmod 3 < 3 := by rw [Int.fmod_eq_emod_of_nonneg _ (by decide)]; omega
    refine wpAny_execs_cons (wpAny_For (fx_range2 rfl X₆ (wpAny_Constant_int ⟨_, _, rfl, ?_⟩)))
    refine wpAny_BinOp (wpAny_BinOp (fx_ld X₆ (by ktn_open) (wpAny_BinOp (fx_itemL (fx_ld X₆ (by ktn_open) (wpAny_Constant_int ⟨ca, cv, 5, _, _, rfl, rfl, hca.at fun o e => X₆.keep _ _ e, by decide, by decide, hc', wpAny_Constant_int (mod_int' (by decide) (add_int (wpAny_Constant_int (add_int ⟨_, _, _, _, _, rfl, X₆, fun r tc1 tc2 tc3 h₇ tk₇ X₇ hr => ?_⟩))))⟩))))))
    refine fx_iterRange X₇ hr (by decide) (by decide) (by omega) (by omega) fun I2 h₈ X₈ => ?_
    dsimp only
    refine fx_rangeLoop (fun k g' m' news' => ∃ rv rn rs', news' = [(ra, lo rv rn), (L + 1 + 1, oC)] ∧ IntsAre rv rs' ∧ rs'.length = 5 + k ∧ RingOk rs' ∧ wsum rs' = wsum rs ∧ m' "wanted" = some (.int (wsum rs) t₄)) X₈ hn (by rfl)
      ⟨rv, rn, rs, rfl, hir, hrl, hok, rfl, by ktn_open⟩ ?_ ?_
    · rintro k g₅ m₅ _ h₁₂ tk₁₂ tt hk ⟨rv, rn, rs', rfl, hir, hrl', hok, hws, hm1⟩ st₅ X₁₂
      have hrvl := hir.length
      have e5 : ((5 : Int) + (k : Nat)) = ((5 + k : Nat) : Int) := by omega
      have fn := fill_num (5 + k) (by omega) (by omega)
      rw [e5] at X₁₂
      refine wpAny_execs_cons (wpAny_Expr_none (fx_append (w := w) (hE := hE) (outer := []) (fx_ldCell X₁₂ (hcell.keeps st₅) ⟨ra, _, _, rfl, X₁₂.sw.get0, ?_⟩)))
      refine wpAny_BinOp (wpAny_BinOp (wpAny_Constant_int (fx_ld X₁₂ (by ktn_open) (mul_int (wpAny_BinOp (wpAny_BinOp (fx_ld X₁₂ (by ktn_open) (wpAny_Constant_int (mod_int' (by decide) (wpAny_Constant_int (mul_int (add_int ⟨rv, rn, _, _, _, by rw [sizeLine_eq]; omega, X₁₂.sw, fun h₁₃ X₁₃ => ⟨rfl, wpAny_execs_nil ?_⟩⟩))))))))))))
      exact ⟨g₅, _, _, h₁₃, _, rfl, stays_refl _, X₁₃.sw, _, _, _, rfl, ints_snoc hir _ _, by simp; omega, hok.snoc hrl' ⟨fn.1, fn.2.1, fn.2.2.1⟩, by rw [wsum_snoc, hws, fn.2.2.2]; omega, by ktn_open⟩
    · rintro g₅ m₅ _ h₁₂ tk₁₂ ⟨rv, rn, rs', rfl, hir, hrl', hok, hws, hm1⟩ st₅ X₁₂
      obtain ⟨g₆, st₆, X₁₃, era'⟩ := X₁₂.fz0
      exact next g₆ h₁₂ _ m₅ rv rn rs' t₄ (stays_trans st₅ st₆) X₁₃ era' (hcell.keeps (stays_trans st₅ st₆)) hir (by omega) (by omega) hok (by omega) (by rw [hws]; exact hm1)
end
end
end Mine

namespace Mine
section
open PySem PySem.W PyProof.Rows PySem.Calls
/-- a list of lists of ints -/
inductive LLs (g : Heap) : List Value → List (List Int) → Prop
  | nil : LLs g [] []
  | cons {a vs n ns r rs} : g.get? a = some (lo vs n) → IntsAre vs ns → LLs g r rs → LLs g (.ref a :: r) (ns :: rs)
theorem LLs.stays {g g' : Heap} (st : g.StaysIn g') {vs : List Value} {ps : List (List Int)} (h : LLs g vs ps) : LLs g' vs ps := by
  induction h with
  | nil => exact .nil
  | cons e i _ ih => exact .cons (st _ _ e) i ih
theorem LLs.append {g : Heap} {vs us : List Value} {ps qs : List (List Int)} (h : LLs g vs ps) (k : LLs g us qs) : LLs g (vs ++ us) (ps ++ qs) := by
  induction h with
  | nil => exact k
  | cons e i _ ih => exact .cons e i ih
theorem LLs.length {g : Heap} {vs : List Value} {ps : List (List Int)} (h : LLs g vs ps) : vs.length = ps.length := by
  induction h with
  | nil => rfl
  | cons _ _ _ ih => exact congrArg (· + 1) ih
theorem LLs.get {g : Heap} {vs : List Value} {ps : List (List Int)} (h : LLs g vs ps) : ∀ {i : Nat} {p : List Int}, ps[i]? = some p → ∃ a us n, vs[i]? = some (.ref a) ∧ g.get? a = some (lo us n) ∧ IntsAre us p := by
  induction h with
  | nil => intro i p e; simp at e
  | cons e i _ ih =>
    intro j p q
    cases j with
    | zero => simp only [List.getElem?_cons_zero, Option.some.injEq] at q ⊢; subst q; exact ⟨_, _, _, rfl, e, i⟩
    | succ j => simp only [List.getElem?_cons_succ] at q ⊢; exact ih q
theorem LLs.drop {g : Heap} {vs : List Value} {ps : List (List Int)} (h : LLs g vs ps) : ∀ k : Nat, LLs g (vs.drop k) (ps.drop k) := by
  induction h with
  | nil => intro k; simpa using LLs.nil
  | cons e i h ih =>
    intro k
    cases k with
    | zero => exact .cons e i h
    | succ k => exact ih k
theorem LLs.take {g : Heap} {vs : List Value} {ps : List (List Int)} (h : LLs g vs ps) : ∀ k : Nat, LLs g (vs.take k) (ps.take k) := by
  induction h with
  | nil => intro k; simpa using LLs.nil
  | cons e i h ih =>
    intro k
    cases k with
    | zero => exact .nil
    | succ k => exact .cons e i (ih k)

/-- the octets of the number at a place -/
def part (rs : List Int) (i : Nat) : List Int := List.replicate (i % 3) 64 ++ octs (rs.getD i 0) ((i % 2 : Nat) * 128)
def parts (rs : List Int) : List (List Int) := (List.range rs.length).map (part rs)

theorem ints_rep (v : Int) (t : Tok) : ∀ n : Nat, IntsAre (List.replicate n (.int v t)) (List.replicate n v)
  | 0 => .nil
  | n + 1 => .cons _ _ (ints_rep v t n)

section
variable {prog : Program} {w : World} {A : Around} {E : Value → Shared → Prop} {s : Shared} {g hE : Heap} {env cenv : Env} {outer : List Env} {m : Str → Option Value} {news rest : List (Addr × Obj)}

theorem fx_ListC {elts : List Expr} {pos : Pos} {Q : Value → Shared → Prop}
    (h : wpAny (model prog w) A (spliced (backTo pos (starEach elts cenv))) (fun vs s₁ => vs.length ≤ sizeLine ∧ ∃ g₁ m₁ news₁, Fx w g₁ hE env outer m₁ news₁ s₁.heap ∧
      ∀ a h', Fx w g₁ hE env outer m₁ ((a, lo vs 0) :: news₁) h' → Q (.ref a) { s₁ with heap := h' }) E s) :
    wpAny (model prog w) A (eval (.List elts pos) cenv) Q E s := by
  refine wpAny_List (wpAny_mono h (fun vs s₁ h₁ => ?_) fun _ _ e => e)
  obtain ⟨hz, g₁, m₁, news₁, X, k⟩ := h₁
  exact ⟨hz, k _ _ (X.push _)⟩
theorem fx_fn2C {f : Addr} {fd : FuncData} {oc : Value} {od : Option Addr} {osl : Array (Option Value)} {fn : Str} {p pos : Pos} {e e2 : Expr} {Q : Value → Shared → Prop}
    (ho : (KK w.params).lookup f = some ⟨oc, od, .func fd, osl⟩) (X : Fx w g hE env outer m news s.heap) (hv : mgK w.params fn = some (.ref f))
    (h : wpAny (model prog w) A (eval e cenv) (fun v s₁ => wpAny (model prog w) A (eval e2 cenv) (fun v2 s₂ => (∃ g₂ m₂ news₂, Fx w g₂ hE env outer m₂ news₂ s₂.heap) ∧ wpAny (model prog w) A (call (.ref f) [v, v2]) Q E s₂) E s₁) E s)
    (hk : cenv.scope.kind = .function := by rfl) (hg : cenv.globals = mainGlobals := by rfl)
    (hx : cenv.kindOf fn = some .globalImplicit := by rfl) (hd : (fn == ("__debug__" : Str)) = false := by decide) (hs : backTo pos (starEach [e, e2] cenv) = [(false, eval e cenv), (false, eval e2 cenv)] := by rfl) :
    wpAny (model prog w) A (eval (.Call (.Name fn p) [e, e2] [] pos) cenv) Q E s := by
  refine Call_Name hs (fx_glC X hv ?_ hk hg hx hd)
  refine callWith_function (o := ⟨oc, od, .func fd, osl⟩) (fd := fd) (evalArgs_plain (spliced_cons (wpAny_mono h (fun v s₁ q₁ => spliced_cons (wpAny_mono q₁ (fun v2 s₂ q => spliced_nil ?_) fun _ _ q => q)) fun _ _ q => q)))
  obtain ⟨⟨g₂, m₂, news₂, X₂⟩, q⟩ := q
  exact ⟨⟨(X₂.gr.X.keeps X₂.keep) _ _ ho, rfl⟩, q⟩

set_option maxHeartbeats 400000 in
theorem segC {L fa : Addr} {cd : Value} {ra : Addr} {rv : List Value} {rs : List Int} {rn : Nat} {oC : Obj} {Q : Flow → Shared → Prop} (X : Fx w g hE (lawE w L fa cd) [] m [(L + 1 + 1, oC)] s.heap) (hn : A.handled = none)
    (hA : A.frames = some [lawE w L fa cd]) (hd : A.depth + 420 < recursionLimit) (era : g.get? ra = some (lo rv rn)) (hcell : g.IsCell (L + 1) (some (.ref ra))) (hir : IntsAre rv rs) (hlo : 5 ≤ rs.length) (hhi : rs.length ≤ 13) (hok : RingOk rs)
    (next : ∀ g' h' tk pa pv pn, g.StaysIn g' → Fx w g' hE (lawE w L fa cd) [] (fun z => if z = ("parts" : Str) then some (.ref pa) else m z) [(L + 1 + 1, oC)] h' → g'.get? pa = some (lo pv pn) → LLs g' pv (parts rs) →
      wpAny (model prog w) A (execs (List.drop 7 (lawB w)) (lawE w L fa cd)) Q E { s with heap := h', toks := tk }) :
    wpAny (model prog w) A (execs (List.drop 6 (lawB w)) (lawE w L fa cd)) Q E s := by
  have hrvl := hir.length
  refine wpAny_execs_cons (fx_Assign_compRange (cl := [("ring", L + 1)]) (w := w) (hE := hE) (outer := []) hn ?_)
  refine fx_range1 rfl X (fx_builtin1 (id := "len") (fx_bl X (by rfl) PyProof.Rows.Boot.«len» ⟨rfl, fx_ldCell X hcell (fx_len (lo_isList (X.keep _ _ era)) (by rw [sizeLine_eq]; omega) fun t9 tk9 => ⟨_, _, _, _, _, rfl, by omega, by omega, X, fun r tc1 tc2 tc3 h₄ tk₄ X₄ hr => ?_⟩)⟩))
  refine fx_iterRange X₄ hr (by decide) (by decide) (by omega) (by omega) fun I h₅ X₅ => ?_
  rw [show (((rv.length : Int) - 0).toNat : Nat) = rs.length by omega] at X₅
  refine ⟨fun i acc g' news' => LLs g' acc ((List.range i).map (part rs)) ∧ news' = [(L + 1 + 1, oC)], I, rs.length, g, m, [(L + 1 + 1, oC)], rfl, X₅, by rw [sizeLine_eq]; omega, ⟨.nil, rfl⟩, ?_, ?_⟩
  · rintro i acc n C D oO mC g' news' h' tk v E' hi ⟨t, rfl⟩ ⟨hacc, rfl⟩ st hno hmC X'
    obtain ⟨r, hr⟩ : ∃ c, rs[i]? = some c := ⟨_, List.getElem?_eq_getElem (by omega)⟩
    obtain ⟨tr, hr'⟩ := ints_get hir hr
    obtain ⟨hr0, hr1, _⟩ := hok i r hr
    refine wpAny_tests_nil ?_
    rw [if_pos rfl]
    refine wpAny_BinOp ?_
    refine wpAny_BinOp ?_
    refine fx_ListC (w := w) (hE := hE) (env := lawE w L fa cd) (outer := []) ?_
    refine wpAny_items_cons ?_
    refine wpAny_Constant_int ?_
    refine wpAny_items_nil ?_
    refine ⟨by show 1 ≤ _; rw [sizeLine_eq]; decide, _, _, _, X', fun a h₆ X₆ => ?_⟩
    dsimp only
    refine wpAny_BinOp ?_
    refine fx_ldC (X₆.get (.tail _ (.tail _ (.head _)))) hno hmC ?_
    refine wpAny_Constant_int (mod_int' (by decide) ?_)
    refine fx_mulL X₆ X₆.get0 ?_ ?_ fun b h₇ X₇ => ?_
    · rw [Int.fmod_eq_emod_of_nonneg _ (by decide)]; omega
    · rw [Int.fmod_eq_emod_of_nonneg _ (by decide)]; omega
    dsimp only
    refine fx_fn2C (f := 35) rfl X₇ (by rfl) ?_
    refine fx_itemL ?_
    refine fx_ldCell X₇ (hcell.keeps st) ?_
    refine fx_ldC (X₇.get (.tail _ (.tail _ (.tail _ (.head _))))) hno hmC ?_
    refine ⟨ra, rv, _, _, _, rfl, rfl, lo_isList (X₇.keep _ _ (st _ _ era)), by omega, by omega, hr', ?_⟩
    refine wpAny_BinOp ?_
    refine wpAny_BinOp ?_
    refine fx_ldC (X₇.get (.tail _ (.tail _ (.tail _ (.head _))))) hno hmC ?_
    refine wpAny_Constant_int (mod_int' (by decide) ?_)
    refine wpAny_Constant_int (mul_int ?_)
    refine ⟨⟨_, _, _, X₇⟩, ?_⟩
    dsimp only
    refine octets_spec X₇ hA (by omega) hr0 hr1 fun c g₈ h₈ tk₈ us k st₈ X₈ e₈ i₈ => ?_
    refine fx_addL X₈ (lo_isList X₈.get0) (lo_isList (X₈.keep _ _ e₈)) ?_ fun q h₉ X₉ => ?_
    · rw [List.length_replicate, i₈.length, sizeLine_eq, Int.fmod_eq_emod_of_nonneg _ (by decide)]
      have := octs_len r (((i : Nat) : Int).fmod 2 * 128)
      omega
    obtain ⟨g₁₀, st₁₀, X₁₀, e₁₀⟩ := X₉.fz0
    refine ⟨g₁₀, _, h₉, _, rfl, stays_trans st₈ st₁₀, X₁₀.tail.tail, ?_, rfl⟩
    rw [List.range_succ, List.map_append]
    refine (hacc.stays (stays_trans st₈ st₁₀)).append (.cons e₁₀ ?_ .nil)
    have e3 : (((i : Nat) : Int).fmod 3).toNat = i % 3 := by rw [Int.fmod_eq_emod_of_nonneg _ (by decide)]; omega
    have e2 : ((i : Nat) : Int).fmod 2 = ((i % 2 : Nat) : Int) := by rw [Int.fmod_eq_emod_of_nonneg _ (by decide)]; omega
    have er : rs.getD i 0 = r := by rw [List.getD_eq_getElem?_getD, hr]; rfl
    rw [e2] at i₈
    rw [e3, part, er]
    exact (ints_rep _ _ _).append i₈
  · rintro D acc n g₂ news₂ h₃ tk₃ ⟨hacc, rfl⟩ st₂ X₃
    obtain ⟨g₃, st₃, X₄, e⟩ := X₃.fz0
    exact next g₃ h₃ _ D acc n (stays_trans st₂ st₃) X₄ e (hacc.stays st₃)
end
end
end Mine

namespace Mine
section
open PySem PySem.W PyProof.Rows PySem.Calls
theorem octU_nonneg {mk : Int} (hm : 0 ≤ mk) : ∀ f n acc, 0 ≤ n → (∀ x ∈ acc, 0 ≤ x) → ∀ x ∈ octU mk f n acc, 0 ≤ x
  | 0, _, _, _, h => h
  | f + 1, n, acc, h0, h => by
    rw [octU]
    split
    · refine octU_nonneg hm f _ _ (by omega) fun x hx => ?_
      rcases List.mem_cons.mp hx with rfl | hx
      · omega
      · exact h x hx
    · exact h
theorem octs_nonneg {n mk : Int} (hn : 0 ≤ n) (hm : 0 ≤ mk) : ∀ x ∈ octs n mk, 0 ≤ x :=
  octU_nonneg hm 8 _ _ (by omega) fun x hx => by simp only [List.mem_singleton] at hx; omega

def tape (rs : List Int) (i : Nat) : List Int := ((parts rs).drop i ++ (parts rs).take i).flatten
def readD (rs : List Int) (i : Nat) : PyData := .tuple [.list (rd ((tape rs i).length + 1) ((tape rs i).length + 1) (tape rs i) []).1, .bool (rd ((tape rs i).length + 1) ((tape rs i).length + 1) (tape rs i) []).2]

theorem part_len (rs : List Int) (i : Nat) : (part rs i).length ≤ 11 := by
  have := octs_len (rs.getD i 0) ((i % 2 : Nat) * 128)
  rw [part, List.length_append, List.length_replicate]
  omega
theorem parts_len (rs : List Int) : (parts rs).length = rs.length := by simp [parts]
theorem flat_len {b : Nat} : ∀ {l : List (List Int)}, (∀ p ∈ l, p.length ≤ b) → l.flatten.length ≤ b * l.length
  | [], _ => by simp
  | p :: l, h => by
    have h1 := h p (.head _)
    have h2 := flat_len (l := l) fun q hq => h q (.tail _ hq)
    rw [List.flatten_cons, List.length_append, List.length_cons, Nat.mul_succ]
    omega
theorem parts_small {rs : List Int} {p : List Int} (h : p ∈ parts rs) : p.length ≤ 11 := by
  obtain ⟨i, _, rfl⟩ := List.mem_map.mp h
  exact part_len rs i
theorem parts_nonneg {rs : List Int} (hok : RingOk rs) {p : List Int} (h : p ∈ parts rs) : ∀ x ∈ p, 0 ≤ x := by
  obtain ⟨i, hi, rfl⟩ := List.mem_map.mp h
  rw [List.mem_range] at hi
  intro x hx
  rw [part, List.mem_append] at hx
  rcases hx with hx | hx
  · rw [List.mem_replicate] at hx; omega
  · refine octs_nonneg ?_ (by omega) x hx
    rw [List.getD_eq_getElem?_getD, List.getElem?_eq_getElem hi]
    exact (hok i _ (List.getElem?_eq_getElem hi)).1
theorem mem_rot {rs : List Int} {i : Nat} {p : List Int} (h : p ∈ (parts rs).drop i ++ (parts rs).take i) : p ∈ parts rs := by
  rcases List.mem_append.mp h with h | h
  · exact List.mem_of_mem_drop h
  · exact List.mem_of_mem_take h
theorem rot_len {rs : List Int} (i : Nat) : ((parts rs).drop i ++ (parts rs).take i).length = rs.length := by
  rw [List.length_append, List.length_drop, List.length_take, parts_len]; omega
theorem tape_len {rs : List Int} (i : Nat) (hhi : rs.length ≤ 13) : (tape rs i).length ≤ 143 := by
  have := flat_len (b := 11) (l := (parts rs).drop i ++ (parts rs).take i) fun p hp => parts_small (mem_rot hp)
  rw [rot_len] at this
  rw [tape]
  omega
theorem tape_nonneg {rs : List Int} (hok : RingOk rs) (i : Nat) : ∀ x ∈ tape rs i, 0 ≤ x := by
  intro x hx
  rw [tape, List.mem_flatten] at hx
  obtain ⟨p, hp, hx⟩ := hx
  exact parts_nonneg hok (mem_rot hp) x hx

theorem Fx.out1 {w : World} {g hE : Heap} {env : Env} {outer : List Env} {m : Str → Option Value} {x y z : Addr × Obj} {news : List (Addr × Obj)} {h : Heap} (X : Fx w g hE env outer m (x :: y :: z :: news) h) : Fx w g hE env outer m (y :: z :: x :: news) h :=
  X.perm (((List.Perm.swap x z news).cons y).trans (List.Perm.swap x y _))

section
variable {prog : Program} {w : World} {A : Around} {E : Value → Shared → Prop} {s : Shared} {g hE : Heap} {env cenv : Env} {outer : List Env} {m : Str → Option Value} {news rest : List (Addr × Obj)}

set_option maxHeartbeats 1000000 in
theorem segD {L fa : Addr} {cd : Value} {ra pa : Addr} {rv pv : List Value} {rs : List Int} {rn pn : Nat} {oC : Obj} {wv : Option Value} {Q : Flow → Shared → Prop} (X : Fx w g hE (lawE w L fa cd) [] m [(L + 1 + 1, oC)] s.heap) (hoC : oC.data = .cell none) (hn : A.handled = none)
    (hA : A.frames = some [lawE w L fa cd]) (hd : A.depth + 420 < recursionLimit) (era : g.get? ra = some (lo rv rn)) (hcell : g.IsCell (L + 1) (some (.ref ra))) (hir : IntsAre rv rs) (hlo : 5 ≤ rs.length) (hhi : rs.length ≤ 13) (hok : RingOk rs)
    (hmp : m "parts" = some (.ref pa)) (epa : g.get? pa = some (lo pv pn)) (hp : LLs g pv (parts rs)) (hmw : m "wanted" = wv)
    (next : ∀ g' h' tk m' ta tav tan rda rdv rdn as, g.StaysIn g' → Fx w g' hE (lawE w L fa cd) [] m' [] h' → g'.get? ta = some (lo tav tan) → LLs g' tav ((List.range rs.length).map (tape rs)) → g'.get? rda = some (lo rdv rdn) → ReadsAll g' rdv ((List.range rs.length).map (readD rs)) as →
      g'.IsCell (L + 1 + 1) (some (.ref rda)) → m' "tapes" = some (.ref ta) → m' "wanted" = wv → wpAny (model prog w) A (execs (List.drop 10 (lawB w)) (lawE w L fa cd)) Q E { s with heap := h', toks := tk }) :
    wpAny (model prog w) A (execs (List.drop 7 (lawB w)) (lawE w L fa cd)) Q E s := by
  have hrvl := hir.length
  have hpl := hp.length
  rw [parts_len] at hpl
  refine wpAny_execs_cons (wpAny_Assign_Name (fx_List (wpAny_items_nil ⟨Nat.zero_le _, _, _, _, X, fun ta h₂ X₂ => fx_st X₂ fun h₃ X₃ => ?_⟩)))
  refine wpAny_execs_cons (wpAny_Assign_Name (fx_List (wpAny_items_nil ⟨Nat.zero_le _, _, _, _, X₃, fun rda h₄ X₄ => ?_⟩)))
  refine fx_stCell (c := L + 1 + 1) X₄.r3 hoC fun g₁ h₅ st₁ X₅ hcell2 => ?_
  dsimp only
  refine wpAny_execs_cons (wpAny_For ?_)
  refine fx_range1 rfl X₅ (fx_builtin1 (id := "len") (fx_bl X₅ (by rfl) PyProof.Rows.Boot.«len» ⟨rfl, fx_ldCell X₅ (hcell.keeps st₁) (fx_len (lo_isList (X₅.keep _ _ (st₁ _ _ era))) (by rw [sizeLine_eq]; omega) fun t9 tk9 => ⟨_, _, _, _, _, rfl, by omega, by omega, X₅, fun r tc1 tc2 tc3 h₆ tk₆ X₆ hr => ?_⟩)⟩))
  refine fx_iterRange X₆ hr (by decide) (by decide) (by omega) (by omega) fun I h₇ X₇ => ?_
  rw [show (((rv.length : Int) - 0).toNat : Nat) = rs.length by omega] at X₇
  dsimp only
  refine fx_rangeLoop (fun k g' m' news' => ∃ tav tan rdv rdn as, news' = [(rda, lo rdv rdn), (ta, lo tav tan)] ∧ LLs g' tav ((List.range k).map (tape rs)) ∧ ReadsAll g' rdv ((List.range k).map (readD rs)) as ∧ m' "parts" = some (.ref pa) ∧ m' "tapes" = some (.ref ta) ∧ m' "wanted" = wv) X₇ hn (by rfl)
    ⟨[], 0, [], 0, _, rfl, .nil, .nil, by ktn_open, by ktn_open, by ktn_open⟩ ?_ ?_
  · rintro k g₂ m₂ _ h₈ tk₈ tt hk ⟨tav, tan, rdv, rdn, as, rfl, htl, hrd, hm1, hm2, hm3⟩ st₂ X₈
    have ek : ((0 : Int) + (k : Nat)) = (k : Nat) := by omega
    have stp := stays_trans st₁ st₂
    have htll := htl.length
    have hrdl := ReadsAll.len hrd
    rw [List.length_map, List.length_range] at htll hrdl
    refine wpAny_execs_cons (wpAny_Assign_Name (fx_List (wpAny_items_nil ⟨Nat.zero_le _, _, _, _, X₈, fun tp h₉ X₉ => fx_st X₉ fun h₁₀ X₁₀ => ?_⟩)))
    dsimp only
    refine wpAny_execs_cons (wpAny_For ?_)
    refine wpAny_BinOp ?_
    refine fx_slice (w := w) (hE := hE) (outer := []) (fx_ld X₁₀ (by ktn_open) (part_some (fx_ld X₁₀ (by ktn_open) (part_none (part_none ⟨pa, pv, some (k : Int), none, none, _, _, _, rfl, lo_isList (X₁₀.keep _ _ (stp _ _ epa)), by rw [sizeLine_eq]; omega, by rw [ek]; exact .int _ _, .none, .none, by simp, X₁₀, fun s1 h₁₁ X₁₁ => ?_⟩)))))
    rw [slicePick_from'] at X₁₁
    dsimp only
    refine fx_slice (w := w) (hE := hE) (outer := []) (fx_ld X₁₁ (by ktn_open) (part_none (part_some (fx_ld X₁₁ (by ktn_open) (part_none ⟨pa, pv, none, some (k : Int), none, _, _, _, rfl, lo_isList (X₁₁.keep _ _ (stp _ _ epa)), by rw [sizeLine_eq]; omega, .none, by rw [ek]; exact .int _ _, .none, by simp, X₁₁, fun s2 h₁₂ X₁₂ => ?_⟩)))))
    rw [slicePick_upto'] at X₁₂
    dsimp only at X₁₂ ⊢
    refine fx_addL X₁₂ (lo_isList X₁₂.sw.get0) (lo_isList X₁₂.get0) ?_ fun q h₁₃ X₁₃ => ?_
    · simp only [List.length_drop, List.length_take]; rw [sizeLine_eq]; omega
    obtain ⟨g₃, st₃, X₁₄, eq⟩ := X₁₃.fz0
    have X₁₅ := X₁₄.tail.tail
    have hq := ((hp.stays (stays_trans stp st₃)).drop k).append ((hp.stays (stays_trans stp st₃)).take k)
    have hql := hq.length
    rw [rot_len] at hql
    refine fx_iterList X₁₅ (lo_isList (X₁₅.keep _ _ eq)) fun I2 h₁₆ X₁₆ => ?_
    dsimp only
    refine fx_listLoop (fun i g' m' news' => ∃ tv tn, news' = [(tp, lo tv tn), (I, rit (0 + ((k + 1 : Nat) : Int)) ((rs.length : Nat) - ((k + 1 : Nat) : Int))), (rda, lo rdv rdn), (ta, lo tav tan)] ∧ IntsAre tv ((((parts rs).drop k ++ (parts rs).take k).take i).flatten) ∧ m' "tape" = some (.ref tp) ∧ m' "parts" = some (.ref pa) ∧ m' "tapes" = some (.ref ta) ∧ m' "wanted" = wv)
      X₁₆ (lo_isList eq) hn (by rfl) ⟨_, _, rfl, by simpa using .nil, by ktn_open, by ktn_open, by ktn_open, by ktn_open⟩ ?_ ?_
    · rintro i g₅ m₅ _ h₁₇ tk₁₇ v hi hv ⟨tv, tn, rfl, hti, hn1, hn2, hn3, hn4⟩ st₅ X₁₇
      obtain ⟨p, hpp⟩ : ∃ p, ((parts rs).drop k ++ (parts rs).take k)[i]? = some p := ⟨_, List.getElem?_eq_getElem (by rw [rot_len]; omega)⟩
      obtain ⟨b, us, bn, hvb, hb, hbi⟩ := (hq.stays st₅).get hpp
      rw [hv] at hvb
      cases hvb
      have hf := flat_len (b := 11) (l := ((parts rs).drop k ++ (parts rs).take k).take i) fun p hp => parts_small (mem_rot (List.mem_of_mem_take hp))
      have hps := parts_small (mem_rot (List.mem_of_getElem? hpp))
      rw [List.length_take, rot_len] at hf
      have htvl := hti.length
      have hbl := hbi.length
      refine wpAny_execs_cons (wpAny_Expr_none ?_)
      refine fx_meth PySem.F.slot_list_extend PySem.F.type_list_extend (fx_ld X₁₇ (by ktn_open) ⟨tp, _, _, rfl, X₁₇.sw.get0, callWith_method1 (wpAny_items_cons (fx_ld X₁₇ (by ktn_open) (wpAny_items_nil ?_)))⟩)
      refine fx_extend X₁₇.sw (X₁₇.keep _ _ hb) ?_ fun h₁₈ n' X₁₈ => ⟨rfl, wpAny_execs_nil ?_⟩
      · rw [sizeLine_eq]; omega
      refine ⟨g₅, _, _, h₁₈, _, rfl, stays_refl _, X₁₈.sw, _, _, rfl, ?_, by ktn_open, by ktn_open, by ktn_open, by ktn_open⟩
      rw [take_snoc hpp, List.flatten_append]
      simpa using hti.append hbi
    · rintro g₅ m₅ _ h₁₇ tk₁₇ ⟨tv, tn, rfl, hti, hn1, hn2, hn3, hn4⟩ st₅ X₁₇
      rw [hql, ← rot_len (rs := rs) k, List.take_length] at hti
      change IntsAre tv (tape rs k) at hti
      obtain ⟨g₆, st₆, X₁₈, etp⟩ := X₁₇.fz0
      have st6 := stays_trans st₃ (stays_trans st₅ st₆)
      have stc := stays_trans st₂ st6
      have htvl := hti.length
      have htn := tape_len k hhi
      dsimp only
      refine wpAny_execs_cons (wpAny_Expr_none (fx_append (w := w) (hE := hE) (outer := []) (fx_ld X₁₈ (by ktn_open) ⟨ta, _, _, rfl, X₁₈.r3.get0, fx_ld X₁₈ (by ktn_open) ⟨tav, tan, _, _, _, by rw [sizeLine_eq]; omega, X₁₈.r3, fun h₁₉ X₁₉ => ⟨rfl, ?_⟩⟩⟩)))
      dsimp only
      refine wpAny_execs_cons (wpAny_Expr_none (fx_append (w := w) (hE := hE) (outer := []) (fx_ldCell X₁₉ (hcell2.keeps stc) ⟨rda, _, _, rfl, X₁₉.r3.get0, fx_fn1 (f := 49) rfl X₁₉ (by rfl) (fx_ld X₁₉ (by ktn_open) ⟨⟨_, _, _, X₁₉⟩, ?_⟩)⟩)))
      refine read_spec X₁₉.r3 hA hn (by omega) (lo_isList etp) hti (by omega) (tape_nonneg hok k) fun v g₇ h₂₀ tk₂₀ as' st₇ X₂₀ hrv => ⟨rdv, rdn, _, _, _, by rw [sizeLine_eq]; omega, X₂₀, fun h₂₁ X₂₁ => ⟨rfl, wpAny_execs_nil ?_⟩⟩
      obtain ⟨cs, hcs⟩ := ReadsAll.snoc hrv (ReadsAll.stays (stays_trans st6 st₇) hrd)
      refine ⟨g₇, _, _, h₂₁, _, rfl, stays_trans st6 st₇, X₂₁.r3, _, _, _, _, cs, rfl, ?_, ?_, by ktn_open, by ktn_open, by ktn_open⟩
      · rw [List.range_succ, List.map_append]
        exact (htl.stays (stays_trans st6 st₇)).append (.cons (st₇ _ _ etp) hti .nil)
      · rw [List.range_succ, List.map_append]
        exact hcs
  · rintro g₂ m₂ _ h₈ tk₈ ⟨tav, tan, rdv, rdn, as, rfl, htl, hrd, hm1, hm2, hm3⟩ st₂ X₈
    obtain ⟨g₃, st₃, X₉, e1⟩ := X₈.fz0
    obtain ⟨g₄, st₄, X₁₀, e2⟩ := X₉.fz0
    have st34 := stays_trans st₃ st₄
    exact next g₄ h₈ _ m₂ ta tav tan rda rdv rdn as (stays_trans st₁ (stays_trans st₂ st34)) X₁₀ e2 (htl.stays st34) (st₄ _ _ e1) (ReadsAll.stays st34 hrd) (hcell2.keeps (stays_trans st₂ st34)) hm2 hm3
end
end
end Mine

namespace Mine
section
open PySem PySem.W PyProof.Rows PySem.Calls
def starts (b : Nat → Bool) (n : Nat) : List Nat := (List.range n).filter b
def asInts (l : List Nat) : List Int := l.map Int.ofNat
theorem tup_at {h h' : Heap} {a : Addr} {its : Array Value} (x : IsTup h a its) (k : h.StaysIn h') : IsTup h' a its := let ⟨o, e, r⟩ := x; ⟨o, k _ _ e, r⟩
theorem starts_succ (b : Nat → Bool) (n : Nat) : starts b (n + 1) = starts b n ++ (if b n then [n] else []) := by
  rw [starts, List.range_succ, List.filter_append, starts]
  cases h : b n <;> simp [h]

theorem reads_pair {h : Heap} {v : Value} {ds : List PyData} {c : Bool} {as : List Addr} (r : Reads h v (.tuple [.list ds, .bool c]) as) : ∃ t l xs cs, v = .ref t ∧ IsTup h t #[.ref l, .bool c] ∧ h.IsList l (List.toArray xs) ∧ ReadsAll h xs ds cs := by
  cases r with
  | @tuple _ _ arr _ _ _ ho hc hd r =>
    obtain ⟨its, hi⟩ : ∃ its, its = arr.toList := ⟨_, rfl⟩
    rw [← hi] at r
    have hv : arr = its.toArray := by rw [hi]
    rw [hv] at hd
    cases r with
    | cons r1 r2 =>
      cases r2 with
      | cons r2 r3 =>
        cases r3
        cases r2
        obtain ⟨l, xs, cs, rfl, hl, hr⟩ := Reads.listInv r1
        exact ⟨_, l, xs, cs, rfl, ⟨_, ho, hc, _, hd⟩, hl, hr⟩
theorem reads_two {h : Heap} {v : Value} {ds es : List PyData} {as : List Addr} (r : Reads h v (.tuple [.list ds, .list es]) as) : ∃ t l k xs ys cs bs, v = .ref t ∧ IsTup h t #[.ref l, .ref k] ∧ h.IsList l (List.toArray xs) ∧ ReadsAll h xs ds cs ∧ h.IsList k (List.toArray ys) ∧ ReadsAll h ys es bs := by
  cases r with
  | @tuple _ _ arr _ _ _ ho hc hd r =>
    obtain ⟨its, hi⟩ : ∃ its, its = arr.toList := ⟨_, rfl⟩
    rw [← hi] at r
    have hv : arr = its.toArray := by rw [hi]
    rw [hv] at hd
    cases r with
    | cons r1 r2 =>
      cases r2 with
      | cons r2 r3 =>
        cases r3
        obtain ⟨l, xs, cs, rfl, hl, hr⟩ := Reads.listInv r1
        obtain ⟨k, ys, bs, rfl, hk, hs⟩ := Reads.listInv r2
        exact ⟨_, l, k, xs, ys, cs, bs, rfl, ⟨_, ho, hc, _, hd⟩, hl, hr, hk, hs⟩
theorem ReadsAll.drop {h : Heap} : ∀ {vs : List Value} {ds : List PyData} {as : List Addr} (k : Nat), ReadsAll h vs ds as → ∃ bs, ReadsAll h (vs.drop k) (ds.drop k) bs
  | _, _, _, 0, r => ⟨_, r⟩
  | _, _, _, k + 1, .nil => ⟨_, .nil⟩
  | _, _, _, k + 1, .cons _ r => ReadsAll.drop k r
theorem ReadsAll.take {h : Heap} : ∀ {vs : List Value} {ds : List PyData} {as : List Addr} (k : Nat), ReadsAll h vs ds as → ∃ bs, ReadsAll h (vs.take k) (ds.take k) bs
  | _, _, _, 0, _ => ⟨_, .nil⟩
  | _, _, _, k + 1, .nil => ⟨_, .nil⟩
  | _, _, _, k + 1, .cons q r => let ⟨_, x⟩ := ReadsAll.take k r; ⟨_, .cons q x⟩
theorem ReadsAll.reverse {h : Heap} : ∀ {vs : List Value} {ds : List PyData} {as : List Addr}, ReadsAll h vs ds as → ∃ bs, ReadsAll h vs.reverse ds.reverse bs
  | _, _, _, .nil => ⟨_, .nil⟩
  | _, _, _, .cons q r => by
    obtain ⟨bs, x⟩ := ReadsAll.reverse r
    rw [List.reverse_cons, List.reverse_cons]
    exact ReadsAll.snoc q x

section
variable {prog : Program} {w : World} {A : Around} {E : Value → Shared → Prop} {s : Shared} {g hE : Heap} {env cenv : Env} {outer : List Env} {m : Str → Option Value} {news rest : List (Addr × Obj)}

set_option maxHeartbeats 1000000 in
theorem segE {L fa : Addr} {cd : Value} {ra ta rda : Addr} {rv rdv : List Value} {rs : List Int} {rn rdn : Nat} {as : List Addr} {wt : Tok} {F : Nat → List Tree} {b : Nat → Bool} {p0 : Nat} {Q : Flow → Shared → Prop} (X : Fx w g hE (lawE w L fa cd) [] m [] s.heap) (hn : A.handled = none)
    (era : g.get? ra = some (lo rv rn)) (hcell : g.IsCell (L + 1) (some (.ref ra))) (hir : IntsAre rv rs) (hlo : 5 ≤ rs.length) (hhi : rs.length ≤ 13)
    (erd : g.get? rda = some (lo rdv rdn)) (hrd : ReadsAll g rdv ((List.range rs.length).map (readD rs)) as) (hcell2 : g.IsCell (L + 1 + 1) (some (.ref rda))) (hmt : m "tapes" = some (.ref ta)) (hmw : m "wanted" = some (.int (wsum rs) wt))
    (hF : ∀ i, i < rs.length → readD rs i = .tuple [.list (Tree.dats (F i)), .bool (b i)]) (hcount : ((starts b rs.length).length : Int) = rs.length - wsum rs) (hp0 : (starts b rs.length)[0]? = some p0) (hsz : ∀ i, i < rs.length → (F i).length ≤ 13)
    (next : ∀ g' h' tk m' lk kv wh whv bk bkv as bs, g.StaysIn g' → Fx w g' hE (lawE w L fa cd) [] m' [] h' → m' "known" = some (.ref lk) → m' "back" = some (.ref bk) → m' "whole" = some (.ref wh) → m' "tapes" = some (.ref ta) →
      g'.IsList lk (List.toArray kv) → ReadsAll g' kv (Tree.dats (F p0)) as → g'.IsList bk (List.toArray bkv) → ReadsAll g' bkv (Tree.dats (F p0 ++ (F p0).drop 1).reverse) bs → g'.IsList wh (List.toArray whv) → IntsAre whv (asInts (starts b rs.length)) →
      wpAny (model prog w) A (execs (List.drop 14 (lawB w)) (lawE w L fa cd)) Q E { s with heap := h', toks := tk }) :
    wpAny (model prog w) A (execs (List.drop 10 (lawB w)) (lawE w L fa cd)) Q E s := by
  have hrvl := hir.length
  have hrdl := ReadsAll.len hrd
  rw [List.length_map, List.length_range] at hrdl
  have item : ∀ i, i < rs.length → ∃ v t l xs cs, rdv[i]? = some v ∧ v = .ref t ∧ IsTup g t #[.ref l, .bool (b i)] ∧ g.IsList l (List.toArray xs) ∧ ReadsAll g xs (Tree.dats (F i)) cs := fun i hi => by
    have e : rdv[i]? = some (rdv[i]'(by omega)) := List.getElem?_eq_getElem (by omega)
    obtain ⟨d, cs, hd, hr⟩ := ReadsAll.get hrd e
    rw [List.getElem?_map, List.getElem?_range hi] at hd
    simp only [Option.map_some, Option.some.injEq] at hd
    rw [← hd, hF i hi] at hr
    obtain ⟨t, l, xs, cs, h1, h2, h3, h4⟩ := reads_pair hr
    exact ⟨_, t, l, xs, cs, e, h1, h2, h3, h4⟩
  refine wpAny_execs_cons (fx_Assign_compRange (cl := [("reads", L + 1 + 1)]) (w := w) (hE := hE) (outer := []) hn ?_)
  refine fx_range1 rfl X (fx_builtin1 (id := "len") (fx_bl X (by rfl) PyProof.Rows.Boot.«len» ⟨rfl, fx_ldCell X hcell (fx_len (lo_isList (X.keep _ _ era)) (by rw [sizeLine_eq]; omega) fun t9 tk9 => ⟨_, _, _, _, _, rfl, by omega, by omega, X, fun r tc1 tc2 tc3 h₄ tk₄ X₄ hr => ?_⟩)⟩))
  refine fx_iterRange X₄ hr (by decide) (by decide) (by omega) (by omega) fun I h₅ X₅ => ?_
  rw [show (((rv.length : Int) - 0).toNat : Nat) = rs.length by omega] at X₅
  refine ⟨fun i acc g' news' => IntsAre acc (asInts (starts b i)) ∧ news' = [], I, rs.length, g, m, [], rfl, X₅, by rw [sizeLine_eq]; omega, ⟨.nil, rfl⟩, ?_, ?_⟩
  · rintro i acc n C D oO mC g' news' h' tk v E' hi ⟨t, rfl⟩ ⟨hacc, rfl⟩ st hno hmC X'
    obtain ⟨v, t', l, xs, cs, ev, rfl, htup, hl, hxs⟩ := item i hi
    refine wpAny_tests_one (wpAny_isTrue_value ?_)
    refine fx_itemT ?_
    refine fx_itemL ?_
    refine fx_ldCell X' (hcell2.keeps st) ?_
    refine fx_ldC (X'.get (.tail _ (.head _))) hno hmC ?_
    refine ⟨rda, rdv, _, _, _, rfl, rfl, lo_isList (X'.keep _ _ (st _ _ erd)), by omega, by omega, ev, ?_⟩
    refine wpAny_Constant_int ⟨t', [.ref l, .bool (b i)], 1, _, .bool (b i), rfl, rfl, tup_at htup (stays_trans st X'.keep), by decide, by decide, rfl, wpAny_truthy_bool ?_⟩
    dsimp only
    cases hb : b i with
    | false =>
      rw [if_neg (by decide)]
      refine ⟨g', _, h', _, rfl, stays_refl _, X', ?_, rfl⟩
      rw [starts_succ, hb]; simpa [asInts] using hacc
    | true =>
      rw [if_pos rfl]
      refine fx_ldC (X'.get (.tail _ (.head _))) hno hmC ⟨g', _, h', _, rfl, stays_refl _, X', ?_, rfl⟩
      rw [starts_succ, hb]
      simpa [asInts] using ints_snoc hacc (i : Int) t
  · rintro D whv n g₂ news₂ h₃ tk₃ ⟨hwi, rfl⟩ st₂ X₃
    obtain ⟨g₃, st₃, X₄, ewh⟩ := X₃.fz0
    have st23 := stays_trans st₂ st₃
    have hwl := hwi.length
    rw [asInts, List.length_map] at hwl
    have hsl : (starts b rs.length).length ≤ rs.length := by
      have := List.length_filter_le b (List.range rs.length)
      rw [List.length_range] at this
      exact this
    dsimp only
    refine wpAny_execs_cons (wpAny_If (wpAny_isTrue_Compare1 ?_))
    refine fx_builtin1 (id := "len") (fx_bl X₄ (by rfl) PyProof.Rows.Boot.«len» ⟨rfl, fx_ld X₄ (by ktn_open) (fx_len (lo_isList (X₄.keep _ _ ewh)) (by rw [sizeLine_eq]; omega) fun t10 tk10 => ?_)⟩)
    refine wpAny_BinOp ?_
    refine fx_builtin1 (id := "len") (fx_bl X₄ (by rfl) PyProof.Rows.Boot.«len» ⟨rfl, fx_ldCell X₄ (hcell.keeps st23) (fx_len (lo_isList (X₄.keep _ _ (st23 _ _ era))) (by rw [sizeLine_eq]; omega) fun t11 tk11 => ?_)⟩)
    refine fx_ld X₄ (by ktn_open) (sub_int (P.ne_int (wpAny_truthy_bool ?_)))
    rw [show ((whv.length : Int) != (rv.length : Int) - wsum rs) = false by rw [bne_eq_false_iff_eq]; omega]
    dsimp only
    refine wpAny_execs_nil ?_
    have hp0l : p0 < rs.length := by
      have := List.mem_of_getElem? hp0
      rw [starts, List.mem_filter, List.mem_range] at this
      exact this.1
    obtain ⟨v, t', l, xs, cs, ev, rfl, htup, hl, hxs⟩ := item p0 hp0l
    have hFl := ReadsAll.len hxs
    rw [Tree.dats_map, List.length_map] at hFl
    have hs0 := hsz p0 hp0l
    obtain ⟨tw, hw0⟩ := ints_get hwi (i := 0) (n := (p0 : Int)) (by rw [asInts, List.getElem?_map, hp0]; rfl)
    refine wpAny_execs_cons (wpAny_Assign_Name ?_)
    refine fx_itemT ?_
    refine fx_itemL ?_
    refine fx_ldCell X₄ (hcell2.keeps st23) ?_
    refine fx_itemL (fx_ld X₄ (by ktn_open) (wpAny_Constant_int ⟨D, whv, 0, _, _, rfl, rfl, lo_isList (X₄.keep _ _ ewh), by decide, by decide, hw0, ?_⟩))
    refine ⟨rda, rdv, _, _, _, rfl, rfl, lo_isList (X₄.keep _ _ (st23 _ _ erd)), by omega, by omega, ev, ?_⟩
    refine wpAny_Constant_int ⟨t', [.ref l, .bool (b p0)], 0, _, .ref l, rfl, rfl, tup_at htup (stays_trans st23 X₄.keep), by decide, by decide, rfl, fx_st X₄ fun h₅ X₅ => ?_⟩
    have hl5 : h₅.IsList l xs.toArray := hl.at fun o e => X₅.keep _ _ (st23 _ o e)
    dsimp only
    refine wpAny_execs_cons (wpAny_Assign_Name ?_)
    refine fx_slice (w := w) (hE := hE) (env := lawE w L fa cd) (outer := []) ?_
    refine wpAny_BinOp ?_
    refine fx_ld X₅ (by ktn_open) ?_
    refine fx_slice (w := w) (hE := hE) (outer := []) (fx_ld X₅ (by ktn_open) (part_some (wpAny_Constant_int (part_none (part_none ⟨l, xs, some 1, none, none, _, _, _, rfl, hl5, by rw [sizeLine_eq]; omega, .int _ _, .none, .none, by simp, X₅, fun s1 h₆ X₆ => ?_⟩)))))
    rw [show (some (1 : Int)) = some ((1 : Nat) : Int) from rfl, slicePick_from'] at X₆
    dsimp only at X₆ ⊢
    refine fx_addL X₆ (hl.at fun o e => X₆.keep _ _ (st23 _ o e)) (lo_isList X₆.get0) ?_ fun q h₇ X₇ => ?_
    · simp only [List.length_drop]; rw [sizeLine_eq]; omega
    refine part_none (part_none (part_some (wpAny_UnaryOp (wpAny_Constant_int (P.neg_int ?_)))))
    refine ⟨q, _, none, none, some (-1), _, _, _, rfl, lo_isList X₇.get0, ?_, .none, .none, .int _ _, by simp, X₇, fun bk h₈ X₈ => fx_st X₈ fun h₉ X₉ => ?_⟩
    · simp only [List.length_append, List.length_drop]; rw [sizeLine_eq]; omega
    rw [krv_pick] at X₉
    obtain ⟨g₄, st₄, X₁₀, ebk⟩ := X₉.fz0
    have stE := stays_trans st23 st₄
    obtain ⟨c1, hc1⟩ := ReadsAll.drop 1 (ReadsAll.stays stE hxs)
    obtain ⟨c2, hc2⟩ := ReadsAll.append (ReadsAll.stays stE hxs) hc1
    obtain ⟨c3, hc3⟩ := ReadsAll.reverse hc2
    refine next g₄ h₉ _ _ l xs D whv bk _ _ c3 stE X₁₀.tail.tail (by ktn_open) (by ktn_open) (by ktn_open) (by ktn_open) (hl.at fun o e => stE _ o e) (ReadsAll.stays stE hxs) (lo_isList ebk) ?_ (lo_isList (st₄ _ _ ewh)) hwi
    simpa [Tree.dats_map] using hc3
end
end
end Mine

namespace Mine
section
open PySem PySem.W PyProof.Rows PySem.Calls
def forB : List Stmt → List Stmt
  | .For _ _ b _ _ :: _ => b
  | _ => []
def ifT : List Stmt → List Stmt
  | .If _ b _ _ :: _ => b
  | _ => []
def ifE : List Stmt → List Stmt
  | .If _ _ b _ :: _ => b
  | _ => []
noncomputable abbrev turnB (w : World) : List Stmt := forB (List.drop 14 (lawB w))
noncomputable abbrev wholeB (w : World) : List Stmt := ifT (List.drop 4 (turnB w))
noncomputable abbrev elseB (w : World) : List Stmt := ifE (List.drop 4 (turnB w))

theorem eqvAll_ints : ∀ ns : List Int, PyData.eqvAll (ns.map PyData.int) (ns.map PyData.int) = true
  | [] => rfl
  | n :: r => by simp [PyData.eqvAll, PyData.eqv, eqvAll_ints r]
theorem eqvAll_dats (l : List Tree) : PyData.eqvAll (Tree.dats l) (Tree.dats l) = true := (eqv_dats l l).mpr rfl
theorem depth_ints : ∀ ns : List Int, PyData.depthAll (ns.map PyData.int) ≤ 1
  | [] => by simp [PyData.depthAll]
  | n :: r => by
    have := depth_ints r
    simp only [List.map_cons, PyData.depthAll, PyData.depth]
    omega
theorem lay_ints : ∀ ns : List Int, PyData.canLayAll0 (ns.map PyData.int) = true
  | [] => rfl
  | n :: r => by simp [PyData.canLayAll0, PyData.canLay0, lay_ints r]
mutual
theorem Tree.ht_le_len : ∀ t : Tree, t.ht ≤ t.nums.length
  | .node n ch => by
    have := Tree.hts_le_len ch
    simp only [Tree.ht, Tree.nums, List.length_cons]; omega
theorem Tree.hts_le_len : ∀ l : List Tree, Tree.hts l ≤ (Tree.numss l).length
  | [] => Nat.le_refl _
  | t :: r => by
    have := Tree.ht_le_len t
    have := Tree.hts_le_len r
    simp only [Tree.hts, Tree.numss, List.length_append]; omega
end

theorem hts_of {b : Nat} : ∀ {l : List Tree}, (∀ t ∈ l, t.ht ≤ b) → Tree.hts l ≤ b
  | [], _ => Nat.zero_le _
  | t :: r, h => Nat.max_le.mpr ⟨h t (.head _), hts_of fun x hx => h x (.tail _ hx)⟩
theorem hts_sub {l k : List Tree} (h : ∀ t ∈ l, t ∈ k) : Tree.hts l ≤ Tree.hts k := hts_of fun t ht => Tree.ht_le (h t ht)
theorem hts_app {l k : List Tree} {b : Nat} (h1 : Tree.hts l ≤ b) (h2 : Tree.hts k ≤ b) : Tree.hts (l ++ k) ≤ b := hts_of fun t ht => by
  rcases List.mem_append.mp ht with h | h
  · exact Nat.le_trans (Tree.ht_le h) h1
  · exact Nat.le_trans (Tree.ht_le h) h2
theorem ints_drop {vs : List Value} {ns : List Int} (h : IntsAre vs ns) : ∀ k : Nat, IntsAre (vs.drop k) (ns.drop k) := by
  induction h with
  | nil => intro k; simpa using IntsAre.nil
  | cons n t h ih =>
    intro k
    cases k with
    | zero => exact .cons n t h
    | succ k => exact ih k
theorem ints_take {vs : List Value} {ns : List Int} (h : IntsAre vs ns) : ∀ k : Nat, IntsAre (vs.take k) (ns.take k) := by
  induction h with
  | nil => intro k; simpa using IntsAre.nil
  | cons n t h ih =>
    intro k
    cases k with
    | zero => exact .nil
    | succ k => exact .cons n t (ih k)
theorem readsInts {h : Heap} {a : Addr} {vs : List Value} {ns : List Int} {n : Nat} (e : h.get? a = some (lo vs n)) (i : IntsAre vs ns) : Reads h (.ref a) (.list (ns.map .int)) (a :: []) :=
  .list e rfl rfl (by simpa using IntsAre.reads h i)
theorem lo_reads {h : Heap} {a : Addr} {vs : List Value} {ds : List PyData} {as : List Addr} {n : Nat} (e : h.get? a = some (lo vs n)) (i : ReadsAll h vs ds as) : Reads h (.ref a) (.list ds) (a :: as) :=
  .list e rfl rfl (by simpa using i)
theorem list_reads {h : Heap} {a : Addr} {vs : List Value} {ds : List PyData} {as : List Addr} (e : h.IsList a vs.toArray) (i : ReadsAll h vs ds as) : Reads h (.ref a) (.list ds) (a :: as) := by
  obtain ⟨o, h1, h2, n, h3⟩ := e
  exact .list h1 h2 h3 (by simpa using i)

section
variable {prog : Program} {w : World} {A : Around} {E : Value → Shared → Prop} {s : Shared} {g hE : Heap} {env cenv : Env} {outer : List Env} {m : Str → Option Value} {news rest : List (Addr × Obj)}

theorem ne_same {a b : Value} {da db : PyData} {as bs : List Addr} {Q : Bool → Shared → Prop} (ra : Reads s.heap a da as) (rb : Reads s.heap b db bs) (ha : da.canLay0 = true) (hb : db.canLay0 = true) (hu : A.units + da.depth < cLine)
    (he : PyData.eqv da db = true) (h : Q false s) : wpAny (model prog w) A (compareOp .NotEq a b) (fun c s₃ => wpAny (model prog w) A (truthy c) Q E s₃) E s := by
  refine SeqAt.compareNe_reads ra rb ha hb (by omega) (wpAny_truthy_bool ?_)
  rw [he]
  exact h

set_option maxHeartbeats 1000000 in
theorem segFw {L fa : Addr} {cd : Value} {ra ta lk bk lt tl i : Nat} {rv tav kv bkv xs : List Value} {rs : List Int} {rn tan : Nat} {K B T : List Tree} {as bs cs ds : List Addr} {ti : Tok} {Q : Flow → Shared → Prop} (X : Fx w g hE (lawE w L fa cd) [] m rest s.heap) (hn : A.handled = none)
    (hA : A.frames = some [lawE w L fa cd]) (hd : A.depth + 420 < recursionLimit) (hU : A.units + 200 < cLine)
    (era : g.get? ra = some (lo rv rn)) (hcell : g.IsCell (L + 1) (some (.ref ra))) (hir : IntsAre rv rs) (hhi : rs.length ≤ 13) (hi : i < rs.length) (hok : RingOk rs)
    (hmt : m "trees" = some (.ref lt)) (hmo : m "told" = some (.ref tl)) (hms : m "start" = some (.int (i : Nat) ti)) (hma : m "tapes" = some (.ref ta)) (hmk : m "known" = some (.ref lk)) (hmb : m "back" = some (.ref bk))
    (hlt : g.IsList lt xs.toArray) (hrt : ReadsAll g xs (Tree.dats T) as) (eta : g.get? ta = some (lo tav tan)) (htl : LLs g tav ((List.range rs.length).map (tape rs))) (hlk : g.IsList lk kv.toArray) (hrk : ReadsAll g kv (Tree.dats K) bs) (hlb : g.IsList bk bkv.toArray) (hrb : ReadsAll g bkv (Tree.dats B) cs)
    (hrtold : Reads g (.ref tl) (.tuple [.list (Tree.dats []), .list (Tree.dats [])]) ds)
    (hTn : (Tree.numss T).length ≤ 13) (hKn : (Tree.numss K).length ≤ 13) (hBl : B.length ≤ 26) (hBh : Tree.hts B ≤ 13)
    (f1 : Tree.numss T = rs.drop i ++ rs.take i)
    (f2 : (rd ((tape rs i).dropLast.length + 1) ((tape rs i).dropLast.length + 1) (tape rs i).dropLast []).1 = Tree.dats T.dropLast)
    (f3 : uldT (B.reverse ++ K).reverse T [] = (B, [])) (f4 : uldT T.reverse (K ++ B) [] = ([], B))
    (ok : ∀ g' h' tk, g.StaysIn g' → Fx w g' hE (lawE w L fa cd) [] m rest h' → Q .next { s with heap := h', toks := tk }) :
    wpAny (model prog w) A (execs (wholeB w) (lawE w L fa cd)) Q E s := by
  have hrvl := hir.length
  have hxl := ReadsAll.len hrt
  have hkl := ReadsAll.len hrk
  have hbl := ReadsAll.len hrb
  rw [Tree.dats_map, List.length_map] at hxl hkl hbl
  have hTl := Tree.len_le T
  have hKl := Tree.len_le K
  have hTh := Tree.hts_le_len T
  have hKh := Tree.hts_le_len K
  have hTd := depth_dats T
  have hBd := depth_dats B
  refine wpAny_execs_cons (wpAny_If (wpAny_isTrue_BoolOp (wpAny_allTrue_Or_cons (wpAny_isTrue_Compare1 ?_))))
  refine fx_ld X hmo ?_
  refine fx_Tuple (w := w) (hE := hE) (env := lawE w L fa cd) (outer := []) ?_
  refine wpAny_items_cons (fx_List (w := w) (hE := hE) (env := lawE w L fa cd) (outer := []) (wpAny_items_nil ⟨Nat.zero_le _, _, _, _, X, fun a h₂ X₂ => ?_⟩))
  refine wpAny_items_cons (fx_List (w := w) (hE := hE) (env := lawE w L fa cd) (outer := []) (wpAny_items_nil ⟨Nat.zero_le _, _, _, _, X₂, fun b h₃ X₃ => ?_⟩))
  refine wpAny_items_nil ⟨by show 2 ≤ _; rw [sizeLine_eq]; decide, _, _, _, X₃, fun c h₄ X₄ => ?_⟩
  refine ne_same (Reads.stays X₄.keep hrtold) (.tuple X₄.get0 rfl rfl (.cons (.list X₄.tail.sw.get0 rfl rfl .nil) (.cons (.list X₄.tail.get0 rfl rfl .nil) .nil))) rfl rfl ?_ rfl ?_
  · simp only [Tree.dats, PyData.depth, PyData.depthAll]; omega
  have X₅ := X₄.tail.tail.tail
  dsimp only
  refine wpAny_allTrue_Or_cons (wpAny_isTrue_Compare1 ?_)
  refine fx_fn1 (f := 56) rfl X₅ (by rfl) (fx_ld X₅ hmt ⟨⟨_, _, _, X₅⟩, ?_⟩)
  refine nums_spec 13 _ _ _ g hE _ _ _ _ lt xs T as _ X₅ hA hn (by omega) hlt hrt (by omega) (by omega) fun a1 g₁ h₆ tk₆ ws k1 st₁ X₆ e1 hi1 => ?_
  dsimp only
  refine wpAny_BinOp ?_
  refine fx_slice (w := w) (hE := hE) (outer := []) (fx_ldCell X₆ (hcell.keeps st₁) (part_some (fx_ld X₆ hms (part_none (part_none ⟨ra, rv, some (i : Int), none, none, _, _, _, rfl, lo_isList (X₆.keep _ _ (st₁ _ _ era)), by rw [sizeLine_eq]; omega, .int _ _, .none, .none, by simp, X₆, fun s1 h₇ X₇ => ?_⟩)))))
  rw [slicePick_from'] at X₇
  dsimp only
  refine fx_slice (w := w) (hE := hE) (outer := []) (fx_ldCell X₇ (hcell.keeps st₁) (part_none (part_some (fx_ld X₇ hms (part_none ⟨ra, rv, none, some (i : Int), none, _, _, _, rfl, lo_isList (X₇.keep _ _ (st₁ _ _ era)), by rw [sizeLine_eq]; omega, .none, .int _ _, .none, by simp, X₇, fun s2 h₈ X₈ => ?_⟩)))))
  rw [slicePick_upto'] at X₈
  dsimp only at X₈ ⊢
  refine fx_addL X₈ (lo_isList X₈.sw.get0) (lo_isList X₈.get0) ?_ fun q h₉ X₉ => ?_
  · simp only [List.length_drop, List.length_take]; rw [sizeLine_eq]; omega
  rw [f1] at hi1
  have hsum : IntsAre (rv.drop i ++ rv.take i) (rs.drop i ++ rs.take i) := (ints_drop hir i).append (ints_take hir i)
  refine ne_same (readsInts (X₉.keep _ _ e1) hi1) (readsInts X₉.get0 hsum) (lay_ints _) (lay_ints _) ?_ (eqvAll_ints _) ?_
  · have := depth_ints (rs.drop i ++ rs.take i)
    simp only [PyData.depth]; omega
  have X₁₀ := X₉.tail.tail.tail
  dsimp only
  refine wpAny_allTrue_Or_nil (wpAny_execs_nil ?_)
  obtain ⟨ta1, us1, un1, eu, gu, iu⟩ := htl.get (i := i) (p := tape rs i) (by rw [List.getElem?_map, List.getElem?_range hi]; rfl)
  have hul := iu.length
  have htal := htl.length
  rw [List.length_map, List.length_range] at htal
  have htlen := tape_len i hhi
  refine wpAny_execs_cons (wpAny_If (wpAny_isTrue_Compare1 ?_))
  refine fx_itemT ?_
  refine fx_fn1 (f := 49) rfl X₁₀ (by rfl) ?_
  refine fx_slice (w := w) (hE := hE) (outer := []) (fx_itemL (fx_ld X₁₀ hma (fx_ld X₁₀ hms ⟨ta, tav, _, _, _, rfl, rfl, lo_isList (X₁₀.keep _ _ (st₁ _ _ eta)), by omega, by omega, eu, ?_⟩))) 
  refine part_none (part_some (wpAny_UnaryOp (wpAny_Constant_int (P.neg_int (part_none ?_)))))
  refine ⟨ta1, us1, none, some (-1), none, _, _, _, rfl, lo_isList (X₁₀.keep _ _ (st₁ _ _ gu)), by rw [sizeLine_eq]; omega, .none, .int _ _, .none, by simp, X₁₀, fun s3 h₁₁ X₁₁ => ?_⟩
  rw [show (some (-1 : Int)) = some (-((1 : Nat) : Int)) from rfl, slicePick_butLast _ 1 (by decide)] at X₁₁
  refine ⟨⟨_, _, _, X₁₁⟩, ?_⟩
  obtain ⟨g₂, st₂, X₁₂, es3⟩ := X₁₁.fz0
  have hcut : IntsAre (us1.take (us1.length - 1)) (tape rs i).dropLast := by
    rw [List.dropLast_eq_take, ← hul]; exact ints_take iu _
  have hdl : (tape rs i).dropLast.length ≤ 143 := by rw [List.length_dropLast]; omega
  dsimp only
  refine read_spec X₁₂ hA hn (by omega) (lo_isList es3) (by simpa using hcut) (by omega) (fun n hn' => tape_nonneg hok i n (by rw [List.dropLast_eq_take] at hn'; exact List.mem_of_mem_take hn')) fun v g₃ h₁₃ tk₁₃ cs3 st₃ X₁₃ hv => ?_
  obtain ⟨t3, l3, xs3, cs3', rfl, ht3, hl3, hr3⟩ := reads_pair hv
  refine wpAny_Constant_int ⟨t3, [.ref l3, _], 0, _, .ref l3, rfl, rfl, tup_at ht3 X₁₃.keep, by decide, by decide, rfl, ?_⟩
  have stA := stays_trans st₁ (stays_trans st₂ st₃)
  dsimp only
  refine fx_slice (w := w) (hE := hE) (outer := []) (fx_ld X₁₃ hmt ?_)
  refine part_none (part_some (wpAny_UnaryOp (wpAny_Constant_int (P.neg_int (part_none ?_)))))
  refine ⟨lt, xs, none, some (-1), none, _, _, _, rfl, hlt.at fun o e => X₁₃.keep _ _ (stA _ o e), by rw [sizeLine_eq]; omega, .none, .int _ _, .none, by simp, X₁₃, fun s4 h₁₄ X₁₄ => ?_⟩
  rw [show (some (-1 : Int)) = some (-((1 : Nat) : Int)) from rfl, slicePick_butLast _ 1 (by decide)] at X₁₄
  obtain ⟨cs4, hr4⟩ := ReadsAll.take (xs.length - 1) (ReadsAll.stays (stays_trans stA X₁₄.keep) hrt)
  rw [f2] at hr3
  have e4 : (Tree.dats T).take (xs.length - 1) = Tree.dats T.dropLast := by rw [List.dropLast_eq_take, hxl, Tree.dats_map, Tree.dats_map, List.map_take]
  rw [e4] at hr4
  have hdd := depth_dats T.dropLast
  have hdd2 : Tree.hts T.dropLast ≤ 13 := by
    refine Nat.le_trans (hts_sub fun t ht => ?_) (Nat.le_trans hTh hTn)
    rw [List.dropLast_eq_take] at ht
    exact List.mem_of_mem_take ht
  refine ne_same (list_reads (hl3.at fun o e => X₁₄.keep _ o e) (ReadsAll.stays X₁₄.keep hr3)) (lo_reads X₁₄.get0 (by simpa using hr4)) (lay_dats _) (lay_dats _) ?_ (eqvAll_dats _) ?_
  · simp only [PyData.depth]; omega
  have X₁₅ := X₁₄.tail
  dsimp only
  refine wpAny_execs_nil ?_
  have hBr : Tree.hts B.reverse ≤ 13 := Nat.le_trans (hts_sub fun t ht => List.mem_reverse.mp ht) hBh
  have hsz1 := hts_app hBr (Nat.le_trans hKh hKn)
  refine wpAny_execs_cons (wpAny_If (wpAny_isTrue_Compare1 ?_))
  refine fx_fn2 (f := 63) rfl X₁₅ (by rfl) ?_
  refine wpAny_BinOp ?_
  refine fx_slice (w := w) (hE := hE) (outer := []) (fx_ld X₁₅ hmb ?_)
  refine part_none (part_none (part_some (wpAny_UnaryOp (wpAny_Constant_int (P.neg_int ?_)))))
  refine ⟨bk, bkv, none, none, some (-1), _, _, _, rfl, hlb.at fun o e => X₁₅.keep _ _ (stA _ o e), by rw [sizeLine_eq]; omega, .none, .none, .int _ _, by simp, X₁₅, fun s5 h₁₆ X₁₆ => ?_⟩
  rw [krv_pick] at X₁₆
  dsimp only at X₁₆ ⊢
  refine fx_ld X₁₆ hmk ?_
  refine fx_addL X₁₆ (lo_isList X₁₆.get0) (hlk.at fun o e => X₁₆.keep _ _ (stA _ o e)) ?_ fun q2 h₁₇ X₁₇ => ?_
  · rw [List.length_reverse, sizeLine_eq]; omega
  obtain ⟨g₄, st₄, X₁₈, eq2⟩ := X₁₇.fz0
  have stB := stays_trans stA st₄
  dsimp only
  refine fx_ld X₁₈ hmt ⟨⟨_, _, _, X₁₈⟩, ?_⟩
  obtain ⟨c1, hc1⟩ := ReadsAll.reverse (ReadsAll.stays stB hrb)
  obtain ⟨c2, hc2⟩ := ReadsAll.append hc1 (ReadsAll.stays stB hrk)
  refine told_spec (es := B.reverse ++ K) (act := T) X₁₈ hA hn (by omega) (by omega) (lo_isList eq2) (hlt.at fun o e => stB _ o e) (as := c2) (by simpa [Tree.dats_map] using hc2) (ReadsAll.stays stB hrt) (by simp only [List.length_append, List.length_reverse]; omega) fun tp4 g₅ h₁₉ tk₁₉ cs5 st₅ X₁₉ hr5 => ?_
  rw [f3] at hr5
  have stC := stays_trans stB st₅
  dsimp only at hr5 ⊢
  refine fx_Tuple (w := w) (hE := hE) (env := lawE w L fa cd) (outer := []) ?_
  refine wpAny_items_cons (fx_ld X₁₉ hmb ?_)
  refine wpAny_items_cons (fx_List (w := w) (hE := hE) (env := lawE w L fa cd) (outer := []) (wpAny_items_nil ⟨Nat.zero_le _, _, _, _, X₁₉, fun a5 h₂₀ X₂₀ => ?_⟩))
  refine wpAny_items_nil ⟨by show 2 ≤ _; rw [sizeLine_eq]; decide, _, _, _, X₂₀, fun c5 h₂₁ X₂₁ => ?_⟩
  refine ne_same (Reads.stays X₂₁.keep hr5) (.tuple X₂₁.get0 rfl rfl (.cons (list_reads (hlb.at fun o e => X₂₁.keep _ _ (stC _ o e)) (ReadsAll.stays (stays_trans stC X₂₁.keep) hrb)) (.cons (.list X₂₁.tail.get0 rfl rfl .nil) .nil))) ?_ ?_ ?_ ?_ ?_
  · simp [PyData.canLay0, PyData.canLayAll0, lay_dats, Tree.dats]
  · simp [PyData.canLay0, PyData.canLayAll0, lay_dats]
  · simp only [Tree.dats, PyData.depth, PyData.depthAll]; omega
  · simp [PyData.eqv, PyData.eqvAll, eqvAll_dats, Tree.dats]
  have X₂₂ := X₂₁.tail.tail.tail
  dsimp only
  refine wpAny_execs_nil ?_
  have hsz2 := hts_app (Nat.le_trans hKh hKn) hBh
  refine wpAny_execs_cons (wpAny_If (wpAny_isTrue_Compare1 ?_))
  refine fx_fn2 (f := 63) rfl X₂₂ (by rfl) (fx_ld X₂₂ hmt ?_)
  refine wpAny_BinOp ?_
  refine fx_ld X₂₂ hmk (fx_ld X₂₂ hmb ?_)
  refine fx_addL X₂₂ (hlk.at fun o e => X₂₂.keep _ _ (stC _ o e)) (hlb.at fun o e => X₂₂.keep _ _ (stC _ o e)) ?_ fun q3 h₂₃ X₂₃ => ?_
  · rw [sizeLine_eq]; omega
  refine ⟨⟨_, _, _, X₂₃⟩, ?_⟩
  obtain ⟨g₆, st₆, X₂₄, eq3⟩ := X₂₃.fz0
  have stD := stays_trans stC st₆
  obtain ⟨c3, hc3⟩ := ReadsAll.append (ReadsAll.stays stD hrk) (ReadsAll.stays stD hrb)
  dsimp only
  refine told_spec (es := T) (act := K ++ B) X₂₄ hA hn (by omega) (by omega) (hlt.at fun o e => stD _ o e) (lo_isList eq3) (ReadsAll.stays stD hrt) (bs := c3) (by simpa [Tree.dats_map] using hc3) (by simp only [List.length_append]; omega) fun tp5 g₇ h₂₅ tk₂₅ cs6 st₇ X₂₅ hr6 => ?_
  rw [f4] at hr6
  have stE := stays_trans stD st₇
  dsimp only at hr6 ⊢
  refine fx_Tuple (w := w) (hE := hE) (env := lawE w L fa cd) (outer := []) ?_
  refine wpAny_items_cons (fx_List (w := w) (hE := hE) (env := lawE w L fa cd) (outer := []) (wpAny_items_nil ⟨Nat.zero_le _, _, _, _, X₂₅, fun a6 h₂₆ X₂₆ => ?_⟩))
  refine wpAny_items_cons (fx_ld X₂₆ hmb ?_)
  refine wpAny_items_nil ⟨by show 2 ≤ _; rw [sizeLine_eq]; decide, _, _, _, X₂₆, fun c6 h₂₇ X₂₇ => ?_⟩
  refine ne_same (Reads.stays X₂₇.keep hr6) (.tuple X₂₇.get0 rfl rfl (.cons (.list X₂₇.tail.get0 rfl rfl .nil) (.cons (list_reads (hlb.at fun o e => X₂₇.keep _ _ (stE _ o e)) (ReadsAll.stays (stays_trans stE X₂₇.keep) hrb)) .nil))) ?_ ?_ ?_ ?_ ?_
  · simp [PyData.canLay0, PyData.canLayAll0, lay_dats, Tree.dats]
  · simp [PyData.canLay0, PyData.canLayAll0, lay_dats]
  · simp only [Tree.dats, PyData.depth, PyData.depthAll]; omega
  · simp [PyData.eqv, PyData.eqvAll, eqvAll_dats, Tree.dats]
  dsimp only
  refine wpAny_execs_nil (wpAny_execs_nil ?_)
  exact ok g₇ h₂₇ _ stE X₂₇.tail.tail
end
end
end Mine

namespace Mine
section
open PySem PySem.W PyProof.Rows PySem.Calls
section
variable {prog : Program} {w : World} {A : Around} {E : Value → Shared → Prop} {s : Shared} {g hE : Heap} {env cenv : Env} {outer : List Env} {m : Str → Option Value} {news rest : List (Addr × Obj)}

set_option maxHeartbeats 1000000 in
theorem segFe {L fa : Addr} {cd : Value} {ra lm lf i : Nat} {rv mv fv : List Value} {rs : List Int} {x : Int} {rn : Nat} {Tr : Tree} {G : List Tree} {as bs : List Addr} {ti : Tok} {Q : Flow → Shared → Prop} (X : Fx w g hE (lawE w L fa cd) [] m rest s.heap) (hn : A.handled = none)
    (hA : A.frames = some [lawE w L fa cd]) (hd : A.depth + 420 < recursionLimit) (hU : A.units + 200 < cLine)
    (era : g.get? ra = some (lo rv rn)) (hcell : g.IsCell (L + 1) (some (.ref ra))) (hir : IntsAre rv rs) (hhi : rs.length ≤ 13) (hi : i < rs.length)
    (hmm : m "missing" = some (.ref lm)) (hml : m "left" = some (.ref lf)) (hms : m "start" = some (.int (i : Nat) ti))
    (hlm : g.IsList lm mv.toArray) (hrm : ReadsAll g mv (Tree.dats [Tr]) as) (hlf : g.IsList lf fv.toArray) (hrf : ReadsAll g fv (Tree.dats G) bs)
    (hTn : Tr.nums.length ≤ 13) (hx : rs[i]? = some x) (f1 : x ∈ Tr.nums) (f2 : Tree.numss G = Tr.nums.drop (Tr.nums.idxOf x))
    (ok : ∀ g' h' tk v, g.StaysIn g' → Fx w g' hE (lawE w L fa cd) [] (fun y => if y = ("lost" : Str) then some v else m y) rest h' → Q .next { s with heap := h', toks := tk }) :
    wpAny (model prog w) A (execs (elseB w) (lawE w L fa cd)) Q E s := by
  have hrvl := hir.length
  have hmvl := ReadsAll.len hrm
  have hfvl := ReadsAll.len hrf
  rw [Tree.dats_map, List.length_map] at hmvl hfvl
  have hTh := Tree.ht_le_len Tr
  have hGh := Tree.hts_le_len G
  have hGl := Tree.len_le G
  have hGn : (Tree.numss G).length ≤ 13 := by rw [f2, List.length_drop]; omega
  have hnT : Tree.numss [Tr] = Tr.nums := by simp [Tree.numss]
  have hhT : Tree.hts [Tr] = Tr.ht := by simp [Tree.hts]
  obtain ⟨tx, hx'⟩ := ints_get hir hx
  refine wpAny_execs_cons (wpAny_Assign_Name ?_)
  refine fx_fn1 (f := 56) rfl X (by rfl) (fx_ld X hmm ⟨⟨_, _, _, X⟩, ?_⟩)
  refine nums_spec 13 _ _ _ g hE _ _ _ _ lm mv [Tr] as _ X hA hn (by omega) hlm hrm (by omega) (by rw [hnT]; omega) fun a1 g₁ h₁ tk₁ ws k1 st₁ X₁ e1 hi1 => fx_st X₁ fun h₂ X₂ => ?_
  rw [hnT] at hi1
  have hwl := hi1.length
  try dsimp only
  refine wpAny_execs_cons (wpAny_If (wpAny_isTrue_BoolOp (wpAny_allTrue_Or_cons (wpAny_isTrue_Compare1 ?_))))
  refine fx_builtin1 (id := "len") (fx_bl X₂ (by rfl) PyProof.Rows.Boot.«len» ⟨rfl, fx_ld X₂ (by ktn_open) (fx_len (hlm.at fun o e => X₂.keep _ _ (st₁ _ o e)) (by rw [sizeLine_eq]; simp only [List.length_cons, List.length_nil] at hmvl; omega) fun t10 tk10 => ?_)⟩)
  refine wpAny_Constant_int (P.ne_int (wpAny_truthy_bool ?_))
  rw [show ((mv.length : Int) != 1) = false by rw [bne_eq_false_iff_eq, hmvl]; rfl]
  try dsimp only
  refine wpAny_allTrue_Or_cons (wpAny_isTrue_Compare1 ?_)
  refine fx_itemL (fx_ldCell X₂ (hcell.keeps st₁) (fx_ld X₂ ((if_neg (by decide)).trans hms) ⟨ra, rv, _, _, _, rfl, rfl, lo_isList (X₂.keep _ _ (st₁ _ _ era)), by omega, by omega, hx', ?_⟩))
  refine fx_ld X₂ (by ktn_open) ?_
  refine notin_list_ints (lo_isList (X₂.keep _ _ e1)) hi1 (wpAny_truthy_bool ?_)
  rw [show (!(Tr.nums.any (· == x))) = false by simp [f1]]
  try dsimp only
  refine wpAny_allTrue_Or_nil (wpAny_execs_nil ?_)
  refine wpAny_execs_cons (wpAny_If (wpAny_isTrue_Compare1 ?_))
  refine fx_fn1 (f := 56) rfl X₂ (by rfl) (fx_ld X₂ (by ktn_open) ⟨⟨_, _, _, X₂⟩, ?_⟩)
  refine nums_spec 13 _ _ _ g₁ hE _ _ _ _ lf fv G bs _ X₂ hA hn (by omega) (hlf.at fun o e => st₁ _ o e) (ReadsAll.stays st₁ hrf) (by omega) (by omega) fun a2 g₃ h₃ tk₃ ws2 k2 st₃ X₃ e2 hi2 => ?_
  have st13 := stays_trans st₁ st₃
  try dsimp only
  refine fx_slice (w := w) (hE := hE) (outer := []) (fx_ld X₃ (by ktn_open) (part_some ?_))
  refine fx_meth PySem.F.slot_list_index PySem.F.type_list_index (fx_ld X₃ (by ktn_open) ⟨a1, ws, k1, rfl, X₃.keep _ _ (st₃ _ _ e1), callWith_method1 (wpAny_items_cons ?_)⟩)
  refine fx_itemL (fx_ldCell X₃ (hcell.keeps st13) (fx_ld X₃ ((if_neg (by decide)).trans hms) ⟨ra, rv, _, _, _, rfl, rfl, lo_isList (X₃.keep _ _ (st13 _ _ era)), by omega, by omega, hx', wpAny_items_nil ?_⟩))
  refine fx_index (lo_isList (X₃.keep _ _ (st₃ _ _ e1))) hi1 (by omega) f1 ?_
  refine part_none (part_none ?_)
  refine ⟨a1, ws, some ((Tr.nums.idxOf x : Nat) : Int), none, none, _, _, _, rfl, lo_isList (X₃.keep _ _ (st₃ _ _ e1)), by rw [sizeLine_eq]; omega, .int _ _, .none, .none, by simp, X₃, fun s3 h₄ X₄ => ?_⟩
  rw [slicePick_from'] at X₄
  have i4 := ints_drop hi1 (Tr.nums.idxOf x)
  rw [← f2] at i4
  have dG := depth_ints (Tree.numss G)
  refine ne_same (readsInts (X₄.keep _ _ e2) hi2) (readsInts X₄.get0 (by simpa using i4)) (lay_ints _) (lay_ints _) ?_ (eqvAll_ints _) ?_
  · simp only [PyData.depth]; omega
  try dsimp only
  refine wpAny_execs_nil (wpAny_execs_nil ?_)
  exact ok g₃ h₄ _ _ st13 X₄.tail
end
end
end Mine

namespace Mine
section
open PySem PySem.W PyProof.Rows PySem.Calls
structure Facts (rs : List Int) (F : Nat → List Tree) (b : Nat → Bool) (p0 : Nat) : Prop where
  hF : ∀ i, i < rs.length → readD rs i = .tuple [.list (Tree.dats (F i)), .bool (b i)]
  count : ((starts b rs.length).length : Int) = rs.length - wsum rs
  first : (starts b rs.length)[0]? = some p0
  small : ∀ i, i < rs.length → (Tree.numss (F i)).length ≤ rs.length
  w1 : ∀ i, i < rs.length → b i = true → uldT (F p0).reverse (F i) [] = ([], [])
  w2 : ∀ i, i < rs.length → b i = true → Tree.numss (F i) = rs.drop i ++ rs.take i
  w3 : ∀ i, i < rs.length → b i = true → (rd ((tape rs i).dropLast.length + 1) ((tape rs i).dropLast.length + 1) (tape rs i).dropLast []).1 = Tree.dats (F i).dropLast
  w4 : ∀ i, i < rs.length → b i = true → uldT ((F p0 ++ (F p0).drop 1).reverse.reverse ++ F p0).reverse (F i) [] = ((F p0 ++ (F p0).drop 1).reverse, [])
  w5 : ∀ i, i < rs.length → b i = true → uldT (F i).reverse (F p0 ++ (F p0 ++ (F p0).drop 1).reverse) [] = ([], (F p0 ++ (F p0).drop 1).reverse)
  e : ∀ i, i < rs.length → b i = false → ∃ T G x, uldT (F p0).reverse (F i) [] = ([T], G) ∧ T.nums.length ≤ rs.length ∧ rs[i]? = some x ∧ x ∈ T.nums ∧ Tree.numss G = T.nums.drop (T.nums.idxOf x)

theorem starts_any (b : Nat → Bool) {n i : Nat} (hi : i < n) : (asInts (starts b n)).any (· == (i : Int)) = b i := by
  rw [Bool.eq_iff_iff, List.any_eq_true]
  constructor
  · rintro ⟨x, hx, e⟩
    obtain ⟨j, hj, rfl⟩ := List.mem_map.mp hx
    rw [starts, List.mem_filter] at hj
    have e' : ((j : Nat) : Int) == (i : Int) := e
    have : j = i := by have := eq_of_beq e'; omega
    exact this ▸ hj.2
  · intro h
    exact ⟨(i : Int), List.mem_map.mpr ⟨i, by rw [starts, List.mem_filter, List.mem_range]; exact ⟨hi, h⟩, rfl⟩, by simp⟩

section
variable {prog : Program} {w : World} {A : Around} {E : Value → Shared → Prop} {s : Shared} {g hE : Heap} {env cenv : Env} {outer : List Env} {m : Str → Option Value} {news rest : List (Addr × Obj)}

set_option maxHeartbeats 1000000 in
theorem segF {L fa : Addr} {cd : Value} {ra ta rda lk bk wh p0 : Nat} {rv rdv tav kv bkv whv : List Value} {rs : List Int} {rn rdn tan : Nat} {as bs cs : List Addr} {F : Nat → List Tree} {b : Nat → Bool} {Q : Flow → Shared → Prop} (X : Fx w g hE (lawE w L fa cd) [] m [] s.heap) (hn : A.handled = none)
    (hA : A.frames = some [lawE w L fa cd]) (hd : A.depth + 420 < recursionLimit) (hU : A.units + 200 < cLine) (FF : Facts rs F b p0)
    (era : g.get? ra = some (lo rv rn)) (hcell : g.IsCell (L + 1) (some (.ref ra))) (hir : IntsAre rv rs) (hhi : rs.length ≤ 13) (hok : RingOk rs)
    (erd : g.get? rda = some (lo rdv rdn)) (hrd : ReadsAll g rdv ((List.range rs.length).map (readD rs)) as) (hcell2 : g.IsCell (L + 1 + 1) (some (.ref rda)))
    (eta : g.get? ta = some (lo tav tan)) (htl : LLs g tav ((List.range rs.length).map (tape rs)))
    (hma : m "tapes" = some (.ref ta)) (hmk : m "known" = some (.ref lk)) (hmb : m "back" = some (.ref bk)) (hmw : m "whole" = some (.ref wh))
    (hlk : g.IsList lk kv.toArray) (hrk : ReadsAll g kv (Tree.dats (F p0)) bs) (hlb : g.IsList bk bkv.toArray) (hrb : ReadsAll g bkv (Tree.dats (F p0 ++ (F p0).drop 1).reverse) cs)
    (hlw : g.IsList wh whv.toArray) (hiw : IntsAre whv (asInts (starts b rs.length)))
    (ok : ∀ h' tk m', g.StaysIn h' → h'.Ns L m' → Q (.ret (.bool true)) { s with heap := h', toks := tk }) :
    wpAny (model prog w) A (execs (List.drop 14 (lawB w)) (lawE w L fa cd)) Q E s := by
  have hrvl := hir.length
  have hrdl := ReadsAll.len hrd
  rw [List.length_map, List.length_range] at hrdl
  have hp0l : p0 < rs.length := by
    have := List.mem_of_getElem? FF.first
    rw [starts, List.mem_filter, List.mem_range] at this
    exact this.1
  have hKn := FF.small p0 hp0l
  have hKl := Tree.len_le (F p0)
  have hKh := Tree.hts_le_len (F p0)
  have item : ∀ i, i < rs.length → ∃ v t l xs cs, rdv[i]? = some v ∧ v = .ref t ∧ IsTup g t #[.ref l, .bool (b i)] ∧ g.IsList l (List.toArray xs) ∧ ReadsAll g xs (Tree.dats (F i)) cs := fun i hi => by
    have e : rdv[i]? = some (rdv[i]'(by omega)) := List.getElem?_eq_getElem (by omega)
    obtain ⟨d, cs, hd, hr⟩ := ReadsAll.get hrd e
    rw [List.getElem?_map, List.getElem?_range hi] at hd
    simp only [Option.map_some, Option.some.injEq] at hd
    rw [← hd, FF.hF i hi] at hr
    obtain ⟨t, l, xs, cs, h1, h2, h3, h4⟩ := reads_pair hr
    exact ⟨_, t, l, xs, cs, e, h1, h2, h3, h4⟩
  refine wpAny_execs_cons (wpAny_For ?_)
  refine fx_range1 rfl X (fx_builtin1 (id := "len") (fx_bl X (by rfl) PyProof.Rows.Boot.«len» ⟨rfl, fx_ldCell X hcell (fx_len (lo_isList (X.keep _ _ era)) (by rw [sizeLine_eq]; omega) fun t9 tk9 => ⟨_, _, _, _, _, rfl, by omega, by omega, X, fun r tc1 tc2 tc3 h₄ tk₄ X₄ hr => ?_⟩)⟩))
  refine fx_iterRange X₄ hr (by decide) (by decide) (by omega) (by omega) fun I h₅ X₅ => ?_
  rw [show (((rv.length : Int) - 0).toNat : Nat) = rs.length by omega] at X₅
  dsimp only
  refine fx_rangeLoop (fun k g' m' news' => news' = [] ∧ m' "known" = some (.ref lk) ∧ m' "back" = some (.ref bk) ∧ m' "whole" = some (.ref wh) ∧ m' "tapes" = some (.ref ta)) X₅ hn (by rfl)
    ⟨rfl, hmk, hmb, hmw, hma⟩ ?_ ?_
  · rintro i g₁ m₁ _ h₆ tk₆ ti hi ⟨rfl, hk1, hb1, hw1, ha1⟩ st₁ X₆
    rw [show ((0 : Int) + (i : Nat)) = (i : Nat) by omega] at X₆
    obtain ⟨v, t, l, xs, cx, ev, rfl, htup, hl, hxs⟩ := item i hi
    have hTn := FF.small i hi
    have hTl := Tree.len_le (F i)
    have hTh := Tree.hts_le_len (F i)
    refine wpAny_execs_cons (wpAny_Assign_Name ?_)
    refine fx_itemT (fx_itemL (fx_ldCell X₆ (hcell2.keeps st₁) (fx_ld X₆ (if_pos rfl) ⟨rda, rdv, _, _, _, rfl, rfl, lo_isList (X₆.keep _ _ (st₁ _ _ erd)), by omega, by omega, ev, ?_⟩)))
    refine wpAny_Constant_int ⟨t, [.ref l, .bool (b i)], 0, _, .ref l, rfl, rfl, tup_at htup (stays_trans st₁ X₆.keep), by decide, by decide, rfl, fx_st X₆ fun h₇ X₇ => ?_⟩
    dsimp only
    refine wpAny_execs_cons (wpAny_Assign_Name ?_)
    refine fx_fn2 (f := 63) rfl X₇ (by rfl) (fx_ld X₇ (by ktn_open) (fx_ld X₇ (by ktn_open) ⟨⟨_, _, _, X₇⟩, ?_⟩))
    refine told_spec (es := F p0) (act := F i) X₇ hA hn (by omega) (by omega) (hlk.at fun o e => st₁ _ o e) (hl.at fun o e => st₁ _ o e) (ReadsAll.stays st₁ hrk) (ReadsAll.stays st₁ hxs) (by omega) fun tp g₂ h₈ tk₈ cs5 st₂ X₈ hr5 => fx_st X₈ fun h₉ X₉ => ?_
    have st12 := stays_trans st₁ st₂
    dsimp only
    refine wpAny_execs_cons (wpAny_If (wpAny_isTrue_Compare1 (fx_ld X₉ (by ktn_open) (wpAny_Constant_none (is_ref_none (wpAny_truthy_bool (wpAny_execs_nil ?_)))))))
    obtain ⟨t2, lm, lf, mv, fv, c1, c2, et2, htup2, hlm, hrm, hlf, hrf⟩ := reads_two hr5
    cases et2
    refine wpAny_execs_cons (fx_unpack2 (w := w) (hE := hE) (outer := []) hn (fx_ld X₉ (by ktn_open) ⟨tp, _, _, _, _, _, rfl, tup_at htup2 X₉.keep, X₉, fun h₁₀ tk₁₀ X₁₀ => ?_⟩))
    dsimp only
    refine wpAny_execs_cons (wpAny_If (wpAny_isTrue_Compare1 (fx_ld X₁₀ (by ktn_open) (fx_ld X₁₀ (by ktn_open) ?_))))
    refine in_list_ints (hlw.at fun o e => X₁₀.keep _ _ (st12 _ o e)) hiw (wpAny_truthy_bool ?_)
    rw [starts_any b hi]
    cases hbi : b i with
    | true =>
      rw [if_pos rfl]
      rw [FF.w1 i hi hbi] at hr5
      have hB : (F p0 ++ (F p0).drop 1).reverse.length ≤ 26 := by simp only [List.length_reverse, List.length_append, List.length_drop]; omega
      have hBh : Tree.hts (F p0 ++ (F p0).drop 1).reverse ≤ 13 := Nat.le_trans (hts_sub (k := F p0) fun t ht => by
        rcases List.mem_append.mp (List.mem_reverse.mp ht) with q | q
        · exact q
        · exact List.mem_of_mem_drop q) (by omega)
      refine segFw (i := i) (ra := ra) (rs := rs) (T := F i) (K := F p0) X₁₀ hn hA hd hU (st12 _ _ era) (hcell.keeps st12) hir hhi hi hok (by ktn_open) (by ktn_open) (by ktn_open) (by ktn_open) (by ktn_open) (by ktn_open) (hl.at fun o e => st12 _ o e) (ReadsAll.stays st12 hxs)
        (st12 _ _ eta) (htl.stays st12) (hlk.at fun o e => st12 _ o e) (ReadsAll.stays st12 hrk) (hlb.at fun o e => st12 _ o e) (ReadsAll.stays st12 hrb) hr5 (by omega) (by omega) hB hBh (FF.w2 i hi hbi) (FF.w3 i hi hbi) (FF.w4 i hi hbi) (FF.w5 i hi hbi)
        fun g₃ h₁₁ tk₁₁ st₃ X₁₁ => wpAny_execs_nil ?_
      exact ⟨g₃, _, _, h₁₁, _, rfl, stays_trans st₂ st₃, X₁₁, rfl, by ktn_open, by ktn_open, by ktn_open, by ktn_open⟩
    | false =>
      rw [if_neg (by decide)]
      obtain ⟨T, G, x, hu, hTn', hx, hm1, hm2⟩ := FF.e i hi hbi
      rw [hu] at hrm hrf
      refine segFe (i := i) (ra := ra) (rs := rs) (Tr := T) (G := G) X₁₀ hn hA hd hU (st12 _ _ era) (hcell.keeps st12) hir hhi hi (by ktn_open) (by ktn_open) (by ktn_open) hlm hrm hlf hrf (by omega) hx hm1 hm2
        fun g₃ h₁₁ tk₁₁ vl st₃ X₁₁ => wpAny_execs_nil ?_
      exact ⟨g₃, _, _, h₁₁, _, rfl, stays_trans st₂ st₃, X₁₁, rfl, by ktn_open, by ktn_open, by ktn_open, by ktn_open⟩
  · rintro g₁ m₁ _ h₆ tk₆ ⟨rfl, hk1, hb1, hw1, ha1⟩ st₁ X₆
    refine wpAny_execs_cons (wpAny_Return_some (wpAny_Constant_bool ?_))
    exact ok _ _ _ (stays_trans st₁ X₆.keep) X₆.ns
end
end
end Mine

namespace Mine
section
open PySem PySem.W PyProof.Rows PySem.Calls
theorem octU_pre {mk : Int} (hm : mk % 128 = 0) : ∀ (f : Nat) (n : Int) (acc : List Int), 0 ≤ n → n < 64 ^ f → ∃ p, octU mk f n acc = p ++ acc ∧ ∀ r, pgo 0 (p ++ r) = pgo n r
  | 0, n, acc, h0, h1 => by
    have : n = 0 := by simp at h1; omega
    subst this
    exact ⟨[], by simp [octU], fun r => rfl⟩
  | f + 1, n, acc, h0, h1 => by
    rw [octU]
    by_cases hz : 0 < n
    · rw [if_pos hz]
      have h2 : n / 64 < 64 ^ f := by rw [Int.pow_succ] at h1; omega
      obtain ⟨p, e, k⟩ := octU_pre hm f (n / 64) ((n % 64 + 64 + mk) :: acc) (by omega) h2
      refine ⟨p ++ [n % 64 + 64 + mk], by rw [e, List.append_assoc]; rfl, fun r => ?_⟩
      rw [List.append_assoc, k, List.singleton_append, pgo]
      have hc : ¬ ((n % 64 + 64 + mk) / 64 % 2 = 0) := by omega
      rw [if_neg hc]
      have e1 : n / 64 * 64 + (n % 64 + 64 + mk) % 64 = n := by omega
      rw [e1]
    · rw [if_neg hz]
      have : n = 0 := by omega
      subst this
      exact ⟨[], by simp, fun r => rfl⟩

theorem pgo_fill : ∀ (j : Nat) (r : List Int), pgo 0 (List.replicate j 64 ++ r) = pgo 0 r
  | 0, _ => rfl
  | j + 1, r => by
    rw [List.replicate_succ, List.cons_append, pgo, if_neg (by decide)]
    exact pgo_fill j r

/-- octets that tell one number, and do not without their last -/
structure IsPart (p : List Int) (n : Int) : Prop where
  get : ∀ r, pgo 0 (p ++ r) = some (n, r)
  cut : pgo 0 p.dropLast = none
theorem IsPart.ne {p : List Int} {n : Int} (h : IsPart p n) : p ≠ [] := by
  rintro rfl
  have := h.get []
  cases this

theorem part_ok {rs : List Int} (hok : RingOk rs) {i : Nat} {r : Int} (hr : rs[i]? = some r) : IsPart (part rs i) r := by
  obtain ⟨h0, h1, _⟩ := hok i r hr
  have er : rs.getD i 0 = r := by rw [List.getD_eq_getElem?_getD, hr]; rfl
  obtain ⟨p, e, k⟩ := octU_pre (mk := ((i % 2 : Nat) : Int) * 128) (by omega) 8 (r / 64) [r % 64 + ((i % 2 : Nat) : Int) * 128] (by omega) (by have : (64 : Int) ^ 8 = 281474976710656 := rfl; omega)
  have e2 : part rs i = (List.replicate (i % 3) 64 ++ p) ++ [r % 64 + ((i % 2 : Nat) : Int) * 128] := by
    rw [part, er, octs, e, List.append_assoc]
  rw [e2]
  refine ⟨fun q => ?_, ?_⟩
  · rw [List.append_assoc, List.append_assoc, pgo_fill, k, List.singleton_append, pgo]
    have hc : (r % 64 + ((i % 2 : Nat) : Int) * 128) / 64 % 2 = 0 := by omega
    rw [if_pos hc]
    have e3 : r / 64 * 64 + (r % 64 + ((i % 2 : Nat) : Int) * 128) % 64 = r := by omega
    rw [e3]
  · rw [List.dropLast_concat, pgo_fill]
    have := k []
    rw [List.append_nil] at this
    rw [this]; rfl

/-- octets that tell the numbers, and then no more -/
inductive Enc : List Int → List Int → Prop
  | nil {q} : pgo 0 q = none → Enc [] q
  | cons {p n ns os} : (∀ r, pgo 0 (p ++ r) = some (n, r)) → Enc ns os → Enc (n :: ns) (p ++ os)
theorem Enc.len {ns os : List Int} (h : Enc ns os) : ns.length ≤ os.length := by
  induction h with
  | nil _ => exact Nat.zero_le _
  | @cons p n ns os h _ ih =>
    have := pgo_len (h [])
    simp only [List.append_nil, List.length_nil] at this
    rw [List.length_cons, List.length_append]; omega

inductive Tree.Ok : Tree → Prop
  | mk {n : Int} {ch : List Tree} : ch.length = (n % 3).toNat → (∀ t, t ∈ ch → Tree.Ok t) → Tree.Ok (.node n ch)

theorem kids_enc {k : Nat} (H : ∀ t : Tree, t.Ok → t.ht ≤ k → ∀ ns os, Enc (t.nums ++ ns) os → ∃ os', Enc ns os' ∧ tr k os = (some (t.dat, os'), t.nums)) :
    ∀ (ts : List Tree), (∀ t, t ∈ ts → t.Ok) → Tree.hts ts ≤ k → ∀ ns os acc log, Enc (Tree.numss ts ++ ns) os → ∃ os', Enc ns os' ∧ kids (tr k) ts.length os acc log = (some (.list (acc ++ Tree.dats ts), os'), log ++ Tree.numss ts)
  | [], _, _, ns, os, acc, log, h => ⟨os, h, by simp [kids, Tree.dats, Tree.numss]⟩
  | t :: r, hok, hh, ns, os, acc, log, h => by
    rw [Tree.hts] at hh
    rw [Tree.numss, List.append_assoc] at h
    obtain ⟨os1, h1, e1⟩ := H t (hok t (.head _)) (by omega) _ _ h
    obtain ⟨os2, h2, e2⟩ := kids_enc H r (fun x hx => hok x (.tail _ hx)) (by omega) ns os1 (acc ++ [t.dat]) (log ++ t.nums) h1
    refine ⟨os2, h2, ?_⟩
    rw [List.length_cons, kids, e1]
    dsimp only
    rw [e2]
    simp [Tree.dats, Tree.numss]
theorem tr_enc : ∀ (k : Nat) (t : Tree), t.Ok → t.ht ≤ k → ∀ ns os, Enc (t.nums ++ ns) os → ∃ os', Enc ns os' ∧ tr k os = (some (t.dat, os'), t.nums)
  | 0, .node n ch, _, hh, _, _, _ => by rw [Tree.ht] at hh; omega
  | k + 1, .node n ch, hok, hh, ns, os, h => by
    rw [Tree.ht] at hh
    rw [Tree.nums, List.cons_append] at h
    cases hok with
    | mk hc hk =>
      cases h with
      | @cons p _ _ os1 hp h1 =>
        obtain ⟨os2, h2, e2⟩ := kids_enc (tr_enc k) ch hk (by omega) ns os1 [.int n] [n] h1
        refine ⟨os2, h2, ?_⟩
        rw [tr, hp]
        dsimp only
        rw [← hc, e2]
        simp [Tree.dat, Tree.nums]

theorem kids_cut {k : Nat} (H : ∀ t : Tree, t.Ok → t.ht ≤ k → ∀ P S os, t.nums = P ++ S → S ≠ [] → Enc P os → tr k os = (none, P)) :
    ∀ (ts : List Tree), (∀ t, t ∈ ts → t.Ok) → Tree.hts ts ≤ k → ∀ P S os acc log, Tree.numss ts = P ++ S → S ≠ [] → Enc P os → kids (tr k) ts.length os acc log = (none, log ++ P)
  | [], _, _, P, S, os, acc, log, e, hS, h => by
    rw [Tree.numss] at e
    exact absurd (List.append_eq_nil_iff.mp e.symm).2 hS
  | t :: r, hok, hh, P, S, os, acc, log, e, hS, h => by
    rw [Tree.hts] at hh
    rw [Tree.numss] at e
    have first : ∀ a', P = t.nums ++ a' → Tree.numss r = a' ++ S → kids (tr k) (t :: r).length os acc log = (none, log ++ P) := by
      rintro a' rfl e'
      obtain ⟨os1, h1, e1⟩ := tr_enc k t (hok t (.head _)) (by omega) _ _ h
      rw [List.length_cons, kids, e1]
      dsimp only
      rw [kids_cut H r (fun x hx => hok x (.tail _ hx)) (by omega) a' S os1 _ _ e' hS h1, List.append_assoc]
    rcases List.append_eq_append_iff.mp e with ⟨a', e1, e2⟩ | ⟨c', e1, e2⟩
    · exact first a' e1 e2
    · by_cases hc : c' = []
      · subst hc
        rw [List.append_nil] at e1
        exact first [] (by rw [List.append_nil, e1]) (by simpa using e2.symm)
      · rw [List.length_cons, kids, H t (hok t (.head _)) (by omega) P c' os e1 hc h]
theorem tr_cut : ∀ (k : Nat) (t : Tree), t.Ok → t.ht ≤ k → ∀ P S os, t.nums = P ++ S → S ≠ [] → Enc P os → tr k os = (none, P)
  | 0, .node n ch, _, hh, _, _, _, _, _, _ => by rw [Tree.ht] at hh; omega
  | k + 1, .node n ch, hok, hh, P, S, os, e, hS, h => by
    rw [Tree.ht] at hh
    rw [Tree.nums] at e
    cases hok with
    | mk hc hk =>
      cases h with
      | nil hq => rw [tr, hq]
      | @cons p m P' os1 hp h1 =>
        rw [List.cons_append, List.cons.injEq] at e
        obtain ⟨rfl, e⟩ := e
        rw [tr, hp]
        dsimp only
        rw [← hc, kids_cut (tr_cut k) ch hk (by omega) P' S os1 _ _ e hS h1]
        rfl

theorem tr_none {k : Nat} {q : List Int} (h : pgo 0 q = none) : tr k q = (none, []) := by
  cases k with
  | zero => rfl
  | succ k => rw [tr, h]

/-- what is left over is the beginning of a tree, or nothing -/
def Left (k : Nat) (P : List Int) : Prop := P = [] ∨ ∃ T S, Tree.Ok T ∧ T.ht ≤ k ∧ S ≠ [] ∧ T.nums = P ++ S

theorem rd_enc {k : Nat} : ∀ (ts : List Tree) (c : Nat) (P os : List Int) (acc : List PyData), (∀ t, t ∈ ts → t.Ok) → Tree.hts ts ≤ k → Left k P → Enc (Tree.numss ts ++ P) os → ts.length < c → rd k c os acc = (acc ++ Tree.dats ts, P.isEmpty)
  | _, 0, _, _, _, _, _, _, _, hc => absurd hc (Nat.not_lt_zero _)
  | [], c + 1, P, os, acc, _, _, hL, h, _ => by
    rw [Tree.numss, List.nil_append] at h
    have e : tr k os = (none, P) := by
      rcases hL with rfl | ⟨T, S, h1, h2, h3, h4⟩
      · cases h with
        | nil hq => exact tr_none hq
      · exact tr_cut k T h1 h2 P S os h4 h3 h
    rw [rd, e]
    simp [Tree.dats]
  | t :: r, c + 1, P, os, acc, hok, hh, hL, h, hc => by
    rw [Tree.hts] at hh
    rw [Tree.numss, List.append_assoc] at h
    obtain ⟨os1, h1, e1⟩ := tr_enc k t (hok t (.head _)) (by omega) _ _ h
    rw [rd, e1]
    dsimp only
    rw [rd_enc r c P os1 (acc ++ [t.dat]) (fun x hx => hok x (.tail _ hx)) (by omega) hL h1 (by rw [List.length_cons] at hc; omega)]
    simp [Tree.dats]
end
end Mine

namespace Mine
section
open PySem PySem.W PyProof.Rows PySem.Calls
theorem Tree.numss_append (a b : List Tree) : Tree.numss (a ++ b) = Tree.numss a ++ Tree.numss b := by simp [Tree.numss_flat]
theorem Tree.nums_ne (t : Tree) : t.nums ≠ [] := by cases t; simp [Tree.nums]
theorem Tree.numss_ne {l : List Tree} (h : l ≠ []) : Tree.numss l ≠ [] := by
  cases l with
  | nil => exact absurd rfl h
  | cons t r => rw [Tree.numss]; intro e; exact t.nums_ne (List.append_eq_nil_iff.mp e).1

abbrev OkAll (l : List Tree) : Prop := ∀ t, t ∈ l → t.Ok

/-- so many branches as the number says -/
def cc (n : Int) : Nat := (n % 3).toNat
def csum (l : List Int) : Nat := (l.map cc).sum
theorem csum_append (a b : List Int) : csum (a ++ b) = csum a + csum b := by simp [csum]
theorem csum_cons (n : Int) (l : List Int) : csum (n :: l) = cc n + csum l := by simp [csum]

theorem forest_sum_aux : ∀ (k : Nat), (∀ t : Tree, t.ht ≤ k → t.Ok → csum t.nums + 1 = t.nums.length) ∧ (∀ l : List Tree, Tree.hts l ≤ k → OkAll l → csum (Tree.numss l) + l.length = (Tree.numss l).length) := by
  intro k
  induction k with
  | zero =>
    have h0 : ∀ t : Tree, t.ht ≤ 0 → t.Ok → csum t.nums + 1 = t.nums.length := fun t h _ => by cases t; rw [Tree.ht] at h; omega
    refine ⟨h0, fun l => ?_⟩
    cases l with
    | nil => intro _ _; rfl
    | cons t r => intro h _; cases t; rw [Tree.hts, Tree.ht] at h; omega
  | succ k ih =>
    have h1 : ∀ t : Tree, t.ht ≤ k + 1 → t.Ok → csum t.nums + 1 = t.nums.length := by
      intro t h ok
      cases ok with
      | @mk n ch hc hk =>
        rw [Tree.ht] at h
        have := ih.2 ch (by omega) hk
        rw [Tree.nums, csum_cons, List.length_cons]
        have : cc n = ch.length := hc.symm
        omega
    refine ⟨h1, fun l => ?_⟩
    induction l with
    | nil => intro _ _; rfl
    | cons t r ihl =>
      intro h ok
      rw [Tree.hts] at h
      have a := h1 t (by omega) (ok t (.head _))
      have b := ihl (by omega) fun x hx => ok x (.tail _ hx)
      rw [Tree.numss, csum_append, List.length_append, List.length_cons]
      omega
theorem tree_sum {t : Tree} (h : t.Ok) : csum t.nums + 1 = t.nums.length := (forest_sum_aux t.ht).1 t (Nat.le_refl _) h
theorem forest_sum {l : List Tree} (h : OkAll l) : csum (Tree.numss l) + l.length = (Tree.numss l).length := (forest_sum_aux (Tree.hts l)).2 l (Nat.le_refl _) h

/-- numbers that begin a tree and lack so many branches -/
def Lack (P : List Int) (u : Nat) : Prop := P ≠ [] ∧ 1 ≤ u ∧ ∀ G, OkAll G → G.length = u → ∃ T : Tree, T.Ok ∧ T.nums = P ++ Tree.numss G

theorem parse_any : ∀ xs : List Int, ∃ ts P, OkAll ts ∧ xs = Tree.numss ts ++ P ∧ (P = [] ∨ ∃ u, Lack P u)
  | [] => ⟨[], [], (fun _ h => nomatch h), rfl, .inl rfl⟩
  | n :: xs => by
    obtain ⟨ts, P, hok, rfl, hP⟩ := parse_any xs
    by_cases hc : cc n ≤ ts.length
    · refine ⟨.node n (ts.take (cc n)) :: ts.drop (cc n), P, ?_, ?_, hP⟩
      · intro t ht
        rcases List.mem_cons.mp ht with rfl | ht
        · exact .mk (by rw [List.length_take]; exact Nat.min_eq_left hc) fun x hx => hok x (List.mem_of_mem_take hx)
        · exact hok t (List.mem_of_mem_drop ht)
      · rw [Tree.numss, Tree.nums, List.cons_append, List.cons_append, ← Tree.numss_append, List.take_append_drop]
    · refine ⟨[], n :: (Tree.numss ts ++ P), (fun _ h => nomatch h), rfl, .inr ?_⟩
      rcases hP with rfl | ⟨u, hne, hu, hG⟩
      · refine ⟨cc n - ts.length, by simp, by omega, fun G hGok hGl => ⟨.node n (ts ++ G), .mk ?_ ?_, ?_⟩⟩
        · rw [List.length_append, hGl]; show _ = cc n; omega
        · intro t ht
          rcases List.mem_append.mp ht with h | h
          · exact hok t h
          · exact hGok t h
        · rw [Tree.nums, Tree.numss_append, List.append_nil]; rfl
      · refine ⟨u + (cc n - ts.length - 1), by simp, by omega, fun G hGok hGl => ?_⟩
        obtain ⟨T, hT, eT⟩ := hG (G.take u) (fun x hx => hGok x (List.mem_of_mem_take hx)) (by rw [List.length_take]; omega)
        refine ⟨.node n (ts ++ T :: G.drop u), .mk ?_ ?_, ?_⟩
        · rw [List.length_append, List.length_cons, List.length_drop]; show _ = cc n; omega
        · intro t ht
          rcases List.mem_append.mp ht with h | h
          · exact hok t h
          · rcases List.mem_cons.mp h with rfl | h
            · exact hT
            · exact hGok t (List.mem_of_mem_drop h)
        · rw [Tree.nums, Tree.numss_append, Tree.numss, eT, List.append_assoc P, ← Tree.numss_append, List.take_append_drop]
          simp

theorem lack_sum {P : List Int} {u : Nat} (h : Lack P u) : csum P + 1 = P.length + u := by
  obtain ⟨_, _, hG⟩ := h
  have z : OkAll (List.replicate u (Tree.node 0 [])) := fun t ht => by
    rw [List.mem_replicate] at ht
    rw [ht.2]
    exact .mk rfl fun _ h => nomatch h
  obtain ⟨T, hT, e⟩ := hG _ z (by simp)
  have a := tree_sum hT
  have b := forest_sum z
  rw [e, csum_append, List.length_append] at a
  rw [List.length_replicate] at b
  omega

/-- a start from which all is whole -/
theorem whole_start {xs : List Int} (h : csum xs < xs.length) : ∃ p K, p < xs.length ∧ OkAll K ∧ Tree.numss K = xs.drop p ++ xs.take p := by
  obtain ⟨ts, P, hok, rfl, hP⟩ := parse_any xs
  have fs := forest_sum hok
  rcases hP with rfl | ⟨u, hL⟩
  · refine ⟨0, ts, ?_, hok, by simp⟩
    omega
  · have ls := lack_sum hL
    obtain ⟨hne, hu, hG⟩ := hL
    rw [csum_append, List.length_append] at h
    have hut : u ≤ ts.length := by omega
    obtain ⟨T, hT, eT⟩ := hG (ts.take u) (fun x hx => hok x (List.mem_of_mem_take hx)) (by rw [List.length_take]; omega)
    refine ⟨(Tree.numss ts).length, T :: ts.drop u, ?_, ?_, ?_⟩
    · rw [List.length_append]
      have : P.length ≠ 0 := fun e => hne (List.length_eq_zero_iff.mp e)
      omega
    · intro t ht
      rcases List.mem_cons.mp ht with rfl | ht
      · exact hT
      · exact hok t (List.mem_of_mem_drop ht)
    · rw [Tree.numss, eT, List.append_assoc, ← Tree.numss_append, List.take_append_drop, List.drop_left, List.take_left]

theorem forest_split : ∀ (K : List Tree) (A B : List Int), Tree.numss K = A ++ B → (∃ K1 K2, K = K1 ++ K2 ∧ A = Tree.numss K1 ∧ B = Tree.numss K2) ∨
    (∃ K1 T K2 P S, K = K1 ++ T :: K2 ∧ P ≠ [] ∧ S ≠ [] ∧ T.nums = P ++ S ∧ A = Tree.numss K1 ++ P ∧ B = S ++ Tree.numss K2)
  | [], A, B, e => by
    rw [Tree.numss] at e
    obtain ⟨rfl, rfl⟩ := List.append_eq_nil_iff.mp e.symm
    exact .inl ⟨[], [], rfl, rfl, rfl⟩
  | t :: r, A, B, e => by
    rw [Tree.numss] at e
    have first : ∀ a', A = t.nums ++ a' → Tree.numss r = a' ++ B → ((∃ K1 K2, t :: r = K1 ++ K2 ∧ A = Tree.numss K1 ∧ B = Tree.numss K2) ∨
        (∃ K1 T K2 P S, t :: r = K1 ++ T :: K2 ∧ P ≠ [] ∧ S ≠ [] ∧ T.nums = P ++ S ∧ A = Tree.numss K1 ++ P ∧ B = S ++ Tree.numss K2)) := by
      rintro a' rfl e'
      rcases forest_split r a' B e' with ⟨K1, K2, rfl, rfl, rfl⟩ | ⟨K1, T, K2, P, S, rfl, hP, hS, hT, rfl, rfl⟩
      · exact Or.inl ⟨t :: K1, K2, rfl, rfl, rfl⟩
      · exact Or.inr ⟨t :: K1, T, K2, P, S, rfl, hP, hS, hT, by rw [Tree.numss, List.append_assoc], rfl⟩
    rcases List.append_eq_append_iff.mp e with ⟨a', e1, e2⟩ | ⟨c', e1, e2⟩
    · exact first a' e1 e2
    · by_cases hc : c' = []
      · subst hc
        exact first [] (by simpa using e1.symm) (by simpa using e2.symm)
      · by_cases hA : A = []
        · subst hA
          exact .inl ⟨[], t :: r, rfl, rfl, by rw [Tree.numss]; exact e.symm⟩
        · exact .inr ⟨[], t, r, A, c', rfl, hA, hc, e1, rfl, e2⟩

theorem suffix_forest : ∀ (k : Nat) (T : Tree) (P S : List Int), T.ht ≤ k → T.Ok → T.nums = P ++ S → P ≠ [] → ∃ G, OkAll G ∧ Tree.numss G = S := by
  intro k
  induction k with
  | zero => intro T P S h _ _ _; cases T; rw [Tree.ht] at h; omega
  | succ k ih =>
    intro T P S h ok e hP
    cases ok with
    | @mk n ch hc hk =>
      rw [Tree.ht] at h
      rw [Tree.nums] at e
      cases P with
      | nil => exact absurd rfl hP
      | cons m P' =>
        rw [List.cons_append, List.cons.injEq] at e
        rcases forest_split ch P' S e.2 with ⟨K1, K2, rfl, _, rfl⟩ | ⟨K1, T', K2, P2, S2, rfl, hP2, _, hT', _, rfl⟩
        · exact ⟨K2, fun t ht => hk t (List.mem_append_right _ ht), rfl⟩
        · have hm : T' ∈ K1 ++ T' :: K2 := List.mem_append_right _ (.head _)
          obtain ⟨G, hG, eG⟩ := ih T' P2 S2 (Nat.le_trans (Tree.ht_le hm) (by omega)) (hk T' hm) hT' hP2
          refine ⟨G ++ K2, fun t ht => ?_, by rw [Tree.numss_append, eG]⟩
          rcases List.mem_append.mp ht with q | q
          · exact hG t q
          · exact hk t (List.mem_append_right _ (.tail _ q))
end
end Mine

namespace Mine
section
open PySem PySem.W PyProof.Rows PySem.Calls
open Classical in
theorem uldT_perm : ∀ (es r A B G mis : List Tree), (∀ x, x ∈ es → x ∉ G) → es.Perm A → uldT (es ++ r) (G ++ (A ++ B)) mis = uldT r (G ++ B) mis
  | [], r, A, B, G, mis, _, h => by
    rw [h.symm.eq_nil, List.nil_append, List.nil_append]
  | x :: es, r, A, B, G, mis, hG, h => by
    have hx : x ∈ A := h.subset (.head _)
    have hm : x ∈ G ++ (A ++ B) := List.mem_append_right _ (List.mem_append_left _ hx)
    rw [List.cons_append, uldT, if_pos hm, List.erase_append_right _ (hG x (.head _)), List.erase_append_left _ hx]
    exact uldT_perm es r (A.erase x) B G mis (fun y hy => hG y (.tail _ hy)) ((List.cons_perm_iff_perm_erase.mp h).2)
open Classical in
theorem uldT_none : ∀ (es mis : List Tree), uldT es [] mis = (mis ++ es, [])
  | [], mis => by rw [uldT, List.append_nil]
  | x :: es, mis => by
    rw [uldT, if_neg List.not_mem_nil, uldT_none es, List.append_assoc, List.singleton_append]

/-- parts that tell their numbers -/
inductive PP : List (List Int) → List Int → Prop
  | nil : PP [] []
  | cons {p n ps ns} : IsPart p n → PP ps ns → PP (p :: ps) (n :: ns)
theorem PP.append {ps qs : List (List Int)} {ns ms : List Int} (h : PP ps ns) (k : PP qs ms) : PP (ps ++ qs) (ns ++ ms) := by
  induction h with
  | nil => exact k
  | cons e _ ih => exact .cons e ih
theorem PP.drop {ps : List (List Int)} {ns : List Int} (h : PP ps ns) : ∀ k : Nat, PP (ps.drop k) (ns.drop k) := by
  induction h with
  | nil => intro k; simpa using PP.nil
  | cons e h ih =>
    intro k
    cases k with
    | zero => exact .cons e h
    | succ k => exact ih k
theorem PP.take {ps : List (List Int)} {ns : List Int} (h : PP ps ns) : ∀ k : Nat, PP (ps.take k) (ns.take k) := by
  induction h with
  | nil => intro k; simpa using PP.nil
  | cons e h ih =>
    intro k
    cases k with
    | zero => exact .nil
    | succ k => exact .cons e (ih k)
theorem PP.of : ∀ (ps : List (List Int)) (ns : List Int), ps.length = ns.length → (∀ (i : Nat) (p : List Int) (n : Int), ps[i]? = some p → ns[i]? = some n → IsPart p n) → PP ps ns
  | [], [], _, _ => .nil
  | p :: ps, n :: ns, e, h => .cons (h 0 p n rfl rfl) (PP.of ps ns (by simpa using e) fun i q m h1 h2 => h (i + 1) q m h1 h2)
theorem pp_parts {rs : List Int} (hok : RingOk rs) : PP (parts rs) rs := by
  refine PP.of _ _ (parts_len rs) fun i p n h1 h2 => ?_
  have hi := (List.getElem?_eq_some_iff.mp h2).1
  rw [parts, List.getElem?_map, List.getElem?_range hi] at h1
  cases h1
  exact part_ok hok h2
theorem PP.enc {ps : List (List Int)} {ns : List Int} (h : PP ps ns) : Enc ns ps.flatten := by
  induction h with
  | nil => exact .nil rfl
  | cons e _ ih => rw [List.flatten_cons]; exact .cons e.get ih
theorem PP.flat_ne {ps : List (List Int)} {ns : List Int} (h : PP ps ns) (hn : ns ≠ []) : ps.flatten ≠ [] := by
  cases h with
  | nil => exact absurd rfl hn
  | cons e _ => rw [List.flatten_cons]; intro q; exact e.ne (List.append_eq_nil_iff.mp q).1
theorem PP.cut {ps : List (List Int)} {ns : List Int} (h : PP ps ns) (hn : ns ≠ []) : Enc ns.dropLast ps.flatten.dropLast := by
  induction h with
  | nil => exact absurd rfl hn
  | @cons p n ps ns e h ih =>
    by_cases hs : ns = []
    · subst hs
      cases h
      simpa using Enc.nil e.cut
    · rw [List.flatten_cons, List.dropLast_append_of_ne_nil (h.flat_ne hs), List.dropLast_cons_of_ne_nil hs]
      exact .cons e.get (ih hs)
theorem pp_rot {rs : List Int} (hok : RingOk rs) (i : Nat) : PP ((parts rs).drop i ++ (parts rs).take i) (rs.drop i ++ rs.take i) := ((pp_parts hok).drop i).append ((pp_parts hok).take i)
theorem rot_length (rs : List Int) (i : Nat) : (rs.drop i ++ rs.take i).length = rs.length := by
  rw [List.length_append, List.length_drop, List.length_take]; omega

theorem ring_nodup {rs : List Int} (hok : RingOk rs) : rs.Nodup := by
  refine List.pairwise_iff_getElem.mpr fun i j hi hj hij e => ?_
  have h1 := (hok i _ (List.getElem?_eq_getElem hi)).2.2
  have h2 := (hok j _ (List.getElem?_eq_getElem hj)).2.2
  rw [e] at h1
  omega
theorem rot_nodup {rs : List Int} (hok : RingOk rs) (i : Nat) : (rs.drop i ++ rs.take i).Nodup := by
  refine (List.Perm.nodup_iff ?_).mpr (ring_nodup hok)
  refine List.perm_append_comm.trans ?_
  rw [List.take_append_drop]

/-- reading from a start: whole trees, and a rest -/
theorem read_rot {rs : List Int} (hok : RingOk rs) {i : Nat} {ts : List Tree} {P : List Int} (e : rs.drop i ++ rs.take i = Tree.numss ts ++ P) (hts : OkAll ts) (hL : P = [] ∨ ∃ T S, Tree.Ok T ∧ T.nums.length ≤ rs.length ∧ S ≠ [] ∧ T.nums = P ++ S) :
    readD rs i = .tuple [.list (Tree.dats ts), .bool P.isEmpty] := by
  have enc := (pp_rot hok i).enc
  have hl := rot_length rs i
  have hel := enc.len
  rw [e] at enc
  rw [hl] at hel
  have hnl : (Tree.numss ts).length ≤ rs.length := by rw [← hl, e, List.length_append]; omega
  have h1 := Tree.hts_le_len ts
  have h2 := Tree.len_le ts
  have := rd_enc (k := (tape rs i).length + 1) ts ((tape rs i).length + 1) P (tape rs i) [] hts (by change rs.length ≤ (tape rs i).length at hel; omega) ?_ enc (by change rs.length ≤ (tape rs i).length at hel; omega)
  · rw [readD, this]; rfl
  · rcases hL with rfl | ⟨T, S, h1, h2, h3, h4⟩
    · exact .inl rfl
    · have := Tree.ht_le_len T
      exact .inr ⟨T, S, h1, by change rs.length ≤ (tape rs i).length at hel; omega, h3, h4⟩

theorem read_cut {rs : List Int} (hok : RingOk rs) (h0 : 0 < rs.length) {i : Nat} {ts : List Tree} (e : rs.drop i ++ rs.take i = Tree.numss ts) (hts : OkAll ts) :
    (rd ((tape rs i).dropLast.length + 1) ((tape rs i).dropLast.length + 1) (tape rs i).dropLast []).1 = Tree.dats ts.dropLast := by
  have hl := rot_length rs i
  have hne : rs.drop i ++ rs.take i ≠ [] := fun q => by rw [q] at hl; simp only [List.length_nil] at hl; omega
  have enc := (pp_rot hok i).cut hne
  have hel := (pp_rot hok i).enc.len
  rw [hl] at hel
  change rs.length ≤ (tape rs i).length at hel
  change Enc _ (tape rs i).dropLast at enc
  rw [e] at enc hne hl
  rcases List.eq_nil_or_concat ts with rfl | ⟨init, t, rfl⟩
  · exact absurd rfl hne
  · rw [List.concat_eq_append] at *
    have e1 : Tree.numss (init ++ [t]) = Tree.numss init ++ t.nums := by rw [Tree.numss_append]; simp [Tree.numss]
    rw [e1, List.dropLast_append_of_ne_nil t.nums_ne] at enc
    rw [e1, List.length_append] at hl
    rw [List.dropLast_concat]
    have hdl : (tape rs i).dropLast.length = (tape rs i).length - 1 := List.length_dropLast ..
    have h1 := Tree.hts_le_len init
    have h2 := Tree.len_le init
    have h3 := Tree.ht_le_len t
    have h4 : t.nums.length ≠ 0 := fun q => t.nums_ne (List.length_eq_zero_iff.mp q)
    have := rd_enc (k := (tape rs i).dropLast.length + 1) init ((tape rs i).dropLast.length + 1) t.nums.dropLast (tape rs i).dropLast [] (fun x hx => hts x (List.mem_append_left _ hx)) (by omega)
      (.inr ⟨t, [t.nums.getLast t.nums_ne], hts t (by simp), by omega, by simp, (List.dropLast_concat_getLast t.nums_ne).symm⟩) enc (by omega)
    rw [this]; rfl
end
end Mine

namespace Mine
section
open PySem PySem.W PyProof.Rows PySem.Calls
def bR (rs : List Int) (i : Nat) : Bool := (rd ((tape rs i).length + 1) ((tape rs i).length + 1) (tape rs i) []).2
/-- how far from p on to i, round the ring -/
def dd (N p i : Nat) : Nat := if p ≤ i then i - p else N - p + i

theorem rot_rot (rs : List Int) {p i : Nat} (hp : p < rs.length) (hi : i < rs.length) : ∃ A B, rs.drop p ++ rs.take p = A ++ B ∧ rs.drop i ++ rs.take i = B ++ A ∧ A.length = dd rs.length p i := by
  by_cases h : p ≤ i
  · refine ⟨(rs.drop p).take (i - p), rs.drop i ++ rs.take p, ?_, ?_, ?_⟩
    · have e : rs.drop i = (rs.drop p).drop (i - p) := by rw [List.drop_drop]; congr 1; omega
      rw [← List.append_assoc, e, List.take_append_drop]
    · have e : rs.take i = rs.take p ++ (rs.drop p).take (i - p) := by
        have : i = p + (i - p) := by omega
        conv => lhs; rw [this]
        rw [List.take_add]
      rw [List.append_assoc, ← e]
    · rw [dd, if_pos h, List.length_take, List.length_drop]; omega
  · refine ⟨rs.drop p ++ rs.take i, (rs.take p).drop i, ?_, ?_, ?_⟩
    · have e : rs.take i = (rs.take p).take i := by rw [List.take_take]; congr 1; omega
      rw [List.append_assoc, e, List.take_append_drop]
    · have e : rs.drop i = (rs.take p).drop i ++ rs.drop p := by
        conv => lhs; rw [← List.take_append_drop p rs]
        rw [List.drop_append_of_le_length (by rw [List.length_take]; omega)]
      rw [e, List.append_assoc]
    · rw [dd, if_neg h, List.length_append, List.length_drop, List.length_take]; omega

theorem bR_of {rs : List Int} {i : Nat} {ds : List PyData} {c : Bool} (h : readD rs i = .tuple [.list ds, .bool c]) : bR rs i = c := by
  unfold readD at h
  simp only [PyData.tuple.injEq, List.cons.injEq, PyData.bool.injEq, and_true] at h
  exact h.2

structure Whole (rs : List Int) (p : Nat) (K : List Tree) : Prop where
  lt : p < rs.length
  ok : OkAll K
  eq : Tree.numss K = rs.drop p ++ rs.take p

theorem Whole.at {rs : List Int} (hok : RingOk rs) {p : Nat} {K : List Tree} (h : Whole rs p K) {i : Nat} (hi : i < rs.length) {K1 K2 : List Tree} (e : K = K1 ++ K2) (hd : dd rs.length p i = (Tree.numss K1).length) :
    rs.drop i ++ rs.take i = Tree.numss (K2 ++ K1) ∧ readD rs i = .tuple [.list (Tree.dats (K2 ++ K1)), .bool true] := by
  obtain ⟨A, B, e1, e2, e3⟩ := rot_rot rs h.lt hi
  rw [← h.eq, e, Tree.numss_append] at e1
  obtain ⟨rfl, rfl⟩ := List.append_inj e1 (by omega)
  have er : rs.drop i ++ rs.take i = Tree.numss (K2 ++ K1) := by rw [Tree.numss_append]; exact e2
  refine ⟨er, ?_⟩
  exact read_rot hok (P := []) (by rw [List.append_nil]; exact er) (fun t ht => h.ok t (by rw [e]; rcases List.mem_append.mp ht with q | q; exact List.mem_append_right _ q; exact List.mem_append_left _ q)) (.inl rfl)

theorem Whole.dich {rs : List Int} (hok : RingOk rs) {p : Nat} {K : List Tree} (h : Whole rs p K) {i : Nat} (hi : i < rs.length) :
    (∃ K1 K2, K = K1 ++ K2 ∧ dd rs.length p i = (Tree.numss K1).length) ∨
    (∃ K1 T K2 P S G, K = K1 ++ T :: K2 ∧ P ≠ [] ∧ S ≠ [] ∧ T.nums = P ++ S ∧ OkAll G ∧ Tree.numss G = S ∧ rs.drop i ++ rs.take i = Tree.numss (G ++ (K2 ++ K1)) ++ P ∧ readD rs i = .tuple [.list (Tree.dats (G ++ (K2 ++ K1))), .bool false]) := by
  obtain ⟨A, B, e1, e2, e3⟩ := rot_rot rs h.lt hi
  rw [← h.eq] at e1
  rcases forest_split K A B e1 with ⟨K1, K2, e, rfl, rfl⟩ | ⟨K1, T, K2, P, S, e, hP, hS, hT, rfl, rfl⟩
  · exact .inl ⟨K1, K2, e, e3.symm⟩
  · have hTm : T ∈ K := by rw [e]; exact List.mem_append_right _ (.head _)
    have hTok := h.ok T hTm
    obtain ⟨G, hG, eG⟩ := suffix_forest T.ht T P S (Nat.le_refl _) hTok hT hP
    have er : rs.drop i ++ rs.take i = Tree.numss (G ++ (K2 ++ K1)) ++ P := by
      rw [e2, Tree.numss_append, Tree.numss_append, eG]; simp
    refine .inr ⟨K1, T, K2, P, S, G, e, hP, hS, hT, hG, eG, er, ?_⟩
    have hlen : T.nums.length ≤ rs.length := by
      have : (Tree.numss K).length = rs.length := by rw [h.eq, rot_length]
      rw [← this, e, Tree.numss_append, Tree.numss, List.length_append, List.length_append]; omega
    have := read_rot hok er (fun t ht => by
      rcases List.mem_append.mp ht with q | q
      · exact hG t q
      · rw [e] at h
        rcases List.mem_append.mp q with q | q
        · exact h.ok t (List.mem_append_right _ (.tail _ q))
        · exact h.ok t (List.mem_append_left _ q)) (.inr ⟨T, S, hTok, hlen, hS, hT⟩)
    rw [this]
    have : P.isEmpty = false := by cases P with
      | nil => exact absurd rfl hP
      | cons _ _ => rfl
    rw [this]

theorem count_forest : ∀ (K : List Tree) (f : Nat → Bool), (∀ d, d < (Tree.numss K).length → (f d = true ↔ ∃ K1 K2, K = K1 ++ K2 ∧ d = (Tree.numss K1).length)) → (List.range (Tree.numss K).length).countP f = K.length
  | [], f, _ => rfl
  | T :: K, f, h => by
    have hT : T.nums.length ≠ 0 := fun q => T.nums_ne (List.length_eq_zero_iff.mp q)
    rw [Tree.numss, List.length_append] at h ⊢
    rw [List.range_add, List.countP_append, List.countP_map, List.length_cons]
    have h1 : (List.range T.nums.length).countP f = 1 := by
      obtain ⟨k, hk⟩ : ∃ k, T.nums.length = k + 1 := ⟨T.nums.length - 1, by omega⟩
      rw [hk, List.range_succ_eq_map, List.countP_cons]
      have f0 : f 0 = true := (h 0 (by omega)).mpr ⟨[], T :: K, rfl, rfl⟩
      rw [f0, if_pos rfl, List.countP_map]
      have : List.countP (f ∘ Nat.succ) (List.range k) = 0 := by
        rw [List.countP_eq_zero]
        intro e he hf
        rw [List.mem_range] at he
        obtain ⟨K1, K2, e1, e2⟩ := (h (e + 1) (by omega)).mp hf
        cases K1 with
        | nil => simp [Tree.numss] at e2
        | cons X K1 =>
          rw [List.cons_append, List.cons.injEq] at e1
          obtain ⟨rfl, _⟩ := e1
          rw [Tree.numss, List.length_append] at e2
          omega
      omega
    have h2 := count_forest K (f ∘ (fun x => T.nums.length + x)) fun d hd => by
      have := h (T.nums.length + d) (by omega)
      rw [Function.comp, this]
      constructor
      · rintro ⟨K1, K2, e1, e2⟩
        cases K1 with
        | nil => simp only [Tree.numss, List.length_nil] at e2; omega
        | cons X K1 =>
          rw [List.cons_append, List.cons.injEq] at e1
          obtain ⟨rfl, e1⟩ := e1
          rw [Tree.numss, List.length_append] at e2
          exact ⟨K1, K2, e1, by omega⟩
      · rintro ⟨K1, K2, rfl, rfl⟩
        exact ⟨T :: K1, K2, rfl, by rw [Tree.numss, List.length_append]⟩
    rw [h1, h2]
    omega

theorem count_round (f : Nat → Bool) (N p : Nat) (hp : p ≤ N) : (List.range N).countP f = (List.range N).countP (fun d => if d < N - p then f (p + d) else f (d - (N - p))) := by
  have e1 : List.range N = List.range (p + (N - p)) := by congr 1; omega
  have e2 : List.range N = List.range ((N - p) + p) := by congr 1; omega
  conv => lhs; rw [e1, List.range_add, List.countP_append, List.countP_map]
  conv => rhs; rw [e2, List.range_add, List.countP_append, List.countP_map]
  have a : (List.range (N - p)).countP (fun d => if d < N - p then f (p + d) else f (d - (N - p))) = (List.range (N - p)).countP (f ∘ fun x => p + x) := by
    refine List.countP_congr fun x hx => ?_
    rw [List.mem_range] at hx
    rw [if_pos hx]; rfl
  have b : (List.range p).countP ((fun d => if d < N - p then f (p + d) else f (d - (N - p))) ∘ fun x => N - p + x) = (List.range p).countP f := by
    refine List.countP_congr fun x _ => ?_
    have : ¬ (N - p + x < N - p) := by omega
    simp only [Function.comp, if_neg this]
    rw [Nat.add_sub_cancel_left]
  rw [a, b]
  omega

theorem Whole.count {rs : List Int} (hok : RingOk rs) {p : Nat} {K : List Tree} (h : Whole rs p K) : (starts (bR rs) rs.length).length = K.length := by
  have hl : (Tree.numss K).length = rs.length := by rw [h.eq, rot_length]
  have hp := h.lt
  rw [starts, ← List.countP_eq_length_filter, count_round _ _ p (Nat.le_of_lt h.lt)]
  conv => lhs; rw [← hl]
  refine count_forest K _ fun d hd => ?_
  rw [hl] at hd
  have key : ∀ i, i < rs.length → dd rs.length p i = d → (bR rs i = true ↔ ∃ K1 K2, K = K1 ++ K2 ∧ d = (Tree.numss K1).length) := by
    intro i hi hdi
    constructor
    · intro hb
      rcases h.dich hok hi with ⟨K1, K2, e, e2⟩ | ⟨K1, T, K2, P, S, G, _, _, _, _, _, _, _, hr⟩
      · exact ⟨K1, K2, e, by rw [← hdi, e2]⟩
      · rw [bR_of hr] at hb; cases hb
    · rintro ⟨K1, K2, e, e2⟩
      exact bR_of (h.at hok hi e (by rw [hdi, e2])).2
  rw [hl]
  by_cases hdl : d < rs.length - p
  · rw [if_pos hdl]
    exact key (p + d) (by omega) (by rw [dd, if_pos (by omega)]; omega)
  · rw [if_neg hdl]
    exact key (d - (rs.length - p)) (by omega) (by rw [dd, if_neg (by omega)]; omega)
end
end Mine

namespace Mine
section
open PySem PySem.W PyProof.Rows PySem.Calls
theorem csum_wsum : ∀ rs : List Int, (csum rs : Int) = wsum rs
  | [] => rfl
  | r :: rs => by
    have := csum_wsum rs
    rw [csum_cons]
    simp only [wsum, List.map_cons, List.sum_cons] at *
    have h := Int.emod_nonneg r (b := 3) (by decide)
    rw [← this]
    show (((r % 3).toNat + csum rs : Nat) : Int) = _
    omega

theorem dats_inj {a b : List Tree} (h : Tree.dats a = Tree.dats b) : a = b := (eqv_dats a b).mp (by rw [h]; exact eqvAll_dats b)

/-- what is read from a start, the known forest at hand -/
structure Reading (rs : List Int) (K : List Tree) (i : Nat) (F : List Tree) : Prop where
  rd : readD rs i = .tuple [.list (Tree.dats F), .bool (bR rs i)]
  small : (Tree.numss F).length ≤ rs.length
  w : bR rs i = true → F.Perm K ∧ OkAll F ∧ rs.drop i ++ rs.take i = Tree.numss F
  e : bR rs i = false → ∃ K1 T K2 P S G, K = K1 ++ T :: K2 ∧ P ≠ [] ∧ S ≠ [] ∧ T.nums = P ++ S ∧ Tree.numss G = S ∧ F = G ++ (K2 ++ K1) ∧ ∃ R, rs.drop i ++ rs.take i = S ++ R

theorem Whole.reading {rs : List Int} (hok : RingOk rs) {p : Nat} {K : List Tree} (h : Whole rs p K) {i : Nat} (hi : i < rs.length) : ∃ F, Reading rs K i F := by
  rcases h.dich hok hi with ⟨K1, K2, e, e2⟩ | ⟨K1, T, K2, P, S, G, e, hP, hS, hT, hG, eG, er, hr⟩
  · obtain ⟨er, hr⟩ := h.at hok hi e e2
    have hb := bR_of hr
    refine ⟨K2 ++ K1, ⟨by rw [hr, hb], by rw [← er, rot_length]; exact Nat.le_refl _, fun _ => ⟨by rw [e]; exact List.perm_append_comm, fun t ht => h.ok t (by rw [e]; rcases List.mem_append.mp ht with q | q; exact List.mem_append_right _ q; exact List.mem_append_left _ q), er⟩, fun q => ?_⟩⟩
    rw [hb] at q; cases q
  · have hb := bR_of hr
    refine ⟨G ++ (K2 ++ K1), ⟨by rw [hr, hb], ?_, fun q => ?_, fun _ => ⟨K1, T, K2, P, S, G, e, hP, hS, hT, eG, rfl, ?_⟩⟩⟩
    · have := rot_length rs i
      rw [er, List.length_append] at this
      omega
    · rw [hb] at q; cases q
    · rw [er, Tree.numss_append, eG, List.append_assoc]
      exact ⟨_, rfl⟩

theorem root_mem (t : Tree) : ∃ n, n ∈ t.nums := by cases t with | node n ch => exact ⟨n, by rw [Tree.nums]; exact .head _⟩
theorem mem_numss {t : Tree} {l : List Tree} (h : t ∈ l) {n : Int} (hn : n ∈ t.nums) : n ∈ Tree.numss l := by
  rw [Tree.numss_flat, List.mem_flatMap]
  exact ⟨t, h, hn⟩
theorem len_numss {t : Tree} {l : List Tree} (h : t ∈ l) : t.nums.length ≤ (Tree.numss l).length := by
  induction l with
  | nil => cases h
  | cons x r ih =>
    rw [Tree.numss, List.length_append]
    rcases List.mem_cons.mp h with rfl | h
    · omega
    · have := ih h; omega

theorem e_fact {rs : List Int} (hok : RingOk rs) {p : Nat} {K : List Tree} (h : Whole rs p K) {i : Nat} (hi : i < rs.length) {F : List Tree} (R : Reading rs K i F) (hb : bR rs i = false) :
    ∃ T G x, uldT K.reverse F [] = ([T], G) ∧ T.nums.length ≤ rs.length ∧ rs[i]? = some x ∧ x ∈ T.nums ∧ Tree.numss G = T.nums.drop (T.nums.idxOf x) := by
  obtain ⟨K1, T, K2, P, S, G, e, hP, hS, hT, eG, rfl, R', er⟩ := R.e hb
  have nd : (Tree.numss K).Nodup := by rw [h.eq]; exact rot_nodup hok p
  have hl : (Tree.numss K).length = rs.length := by rw [h.eq, rot_length]
  rw [e, Tree.numss_append, Tree.numss] at nd
  obtain ⟨nd1, nd2, nd3⟩ := List.nodup_append.mp nd
  obtain ⟨nd4, nd5, nd6⟩ := List.nodup_append.mp nd2
  cases S with
  | nil => exact absurd rfl hS
  | cons x S' =>
    have inT : ∀ n, n ∈ Tree.numss G → n ∈ T.nums := fun n hn => by rw [hT]; rw [eG] at hn; exact List.mem_append_right _ hn
    have g1 : ∀ t, t ∈ K1 → t ∉ G := fun t h1 h2 => by
      obtain ⟨n, hn⟩ := root_mem t
      exact nd3 n (mem_numss h1 hn) n (List.mem_append_left _ (inT n (mem_numss h2 hn))) rfl
    have g2 : ∀ t, t ∈ K2 → t ∉ G := fun t h1 h2 => by
      obtain ⟨n, hn⟩ := root_mem t
      exact nd6 n (inT n (mem_numss h2 hn)) n (mem_numss h1 hn) rfl
    have t1 : T ∉ G := fun h2 => by
      have := len_numss h2
      rw [eG, hT, List.length_append] at this
      have : P.length ≠ 0 := fun q => hP (List.length_eq_zero_iff.mp q)
      omega
    have t2 : T ∉ K1 := fun h2 => by
      obtain ⟨n, hn⟩ := root_mem T
      exact nd3 n (mem_numss h2 hn) n (List.mem_append_left _ hn) rfl
    have hx : (P ++ x :: S').idxOf x = P.length := by
      rw [hT] at nd4
      have hxp : x ∉ P := fun q => (List.nodup_append.mp nd4).2.2 x q x (.head _) rfl
      rw [List.idxOf_append, if_neg hxp, List.idxOf_cons_self, Nat.zero_add]
    refine ⟨T, G, x, ?_, ?_, ?_, by rw [hT]; simp, ?_⟩
    · rw [e, List.reverse_append, List.reverse_cons, List.append_assoc, List.singleton_append]
      rw [uldT_perm K2.reverse (T :: K1.reverse) K2 K1 G [] (fun t ht => g2 t (List.mem_reverse.mp ht)) K2.reverse_perm]
      rw [uldT, if_neg fun q => (List.mem_append.mp q).elim t1 t2]
      have := uldT_perm K1.reverse [] K1 [] G [T] (fun t ht => g1 t (List.mem_reverse.mp ht)) K1.reverse_perm
      rw [List.append_nil, List.append_nil, List.append_nil] at this
      rw [List.nil_append, this, uldT]
    · rw [← hl, e, Tree.numss_append, Tree.numss, List.length_append, List.length_append]; omega
    · have h0 : (rs.drop i ++ rs.take i)[0]? = some x := by rw [er]; rfl
      rw [List.getElem?_append_left (by rw [List.length_drop]; omega), List.getElem?_drop] at h0
      simpa using h0
    · rw [eG, hT, hx, List.drop_left]

theorem facts (rs : List Int) (hlo : 5 ≤ rs.length) (_ : rs.length ≤ 13) (hok : RingOk rs) (hw : wsum rs < rs.length) : ∃ F b p0, Facts rs F b p0 := by
  have cs := csum_wsum rs
  obtain ⟨p, K, hp, hK, eK⟩ := whole_start (xs := rs) (by omega)
  have W : Whole rs p K := ⟨hp, hK, eK⟩
  have cnt := W.count hok
  have fs := forest_sum hK
  have hperm : (Tree.numss K).Perm rs := by
    rw [eK]
    refine List.perm_append_comm.trans ?_
    rw [List.take_append_drop]
  have csK : csum (Tree.numss K) = csum rs := by
    have : ((Tree.numss K).map cc).Perm (rs.map cc) := hperm.map cc
    exact this.sum_nat
  have hlK : (Tree.numss K).length = rs.length := hperm.length_eq
  obtain ⟨p0, hp0⟩ : ∃ p0, (starts (bR rs) rs.length)[0]? = some p0 := ⟨_, List.getElem?_eq_getElem (by omega)⟩
  have hp0m := List.mem_of_getElem? hp0
  rw [starts, List.mem_filter, List.mem_range] at hp0m
  obtain ⟨hp0l, hp0b⟩ := hp0m
  obtain ⟨K0, R0⟩ := W.reading hok hp0l
  obtain ⟨_, hK0, eK0⟩ := R0.w hp0b
  have W0 : Whole rs p0 K0 := ⟨hp0l, hK0, eK0.symm⟩
  obtain ⟨F, hF⟩ := Classical.axiomOfChoice (r := fun (i : Nat) (F : List Tree) => i < rs.length → Reading rs K0 i F) fun i => by
    by_cases hi : i < rs.length
    · obtain ⟨F, hR⟩ := W0.reading hok hi
      exact ⟨F, fun _ => hR⟩
    · exact ⟨[], fun q => absurd q hi⟩
  have eF : F p0 = K0 := by
    have h1 := (hF p0 hp0l).rd
    rw [R0.rd] at h1
    simp only [PyData.tuple.injEq, List.cons.injEq, PyData.list.injEq, and_true] at h1
    exact dats_inj h1.symm
  refine ⟨F, bR rs, p0, ?_⟩
  have perm : ∀ i, i < rs.length → bR rs i = true → (F i).Perm K0 := fun i hi hb => ((hF i hi).w hb).1
  constructor
  · exact fun i hi => (hF i hi).rd
  · omega
  · exact hp0
  · exact fun i hi => (hF i hi).small
  · intro i hi hb
    rw [eF]
    have := uldT_perm K0.reverse [] (F i) [] [] [] (fun _ _ => List.not_mem_nil) (K0.reverse_perm.trans (perm i hi hb).symm)
    rw [List.append_nil, List.append_nil, List.nil_append] at this
    rw [this, List.nil_append, uldT]
  · exact fun i hi hb => ((hF i hi).w hb).2.2.symm
  · intro i hi hb
    obtain ⟨_, h2, h3⟩ := (hF i hi).w hb
    exact read_cut hok (by omega) h3 h2
  · intro i hi hb
    rw [eF, List.reverse_append, List.reverse_reverse]
    have := uldT_perm K0.reverse (K0 ++ K0.drop 1).reverse (F i) [] [] [] (fun _ _ => List.not_mem_nil) (K0.reverse_perm.trans (perm i hi hb).symm)
    rw [List.append_nil, List.nil_append] at this
    rw [this, List.nil_append, uldT_none, List.nil_append]
  · intro i hi hb
    rw [eF]
    have := uldT_perm (F i).reverse [] K0 (K0 ++ K0.drop 1).reverse [] [] (fun _ _ => List.not_mem_nil) ((F i).reverse_perm.trans (perm i hi hb))
    rw [List.append_nil, List.nil_append, List.nil_append] at this
    rw [this, uldT]
  · intro i hi hb
    rw [eF]
    exact e_fact hok W0 hi (hF i hi) hb
end
end Mine

namespace Mine
section
open PySem PySem.W PyProof.Rows PySem.Calls
section
variable {prog : Program} {w : World} {A : Around} {E : Value → Shared → Prop} {s : Shared} {g hE : Heap} {m : Str → Option Value}

theorem fx_start {h : Heap} {L fa : Addr} {cd : Value} {news : List (Addr × Obj)} (KX : (KK w.params).In g) (hl : g.NoLimit) (hb : ∃ mb, g.Ns builtinsNs mb ∧ ∀ x : Str, x ≠ "__name__" → mb x = bootBuiltins x) (F : Fr g L h m) (N : News g L h news)
    (hL : L = g.objs.size) (dj : (news.map (·.1)).Nodup) : Fx w g h (lawE w L fa cd) [] m news h where
  gr := ⟨KX, hl, hb⟩
  fo := trivial
  sl := fun _ hb => by cases hb
  hf := rfl
  hk := rfl
  hg := rfl
  hb := rfl
  ns := F.ns
  keep := F.keep
  out := Heap.get?_none_of_le (Nat.le_of_eq hL.symm)
  nod := fun hb => by cases hb
  N := N
  dis := fun _ hb => by cases hb
  dj := dj

set_option maxHeartbeats 1000000 in
theorem law_walk {L fa : Addr} {cd : Value} {ax : Addr} {vs : List Value} {ns : List Int} {oR oC : Obj} {Q : Flow → Shared → Prop} (X : Fx w g hE (lawE w L fa cd) [] m [(L + 1 + 1, oC), (L + 1, oR)] s.heap)
    (hoR : oR.data = .cell none) (hoC : oC.data = .cell none) (hm : m "script" = some (.ref ax)) (hl : g.IsList ax vs.toArray) (hi : IntsAre vs ns) (hlen : ns.length ≤ 63) (hn : A.handled = none)
    (hA : A.frames = some [lawE w L fa cd]) (hd : A.depth + 420 < recursionLimit) (hU : A.units + 200 < cLine)
    (ok : ∀ h' tk m', g.StaysIn h' → h'.Ns L m' → Q (.ret (.bool true)) { s with heap := h', toks := tk }) :
    wpAny (model prog w) A (execs (lawB w) (lawE w L fa cd)) Q E s := by
  refine segA X hoR hm hl hi hlen hn fun g₁ h₁ tk₁ m₁ ca cv cs ra rv rn rs st₁ X₁ hc1 hca hic hcl hcell hir hrl hok => ?_
  refine segB X₁ hn hc1 hca hic hcl hcell hir hrl hok fun g₂ h₂ tk₂ m₂ rv rn rs t st₂ X₂ era hcell hir hlo hhi hok hw hmw => ?_
  obtain ⟨F, b, p0, FF⟩ := facts rs hlo hhi hok hw
  refine segC X₂ hn hA hd era hcell hir hlo hhi hok fun g₃ h₃ tk₃ pa pv pn st₃ X₃ epa hpa => ?_
  refine segD (wv := some (.int (wsum rs) t)) X₃ hoC hn hA hd (st₃ _ _ era) (hcell.keeps st₃) hir hlo hhi hok (if_pos rfl) epa hpa ((if_neg (by decide)).trans hmw) fun g₄ h₄ tk₄ m₄ ta tav tan rda rdv rdn as st₄ X₄ eta htl erd hrd hcell2 hmt hmw => ?_
  have st34 := stays_trans st₃ st₄
  refine segE (F := F) (b := b) (p0 := p0) X₄ hn (st34 _ _ era) (hcell.keeps st34) hir hlo hhi erd hrd hcell2 hmt hmw FF.hF FF.count FF.first (fun i hi => Nat.le_trans (Nat.le_trans (Tree.len_le _) (FF.small i hi)) hhi)
    fun g₅ h₅ tk₅ m₅ lk kv wh whv bk bkv as' bs st₅ X₅ hmk hmb hmwh hmt hlk hrk hlb hrb hlw hiw => ?_
  have st345 := stays_trans st34 st₅
  refine segF X₅ hn hA hd hU FF (st345 _ _ era) (hcell.keeps st345) hir hhi hok (st₅ _ _ erd) (ReadsAll.stays st₅ hrd) (hcell2.keeps st₅) (st₅ _ _ eta) (htl.stays st₅) hmt hmk hmb hmwh hlk hrk hlb hrb hlw hiw fun h' tk m' st ns' => ?_
  exact ok _ _ m' (stays_trans st₁ (stays_trans st₂ (stays_trans st345 st))) ns'
end
end
end Mine

set_option maxRecDepth 100000 in
set_option maxHeartbeats 8000000 in
theorem PySem.Challenge.cw_tv0001_01_holds : PySem.Challenge.rw_tv0001_01.Holds := by
  refine Mine.hd (by
    k_go0
    rename Top _ _ _ _ _ _ => T
    rename Frag.In _ _ => KX
    rename Fr _ _ _ _ => F
    rename News _ _ _ _ => N0
    rename Heap.IsList _ _ _ => hL
    rename IntsAre _ _ => hI
    have hs := Top.seer T (by decide +kernel)
    have hl := Top.nolimit T
    refine Mine.law_walk (Mine.fx_start KX hl hs.imp F N0 rfl (by simp)) (by assumption) (by assumption) rfl hL hI (by omega) rfl rfl (of_decide_eq_true (by with_unfolding_all rfl)) (of_decide_eq_true (by with_unfolding_all rfl)) ?_
    intro h' tk m' st ns'
    dsimp only
    have F' : Fr _ _ h' m' := { F with ns := ns', keep := st }
    clear F
    wrow_close)
