import PyProof.Rows.All
import Wide.All
import OpenK.AllK
import Wide.FinOn
import PySem.Challenge.RW_ny0214_01
open PySem PySem.W PySem.W.X PyProof.Rows
set_option Elab.async false
set_option maxRecDepth 100000
set_option maxHeartbeats 8000000
set_option linter.unusedVariables false
set_option linter.unusedSimpArgs false
namespace Mine
section
local macro_rules | `(tactic| k_head) => `(tactic| x_head)
open_top hx for PySem.Challenge.rw_ny0214_01
end
end Mine
namespace Mine
abbrev prog : Program := PySem.Challenge.pw_ny0214_01
noncomputable abbrev KF (w : World) : Frag := hx.heap_39 w.params
def isTab (a : Addr) : Bool := a == 162 || a == 169 || a == 206
structure Kin (w : World) (g : Heap) : Prop where
  objs : ∀ a o, isTab a = false → (KF w).lookup a = some o → g.get? a = some o
  hid : ∀ a, isTab a = true → g.get? a = none
  sz : 245 < g.objs.size
  lim : g.NoLimit
noncomputable def tab (w : World) (P : Addr) : Array Value := match (KF w).lookup P with | some ⟨_, _, .fields vs, _⟩ => vs | _ => #[]
def TabAt (w : World) (h : Heap) (c P : Addr) : Prop := ∃ more, h.IsCode c P (tab w P ++ more) ∧ h.TableAt c P (tab w P ++ more)
/-- the code tables have only grown; nothing is asked of the outside; the generators are bare -/
structure TabOk (O : OsState) (w : World) (h : Heap) (so : OsState) (sg : Array GenState) : Prop where
  t1 : TabAt w h 166 162
  t2 : TabAt w h 173 169
  t3 : TabAt w h 210 206
  os : so = O
  bare : AllBare sg
/-- the frame f holds the names m; L: what is known of the objects made; g: what stays -/
structure St (O : OsState) (w : World) (g : Heap) (f : Addr) (m : Str → Option Value) (L : List (Addr × Obj)) (h : Heap) (so : OsState) (sg : Array GenState) : Prop where
  kg : Kin w g
  keep : ∀ b o, g.get? b = some o → h.get? b = some o
  ns : h.Ns f m
  fg : g.get? f = none
  fb : 245 < f
  has : ∀ p ∈ L, h.get? p.1 = some p.2 ∧ g.get? p.1 = none ∧ 245 < p.1 ∧ p.1 ≠ f
  nd : (L.map (·.1)).Nodup
  tb : TabOk O w h so sg
section
variable {O : OsState} {w : World} {g h : Heap} {f : Addr} {m : Str → Option Value} {L : List (Addr × Obj)}
theorem isTab_le {a : Addr} (h : isTab a = true) : a ≤ 206 := by
  unfold isTab at h
  simp only [Bool.or_eq_true, beq_iff_eq] at h
  rcases h with (h | h) | h <;> rw [h] <;> decide
theorem TabOk.mono {h h' : Heap} (t : TabOk O w h so sg) (k : ∀ b o, b ≤ 245 → h.get? b = some o → h'.get? b = some o) : TabOk O w h' so sg := by
  have go : ∀ {c P : Addr}, c ≤ 245 → P ≤ 245 → TabAt w h c P → TabAt w h' c P := by
    rintro c P hc hP ⟨ps, ⟨o, vs, file, tf, flags, tg, inF, text, tt, op, ho, r1, r2, r3, r4, r5, r6, hop, r⟩, ⟨o2, vs2, ho2, r7⟩, hop2⟩
    exact ⟨ps, ⟨o, vs, file, tf, flags, tg, inF, text, tt, op, k _ _ hc ho, r1, r2, r3, r4, r5, r6, k _ _ hP hop, r⟩, ⟨o2, vs2, k _ _ hc ho2, r7⟩, k _ _ hP hop2⟩
  exact ⟨go (by decide) (by decide) t.t1, go (by decide) (by decide) t.t2, go (by decide) (by decide) t.t3, t.os, t.bare⟩
theorem St.get (S : St O w g f m L h so sg) (i : Nat) {a : Addr} {o : Obj} (hi : L[i]? = some (a, o)) : h.get? a = some o := (S.has _ (List.mem_of_getElem? hi)).1
theorem St.k (S : St O w g f m L h so sg) {a : Addr} {o : Obj} (e : (KF w).lookup a = some o) (ht : isTab a = false := by rfl) : h.get? a = some o := S.keep _ _ (S.kg.objs a o ht e)
theorem St.fsz (S : St O w g f m L h so sg) : f < h.objs.size := S.ns.lt
theorem St.fbig (S : St O w g f m L h so sg) : 245 < f := S.fb
theorem St.fne (S : St O w g f m L h so sg) {b : Addr} {o : Obj} (e : g.get? b = some o) : b ≠ f := fun q => by rw [q, S.fg] at e; cases e
theorem St.lim (S : St O w g f m L h so sg) : h.NoLimit := S.kg.lim.keeps S.keep
theorem St.gnone (S : St O w g f m L h so sg) {a : Addr} (e : h.get? a = none) : g.get? a = none := by
  cases q : g.get? a with
  | none => rfl
  | some o => rw [S.keep _ _ q] at e; cases e
theorem get_size (h : Heap) : h.get? h.objs.size = none := by
  cases q : h.get? h.objs.size with
  | none => rfl
  | some o => exact absurd (Heap.lt_size q) (Nat.lt_irrefl _)
theorem St.push (S : St O w g f m L h so sg) (o : Obj) (hf : o.isFreed = false) : St O w g f m ((h.objs.size, o) :: L) (h.push o) so sg where
  kg := S.kg
  keep := fun b o' e => Heap.get?_push_of_some _ (S.keep b o' e)
  ns := S.ns.push _
  fg := S.fg
  fb := S.fb
  has := fun p hp => by
    rcases List.mem_cons.mp hp with rfl | hp
    · exact ⟨Heap.get?_push_size _ hf, S.gnone (get_size h), Nat.lt_trans S.fbig S.fsz, Nat.ne_of_gt S.fsz⟩
    · have z := S.has p hp
      exact ⟨Heap.get?_push_of_some _ z.1, z.2⟩
  nd := by
    rw [List.map_cons, List.nodup_cons]
    refine ⟨fun q => ?_, S.nd⟩
    obtain ⟨p, hp, e⟩ := List.mem_map.mp q
    have z := Heap.lt_size (S.has p hp).1
    rw [e] at z
    exact Nat.lt_irrefl _ z
  tb := S.tb.mono fun b o _ e => Heap.get?_push_of_some _ e
theorem set_split {L : List (Addr × Obj)} {i : Nat} {a : Addr} {o o' : Obj} (hi : L[i]? = some (a, o)) (nd : (L.map (·.1)).Nodup) {p : Addr × Obj} (hp : p ∈ L.set i (a, o')) : p = (a, o') ∨ (p ∈ L ∧ p.1 ≠ a) := by
  obtain ⟨j, hj⟩ := List.getElem?_of_mem hp
  rw [List.getElem?_set] at hj
  have hlt : i < L.length := (List.getElem?_eq_some_iff.mp hi).1
  by_cases e : i = j
  · subst e
    rw [if_pos rfl, if_pos hlt] at hj
    exact .inl (Option.some.inj hj).symm
  · rw [if_neg e] at hj
    refine .inr ⟨List.mem_of_getElem? hj, fun q => e ?_⟩
    have h1 : (L.map (·.1))[i]? = some a := by rw [List.getElem?_map, hi]; rfl
    have h2 : (L.map (·.1))[j]? = some a := by rw [List.getElem?_map, hj]; exact congrArg some q
    have hl : i < (L.map (·.1)).length := by rw [List.length_map]; exact hlt
    exact (List.getElem?_inj hl nd).mp (h1.trans h2.symm)
theorem map_set {L : List (Addr × Obj)} {i : Nat} {a : Addr} {o o' : Obj} (hi : L[i]? = some (a, o)) : (L.set i (a, o')).map (·.1) = L.map (·.1) := by
  rw [List.map_set]
  apply List.ext_getElem?
  intro j
  rw [List.getElem?_set]
  by_cases e : i = j
  · subst e
    have hlt : i < L.length := (List.getElem?_eq_some_iff.mp hi).1
    rw [if_pos rfl, if_pos (by rw [List.length_map]; exact hlt), List.getElem?_map, hi]; rfl
  · rw [if_neg e]
theorem St.update (S : St O w g f m L h so sg) (i : Nat) {a : Addr} {o o' : Obj} {fn : Obj → Obj} (hi : L[i]? = some (a, o)) (he : fn o = o') (hf : o'.isFreed = false) : St O w g f m (L.set i (a, o')) (h.update a fn) so sg := by
  have ha := S.has _ (List.mem_of_getElem? hi)
  have hs : Heap.SameBut a h (h.update a fn) := Heap.SameBut.update ..
  have ge : (h.update a fn).get? a = some o' := by
    have z : (h.update a fn).get? a = some (fn o) := by
      first | exact Heap.get?_update_self fn ha.1 (he ▸ hf) | exact Heap.get?_update_self _ ha.1 (he ▸ hf)
    rw [z, he]
  refine ⟨S.kg, fun b o e => (hs.2 b fun q => ?_).trans (S.keep b o e), S.ns.sameBut hs (Ne.symm ha.2.2.2), S.fg, S.fb, fun p hp => ?_, ?_, S.tb.mono fun b o hb e => (hs.2 b fun q => ?_).trans e⟩
  · rw [q, ha.2.1] at e; cases e
  · rcases set_split hi S.nd hp with rfl | ⟨hp, hne⟩
    · exact ⟨ge, ha.2⟩
    · have z := S.has p hp
      exact ⟨(hs.2 _ hne).trans z.1, z.2⟩
  · rw [map_set hi]; exact S.nd
  · have z := ha.2.2.1
    have e' : b = a := q
    rw [e'] at hb
    exact Nat.lt_irrefl _ (Nat.lt_of_lt_of_le z hb)
theorem St.store (S : St O w g f m L h so sg) {h' : Heap} {m' : Str → Option Value} (hn : h'.Ns f m') (hs : Heap.SameBut f h h') : St O w g f m' L h' so sg where
  kg := S.kg
  keep := fun b o e => (hs.2 b (S.fne e)).trans (S.keep b o e)
  ns := hn
  fg := S.fg
  fb := S.fb
  has := fun p hp => let z := S.has p hp; ⟨(hs.2 _ z.2.2.2).trans z.1, z.2⟩
  nd := S.nd
  tb := S.tb.mono fun b o hb e => (hs.2 b (Nat.ne_of_lt (Nat.lt_of_le_of_lt hb S.fbig))).trans e
/-- all that is known is kept -/
theorem St.keeps (S : St O w g f m L h so sg) {h' : Heap} (hk : ∀ b o, h.get? b = some o → h'.get? b = some o) : St O w g f m L h' so sg where
  kg := S.kg
  keep := fun b o e => hk _ _ (S.keep b o e)
  ns := S.ns.keeps hk
  fg := S.fg
  fb := S.fb
  has := fun p hp => let z := S.has p hp; ⟨hk _ _ z.1, z.2⟩
  nd := S.nd
  tb := S.tb.mono fun b o _ e => hk _ _ e
end
/-- what is made is laid with what stays, but for L' -/
theorem St.commit {w : World} {g h : Heap} {f : Addr} {m : Str → Option Value} {L : List (Addr × Obj)} (S : St O w g f m L h so sg) (L' : List (Addr × Obj)) (hsub : ∀ p ∈ L', p ∈ L) (hnd : (L'.map (·.1)).Nodup) :
    ∃ g', St O w g' f m L' h so sg ∧ (∀ b o, g.get? b = some o → g'.get? b = some o) ∧ (∀ p ∈ L, p.1 ∉ L'.map (·.1) → g'.get? p.1 = some p.2) ∧ ∀ m'' L'' h'' {so'' sg''}, St O w g' f m'' L'' h'' so'' sg'' → St O w g f m'' L'' h'' so'' sg'' := by
  have off : ∀ b o, g.get? b = some o → b ∉ [162, 169, 206, f] ++ L'.map (·.1) := fun b o e q => by
    rcases List.mem_append.mp q with q | q
    · simp only [List.mem_cons, List.not_mem_nil, or_false] at q
      have tab : isTab b = true → False := fun z => by rw [S.kg.hid b z] at e; cases e
      rcases q with rfl | rfl | rfl | q
      · exact tab rfl
      · exact tab rfl
      · exact tab rfl
      · exact S.fne e q
    · obtain ⟨p, hp, rfl⟩ := List.mem_map.mp q
      rw [(S.has p (hsub p hp)).2.1] at e; cases e
  have st : ∀ b o, g.get? b = some o → (hideAll h ([162, 169, 206, f] ++ L'.map (·.1))).get? b = some o := fun b o e => hideAll_get _ (S.keep b o e) (off b o e)
  refine ⟨hideAll h ([162, 169, 206, f] ++ L'.map (·.1)), ⟨⟨fun a o ht e => st _ _ (S.kg.objs a o ht e), fun a ht => hideAll_none _ ?_, ?_, S.kg.lim.keeps st⟩, fun b o e => of_hideAll _ e, S.ns, hideAll_none _ (by simp), S.fb, fun p hp => ?_, hnd, S.tb⟩, st, fun p hp hn => ?_, fun m'' L'' h'' {so'' sg''} S'' => ?_⟩
  · unfold isTab at ht
    simp only [Bool.or_eq_true, beq_iff_eq] at ht
    rcases ht with (e | e) | e <;> rw [e] <;> simp
  · rw [hideAll_size]; exact Nat.lt_trans S.fbig S.fsz
  · have z := S.has p (hsub p hp)
    exact ⟨z.1, hideAll_none _ (List.mem_append_right _ (List.mem_map_of_mem hp)), z.2.2⟩
  · have z := S.has p hp
    refine hideAll_get _ z.1 fun q => ?_
    rcases List.mem_append.mp q with q | q
    · simp only [List.mem_cons, List.not_mem_nil, or_false] at q
      have y := z.2.2.1
      rcases q with e | e | e | e
      · rw [e] at y; exact absurd y (by decide)
      · rw [e] at y; exact absurd y (by decide)
      · rw [e] at y; exact absurd y (by decide)
      · exact z.2.2.2 e
    · exact hn q
  · refine ⟨S.kg, fun b o e => S''.keep _ _ (st _ _ e), S''.ns, S.fg, S.fb, fun p hp => ?_, S''.nd, S''.tb⟩
    have z := S''.has p hp
    refine ⟨z.1, ?_, z.2.2⟩
    cases q : g.get? p.1 with
    | none => rfl
    | some o => rw [st _ _ q] at z; exact nomatch z.2.1
/-- room on the stack -/
structure Rm (n : Nat) (A : Around) : Prop where
  hd : A.handled = none
  depth : A.depth + n ≤ 990
  units : A.units + 10 * n ≤ 9890
theorem Rm.le {n k : Nat} {A : Around} (r : Rm n A) (h : k ≤ n) : Rm k A := ⟨r.hd, by have := r.depth; omega, by have := r.units; omega⟩
theorem Rm.room {n : Nat} {A : Around} (r : Rm n A) : A.depth < recursionLimit := by have := r.depth; unfold recursionLimit; omega
theorem Rm.deeper {n : Nat} {A : Around} {env : Env} (r : Rm (n + 1) A) : Rm n (A.deeper env) := ⟨r.hd, by have := r.depth; show A.depth + 1 + n ≤ _; omega, by have := r.units; show A.units + 3 + _ ≤ _; omega⟩
theorem Rm.mark {n : Nat} {A : Around} (r : Rm n A) : Rm n (A.mark none) := ⟨r.hd, r.depth, r.units⟩
section
variable {α : Type} {O : OsState} {w : World} {A : Around} {E : Value → Shared → Prop} {s : Shared} {Q : α → Shared → Prop} {g : Heap} {f : Addr} {m : Str → Option Value} {L : List (Addr × Obj)}
theorem t_fresh {k : Tok → Sem α} (S : St O w g f m L s.heap s.os s.gens) (h : ∀ t s', St O w g f m L s'.heap s'.os s'.gens → wpAny (model prog w) A (k t) Q E s') : wpAny (model prog w) A (.fresh k) Q E s :=
  x_fresh (h _ _ S)
theorem t_alloc {o : Obj} {k : Addr → Sem α} (S : St O w g f m L s.heap s.os s.gens) (hf : o.isFreed = false) (h : ∀ a s', St O w g f m ((a, o) :: L) s'.heap s'.os s'.gens → wpAny (model prog w) A (k a) Q E s') :
    wpAny (model prog w) A (.alloc o k) Q E s :=
  wpAny_bind (m := alloc o) (f := k) (wpAny_alloc (h _ _ (S.push o hf)))
theorem t_update {a : Addr} {q : Option Value} {fn : Obj → Obj} {k : Unit → Sem α} {o : Obj} (o' : Obj) (S : St O w g f m L s.heap s.os s.gens) (i : Nat) (hi : L[i]? = some (a, o)) (he : fn o = o') (hf : o'.isFreed = false)
    (h : ∀ s', St O w g f m (L.set i (a, o')) s'.heap s'.os s'.gens → wpAny (model prog w) A (k ()) Q E s') : wpAny (model prog w) A (.update a q fn k) Q E s :=
  wpAny_bind (m := updatePart a q fn) (f := k) (wpAny_updatePart (S.get i hi) (h _ (S.update i hi he hf)))
theorem t_load {a : Addr} {q : Option Value} {k : Obj → Sem α} {o : Obj} (ho : s.heap.get? a = some o) (h : wpAny (model prog w) A (k o) Q E s) : wpAny (model prog w) A (.load a q k) Q E s := x_load ho h
theorem t_alive {a : Addr} {k : Option Obj → Sem α} {o : Obj} (ho : s.heap.get? a = some o) (h : wpAny (model prog w) A (k (some o)) Q E s) : wpAny (model prog w) A (.loadIfAlive a k) Q E s :=
  fun Γ p hΓ => by rw [Sem.wp_loadIfAlive, ho]; exact h Γ p hΓ
theorem t_handled {k : Option Value → Sem α} {n : Nat} (r : Rm n A) (h : wpAny (model prog w) A (k none) Q E s) : wpAny (model prog w) A (.handled false k) Q E s := x_handled (by rw [r.hd]; exact h)
/-- into a call -/
theorem enter {R : Result → Shared → Prop} {n : Nat} {fa : Addr} {oc : Value} {od : Option Addr} {osl : Array (Option Value)} {fd : FuncData} {body : List Stmt} {args : Args} (binds : List (Str × Value))
    (S : St O w g f m L s.heap s.os s.gens) (r : Rm (n + 1) A) (ho : s.heap.get? fa = some ⟨oc, od, .func fd, osl⟩) (hcd : s.heap.CodeRec fd.code fd.qualname) (hbody : fd.body = .stmts body) (hbind : BindsTo s fd args binds)
    (hcell : ∀ x ∈ fd.scope.names, x.2 ≠ .cell) (hloc : ∀ x ∈ binds, fd.scope.names.lookup x.1 = some .local)
    (h : ∀ g' f' s' A', Rm n A' → (∀ b o, g.get? b = some o → g'.get? b = some o) → St O w g' f' (fun x => binds.reverse.lookup x) L s'.heap s'.os s'.gens → (∀ m'' L'' h'' {so'' sg''}, St O w g' f' m'' L'' h'' so'' sg'' → St O w g f m L'' h'' so'' sg'') →
      wpAny (model prog w) A' (execs body (callEnv fd f' fa)) (fun fl s'' => R (.ok (.ret (match fl with | .ret v => v | _ => .none))) s'') (fun _ _ => False) s')
    (hco : fd.scope.isCoroutine = false := by rfl) (hgen : fd.scope.isGenerator = false := by rfl) (hk : fd.scope.kind = .function := by rfl) :
    codeAny (model prog w) A (.call (.ref fa) args) R s := by
  refine codeAny_call_def r.room ho rfl S.lim hcd hbody hbind hcell hloc (fun h₀ hns hk₀ => ?_) hco hgen hk
  have hideL : ∀ b o, g.get? b = some o → b ∉ [162, 169, 206] ++ L.map (·.1) := fun b o e q => by
    rcases List.mem_append.mp q with q | q
    · have : isTab b = true := by simp at q; rcases q with rfl | rfl | rfl <;> rfl
      rw [S.kg.hid b this] at e; cases e
    · obtain ⟨p, hp, rfl⟩ := List.mem_map.mp q
      rw [(S.has p hp).2.1] at e; cases e
  have hf : f ∉ [162, 169, 206] ++ L.map (·.1) := fun q => by
    have z := S.fbig
    rcases List.mem_append.mp q with q | q
    · simp at q
      rcases q with e | e | e <;> rw [e] at z <;> exact absurd z (by decide)
    · obtain ⟨p, hp, e⟩ := List.mem_map.mp q
      exact (S.has p hp).2.2.2 e
  let g' := hideAll s.heap ([162, 169, 206] ++ L.map (·.1))
  have st : ∀ b o, g.get? b = some o → g'.get? b = some o := fun b o e => hideAll_get _ (S.keep b o e) (hideL b o e)
  have gsz : g'.objs.size = s.heap.objs.size := hideAll_size _ _
  have kg : Kin w g' := ⟨fun a o ht e => st _ _ (S.kg.objs a o ht e), fun a ht => hideAll_none _ (by unfold isTab at ht; simp only [Bool.or_eq_true, beq_iff_eq] at ht; rcases ht with (e | e) | e <;> rw [e] <;> simp), by rw [gsz]; exact Nat.lt_trans S.fbig S.fsz, S.kg.lim.keeps st⟩
  have S' : St O w g' s.heap.objs.size (fun x => binds.reverse.lookup x) L h₀ s.os s.gens := ⟨kg, fun b o e => hk₀ _ _ (of_hideAll _ e), hns, (by
      cases q : g'.get? s.heap.objs.size with
      | none => rfl
      | some o => exact absurd (gsz ▸ Heap.lt_size q) (Nat.lt_irrefl _)), Nat.lt_trans S.fbig S.fsz,
    fun p hp => ⟨hk₀ _ _ (S.has p hp).1, hideAll_none _ (List.mem_append_right _ (List.mem_map_of_mem hp)), (S.has p hp).2.2.1, Nat.ne_of_lt (Heap.lt_size (S.has p hp).1)⟩, S.nd, S.tb.mono fun b o _ e => hk₀ _ _ e⟩
  refine wpAny_mono (h g' s.heap.objs.size { s with heap := h₀, toks := s.toks + binds.length } (A.deeper (callEnv fd s.heap.objs.size fa)) r.deeper st S' ?_) (fun _ _ q => q) fun _ _ q => q.elim
  intro m'' L'' h'' so'' sg'' S''
  obtain ⟨oF, es, ep, hF, rF⟩ := S.ns
  have hFg : g'.get? f = some oF := hideAll_get _ hF hf
  refine ⟨S.kg, fun b o e => S''.keep _ _ (st _ _ e), ⟨oF, es, ep, S''.keep _ _ hFg, rF⟩, S.fg, S.fb, fun p hp => ?_, S''.nd, S''.tb⟩
  have z := S''.has p hp
  refine ⟨z.1, ?_, z.2.2.1, fun q => ?_⟩
  · cases q : g.get? p.1 with
    | none => rfl
    | some o => rw [st _ _ q] at z; exact nomatch z.2.1
  · rw [q, hFg] at z; exact nomatch z.2.1
end
end Mine
local macro_rules | `(tactic| walk_at "raw") => `(tactic| (refine x_skim 400 ?_; conv => arg 3; whnf))
local macro_rules | `(tactic| walk_at "st") => `(tactic| (first
  | (refine Mine.t_load (by first | assumption | exact Mine.St.get (by assumption) 0 rfl | exact Mine.St.k (by assumption) (by rfl)) ?_; walk_at "raw")))
local macro_rules | `(tactic| walk_at "st0") => `(tactic| (first
  | (refine Mine.t_load (by first | assumption | exact Mine.St.k (by assumption) (by rfl)) ?_; walk_at "raw")))
local macro_rules | `(tactic| walk_at "stx") => `(tactic| (first
  | (refine Mine.t_load (by first | assumption | exact Mine.St.k (by assumption) (by rfl)) ?_; walk_at "raw")
  | (refine x_fresh ?_; walk_at "raw")))
local macro_rules | `(tactic| walk_at "env") => `(tactic| ((conv => arg 3; arg 2; whnf; arg 1; whnf); (conv => arg 3; arg 2; arg 3; whnf); (conv => arg 3; arg 2; arg 4; whnf); (conv => arg 3; arg 2; arg 7; whnf); (conv => arg 3; arg 2; arg 9; whnf)))
local macro_rules | `(tactic| walk_at "env7") => `(tactic| ((conv => arg 3; arg 2; whnf; arg 1; whnf); (conv => arg 3; arg 2; arg 3; whnf); (conv => arg 3; arg 2; arg 7; whnf); (conv => arg 3; arg 2; arg 9; whnf)))
namespace Mine
noncomputable def o3 (w : World) : Obj := ((KF w).lookup 3).getD default
noncomputable def o0 (w : World) : Obj := ((KF w).lookup 0).getD default
section
variable {α : Type} {O : OsState} {w : World} {A : Around} {E : Value → Shared → Prop} {s : Shared} {g : Heap} {f : Addr} {m : Str → Option Value} {L : List (Addr × Obj)} {env : Env}
theorem St.g3 {h : Heap} (S : St O w g f m L h so sg) : h.get? 3 = some (o3 w) := S.k rfl
theorem St.g0 {h : Heap} (S : St O w g f m L h so sg) : h.get? 0 = some (o0 w) := S.k rfl
theorem r_local {x : Str} {pos : Pos} {v : Value} {Q : Value → Shared → Prop} (S : St O w g f m L s.heap s.os s.gens) (hv : m x = some v) (h : Q v s) (he : env.locals = f := by rfl) (hk : env.scope.kind = .function := by rfl)
    (hl : env.kindOf x = some .local := by rfl) (hd : (x == ("__debug__" : Str)) = false := by rfl) : wpAny (model prog w) A (eval (.Name x pos) env) Q E s :=
  wpAny_Name (wpAny_loadName_local hk hl (he ▸ S.ns) hv h) hd
theorem r_load {x : Str} {v : Value} {Q : Value → Shared → Prop} (S : St O w g f m L s.heap s.os s.gens) (hv : m x = some v) (h : Q v s) (he : env.locals = f := by rfl) (hk : env.scope.kind = .function := by rfl)
    (hl : env.kindOf x = some .local := by rfl) : wpAny (model prog w) A (loadName env x) Q E s :=
  wpAny_loadName_local hk hl (he ▸ S.ns) hv h
theorem lookup_upd (bs : List (Str × Value)) (x : Str) (v : Value) : (fun y => if y = x then some v else bs.lookup y) = fun y => ((x, v) :: bs).lookup y := by
  funext y
  rw [List.lookup_cons]
  by_cases e : y = x
  · subst e; simp
  · rw [beq_false_of_ne e, if_neg e]
theorem r_store {x : Str} {v : Value} {bs : List (Str × Value)} {Q : Unit → Shared → Prop} (S : St O w g f (fun y => bs.lookup y) L s.heap s.os s.gens) (h : ∀ s', St O w g f (fun y => ((x, v) :: bs).lookup y) L s'.heap s'.os s'.gens → Q () s')
    (he : env.locals = f := by rfl) (hk : env.scope.kind = .function := by rfl) (hl : env.kindOf x = some .local := by rfl) : wpAny (model prog w) A (storeName env x v) Q E s := by
  refine wpAny_storeName_local hl (m := fun y => bs.lookup y) (he ▸ S.ns) (fun h' hn hs => h _ ?_) (by rw [hk]; rfl)
  rw [lookup_upd] at hn
  subst he
  exact S.store hn hs
theorem loadGlobal_of {x : Str} {Q : Value → Shared → Prop} (h : wpAny (model prog w) A (loadGlobal env x) Q E s) (hk : env.scope.kind = .function) (hl : env.kindOf x = some .globalImplicit) : wpAny (model prog w) A (loadName env x) Q E s := by
  have e : loadName env x = loadGlobal env x := by
    unfold loadName Env.blockKind
    rw [hk, hl]
    rfl
  rw [e]; exact h
theorem r_global {x : Str} {pos : Pos} {v : Value} {Q : Value → Shared → Prop} (S : St O w g f m L s.heap s.os s.gens) (h3 : nsLook x (o3 w) = pure (some v)) (h : Q v s) (he : env.globals = 3 := by rfl)
    (hk : env.scope.kind = .function := by rfl) (hl : env.kindOf x = some .globalImplicit := by rfl) (hd : (x == ("__debug__" : Str)) = false := by rfl) : wpAny (model prog w) A (eval (.Name x pos) env) Q E s := by
  refine wpAny_Name (loadGlobal_of ?_ hk hl) hd
  unfold loadGlobal nsGet
  rw [he]
  refine wpAny_bind (wpAny_bind (wpAny_loadPart S.g3 ?_))
  rw [h3]
  exact wpAny_pure (wpAny_pure h)
theorem r_builtin {x : Str} {pos : Pos} {v : Value} {Q : Value → Shared → Prop} (S : St O w g f m L s.heap s.os s.gens) (h3 : nsLook x (o3 w) = pure none) (h0 : nsLook x (o0 w) = pure (some v)) (h : Q v s) (he : env.globals = 3 := by rfl)
    (hb : env.builtins = 0 := by rfl)
    (hk : env.scope.kind = .function := by rfl) (hl : env.kindOf x = some .globalImplicit := by rfl) (hd : (x == ("__debug__" : Str)) = false := by rfl) : wpAny (model prog w) A (eval (.Name x pos) env) Q E s := by
  refine wpAny_Name (loadGlobal_of ?_ hk hl) hd
  unfold loadGlobal nsGet
  rw [he, hb]
  refine wpAny_bind (wpAny_bind (wpAny_loadPart S.g3 ?_))
  rw [h3]
  refine wpAny_pure ?_
  refine wpAny_bind (wpAny_bind (wpAny_loadPart S.g0 ?_))
  rw [h0]
  exact wpAny_pure (wpAny_pure h)
theorem cb {id : String} {id' : String} {args : Args} {R : Result → Shared → Prop} (e : id' = id) (h : codeAny (model prog w) A (.call (.builtin id) args) R s) : codeAny (model prog w) A (.call (.builtin id') args) R s := e ▸ h
theorem r_execs_cons {st : Stmt} {rest : List Stmt} {Q : Flow → Shared → Prop} (h : wpAny (model prog w) A (exec st env) (fun fl s' => match fl with | .next => wpAny (model prog w) A (execs rest env) Q E s' | fl => Q fl s') E s) :
    wpAny (model prog w) A (execs (st :: rest) env) Q E s := wpAny_execs_cons h
/-- a method called: o.name(args) -/
theorem r_CallM {o : Expr} {name : Str} {apos pos : Pos} {args : List Expr} {Q : Value → Shared → Prop}
    (h : wpAny (model prog w) A (eval o env) (fun ov s₁ => wpAny (model prog w) A (getMethod ov name (do return (← importBound o env).getD true)) (fun fm s₂ =>
      wpAny (model prog w) A (callWith pos fm.1 fm.2 (backTo pos (starEach args env)) []) Q E s₂) E s₁) E s)
    (hb : attributeBase o name env (eval o env) = eval o env := by rfl) (hf : methodCallForm (args.length + 0) (backTo pos (starEach args env)) (backToKw pos (keywordEach [] env)) = true := by rfl)
    (hline : (apos.endLine == pos.line) = true := by rfl) :
    wpAny (model prog w) A (eval (.Call (.Attribute o name apos) args [] pos) env) Q E s := by
  rw [arm_eval_Call, hb]
  refine wpAny_bind (wpAny_mono h (fun ov s₁ h₁ => ?_) fun _ _ e => e)
  refine wpAny_bind (wpAny_standAt ?_)
  unfold methodCall calleeOf methodCallPos
  have hf' : methodCallForm (args.length + ([] : List Keyword).length) (backTo pos (starEach args env)) (backToKw pos (keywordEach [] env)) = true := hf
  rw [hf']
  simp only [if_true, hline, Bool.or_true, Bool.not_true]
  refine wpAny_bind (wpAny_holding (wpAny_mono h₁ (fun fm s₂ h₂ => ?_) fun _ _ e => e))
  exact wpAny_bind (wpAny_pure h₂)
/-- a def called, its arguments laid -/
theorem r_callF {fa : Addr} {fd : FuncData} {oc : Value} {od : Option Addr} {osl : Array (Option Value)} {pos : Pos} {first : List Value} {args : List (Bool × Sem Value)} {Q : Value → Shared → Prop}
    (h : wpAny (model prog w) A (evalArgs (.ref fa) true args []) (fun x s₁ => s₁.heap.get? fa = some ⟨oc, od, .func fd, osl⟩ ∧
      codeAny (model prog w) A (.call (.ref fa) ⟨first ++ x.pos, x.kw⟩) (fun r s' => match r with | .ok (.ret v) => Q v s' | .ok _ => False | .error e => E e s') s₁) E s) :
    wpAny (model prog w) A (callWith pos (.ref fa) first args []) Q E s :=
  callWith_function_kw (wpAny_mono h (fun _ _ h₁ => ⟨⟨h₁.1, rfl⟩, wpAny_call h₁.2⟩) fun _ _ e => e)
/-- a built-in called, its arguments laid -/
theorem r_callB {id : String} {pos : Pos} {first : List Value} {args : List (Bool × Sem Value)} {Q : Value → Shared → Prop} (hs : args.any (·.1) = false)
    (h : wpAny (model prog w) A (evalArgs (.builtin id) true args []) (fun x s₁ => codeAny (model prog w) A (.call (.builtin id) ⟨first ++ x.pos, x.kw⟩) (fun r s' => match r with | .ok (.ret v) => Q v s' | .ok _ => False | .error e => E e s') s₁) E s) :
    wpAny (model prog w) A (callWith pos (.builtin id) first args []) Q E s := by
  unfold callWith
  refine wpAny_bind (wpAny_holding (wpAny_mono h (fun x s₁ h₁ => wpAny_bind (wpAny_standAt ?_)) fun _ _ x => x))
  rw [hs]
  refine wpAny_bind (wpAny_pure ?_)
  refine wpAny_bind (wpAny_call (codeAny_mono h₁ fun r s' q => ?_))
  cases r with
  | error e => exact q
  | ok fl =>
    cases fl with
    | ret v => exact wpAny_bind (wpAny_holding (wpAny_point (wpAny_pure q)))
    | _ => exact q.elim
theorem r_args {fv : Value} {x : Sem Value} {rest : List (Bool × Sem Value)} {Q : Args → Shared → Prop} (h : wpAny (model prog w) A (spliced ((false, x) :: rest)) (fun vs s₁ => Q ⟨vs, []⟩ s₁) E s) :
    wpAny (model prog w) A (evalArgs fv true ((false, x) :: rest) []) Q E s := evalArgs_kw rfl (wpAny_mono h (fun _ _ q => wpAny_evalAll_nil q) fun _ _ e => e)
theorem r_args0 {fv : Value} {Q : Args → Shared → Prop} (h : Q ⟨[], []⟩ s) : wpAny (model prog w) A (evalArgs fv true [] []) Q E s := evalArgs_kw_nil rfl (wpAny_evalAll_nil h)
theorem r_spl {x : Sem Value} {rest : List (Bool × Sem Value)} {Q : List Value → Shared → Prop} (h : wpAny (model prog w) A x (fun v s₁ => wpAny (model prog w) A (spliced rest) (fun vs s₂ => Q (v :: vs) s₂) E s₁) E s) :
    wpAny (model prog w) A (spliced ((false, x) :: rest)) Q E s := Calls.spliced_cons h
theorem r_spl0 {Q : List Value → Shared → Prop} (h : Q [] s) : wpAny (model prog w) A (spliced []) Q E s := Calls.spliced_nil h
theorem r_args1 {fv : Value} {e : Expr} {rest : List Expr} {pos : Pos} {Q : Args → Shared → Prop} (h : wpAny (model prog w) A (eval e env) (fun v s₁ => wpAny (model prog w) A (spliced (backTo pos (starEach rest env))) (fun vs s₂ => Q ⟨v :: vs, []⟩ s₂) E s₁) E s)
    (he : starEach (e :: rest) env = (false, eval e env) :: starEach rest env := by rfl) : wpAny (model prog w) A (evalArgs fv true (backTo pos (starEach (e :: rest) env)) []) Q E s := by
  have z := wpAny_items_cons (pos := pos) (Q := fun vs s₂ => Q ⟨vs, []⟩ s₂) h he
  rw [he] at z ⊢
  exact evalArgs_kw rfl (wpAny_mono z (fun _ _ q => wpAny_evalAll_nil q) fun _ _ e => e)
theorem r_item {e : Expr} {rest : List Expr} {pos : Pos} {Q : List Value → Shared → Prop} (h : wpAny (model prog w) A (eval e env) (fun v s₁ => wpAny (model prog w) A (spliced (backTo pos (starEach rest env))) (fun vs s₂ => Q (v :: vs) s₂) E s₁) E s)
    (he : starEach (e :: rest) env = (false, eval e env) :: starEach rest env := by rfl) : wpAny (model prog w) A (spliced (backTo pos (starEach (e :: rest) env))) Q E s := wpAny_items_cons h he
theorem r_item0 {pos : Pos} {Q : List Value → Shared → Prop} (h : Q [] s) : wpAny (model prog w) A (spliced (backTo pos (starEach [] env))) Q E s := wpAny_items_nil h
noncomputable def fdAt (w : World) (a : Addr) : FuncData := match (KF w).lookup a with | some ⟨_, _, .func fd, _⟩ => fd | _ => default
theorem call_at {R : Result → Shared → Prop} {n : Nat} {fa : Addr} {body : List Stmt} {args : Args} (binds : List (Str × Value)) (S : St O w g f m L s.heap s.os s.gens) (r : Rm (n + 1) A)
    (ho : (KF w).lookup fa = some ⟨.type "function", none, .func (fdAt w fa), #[]⟩) (ht : isTab fa = false) {c : Addr} {oc : Obj} {vs : Array Value} {t : Tok} (hc : (fdAt w fa).code = .ref c) (htc : isTab c = false) (hoc : (KF w).lookup c = some oc) (hvs : oc.data = .fields vs) (hq : vs[1]? = some (.str (fdAt w fa).qualname t))
    (hbody : (fdAt w fa).body = .stmts body) (hbind : bindArgs (fdAt w fa) args = pure binds)
    (hcell : ((fdAt w fa).scope.names.all fun x => decide (x.2 ≠ .cell)) = true) (hloc : (binds.all fun x => decide ((fdAt w fa).scope.names.lookup x.1 = some .local)) = true)
    (hco : (fdAt w fa).scope.isCoroutine = false) (hgen : (fdAt w fa).scope.isGenerator = false) (hk : (fdAt w fa).scope.kind = .function)
    (h : ∀ g' f' s' A', Rm n A' → (∀ b o, g.get? b = some o → g'.get? b = some o) → St O w g' f' (fun x => binds.reverse.lookup x) L s'.heap s'.os s'.gens → (∀ m'' L'' h'' {so'' sg''}, St O w g' f' m'' L'' h'' so'' sg'' → St O w g f m L'' h'' so'' sg'') →
      wpAny (model prog w) A' (execs body (callEnv (fdAt w fa) f' fa)) (fun fl s'' => R (.ok (.ret (match fl with | .ret v => v | _ => .none))) s'') (fun _ _ => False) s') :
    codeAny (model prog w) A (.call (.ref fa) args) R s :=
  enter binds S r (S.k ho ht) ⟨c, oc, vs, t, hc, S.k hoc htc, hvs, hq⟩ hbody (BindsTo.of_eq hbind) (fun x hx => of_decide_eq_true (List.all_eq_true.mp hcell x hx)) (fun x hx => of_decide_eq_true (List.all_eq_true.mp hloc x hx)) h hco hgen hk
def tupO (vs : List Value) : Obj := { cls := .type "tuple", data := .seq vs.toArray }
def lstO (vs : List Value) (n : Nat := 0) : Obj := { cls := .type "list", data := .seq vs.toArray n }
theorem r_tuple {elts : List Expr} {k : Nat} {pos : Pos} {Q : Value → Shared → Prop}
    (h : wpAny (model prog w) A (spliced (backTo pos (starEach elts env))) (fun vs s₁ => vs.length ≤ sizeLine ∧ ∃ g f m L, St O w g f m L s₁.heap s₁.os s₁.gens ∧ ∀ a s₂, St O w g f m ((a, tupO vs) :: L) s₂.heap s₂.os s₂.gens → Q (.ref a) s₂) E s) : wpAny (model prog w) A (eval (.Tuple elts k pos) env) Q E s :=
  wpAny_Tuple (wpAny_mono h (fun _ _ ⟨q1, _, _, _, _, S, q⟩ => ⟨q1, q _ _ (S.push _ rfl)⟩) fun _ _ e => e)
theorem r_list {elts : List Expr} {pos : Pos} {Q : Value → Shared → Prop}
    (h : wpAny (model prog w) A (spliced (backTo pos (starEach elts env))) (fun vs s₁ => vs.length ≤ sizeLine ∧ ∃ g f m L, St O w g f m L s₁.heap s₁.os s₁.gens ∧ ∀ a s₂, St O w g f m ((a, lstO vs) :: L) s₂.heap s₂.os s₂.gens → Q (.ref a) s₂) E s) : wpAny (model prog w) A (eval (.List elts pos) env) Q E s :=
  wpAny_List (wpAny_mono h (fun _ _ ⟨q1, _, _, _, _, S, q⟩ => ⟨q1, q _ _ (S.push _ rfl)⟩) fun _ _ e => e)
theorem gm_split {x : Str} {t : Tok} {pl : Sem Bool} {Q : Value × List Value → Shared → Prop} (h : Q (.builtin "str.split", [.str x t]) s) : wpAny (model prog w) A (getMethod (.str x t) (Str.ofString "split") pl) Q E s := by
  with_reducible exact GM.split h
theorem gm_join {x : Str} {t : Tok} {pl : Sem Bool} {Q : Value × List Value → Shared → Prop} (h : Q (.builtin "str.join", [.str x t]) s) : wpAny (model prog w) A (getMethod (.str x t) (Str.ofString "join") pl) Q E s := by
  with_reducible exact GM.join h
theorem gm_strip {x : Str} {t : Tok} {pl : Sem Bool} {Q : Value × List Value → Shared → Prop} (h : Q (.builtin "str.strip", [.str x t]) s) : wpAny (model prog w) A (getMethod (.str x t) (Str.ofString "strip") pl) Q E s := by
  with_reducible exact GM.strip h
theorem gm_replace {x : Str} {t : Tok} {pl : Sem Bool} {Q : Value × List Value → Shared → Prop} (h : Q (.builtin "str.replace", [.str x t]) s) : wpAny (model prog w) A (getMethod (.str x t) (Str.ofString "replace") pl) Q E s := by
  with_reducible exact GM.replace h
theorem gm_isspace {x : Str} {t : Tok} {pl : Sem Bool} {Q : Value × List Value → Shared → Prop} (h : Q (.builtin "str.isspace", [.str x t]) s) : wpAny (model prog w) A (getMethod (.str x t) (Str.ofString "isspace") pl) Q E s := by
  with_reducible exact GM.isspace h
end
end Mine
namespace Mine
-- an _Accumulator: its list part, the address of its dict
def accO (its : List Value) (n : Nat) (d : Addr) : Obj := ⟨.ref 200, some d, .seq its.toArray n, #[]⟩
def accD (t : Tok) (hs : Int) (sz : Value) : Obj := ⟨.type "dict", none, .dict #[⟨hs, .str (Str.ofString "_initial_size") t, sz⟩] 1, #[]⟩
section
variable {O : OsState} {w : World} {A : Around} {E : Value → Shared → Prop} {s : Shared} {g : Heap} {f : Addr} {m : Str → Option Value} {L : List (Addr × Obj)} {env : Env}
theorem acc_ga {a d : Addr} {its : List Value} {n : Nat} {Q : Option Value → Shared → Prop} (S : St O w g f m L s.heap s.os s.gens) (ho : s.heap.get? a = some (accO its n d)) (h : Q (some (.builtin "list.__getattribute__")) s) :
    wpAny (model prog w) A (specialOf (.ref a) (Str.ofString "__getattribute__")) Q E s := by
  walk_at "raw"
  repeat walk_at "st"
  exact wpAny_pure h
theorem acc_gt {a d : Addr} {its : List Value} {n : Nat} {Q : Option Value → Shared → Prop} (S : St O w g f m L s.heap s.os s.gens) (ho : s.heap.get? a = some (accO its n d)) (h : Q none s) :
    wpAny (model prog w) A (specialOf (.ref a) (Str.ofString "__getattr__")) Q E s := by
  walk_at "raw"
  repeat walk_at "st"
  exact wpAny_pure h
noncomputable def o199 (w : World) : Obj := ((KF w).lookup 199).getD default
theorem St.c199 {h : Heap} (S : St O w g f m L h so sg) : h.get? 199 = some (o199 w) := S.k rfl
theorem acc_type {a d : Addr} {its : List Value} {n : Nat} {Q : Value → Shared → Prop} (ho : s.heap.get? a = some (accO its n d)) (h : Q (.ref 200) s) : wpAny (model prog w) A (typeOf (.ref a)) Q E s := by
  walk_at "raw"
  repeat walk_at "st"
  exact wpAny_pure h
theorem acc_mro {Q : List Value → Shared → Prop} (S : St O w g f m L s.heap s.os s.gens) (h : Q [.ref 200, .type "list", .type "object"] s) : wpAny (model prog w) A (mroOf (.ref 200)) Q E s := by
  walk_at "raw"
  repeat walk_at "st"
  exact wpAny_pure h
theorem acc_own {name : Str} {v : Option Value} {Q : Option Value → Shared → Prop} (S : St O w g f m L s.heap s.os s.gens) (hn : nsLook name (o199 w) = pure v) (h : Q v s) : wpAny (model prog w) A (classOwn (.ref 200) name) Q E s := by
  unfold classOwn
  have e : wpAny (model prog w) A (classData 200) (fun c s' => wpAny (model prog w) A (nsGet c.ns name) Q E s') E s := by
    unfold classData
    refine wpAny_bind (wpAny_load (S.k (a := 200) rfl) ?_)
    refine wpAny_pure ?_
    unfold nsGet
    refine wpAny_bind (wpAny_loadPart S.c199 ?_)
    rw [hn]
    exact wpAny_pure h
  exact wpAny_bind e
/-- a method of list itself, which the class does not hide -/
theorem acc_methB {name : Str} {id : String} {a d : Addr} {its : List Value} {n : Nat} {t : Tok} {hs : Int} {sz : Value} {pl : Sem Bool} {Q : Value × List Value → Shared → Prop} (S : St O w g f m L s.heap s.os s.gens) (ho : s.heap.get? a = some (accO its n d)) (hd : s.heap.get? d = some (accD t hs sz))
    (hn : nsLook name (o199 w) = pure none) (hb : classOwn (.type "list") name = pure (some (.builtin id))) (ht : typeOf (.builtin id) = pure (.type "method_descriptor")) (hne : nsLook name (accD t hs sz) = pure none) (h : Q (.builtin id, [.ref a]) s) :
    wpAny (model prog w) A (getMethod (.ref a) name pl) Q E s := by
  unfold getMethod
  refine wpAny_bind (acc_ga S ho ?_)
  dsimp only
  rw [if_neg (by rw [canon_list_getattribute]; exact Bool.false_ne_true)]
  refine wpAny_bind (acc_gt S ho ?_)
  rw [if_neg (by exact Bool.false_ne_true)]
  refine wpAny_bind (m := specialOf (.ref a) name) ?_
  unfold specialOf typeLookup
  refine wpAny_bind (acc_type ho ?_)
  refine wpAny_bind (acc_mro S ?_)
  simp only [List.forIn_cons]
  refine wpAny_bind (wpAny_bind (wpAny_bind (acc_own S hn (wpAny_pure ?_))))
  dsimp only
  rw [hb]
  refine wpAny_bind (wpAny_bind (wpAny_pure ?_))
  refine wpAny_pure ?_
  refine wpAny_pure ?_
  refine wpAny_pure ?_
  dsimp only
  rw [ht]
  refine wpAny_bind (wpAny_pure ?_)
  rw [if_neg (by decide)]
  refine wpAny_bind (wpAny_loadPart ho ?_)
  dsimp only [accO]
  unfold nsGet
  refine wpAny_bind (wpAny_bind (wpAny_loadPart hd ?_))
  rw [hne]
  refine wpAny_pure ?_
  rw [if_neg (by exact Bool.false_ne_true)]
  exact wpAny_bind (wpAny_rule (wpAny_pure h))
theorem n_app (w : World) : nsLook (Str.ofString "append") (o199 w) = pure none := by kernel_rfl
theorem b_app : classOwn (.type "list") (Str.ofString "append") = pure (some (.builtin "list.append")) := by kernel_rfl
theorem d_app {t : Tok} {hs : Int} {sz : Value} : nsLook (Str.ofString "append") (accD t hs sz) = pure none := by kernel_rfl
theorem acc_append {a d : Addr} {its : List Value} {n : Nat} {t : Tok} {hs : Int} {sz : Value} {pl : Sem Bool} {Q : Value × List Value → Shared → Prop} (S : St O w g f m L s.heap s.os s.gens) (ho : s.heap.get? a = some (accO its n d)) (hd : s.heap.get? d = some (accD t hs sz))
    (h : Q (.builtin "list.append", [.ref a]) s) : wpAny (model prog w) A (getMethod (.ref a) (Str.ofString "append") pl) Q E s := by
  with_reducible exact acc_methB S ho hd (n_app w) b_app PySem.F.type_list_append d_app h
end
end Mine
namespace Mine
section
variable {O : OsState} {w : World} {A : Around} {E : Value → Shared → Prop} {s : Shared} {g : Heap} {f : Addr} {m : Str → Option Value} {L : List (Addr × Obj)} {env : Env}
theorem chk_method {id owner name : String} {self : Value} {r : List Value} {Q : Unit → Shared → Prop} (hk : builtinKind id = some .method) (hs : splitId id = some (owner, name)) (ha : argsOk id ⟨self :: r, []⟩)
    (hi : wpAny (model prog w) A (isInstance self (.type owner)) (fun b s₁ => b = true ∧ Q () s₁) E s) : wpAny (model prog w) A (checkBuiltinCall id ⟨self :: r, []⟩) Q E s := by
  unfold checkBuiltinCall
  simp only [hk, hs]
  refine wpAny_bind (wpAny_mono hi (fun b s₁ q => ?_) fun _ _ e => e)
  obtain ⟨rfl, q⟩ := q
  simp only [Bool.not_true, Bool.false_eq_true, if_false]
  cases hsig : Manifest.signature? id with
  | none => exact wpAny_pure q
  | some sig =>
    simp only [argsOk, hsig] at ha
    have h2 : Bind.checkArgs id sig ⟨self :: r, []⟩ = pure () := ha
    show wpAny _ _ (Bind.checkArgs id sig ⟨self :: r, []⟩) _ _ s₁
    rw [h2]; exact wpAny_pure q
theorem chk_slot {id owner name : String} {self : Value} {r : List Value} {Q : Unit → Shared → Prop} (hk : builtinKind id = some .slot) (hs : splitId id = some (owner, name)) (ha : argsOk id ⟨self :: r, []⟩)
    (hi : wpAny (model prog w) A (isInstance self (.type owner)) (fun b s₁ => b = true ∧ Q () s₁) E s) : wpAny (model prog w) A (checkBuiltinCall id ⟨self :: r, []⟩) Q E s := by
  unfold checkBuiltinCall
  simp only [hk, hs]
  refine wpAny_bind (wpAny_mono hi (fun b s₁ q => ?_) fun _ _ e => e)
  obtain ⟨rfl, q⟩ := q
  simp only [Bool.not_true, Bool.false_eq_true, if_false]
  cases hsig : Manifest.signature? id with
  | none => exact wpAny_pure q
  | some sig =>
    simp only [argsOk, hsig] at ha
    have h2 : Bind.checkArgs id sig ⟨self :: r, []⟩ = pure () := ha
    show wpAny _ _ (Bind.checkArgs id sig ⟨self :: r, []⟩) _ _ s₁
    rw [h2]; exact wpAny_pure q
theorem acc_isList {a d : Addr} {its : List Value} {n : Nat} {Q : Bool → Shared → Prop} (S : St O w g f m L s.heap s.os s.gens) (ho : s.heap.get? a = some (accO its n d)) (h : Q true s) :
    wpAny (model prog w) A (isInstance (.ref a) (.type "list")) Q E s := by
  walk_at "raw"
  repeat walk_at "st0"
  exact wpAny_pure h
/-- a method or a slot of list, called with an accumulator -/
theorem b_acc (id name : String) (b : Builtin) {a d : Addr} {its : List Value} {n : Nat} {r : List Value} {R : Result → Shared → Prop} (S : St O w g f m L s.heap s.os s.gens) (ho : s.heap.get? a = some (accO its n d))
    (hp : plainId id = true) (hb : entryFor table id = some b) (hk : builtinKind id = some .method ∨ builtinKind id = some .slot) (hs : splitId id = some ("list", name)) (ha : argsOk id ⟨.ref a :: r, []⟩)
    (h : wpAny (model prog w) A.in1 (b ⟨.ref a :: r, []⟩) (fun fin s' => match fin with | .done f => R (.ok f) s' | .again c' => c'.quiet = true ∧ codeAny (model prog w) A c' R s') (fun e s' => R (.error e) s') s) :
    codeAny (model prog w) A (.call (.builtin id) ⟨.ref a :: r, []⟩) R s := by
  refine codeAny_call_builtin hp hb ?_
  rcases hk with hk | hk
  · exact chk_method hk hs ha (acc_isList S ho ⟨rfl, h⟩)
  · exact chk_slot hk hs ha (acc_isList S ho ⟨rfl, h⟩)
theorem k_append : builtinKind "list.append" = some .method := by kernel_rfl
theorem s_append : splitId "list.append" = some ("list", "append") := by kernel_rfl
theorem p_append : plainId "list.append" = true := by decide +kernel
theorem e_append : entryFor table "list.append" = some Builtin.«list.append» := entryFor_of_tree (by kernel_rfl)
theorem a_append (x y : Value) : argsOk "list.append" ⟨[x, y], []⟩ := PySem.F.args_list_append_2 x y
theorem k_iter : builtinKind "list.__iter__" = some .slot := by kernel_rfl
theorem s_iter : splitId "list.__iter__" = some ("list", "__iter__") := by kernel_rfl
theorem p_iter : plainId "list.__iter__" = true := by decide +kernel
theorem e_iter : entryFor table "list.__iter__" = some Builtin.«list.__iter__» := entryFor_of_tree (by kernel_rfl)
theorem a_iter (x : Value) : argsOk "list.__iter__" ⟨[x], []⟩ := PySem.F.args_list_iter_1 x
theorem k_lga : builtinKind "list.__getattribute__" = some .slot := by kernel_rfl
theorem s_lga : splitId "list.__getattribute__" = some ("list", "__getattribute__") := by kernel_rfl
theorem p_lga : plainId "list.__getattribute__" = true := by decide +kernel
theorem a_lga (x y : Value) : argsOk "list.__getattribute__" ⟨[x, y], []⟩ := PySem.F.args_list_getattribute_2 x y
theorem set_get {L : List (Addr × Obj)} {i : Nat} {a : Addr} {o o' : Obj} (hi : L[i]? = some (a, o)) : (L.set i (a, o'))[i]? = some (a, o') := by
  rw [List.getElem?_set_self (List.getElem?_eq_some_iff.mp hi).1]
theorem r_updateSeq {i : Nat} {a : Addr} {c : Value} {d : Option Addr} {xs : Array Value} {n : Nat} {sl : Array (Option Value)} {fn : Array Value → Array Value} (o' : Obj) {Q : Unit → Shared → Prop} (S : St O w g f m L s.heap s.os s.gens)
    (hi : L[i]? = some (a, ⟨c, d, .seq xs n, sl⟩)) (he : Obj.mapSeq fn ⟨c, d, .seq xs n, sl⟩ = o') (hf : o'.isFreed = false) (hz : o'.data.pastItsLine = none) (h : ∀ s', St O w g f m (L.set i (a, o')) s'.heap s'.os s'.gens → Q () s') :
    wpAny (model prog w) A (updateSeq a fn) Q E s := by
  unfold updateSeq
  refine wpAny_bind (wpAny_load (S.get i hi) ?_)
  have S' := S.update i hi he hf
  exact wpAny_bind (wpAny_update (S.get i hi) (wpAny_lookBehind (S'.get i (set_get hi)) hz (h _ S')))
theorem seq_fits {xs : Array Value} {n : Nat} (h : xs.size ≤ 100000) : (Data.seq xs n).pastItsLine = none := by
  unfold Data.pastItsLine sizeLine
  simp only
  rw [if_neg (by omega)]
theorem b_append {i : Nat} {a d : Addr} {its : List Value} {n : Nat} {v : Value} {R : Result → Shared → Prop} (S : St O w g f m L s.heap s.os s.gens) (hi : L[i]? = some (a, accO its n d)) (hl : its.length < 1000)
    (h : ∀ s', St O w g f m (L.set i (a, accO (its ++ [v]) (n + 1) d)) s'.heap s'.os s'.gens → R (.ok (.ret .none)) s') : codeAny (model prog w) A (.call (.builtin "list.append") ⟨[.ref a, v], []⟩) R s := by
  have ho := S.get i hi
  refine b_acc "list.append" "append" Builtin.«list.append» S ho p_append e_append (.inl k_append) s_append (a_append _ _) ?_
  unfold Builtin.«list.append»
  refine wpAny_bind (wpAny_pure (a := (Value.ref a, v)) ?_)
  refine wpAny_bind ?_
  refine r_updateSeq (accO (its ++ [v]) (n + 1) d) S hi ?_ rfl (seq_fits ?_) fun s' S' => ?_
  · simp [Obj.mapSeq, accO]
  · simp; omega
  · exact wpAny_pure (h _ S')
theorem push_spec {i j : Nat} {acc d : Addr} {its : List Value} {n : Nat} {t : Tok} {hs : Int} {sz x y : Value} {R : Result → Shared → Prop} (S : St O w g f m L s.heap s.os s.gens) (r : Rm 5 A)
    (hi : L[i]? = some (acc, accO its n d)) (hj : L[j]? = some (d, accD t hs sz)) (hl : its.length < 1000)
    (h : ∀ a s', St O w g f m (((a, tupO [x, y]) :: L).set (i + 1) (acc, accO (its ++ [.ref a]) (n + 1) d)) s'.heap s'.os s'.gens → R (.ok (.ret .none)) s') :
    codeAny (model prog w) A (.call (.ref 144) ⟨[.ref acc, x, y], []⟩) R s := by
  refine call_at [(Str.ofString "self", .ref acc), (Str.ofString "fws", x), (Str.ofString "string", y)] S r (by rfl) (by rfl) (by rfl) (by rfl) (by rfl) (by rfl) (by rfl) (by rfl) (by kernel_rfl) (by kernel_rfl) (by kernel_rfl) (by rfl) (by rfl) (by rfl) ?_
  intro g' f' s' A' r' le S' back
  refine r_execs_cons ?_
  refine wpAny_Expr_any ?_
  refine r_CallM ?_
  refine r_local S' rfl ?_
  refine acc_append S' (S'.get i hi) (S'.get j hj) ?_
  with_reducible refine r_callB ?_ ?_
  · rfl
  refine r_args1 ?_
  refine r_tuple (O := O) ?_
  refine r_item ?_
  refine r_local S' rfl ?_
  refine r_item ?_
  refine r_local S' rfl ?_
  refine r_item0 ⟨by simp [sizeLine], _, _, _, _, S', fun a s₂ S2 => ?_⟩
  refine r_item0 ?_
  refine b_append S2 (i := i + 1) hi hl fun s₃ S3 => ?_
  exact wpAny_execs_nil (h a _ (back _ _ _ S3))
end
end Mine
namespace Mine
section
variable {O : OsState} {w : World} {A : Around} {E : Value → Shared → Prop} {s : Shared} {g : Heap} {f : Addr} {m : Str → Option Value} {L : List (Addr × Obj)} {env : Env}
def itO (l : Addr) (i : Nat) : Obj := { cls := .type "list_iterator", data := .fields #[.ref l, .int i 0] }
theorem acc_iter {a d : Addr} {its : List Value} {n : Nat} {t : Tok} {hs : Int} {sz : Value} {Q : Value → Shared → Prop} (S : St O w g f m L s.heap s.os s.gens) (ho : s.heap.get? a = some (accO its n d)) (hd : s.heap.get? d = some (accD t hs sz))
    (h : ∀ I s', St O w g f m ((I, itO a 0) :: L) s'.heap s'.os s'.gens → Q (.ref I) s') : wpAny (model prog w) A (pyIter (.ref a)) Q E s := by
  walk_at "raw"
  repeat walk_at "st"
  dsimp only [Sem.bind]
  split
  all_goals walk_at "raw"
  all_goals refine x_call ?_ (by intro h; cases h)
  all_goals refine cb (id := "list.__iter__") (by kernel_rfl) ?_
  all_goals refine b_acc "list.__iter__" "__iter__" Builtin.«list.__iter__» S ho p_iter e_iter (.inr k_iter) s_iter (a_iter _) ?_
  all_goals walk_at "raw"
  all_goals refine t_alloc S rfl fun I s' S' => ?_
  all_goals walk_at "raw"
  all_goals refine wpAny_pure ?_
  all_goals walk_at "raw"
  all_goals repeat walk_at "st"
  all_goals exact wpAny_pure (h I s' S')
end
end Mine
namespace Mine
/-- an object of the heap that bears a sequence, of whatever class -/
def SeqAt (h : Heap) (a : Addr) (items : Array Value) : Prop := ∃ o n, h.get? a = some o ∧ o.data = .seq items n
theorem SeqAt.at {h h' : Heap} {a : Addr} {items : Array Value} (x : SeqAt h a items) (k : ∀ o, h.get? a = some o → h'.get? a = some o) : SeqAt h' a items :=
  let ⟨o, n, e, d⟩ := x; ⟨o, n, k _ e, d⟩
section
variable {O : OsState} {w : World} {A : Around} {E : Value → Shared → Prop} {s : Shared}
theorem next_item {it l : Addr} {i : Nat} {items : Array Value} {x : Value} {Q : Option Value → Shared → Prop} (hit : s.heap.IsListIter it l i) (hl : SeqAt s.heap l items) (hx : items[i]? = some x)
    (hQ : ∀ h', h'.IsListIter it l (i + 1) → Heap.SameBut it s.heap h' → Q (some x) { s with heap := h' }) : wpAny (model prog w) A (pyNext (.ref it)) Q E s := by
  obtain ⟨o, ho, hc, hd⟩ := id hit
  obtain ⟨ol, nl, hol, hdl⟩ := hl
  unfold pyNext
  refine wpAny_bind (wpAny_attempt (wpAny_callSpecial?_slot (name := Str.ofString "__next__") hit.typeIs slot_listiter_next (wpAny_call_entry slot_listiter_next hit.typeIs entry_listiter_next ?_ (args_listiter_next _))))
  refine wpAny_bind (m := field (.ref it) 0) (wpAny_field ho hd (x := .ref l) rfl ?_)
  rw [if_neg (show ¬ ((Value.ref l == Value.none) = true) from Bool.false_ne_true)]
  refine wpAny_bind (m := field (.ref it) 1) (wpAny_field ho hd (x := .int i 0) rfl ?_)
  refine wpAny_bind (m := seqItems? (.ref l)) (wpAny_seqItems hol hdl ?_)
  simp only [Int.toNat_natCast, hx]
  refine wpAny_bind (wpAny_setField ho hd (by simp) (wpAny_pure ⟨x, rfl, wpAny_pure (hQ _ ?_ (Heap.SameBut.update ..))⟩))
  exact ⟨_, Heap.get?_update_self _ ho (Obj.isFreed_of_fields (Obj.data_mapFields hd _)), (Obj.cls_mapFields ..).trans hc, by rw [Obj.data_mapFields hd]; simp [rawInt]⟩
theorem next_end {it l : Addr} {i : Nat} {items : Array Value} {Q : Option Value → Shared → Prop} (hh : A.handled = none) (hit : s.heap.IsListIter it l i) (hl : SeqAt s.heap l items) (hx : items[i]? = none)
    (hQ : ∀ h', Heap.ExtBut it s.heap h' → Q none { s with heap := h' }) : wpAny (model prog w) A (pyNext (.ref it)) Q E s := by
  obtain ⟨o, ho, hc, hd⟩ := id hit
  obtain ⟨ol, nl, hol, hdl⟩ := hl
  unfold pyNext
  refine wpAny_bind (wpAny_attempt (wpAny_callSpecial?_slot (name := Str.ofString "__next__") hit.typeIs slot_listiter_next (wpAny_call_entry slot_listiter_next hit.typeIs entry_listiter_next ?_ (args_listiter_next _))))
  refine wpAny_bind (m := field (.ref it) 0) (wpAny_field ho hd (x := .ref l) rfl ?_)
  rw [if_neg (show ¬ ((Value.ref l == Value.none) = true) from Bool.false_ne_true)]
  refine wpAny_bind (m := field (.ref it) 1) (wpAny_field ho hd (x := .int i 0) rfl ?_)
  refine wpAny_bind (m := seqItems? (.ref l)) (wpAny_seqItems hol hdl ?_)
  simp only [Int.toNat_natCast, hx]
  refine wpAny_bind (wpAny_rule (wpAny_bind (wpAny_setField ho hd (by simp) ?_)))
  refine wpAny_bind (m := newExc (.type "StopIteration") []) ?_
  simp only [newExc, newTuple]
  refine wpAny_bind (wpAny_newObj_type ?_ (by size_fits))
  refine wpAny_bind (m := firstArgMember _ _) (wpAny_of_eq (a := Value.none) (by rfl) ?_)
  refine wpAny_newObj_type ?_ (by size_fits)
  simp only [raiseNew]
  refine wpAny_bind (wpAny_handled ?_)
  rw [show A.in1.handled = none from hh]
  refine wpAny_bind (wpAny_pure (wpAny_throw ?_))
  refine wpAny_bind (wpAny_isInstance (T := "StopIteration") (b := true) ⟨_, Heap.get?_push_size _ rfl, rfl⟩ isSubtype_stop ?_)
  exact wpAny_pure (hQ _ (((Heap.SameBut.update ..).extBut.push _).push _))
end
/-- a walk over a sequence of tuples, of whatever class it is -/
theorem walk_tuples {w : World} {A : Around} (hh : A.handled = none) (I ax : Addr) (hne : ax ≠ I) (items : Array Value) (Ts : Nat → Addr) (vals : Nat → Array Value)
    (hit : ∀ j, j < items.size → items[j]? = some (.ref (Ts j))) (hTI : ∀ j, j < items.size → Ts j ≠ I) :
    WalksU prog w A I (I :: ax :: (List.range items.size).map Ts) [I] items.size (fun j v => v = vals j)
      (fun j h => h.IsListIter I ax j ∧ SeqAt h ax items ∧ ∀ k, k < items.size → h.IsTuple (Ts k) (vals k))
      (fun j T h => (j < items.size ∧ T = Ts j) ∧ h.IsListIter I ax (j + 1) ∧ SeqAt h ax items ∧ ∀ k, k < items.size → h.IsTuple (Ts k) (vals k)) where
  sub := fun b hb => by simp at hb; simp [hb]
  frame := fun _ _ _ st hk => ⟨st.1.at fun o e => hk I (by simp) o e, st.2.1.at fun o e => hk ax (by simp) o e,
    fun k hk' => (st.2.2 k hk').at fun o e => hk (Ts k) (List.mem_cons_of_mem _ (List.mem_cons_of_mem _ (List.mem_map.mpr ⟨k, List.mem_range.mpr hk', rfl⟩))) o e⟩
  item := fun i s Q E hi st hQ => by
    refine next_item st.1 st.2.1 (x := .ref (Ts i)) (hit i hi) fun h' hit' hs' => ?_
    have tup : ∀ k, k < items.size → h'.IsTuple (Ts k) (vals k) := fun k hk' => (st.2.2 k hk').extBut hs'.extBut (hTI k hk')
    exact hQ (Ts i) (vals i) h' s.toks rfl (tup i hi) ⟨⟨hi, rfl⟩, hit', st.2.1.at fun o e => hs'.extBut _ _ hne e, tup⟩ fun b o hb e => hs'.extBut b o (fun h => hb (by simp [h])) e
  go := fun _ _ _ _ _ s Q _ hm hQ => wpAny_letOwnedTupleGo_listiter hm.2.1 (hQ s.heap hm.2 fun _ _ _ e => e)
  apart := fun i T h hm => by
    have := hTI i hm.1.1
    rw [hm.1.2]; simpa using this
  done := fun s Q E st hQ => next_end hh st.1 st.2.1 (by simp) fun h' he' => hQ h' s.toks fun b o hb e => he' b o (fun h => hb (by simp [h])) e
  self := fun _ _ _ _ st hQ => wpAny_pyIter_listiter st.1 hQ
end Mine
namespace Mine
section
variable {O : OsState} {w : World} {A : Around} {E : Value → Shared → Prop} {s : Shared}
theorem b_fun {id : String} {b : Builtin} {args : List Value} {R : Result → Shared → Prop} (hk : builtinKind id = none) (hp : plainId id = true) (hb : entryFor table id = some b) (ha : argsOk id ⟨args, []⟩)
    (hc : wpAny (model prog w) A.in1 (b ⟨args, []⟩) (fun fin s' => match fin with | .done f => R (.ok f) s' | .again c' => c'.quiet = true ∧ codeAny (model prog w) A c' R s') (fun e s' => R (.error e) s') s) :
    codeAny (model prog w) A (.call (.builtin id) ⟨args, []⟩) R s := by
  refine codeAny_call_builtin hp hb ?_
  simp only [checkBuiltinCall, hk]
  cases hsig : Manifest.signature? id with
  | none => exact wpAny_pure hc
  | some sig =>
    simp only [argsOk, hsig] at ha
    have h2 : Bind.checkArgs id sig ⟨args, []⟩ = pure () := ha
    show wpAny _ A.in1 (Bind.checkArgs id sig ⟨args, []⟩) _ _ s
    rw [h2]; exact wpAny_pure hc
def shiftP (P : Nat → Value → Prop) : Nat → Value → Prop := fun i v => ∃ j, i = j + 1 ∧ P j v
def shiftS (T : Nat → Shared → Prop) : Nat → Shared → Prop := fun i s => ∃ j, i = j + 1 ∧ T j s
def shiftV (c : Int) (val : Nat → Int) : Nat → Int
  | 0 => c
  | i + 1 => val i
theorem shift_pre (c : Int) (val : Nat → Int) : ∀ n, preSum (shiftV c val) (n + 1) = c + preSum val n
  | 0 => by simp [preSum, shiftV]
  | n + 1 => by
    have := shift_pre c val n
    rw [preSum, this]
    simp only [preSum, shiftV]
    omega
theorem shift_walk {I : Addr} {fp wr : List Addr} {G : Array GenState → Array GenState → Prop} {n : Nat} {P : Nat → Value → Prop} {T : Nat → Shared → Prop} (W : WalksS prog w A I fp wr G n P T) :
    WalksS prog w A I fp wr G (n + 1) (shiftP P) (shiftS T) where
  sub := W.sub
  grefl := W.grefl
  gtrans := W.gtrans
  frame := fun i s h' tk ⟨j, e, st⟩ ht hk => ⟨j, e, W.frame j s h' tk st ht hk⟩
  item := fun i s Q E hi ⟨j, e, st⟩ hQ => W.item j s Q E (by omega) st fun v s' hP st' hm => hQ v s' ⟨j, e, hP⟩ ⟨j + 1, by omega, st'⟩ hm
  done := fun s Q E ⟨_, e, st⟩ hQ => W.done s Q E (Nat.succ.inj e ▸ st) hQ
  self := fun i s Q E ⟨j, _, st⟩ hQ => W.self j s Q E st hQ
/-- sum(it, start) over what a generator yields -/
theorem b_sum2 {I : Addr} {fp wr : List Addr} {G : Array GenState → Array GenState → Prop} {n : Nat} {P : Nat → Value → Prop} {T : Nat → Shared → Prop} {val : Nat → Int} {c : Int} {tc : Tok} {R : Result → Shared → Prop} (W : WalksS prog w A.in1 I fp wr G n P T)
    (hst : T 0 s) (hfp : ∀ b ∈ fp, b < s.heap.objs.size) (hval : ∀ i v, P i v → ∃ t, v = .int (val i) t)
    (hR : ∀ s' t', Moved wr G s s' → R (.ok (.ret (.int (c + preSum val n) t'))) s') : codeAny (model prog w) A (.call (.builtin "sum") ⟨[.ref I, .int c tc], []⟩) R s := by
  refine b_fun F.kind_sum F.plain_sum F.entry_sum (by unfold argsOk; kernel_rfl) ?_
  unfold Builtin.«sum»
  simp only [List.length_cons, List.length_nil]
  rw [if_neg (by decide)]
  refine wpAny_bind (wpAny_of_eq (show Builtin.Builtins.bindParams "sum" ["start"] 0 ⟨[.int c tc], []⟩ = pure [some (.int c tc)] from rfl) ?_)
  refine wpAny_bind (W.self 0 s _ _ hst ?_)
  have hSf : s.heap.objs.size ∉ fp := fun hm => Nat.lt_irrefl _ (hfp _ hm)
  have W' := shift_walk W
  have val' : ∀ i v, shiftP P i v → ∃ t, v = .int (shiftV c val i) t := fun i v ⟨j, e, hP⟩ => by subst e; exact hval j v hP
  have fin : ∀ (t0 : Tok) (k : Nat) (st : Int), (st = 0 ∨ st = 2) → s.toks ≤ k → wpAny (model prog w) A.in1 (do again (.builtin "sum.loop" ⟨[.ref I, ← newList [.int c t0], rawInt st, rawInt 0], []⟩))
      (fun fin s' => match fin with | .done f => R (.ok f) s' | .again c' => c'.quiet = true ∧ codeAny (model prog w) A c' R s') (fun e s' => R (.error e) s') { s with toks := k } := by
    intro t0 k st h2 hk
    refine wpAny_bind (wpAny_newObj_type ?_)
    refine wpAny_pure ⟨plainId_quiet F.plain_sum_loop _, codeAny_sum_loopAnyS W' (shiftV c val) val' s.heap.objs.size hSf n 1 _ t0 0 st h2 (by omega) (by omega)
      (W'.frame 1 s _ _ ⟨0, rfl, hst⟩ hk fun b _ o e => Heap.get?_push_of_some _ e) ?_ fun s' t' hm => ?_⟩
    · have : preSum (shiftV c val) 1 = c := by simp [preSum, shiftV]
      rw [this]; exact Heap.get?_push_size _ rfl
    · rw [shift_pre]; exact hR s' t' (hm.drop_new hk)
  simp only [List.forIn_cons, List.forIn_nil]
  split
  · refine wpAny_bind (wpAny_rule ?_)
    refine wpAny_bind (wpAny_mkInt ?_)
    refine wpAny_bind (wpAny_pure ?_)
    refine wpAny_bind (wpAny_bind (wpAny_bind (wpAny_isInstance (T := "int") (b := false) (typeIs_int _ _ _) PySem.sub_int_str ?_)))
    simp only [Bool.false_eq_true, if_false]
    refine wpAny_pure (wpAny_bind (wpAny_bind (wpAny_isInstance (T := "int") (b := false) (typeIs_int _ _ _) sub_int_bytes ?_)))
    simp only [Bool.false_eq_true, if_false]
    refine wpAny_pure (wpAny_bind (wpAny_bind (wpAny_isInstance (T := "int") (b := false) (typeIs_int _ _ _) sub_int_bytearray ?_)))
    simp only [Bool.false_eq_true, if_false]
    refine wpAny_pure (wpAny_pure ?_)
    exact fin s.toks (s.toks + 1) 0 (.inl rfl) (Nat.le_succ _)
  · refine wpAny_bind (wpAny_pure ?_)
    refine wpAny_bind (wpAny_bind (wpAny_bind (wpAny_isInstance (T := "int") (b := false) (typeIs_int _ _ _) PySem.sub_int_str ?_)))
    simp only [Bool.false_eq_true, if_false]
    refine wpAny_pure (wpAny_bind (wpAny_bind (wpAny_isInstance (T := "int") (b := false) (typeIs_int _ _ _) sub_int_bytes ?_)))
    simp only [Bool.false_eq_true, if_false]
    refine wpAny_pure (wpAny_bind (wpAny_bind (wpAny_isInstance (T := "int") (b := false) (typeIs_int _ _ _) sub_int_bytearray ?_)))
    simp only [Bool.false_eq_true, if_false]
    refine wpAny_pure (wpAny_pure ?_)
    exact fin tc s.toks 2 (.inr rfl) (Nat.le_refl _)
end
end Mine
namespace Mine
structure Part where
  x : Str
  y : Str
  t : Tok
  u : Tok
  T : Addr
def Part.o (p : Part) : Obj := tupO [.str p.x p.t, .str p.y p.u]
def plen : List Part → Int
  | [] => 0
  | p :: ps => (p.x.length : Int) + p.y.length + plen ps
def PartsIn (g : Heap) (ps : List Part) : Prop := ∀ p ∈ ps, g.get? p.T = some p.o
def accP (ps : List Part) (n : Nat) (d : Addr) : Obj := accO (ps.map fun p => .ref p.T) n d
section
variable {O : OsState} {w : World} {A : Around} {E : Value → Shared → Prop} {s : Shared} {g h h' : Heap} {f : Addr} {m : Str → Option Value} {L : List (Addr × Obj)} {env : Env}
theorem TabAt.extBut {h h' : Heap} {c P a : Addr} (x : TabAt w h c P) (he : Heap.ExtBut a h h') (hc : c ≠ a) (hP : P ≠ a) : TabAt w h' c P := by
  obtain ⟨m, x, y⟩ := x
  exact ⟨m, x.extBut he hc hP, y.extBut he hc hP⟩
theorem St.code (S : St O w g f m L h so sg) {c P : Addr} {ps : Array Value} (he : Heap.ExtBut P h h') (hok : h'.IsCode c P (tab w P ++ ps)) (htab : h'.TableAt c P (tab w P ++ ps)) (hc : (c = 166 ∧ P = 162) ∨ (c = 173 ∧ P = 169) ∨ (c = 210 ∧ P = 206)) : St O w g f m L h' so sg := by
  have hP : isTab P = true := by rcases hc with ⟨_, rfl⟩ | ⟨_, rfl⟩ | ⟨_, rfl⟩ <;> rfl
  have hle := isTab_le hP
  have big : ∀ b : Addr, 245 < b → b ≠ P := fun b hb q => by rw [q] at hb; exact absurd (Nat.lt_of_lt_of_le hb hle) (by decide)
  refine ⟨S.kg, fun b o e => he b o (fun q => ?_) (S.keep b o e), S.ns.extBut he (big _ S.fb), S.fg, S.fb, fun p hp => ?_, S.nd, ?_⟩
  · rw [q, S.kg.hid P hP] at e; cases e
  · have z := S.has p hp
    exact ⟨he _ _ (big _ z.2.2.1) z.1, z.2⟩
  · obtain ⟨t1, t2, t3, t4, t5⟩ := S.tb
    rcases hc with ⟨rfl, rfl⟩ | ⟨rfl, rfl⟩ | ⟨rfl, rfl⟩
    · exact ⟨⟨_, hok, htab⟩, t2.extBut he (by decide) (by decide), t3.extBut he (by decide) (by decide), t4, t5⟩
    · exact ⟨t1.extBut he (by decide) (by decide), ⟨_, hok, htab⟩, t3.extBut he (by decide) (by decide), t4, t5⟩
    · exact ⟨t1.extBut he (by decide) (by decide), t2.extBut he (by decide) (by decide), ⟨_, hok, htab⟩, t4, t5⟩
theorem St.regen (S : St O w g f m L h so sg) {so' : OsState} {sg' : Array GenState} (ho : so' = so) (hb : AllBare sg') : St O w g f m L h so' sg' :=
  ⟨S.kg, S.keep, S.ns, S.fg, S.fb, S.has, S.nd, S.tb.t1, S.tb.t2, S.tb.t3, ho.trans S.tb.os, hb⟩
theorem gen_code {env : Env} {c P : Addr} {ps : Array Value} {pos : Pos} {qualname : Str} {scope : Scope} {Q : Value → Shared → Prop} (hc : env.code = .ref c) (hok : s.heap.IsCode c P (tab w P ++ ps)) (htab : s.heap.TableAt c P (tab w P ++ ps))
    (hQ : ∀ code h' tk ps', Heap.ExtBut P s.heap h' → h'.IsCode c P (tab w P ++ ps') → h'.TableAt c P (tab w P ++ ps') → Q code { s with heap := h', toks := tk }) :
    wpAny (model prog w) A (genexprCode env pos qualname scope) Q E s := by
  cases hf : codeAmong pos (tab w P ++ ps).toList with
  | none =>
    refine wpAny_genexprCodeX hc hok htab hf fun c' h' tk he _ _ hok' _ htab' _ => ?_
    rw [Array.append_assoc] at hok' htab'
    exact hQ _ h' tk _ he hok' htab'
  | some c' => exact wpAny_genexprCode_hit hc hok hf (hQ c' s.heap s.toks ps (fun _ _ _ e => e) hok htab)
theorem acc_size {a d : Addr} {its : List Value} {n : Nat} {t : Tok} {hs c : Int} {tc : Tok} {Q : Value → Shared → Prop} (S : St O w g f m L s.heap s.os s.gens) (ho : s.heap.get? a = some (accO its n d)) (hd : s.heap.get? d = some (accD t hs (.int c tc)))
    (h : ∀ k, s.toks ≤ k → Q (.int c tc) { s with toks := k }) : wpAny (model prog w) A (getAttr (.ref a) (Str.ofString "_initial_size") true) Q E s := by
  walk_at "raw"
  refine x_fresh ?_
  have S : St O w g f m L ({ s with toks := s.toks + 1 } : Shared).heap ({ s with toks := s.toks + 1 } : Shared).os ({ s with toks := s.toks + 1 } : Shared).gens := S
  have ho : ({ s with toks := s.toks + 1 } : Shared).heap.get? a = some (accO its n d) := ho
  have hd : ({ s with toks := s.toks + 1 } : Shared).heap.get? d = some (accD t hs (.int c tc)) := hd
  walk_at "raw"
  repeat walk_at "stx"
  refine x_call ?_ (by intro h; cases h)
  refine cb (id := "list.__getattribute__") (by kernel_rfl) ?_
  refine b_acc "list.__getattribute__" "__getattribute__" Builtin.«object.__getattribute__» S ho p_lga am_entry_list_getattribute (.inr k_lga) s_lga (a_lga _ _) ?_
  walk_at "raw"
  repeat walk_at "stx"
  refine wpAny_pure ?_
  walk_at "raw"
  exact wpAny_pure (h _ (Nat.le_succ _))
theorem bi_for {Q : Addr → Shared → Prop} (S : St O w g f m L s.heap s.os s.gens) (h : Q 0 s) : wpAny (model prog w) A (builtinsFor 3 0) Q E s := by
  unfold builtinsFor nsGet
  refine wpAny_bind (wpAny_bind (wpAny_loadPart S.g3 ?_))
  rw [show nsLook (Str.ofString "__builtins__") (o3 w) = pure (some (.ref 4)) by kernel_rfl]
  refine wpAny_pure ?_
  walk_at "raw"
  repeat walk_at "stx"
  exact wpAny_pure h
theorem g_sum (w : World) : nsLook (Str.ofString "sum") (o3 w) = pure none ∧ nsLook (Str.ofString "sum") (o0 w) = pure (some (.builtin "sum")) := ⟨by kernel_rfl, by kernel_rfl⟩
theorem g_len (w : World) : nsLook (Str.ofString "len") (o3 w) = pure none ∧ nsLook (Str.ofString "len") (o0 w) = pure (some (.builtin "len")) := ⟨by kernel_rfl, by kernel_rfl⟩
end
end Mine
namespace Mine
theorem tab_init {w : World} {h : Heap} {c P : Addr} (t0 : tab w P = #[]) {o : Obj} (ho : h.get? c = some o) {vs : Array Value} (hd : o.data = .fields vs) {file : Str} {tf : Tok} {flags : Int} {tg : Tok} {inF : Bool} {text : Int} {tt : Tok}
    (h11 : vs.getD 11 .none = .ref P) (h18 : vs.getD 18 .none = .str file tf) (h7 : vs.getD 7 .none = .int flags tg) (h9 : vs.getD 9 .none = .bool inF) (h10 : vs.getD 10 .none = .int text tt)
    (hcls : o.cls = .type "code") (h11' : vs[11]? = some (.ref P)) (hP : h.get? P = some { cls := .none, data := .fields #[] }) (hne : c ≠ P) : TabAt w h c P := by
  refine ⟨#[], ?_⟩
  rw [t0]
  exact ⟨⟨o, vs, file, tf, flags, tg, inF, text, tt, _, ho, hd, h11, h18, h7, h9, h10, hP, rfl, trivial, hne⟩, ⟨o, vs, ho, hcls, hd, h11'⟩, hP⟩
theorem t162 (w : World) : tab w 162 = #[] := by kernel_rfl
theorem t169 (w : World) : tab w 169 = #[] := by kernel_rfl
theorem t206 (w : World) : tab w 206 = #[] := by kernel_rfl
theorem init_tabs {w : World} {h : Heap} (KX : (KF w).In h) {os : OsState} {gens : Array GenState} (hg : gens = #[]) : TabOk os w h os gens := by
  subst hg
  refine ⟨?_, ?_, ?_, rfl, AllBare.empty⟩
  · exact tab_init (t162 w) (KX 166 _ (by rfl)) (by rfl) (by rfl) (by rfl) (by rfl) (by rfl) (by rfl) (by rfl) (by rfl) (KX 162 _ (by rfl)) (by decide)
  · exact tab_init (t169 w) (KX 173 _ (by rfl)) (by rfl) (by rfl) (by rfl) (by rfl) (by rfl) (by rfl) (by rfl) (by rfl) (KX 169 _ (by rfl)) (by decide)
  · exact tab_init (t206 w) (KX 210 _ (by rfl)) (by rfl) (by rfl) (by rfl) (by rfl) (by rfl) (by rfl) (by rfl) (by rfl) (KX 206 _ (by rfl)) (by decide)
theorem init_kin {w : World} {h : Heap} (KX : (KF w).In h) (lim : h.NoLimit) (hsz : 245 < h.objs.size) : Kin w (hideAll h [162, 169, 206]) where
  objs := fun a o ht e => hideAll_get _ (KX a o e) fun q => by
    simp only [List.mem_cons, List.not_mem_nil, or_false] at q
    rcases q with rfl | rfl | rfl <;> exact absurd ht (by decide)
  hid := fun a ht => hideAll_none _ (by
    unfold isTab at ht
    simp only [Bool.or_eq_true, beq_iff_eq] at ht
    rcases ht with (e | e) | e <;> rw [e] <;> simp)
  sz := by rw [hideAll_size]; exact hsz
  lim := by
    obtain ⟨mc, ⟨o, es, ep, e, r⟩, z⟩ := lim
    refine ⟨mc, ⟨o, es, ep, hideAll_get _ e ?_, r⟩, z⟩
    decide
/-- what was there is there, as it was but for the tables, that have grown -/
theorem end_old {O : OsState} {w : World} {h0 h : Heap} {so : OsState} {sg : Array GenState} (KX : (KF w).In h0) (le : ∀ b o, (hideAll h0 [162, 169, 206]).get? b = some o → h.get? b = some o) (S : TabOk O w h so sg) : OldK h0 h := by
  have tb : ∀ {c P : Addr}, tab w P = #[] → TabAt w h c P → TabAt w h0 c P → h0.get? P = some { cls := .none, data := .fields #[] } → asItWas h0 h P { cls := .none, data := .fields #[] } ∧ ∃ o', h.get? P = some o' := by
    rintro c P t0 ⟨m, _, _, y⟩ ⟨m0, _, z⟩ hP
    rw [t0] at y
    exact ⟨.inr (.inl ⟨z.isCodeTable, rfl, #[], m, rfl, by rw [y]⟩), _, y⟩
  have T0 := init_tabs KX (os := O) (gens := #[]) rfl
  have a1 := tb (t162 w) S.t1 T0.t1 (KX 162 _ (by rfl))
  have a2 := tb (t169 w) S.t2 T0.t2 (KX 169 _ (by rfl))
  have a3 := tb (t206 w) S.t3 T0.t3 (KX 206 _ (by rfl))
  have e1 : h0.get? 162 = some { cls := .none, data := .fields #[] } := KX 162 _ (by rfl)
  have e2 : h0.get? 169 = some { cls := .none, data := .fields #[] } := KX 169 _ (by rfl)
  have e3 : h0.get? 206 = some { cls := .none, data := .fields #[] } := KX 206 _ (by rfl)
  refine ⟨fun b o e => ?_, fun b o e => ?_⟩
  · by_cases q : b ∈ [162, 169, 206]
    · simp only [List.mem_cons, List.not_mem_nil, or_false] at q
      rcases q with rfl | rfl | rfl
      · rw [e1] at e; injection e with e; subst e; exact a1.1
      · rw [e2] at e; injection e with e; subst e; exact a2.1
      · rw [e3] at e; injection e with e; subst e; exact a3.1
    · exact .inl (le _ _ (hideAll_get _ e q))
  · by_cases q : b ∈ [162, 169, 206]
    · simp only [List.mem_cons, List.not_mem_nil, or_false] at q
      rcases q with rfl | rfl | rfl
      · exact a1.2
      · exact a2.2
      · exact a3.2
    · exact ⟨o, le _ _ (hideAll_get _ e q)⟩
theorem ints_are : ∀ {vs : List Value} {ns : List Int}, IntsAre vs ns → ∃ l : List (Int × Tok), vs = l.map (fun p => Value.int p.1 p.2) ∧ l.map (·.1) = ns
  | _, _, .nil => ⟨[], rfl, rfl⟩
  | _, _, .cons n t r => by
    obtain ⟨l, rfl, rfl⟩ := ints_are r
    exact ⟨(n, t) :: l, rfl, rfl⟩
/-- into the law from the very start -/
theorem enter0 {O : OsState} {w : World} {A : Around} {s : Shared} {R : Result → Shared → Prop} {n : Nat} {fa : Addr} {oc : Value} {od : Option Addr} {osl : Array (Option Value)} {fd : FuncData} {body : List Stmt} {args : Args} (binds : List (Str × Value))
    (KX : (KF w).In s.heap) (lim : s.heap.NoLimit) (hsz : 245 < s.heap.objs.size) (tb : TabOk O w s.heap s.os s.gens) (r : Rm (n + 1) A) (ho : s.heap.get? fa = some ⟨oc, od, .func fd, osl⟩) (hcd : s.heap.CodeRec fd.code fd.qualname) (hbody : fd.body = .stmts body) (hbind : BindsTo s fd args binds)
    (hcell : ∀ x ∈ fd.scope.names, x.2 ≠ .cell) (hloc : ∀ x ∈ binds, fd.scope.names.lookup x.1 = some .local)
    (h : ∀ f' s' A', Rm n A' → St O w (hideAll s.heap [162, 169, 206]) f' (fun x => binds.reverse.lookup x) [] s'.heap s'.os s'.gens →
      wpAny (model prog w) A' (execs body (callEnv fd f' fa)) (fun fl s'' => R (.ok (.ret (match fl with | .ret v => v | _ => .none))) s'') (fun _ _ => False) s')
    (hco : fd.scope.isCoroutine = false := by rfl) (hgen : fd.scope.isGenerator = false := by rfl) (hk : fd.scope.kind = .function := by rfl) :
    codeAny (model prog w) A (.call (.ref fa) args) R s := by
  refine codeAny_call_def r.room ho rfl lim hcd hbody hbind hcell hloc (fun h₀ hns hk₀ => ?_) hco hgen hk
  have gsz : (hideAll s.heap [162, 169, 206]).objs.size = s.heap.objs.size := hideAll_size _ _
  refine wpAny_mono (h s.heap.objs.size { s with heap := h₀, toks := s.toks + binds.length } (A.deeper (callEnv fd s.heap.objs.size fa)) r.deeper ⟨init_kin KX lim hsz, fun b o e => hk₀ _ _ (of_hideAll _ e), hns, ?_, hsz, (fun p hp => nomatch hp), List.nodup_nil, tb.mono fun b o _ e => hk₀ _ _ e⟩) (fun _ _ q => q) fun _ _ q => q.elim
  cases q : (hideAll s.heap [162, 169, 206]).get? s.heap.objs.size with
  | none => rfl
  | some o => exact absurd (gsz ▸ Heap.lt_size q) (Nat.lt_irrefl _)
end Mine
namespace Mine
section
variable {O : OsState} {w : World} {A : Around} {E : Value → Shared → Prop} {s : Shared} {g h h' : Heap} {f : Addr} {m : Str → Option Value} {L : List (Addr × Obj)} {env : Env}
theorem q_builtin {x : Str} {pos : Pos} {v : Value} {Q : Value → Shared → Prop} (e3 : s.heap.get? 3 = some (o3 w)) (e0 : s.heap.get? 0 = some (o0 w)) (h3 : nsLook x (o3 w) = pure none) (h0 : nsLook x (o0 w) = pure (some v)) (h : Q v s)
    (he : env.globals = 3) (hb : env.builtins = 0) (hk : env.scope.kind = .function) (hl : env.kindOf x = some .globalImplicit) (hd : (x == ("__debug__" : Str)) = false := by rfl) : wpAny (model prog w) A (eval (.Name x pos) env) Q E s := by
  refine wpAny_Name (loadGlobal_of ?_ hk hl) hd
  unfold loadGlobal nsGet
  rw [he, hb]
  refine wpAny_bind (wpAny_bind (wpAny_loadPart e3 ?_))
  rw [h3]
  refine wpAny_pure ?_
  refine wpAny_bind (wpAny_bind (wpAny_loadPart e0 ?_))
  rw [h0]
  exact wpAny_pure (wpAny_pure h)
/-- len(name) of a text held by a name -/
theorem q_len {x : Str} {t : Tok} {nm : Str} {p1 p2 p3 : Pos} {Q : Value → Shared → Prop} (e3 : s.heap.get? 3 = some (o3 w)) (e0 : s.heap.get? 0 = some (o0 w)) (hn : s.heap.Ns env.locals m) (hv : m nm = some (.str x t)) (hx : x.length < 1000000)
    (he : env.globals = 3) (hb : env.builtins = 0) (hk : env.scope.kind = .function) (hl : env.kindOf (Str.ofString "len") = some .globalImplicit) (hl' : env.kindOf nm = some .local) (hd : (nm == ("__debug__" : Str)) = false)
    (h : ∀ k u, s.toks ≤ k → Q (.int x.length u) { s with toks := k }) : wpAny (model prog w) A (eval (.Call (.Name (Str.ofString "len") p1) [.Name nm p2] [] p3) env) Q E s := by
  refine wpAny_Call_NameR (q_builtin e3 e0 (g_len w).1 (g_len w).2 ?_ he hb hk hl)
  refine Calls.callWith_builtin rfl ?_
  refine r_args1 (wpAny_Name (wpAny_loadName_local hk hl' hn hv ?_) hd)
  refine r_item0 ?_
  exact P.len_str (by omega) (h _ _ (by omega))
theorem len_elt {x y : Str} {t u : Tok} {p1 p2 p3 p4 p5 p6 p7 : Pos} (e3 : s.heap.get? 3 = some (o3 w)) (e0 : s.heap.get? 0 = some (o0 w)) (hn : s.heap.Ns env.locals m) (hv : m (Str.ofString "fws") = some (.str x t)) (hv' : m (Str.ofString "part") = some (.str y u))
    (hx : x.length < 1000000) (hy : y.length < 1000000)
    (he : env.globals = 3) (hb : env.builtins = 0) (hk : env.scope.kind = .function) (hl : env.kindOf (Str.ofString "len") = some .globalImplicit) (hl' : env.kindOf (Str.ofString "fws") = some .local) (hl'' : env.kindOf (Str.ofString "part") = some .local) :
    wpAny (model prog w) A (eval (.BinOp (.Call (.Name (Str.ofString "len") p1) [.Name (Str.ofString "fws") p2] [] p3) .Add (.Call (.Name (Str.ofString "len") p4) [.Name (Str.ofString "part") p5] [] p6) p7) env)
      (fun v s' => (∃ tk, v = .int ((x.length : Int) + y.length) tk) ∧ Keeps s s') E s := by
  refine wpAny_BinOp (q_len e3 e0 hn hv hx he hb hk hl hl' rfl fun k u hk' => ?_)
  refine q_len (m := m) e3 e0 hn hv' hy he hb hk hl hl'' rfl fun k' u' hk'' => ?_
  exact P.add_int ⟨⟨_, rfl⟩, ⟨_, _, rfl, fun _ _ e => e⟩⟩
end
end Mine
namespace Mine
section
variable {O : OsState} {w : World} {A : Around} {E : Value → Shared → Prop} {s : Shared} {g h h' : Heap} {f : Addr} {m : Str → Option Value} {L : List (Addr × Obj)} {env : Env}
theorem r_AttrN {x attr : Str} {p pos : Pos} {Q : Value → Shared → Prop} (h : wpAny (model prog w) A (eval (.Name x p) env) (fun o s₁ => wpAny (model prog w) A (getAttr o attr true) Q E s₁) E s) :
    wpAny (model prog w) A (eval (.Attribute (.Name x p) attr pos) env) Q E s := by
  rw [arm_eval_Attribute]
  refine wpAny_bind (wpAny_mono (show wpAny (model prog w) A (attributeBase (.Name x p) attr env (eval (.Name x p) env)) _ E s from h) (fun o s₁ q => ?_) fun _ _ e => e)
  exact wpAny_bind (wpAny_standAt (wpAny_bind (wpAny_holding (wpAny_mono q (fun r s₂ q => wpAny_bind (wpAny_pure (wpAny_pure q))) fun _ _ e => e))))
theorem St.tail {p : Addr × Obj} (S : St O w g f m (p :: L) h so sg) : St O w g f m L h so sg :=
  ⟨S.kg, S.keep, S.ns, S.fg, S.fb, fun q hq => S.has q (.tail _ hq), (List.nodup_cons.mp (by have := S.nd; rwa [List.map_cons] at this)).2, S.tb⟩
theorem St.head_off {p : Addr × Obj} (S : St O w g f m (p :: L) h so sg) : ∀ q ∈ L, q.1 ≠ p.1 := fun q hq e =>
  (List.nodup_cons.mp (by have := S.nd; rwa [List.map_cons] at this)).1 (by rw [← e]; exact List.mem_map_of_mem (f := (·.1)) hq)
/-- what lies outside is changed -/
theorem St.moved (S : St O w g f m L h so sg) {wr : List Addr} (hk : ∀ b o, b ∉ wr → h.get? b = some o → h'.get? b = some o) (hw : ∀ b ∈ wr, g.get? b = none ∧ 245 < b ∧ b ≠ f ∧ ∀ p ∈ L, p.1 ≠ b) : St O w g f m L h' so sg := by
  obtain ⟨o, es, ep, ho, r⟩ := S.ns
  refine ⟨S.kg, fun b o e => hk b o (fun q => ?_) (S.keep b o e), ⟨o, es, ep, hk _ _ (fun q => (hw _ q).2.2.1 rfl) ho, r⟩, S.fg, S.fb, fun p hp => ?_, S.nd, S.tb.mono fun b o hb e => hk b o (fun q => ?_) e⟩
  · rw [(hw _ q).1] at e; cases e
  · have z := S.has p hp
    exact ⟨hk _ _ (fun q => (hw _ q).2.2.2 p hp rfl) z.1, z.2⟩
  · exact absurd (Nat.lt_of_lt_of_le (hw _ q).2.1 hb) (Nat.lt_irrefl _)
def vlen (ps : List Part) (k : Nat) : Int := ((ps[k]?).map fun p => (p.x.length : Int) + p.y.length).getD 0
theorem pre_congr {u v : Nat → Int} : ∀ n, (∀ k, k < n → u k = v k) → preSum u n = preSum v n
  | 0, _ => rfl
  | n + 1, h => by rw [preSum, preSum, pre_congr n fun k hk => h k (by omega), h n (by omega)]
theorem pre_shift (v : Nat → Int) : ∀ n, preSum v (n + 1) = v 0 + preSum (fun k => v (k + 1)) n
  | 0 => by simp [preSum]
  | n + 1 => by rw [preSum, pre_shift v n, preSum]; omega
theorem pre_vlen : ∀ ps : List Part, preSum (vlen ps) ps.length = plen ps
  | [] => rfl
  | p :: ps => by
    rw [List.length_cons, pre_shift]
    have e : (fun k => vlen (p :: ps) (k + 1)) = vlen ps := by funext k; simp [vlen]
    rw [e, pre_vlen ps, plen]
    simp [vlen]
theorem range_at {n q k : Nat} (e : (List.range n)[q]? = some k) : q = k := by
  obtain ⟨_, e⟩ := List.getElem?_eq_some_iff.mp e
  simpa using e
theorem passing_all (n : Nat) : passing (fun _ => true) n 0 = List.range n := by simp [passing]
def Tsf (ps : List Part) (k : Nat) : Addr := ((ps[k]?).map (·.T)).getD 0
def valf (ps : List Part) (k : Nat) : Array Value := ((ps[k]?).map fun p => #[Value.str p.x p.t, Value.str p.y p.u]).getD #[.none, .none]
theorem parts_at {ps : List Part} {k : Nat} (hk : k < ps.length) : ∃ p, p ∈ ps ∧ ps[k]? = some p ∧ Tsf ps k = p.T ∧ valf ps k = #[Value.str p.x p.t, Value.str p.y p.u] ∧ vlen ps k = (p.x.length : Int) + p.y.length := by
  have e : ps[k]? = some ps[k] := by simp [hk]
  exact ⟨ps[k], List.getElem_mem hk, e, by simp [Tsf, e], by simp [valf, e], by simp [vlen, e]⟩
theorem len_spec {i j : Nat} {acc d : Addr} {ps : List Part} {n : Nat} {t : Tok} {hs c : Int} {tc : Tok} {R : Result → Shared → Prop} (S : St O w g f m L s.heap s.os s.gens) (r : Rm 8 A)
    (hi : L[i]? = some (acc, accP ps n d)) (hj : L[j]? = some (d, accD t hs (.int c tc))) (hp : PartsIn g ps) (hx : ∀ p ∈ ps, p.x.length < 1000000 ∧ p.y.length < 1000000)
    (h : ∀ t' s', St O w g f m L s'.heap s'.os s'.gens → R (.ok (.ret (.int (c + plen ps) t'))) s') : codeAny (model prog w) A (.call (.ref 167) ⟨[.ref acc], []⟩) R s := by
  refine call_at [(Str.ofString "self", .ref acc)] S r (by rfl) (by rfl) (by rfl) (by rfl) (by rfl) (by rfl) (by rfl) (by rfl) (by kernel_rfl) (by kernel_rfl) (by kernel_rfl) (by rfl) (by rfl) (by rfl) ?_
  intro g' f' s1 A' r' le S1 back
  walk_at "env"
  refine r_execs_cons (wpAny_Return_some ?_)
  refine wpAny_Call_NameR (r_builtin S1 (g_sum w).1 (g_sum w).2 ?_)
  refine r_callB rfl ?_
  refine r_args1 ?_
  refine wpAny_GeneratorExp_walksQT r'.hd rfl rfl (by decide) rfl rfl rfl (by decide) rfl r'.room ?_ (fun _ => rfl)
  refine r_local S1 rfl ?_
  refine acc_iter S1 (S1.get i hi) (S1.get j hj) fun I s2 S2 => ?_
  refine ⟨S2.lim, ?_⟩
  obtain ⟨psT, hok, htab⟩ := S2.tb.t1
  refine gen_code (c := 166) (P := 162) rfl hok htab fun code h3 tk psT' he hok' htab' => ?_
  have S3 := S2.code he hok' htab' (.inl ⟨rfl, rfl⟩)
  refine bi_for (s := { s2 with heap := h3, toks := tk }) S3 ?_
  have hI := S3.has _ (.head _)
  have hacc := S3.get (i + 1) hi
  have hsz : (ps.map fun p => Value.ref p.T).toArray.size = ps.length := by simp
  have hT : ∀ k, k < ps.length → ∃ p, p ∈ ps ∧ ps[k]? = some p ∧ Tsf ps k = p.T ∧ valf ps k = #[Value.str p.x p.t, Value.str p.y p.u] ∧ vlen ps k = (p.x.length : Int) + p.y.length := fun k hk => parts_at hk
  have hTg : ∀ p ∈ ps, g'.get? p.T = some p.o := fun p hm => le _ _ (hp p hm)
  refine ⟨I, _, _, _, _, _, _, fun _ => true, fun k y => ∃ tk, y = .int (vlen ps k) tk, rfl, fun A'' hA => (walk_tuples hA I acc (S3.head_off _ (List.mem_of_getElem? hi)) (ps.map fun p => Value.ref p.T).toArray (Tsf ps) (valf ps) ?hit ?hTI).bound, ?h2, ⟨⟨_, hI.1, rfl, rfl⟩, ⟨_, _, hacc, rfl⟩, ?hst⟩, ?hfp, S3.lim, ?hcs, ?hq, ?hgo⟩
  case hit =>
    intro k hk
    obtain ⟨p, _, e, eT, _⟩ := hT k (hsz ▸ hk)
    rw [eT]; simp [e]
  case hTI =>
    intro k hk q
    obtain ⟨p, hm, _, eT, _⟩ := hT k (hsz ▸ hk)
    have z := hTg p hm
    rw [← eT, q, hI.2.1] at z; cases z
  case h2 =>
    rintro k v ⟨_, e⟩
    rw [e, valf]
    cases ps[k]? with
    | none => exact ⟨_, _, rfl⟩
    | some p => exact ⟨_, _, rfl⟩
  case hst =>
    intro k hk
    obtain ⟨p, hm, _, eT, eV, _⟩ := hT k (hsz ▸ hk)
    rw [eT, eV]
    exact ⟨_, S3.keep _ _ (hTg p hm), rfl, _, rfl⟩
  case hfp =>
    intro b hb
    rcases List.mem_cons.mp hb with rfl | hb
    · exact Heap.lt_size hI.1
    rcases List.mem_cons.mp hb with rfl | hb
    · exact Heap.lt_size hacc
    obtain ⟨k, hk, rfl⟩ := List.mem_map.mp hb
    obtain ⟨p, hm, _, eT, _⟩ := hT k (hsz ▸ List.mem_range.mp hk)
    rw [eT]
    exact Heap.lt_size (S3.keep _ _ (hTg p hm))
  case hcs =>
    intro q
    have z : 245 < I := hI.2.2.1
    rw [← List.mem_singleton.mp q] at z
    exact absurd z (by decide)
  case hq =>
    intro href hk
    refine ⟨fun A'' E' k va vb s5 m5 _ _ _ _ _ _ => wpAny_pure ⟨rfl, ⟨_, _, rfl, fun _ _ e => e⟩⟩, fun A'' E' k va vb s5 m5 _ hP _ hn ha hb hkeep => ?_⟩
    obtain ⟨p, hm, _, _, eV, eL⟩ := hT k (hsz ▸ hP.1)
    have e := hP.2.trans eV
    injection e with e
    injection e with e1 e
    injection e with e2 _
    subst e1 e2
    have low : ∀ (b : Addr) (o : Obj), b < 245 → h3.get? b = some o → s5.heap.get? b = some o := fun b o hlow e => hkeep b (List.mem_range.mpr (Heap.lt_size e)) (fun q => by
      have z : 245 < I := hI.2.2.1
      rw [← List.mem_singleton.mp q] at z
      exact absurd (Nat.lt_trans z hlow) (Nat.lt_irrefl _)) o (hk _ _ e)
    rw [eL]
    exact len_elt (low 3 _ (by decide) S3.g3) (low 0 _ (by decide) S3.g0) hn ha hb (hx p hm).1 (hx p hm).2 rfl rfl rfl rfl rfl rfl
  case hgo =>
    intro a h5 tk5 gs hgb hlt hsz5 hk5 W G0
    have S5 : St O w g' f' (fun x => List.lookup x [(Str.ofString "self", Value.ref acc)].reverse) ((I, itO acc 0) :: L) h5 s2.os (s2.gens.push gs) := (S3.keeps hk5).regen rfl (AllBare.push S3.tb.bare hgb)
    refine r_item (r_AttrN (r_local (s := { s2 with heap := h5, toks := tk5, gens := s2.gens.push gs }) S5 rfl ?_))
    refine acc_size (s := { s2 with heap := h5, toks := tk5, gens := s2.gens.push gs }) S5 (S5.get (i + 1) hi) (S5.get (j + 1) hj) fun k6 hk6 => ?_
    refine r_item0 ?_
    have W1 := WalksS.in4_1 W
    refine b_sum2 (val := vlen ps) W1 (W1.frame 0 _ h5 k6 G0 hk6 fun _ _ _ e => e) ?_ ?_ fun s' t' hm => ?_
    · intro b hb
      show b < h5.objs.size
      rw [hsz5]
      rcases List.mem_cons.mp hb with rfl | hb
      · exact Nat.lt_succ_self _
      rcases List.mem_cons.mp hb with rfl | hb
      · exact Nat.lt_succ_of_lt hlt
      · exact Nat.lt_succ_of_lt (Nat.lt_trans (List.mem_range.mp hb) hlt)
    · rintro q v ⟨k, e, tk', ev⟩
      rw [passing_all] at e
      have this := range_at e
      subst this
      exact ⟨tk', ev⟩
    · rw [passing_all, List.length_range, hsz, pre_vlen]
      refine h t' s' (back _ _ _ (St.regen (S5.tail.moved hm.heap fun b hb => ?_) hm.os (AllBare.moved (AllBare.push S3.tb.bare hgb) hm.gens)))
      rcases List.mem_cons.mp hb with rfl | hb
      · refine ⟨S3.gnone (get_size h3), Nat.lt_trans S3.fbig S3.fsz, Nat.ne_of_gt S3.fsz, fun p hp => Nat.ne_of_lt (Heap.lt_size (S3.has p (.tail _ hp)).1)⟩
      · rw [List.mem_singleton.mp hb]
        exact ⟨hI.2.1, hI.2.2.1, hI.2.2.2, fun p hp => S3.head_off p hp⟩
end
end Mine
namespace Mine
section
variable {O : OsState} {w : World} {A : Around} {E : Value → Shared → Prop} {s : Shared} {g h h' : Heap} {f : Addr} {m : Str → Option Value} {L : List (Addr × Obj)} {env : Env}
theorem g_empty (w : World) : nsLook (Str.ofString "EMPTYSTRING") (o3 w) = pure (some (.str (Str.ofString "") 321)) := by kernel_rfl
theorem q_global {x : Str} {pos : Pos} {v : Value} {Q : Value → Shared → Prop} (e3 : s.heap.get? 3 = some (o3 w)) (h3 : nsLook x (o3 w) = pure (some v)) (h : Q v s) (he : env.globals = 3)
    (hk : env.scope.kind = .function) (hl : env.kindOf x = some .globalImplicit) (hd : (x == ("__debug__" : Str)) = false := by rfl) : wpAny (model prog w) A (eval (.Name x pos) env) Q E s := by
  refine wpAny_Name (loadGlobal_of ?_ hk hl) hd
  unfold loadGlobal nsGet
  rw [he]
  refine wpAny_bind (wpAny_bind (wpAny_loadPart e3 ?_))
  rw [h3]
  exact wpAny_pure (wpAny_pure h)
/-- join of a tuple of texts -/
theorem q_joinT {D : Addr} {x : Str} {t : Tok} {l : List (Str × Tok)} {Q : Value → Shared → Prop} (hl : s.heap.IsTuple D (strValues l).toArray) (hok : JoinOk x (l.map (·.1)) = true)
    (hq : ∀ t' k, Q (.str (Txt.join x (l.map (·.1))) t') { s with toks := k }) : wpAny (model prog w) A (call (.builtin "str.join") [.str x t, .ref D]) Q E s := by
  unfold JoinOk at hok
  rw [Bool.not_eq_true'] at hok
  exact call_meets F.slot_str_join (typeIs_str _ _ _) F.entry_str_join (F.args_str_join_2 _ _) (meets_str_join_tuple x t D l hok) ⟨(let ⟨o, e, c, n, d⟩ := hl; ⟨o, n, e, c, d⟩), post_join l ⟨joinFit_length hok, hq⟩⟩
theorem join_ok {sep : Str} {texts : List Str} (h : (texts.map (·.length)).sum + texts.length * sep.length ≤ sizeLine) : JoinOk sep texts = true := by
  unfold JoinOk
  rw [StrLaws.joinTotal, Bool.not_eq_true']
  exact decide_eq_false (Nat.not_lt.mpr h)
theorem join_ok2 {x y : Str} {t u : Tok} (hx : x.length < 1000000) (hy : y.length < 1000000) : JoinOk (Str.ofString "") ([(x, t), (y, u)].map (·.1)) = true := by
  refine join_ok ?_
  have e : (Str.ofString "").length = 0 := by decide +kernel
  simp [e, sizeLine]
  omega
theorem str_elt {x y : Str} {t u : Tok} {p1 p2 p3 p4 p5 p6 : Pos} {k : Nat} (e3 : s.heap.get? 3 = some (o3 w)) (hn : s.heap.Ns env.locals m) (hv : m (Str.ofString "fws") = some (.str x t)) (hv' : m (Str.ofString "part") = some (.str y u))
    (hx : x.length < 1000000) (hy : y.length < 1000000)
    (he : env.globals = 3) (hk : env.scope.kind = .function) (hl : env.kindOf (Str.ofString "EMPTYSTRING") = some .globalImplicit) (hl' : env.kindOf (Str.ofString "fws") = some .local) (hl'' : env.kindOf (Str.ofString "part") = some .local) (hline : (p2.endLine == p6.line) = true) :
    wpAny (model prog w) A (eval (.Call (.Attribute (.Name (Str.ofString "EMPTYSTRING") p1) (Str.ofString "join") p2) [.Tuple [.Name (Str.ofString "fws") p3, .Name (Str.ofString "part") p4] k p5] [] p6) env)
      (fun v s' => (∃ tk, v = .str (Txt.join (Str.ofString "") [x, y]) tk) ∧ Keeps s s') E s := by
  refine r_CallM (q_global e3 (g_empty w) ?_ he hk hl) rfl rfl hline
  with_reducible refine gm_join ?_
  refine Calls.callWith_builtin rfl ?_
  refine r_args1 ?_
  refine wpAny_Tuple ?_
  refine r_item (wpAny_Name (wpAny_loadName_local hk hl' hn hv ?_))
  refine r_item (wpAny_Name (wpAny_loadName_local hk hl'' hn hv' ?_))
  refine r_item0 ⟨by simp [sizeLine], ?_⟩
  refine r_item0 ?_
  refine q_joinT (l := [(x, t), (y, u)]) ⟨_, Heap.get?_push_size _ rfl, rfl, _, rfl⟩ (join_ok2 hx hy) fun t' k' => ?_
  exact ⟨⟨_, rfl⟩, ⟨_, _, rfl, fun _ _ e => Heap.get?_push_of_some _ e⟩⟩
theorem walk_cast {I : Addr} {fp wr : List Addr} {G : Array GenState → Array GenState → Prop} {n n' : Nat} {P P' : Nat → Value → Prop} {T : Nat → Shared → Prop} (W : WalksS prog w A I fp wr G n P T) (hn : n = n') (hP : ∀ i v, P i v → P' i v) :
    WalksS prog w A I fp wr G n' P' T := by
  subst hn
  exact ⟨W.sub, W.grefl, W.gtrans, W.frame, fun i s Q E hi st hQ => W.item i s Q E hi st fun v s' hp => hQ v s' (hP _ _ hp), W.done, W.self⟩
/-- a generator over an accumulator's parts is made -/
theorem gen_acc {i j : Nat} {acc d : Addr} {ps : List Part} {n : Nat} {t : Tok} {hs : Int} {sz : Value} {elt : Expr} {p1 p2 p3 p4 pos : Pos} {kt : Nat} {scope : Scope} {c P : Addr} {Q : Value → Shared → Prop} (FF : Nat → Value → Prop)
    (S : St O w g f m L s.heap s.os s.gens) (r : Rm 3 A) (hi : L[i]? = some (acc, accP ps n d)) (hj : L[j]? = some (d, accD t hs sz)) (hp : PartsIn g ps) (hv : m (Str.ofString "self") = some (.ref acc))
    (he : env.locals = f) (hk : env.scope.kind = .function) (hl : env.kindOf (Str.ofString "self") = some .local) (hg : env.globals = 3) (hb : env.builtins = 0) (hc : env.code = .ref c) (hcP : (c = 166 ∧ P = 162) ∨ (c = 173 ∧ P = 169) ∨ (c = 210 ∧ P = 206))
    (hco : scope.isCoroutine = false) (hclos : closureFor scope env = pure []) (hcell : ∀ y ∈ scope.names, y.2 ≠ .cell) (h0 : scope.names.lookup (Str.ofString ".0") = some NameKind.local)
    (hxa : scope.names.lookup (Str.ofString "fws") = some .local) (hxb : scope.names.lookup (Str.ofString "part") = some .local) (hkind : scope.kind = .function)
    (helt : ∀ (A' : Around) E' k p (s₂ : Shared) m₂ C code, ps[k]? = some p → p ∈ ps → s₂.heap.Ns C m₂ → m₂ (Str.ofString "fws") = some (.str p.x p.t) → m₂ (Str.ofString "part") = some (.str p.y p.u) → s₂.heap.get? 3 = some (o3 w) → s₂.heap.get? 0 = some (o0 w) →
      wpAny (model prog w) A' (eval elt (genEnv scope [] C code 0 env)) (fun y s₃ => FF k y ∧ Keeps s₂ s₃) E' s₂)
    (hgo : ∀ a s₂ wr fp G T I, St O w g f m ((I, itO acc 0) :: L) s₂.heap s₂.os s₂.gens → WalksS prog w A.in4 a fp wr G ps.length FF T → T 0 s₂ → (∀ b ∈ fp, b < s₂.heap.objs.size) → a ∈ fp → (∀ k s', T k s' → s'.TypeIs (.ref a) "generator") →
      (∀ s' : Shared, (∀ b o, b ∉ wr → s₂.heap.get? b = some o → s'.heap.get? b = some o) → s'.os = s₂.os → G s₂.gens s'.gens → St O w g f m L s'.heap s'.os s'.gens) → Q (.ref a) s₂) :
    wpAny (model prog w) A (eval (.GeneratorExp elt [⟨.Tuple [.Name (Str.ofString "fws") p1, .Name (Str.ofString "part") p2] kt p3, .Name (Str.ofString "self") p4, [], 0⟩] scope pos) env) Q E s := by
  refine wpAny_GeneratorExp_walksQT r.hd hco hclos hcell h0 hxa hxb (by decide) hkind r.room ?_ (fun _ => rfl)
  refine r_local S hv ?_ he hk hl
  refine acc_iter S (S.get i hi) (S.get j hj) fun I s2 S2 => ?_
  refine ⟨S2.lim, ?_⟩
  have hok : TabAt w s2.heap c P := by
    rcases hcP with ⟨rfl, rfl⟩ | ⟨rfl, rfl⟩ | ⟨rfl, rfl⟩
    · exact S2.tb.t1
    · exact S2.tb.t2
    · exact S2.tb.t3
  obtain ⟨psT, hok, htab⟩ := hok
  refine gen_code hc hok htab fun code h3 tk psT' he' hok' htab' => ?_
  have S3 := S2.code he' hok' htab' hcP
  rw [hg, hb]
  refine bi_for (s := { s2 with heap := h3, toks := tk }) S3 ?_
  have hI := S3.has _ (.head _)
  have hacc := S3.get (i + 1) hi
  have hsz : (ps.map fun p => Value.ref p.T).toArray.size = ps.length := by simp
  have hT : ∀ k, k < ps.length → ∃ p, p ∈ ps ∧ ps[k]? = some p ∧ Tsf ps k = p.T ∧ valf ps k = #[Value.str p.x p.t, Value.str p.y p.u] ∧ vlen ps k = (p.x.length : Int) + p.y.length := fun k hk => parts_at hk
  refine ⟨I, _, _, _, _, _, _, fun _ => true, FF, rfl, fun A'' hA => (walk_tuples hA I acc (S3.head_off _ (List.mem_of_getElem? hi)) (ps.map fun p => Value.ref p.T).toArray (Tsf ps) (valf ps) ?hit ?hTI).bound, ?h2, ⟨⟨_, hI.1, rfl, rfl⟩, ⟨_, _, hacc, rfl⟩, ?hst⟩, ?hfp, S3.lim, ?hcs, ?hq, ?hgo⟩
  case hit =>
    intro k hk
    obtain ⟨p, _, e, eT, _⟩ := hT k (hsz ▸ hk)
    rw [eT]; simp [e]
  case hTI =>
    intro k hk q
    obtain ⟨p, hm, _, eT, _⟩ := hT k (hsz ▸ hk)
    have z := hp p hm
    rw [← eT, q, hI.2.1] at z; cases z
  case h2 =>
    rintro k v ⟨_, e⟩
    rw [e, valf]
    cases ps[k]? with
    | none => exact ⟨_, _, rfl⟩
    | some p => exact ⟨_, _, rfl⟩
  case hst =>
    intro k hk
    obtain ⟨p, hm, _, eT, eV, _⟩ := hT k (hsz ▸ hk)
    rw [eT, eV]
    exact ⟨_, S3.keep _ _ (hp p hm), rfl, _, rfl⟩
  case hfp =>
    intro b hb
    rcases List.mem_cons.mp hb with rfl | hb
    · exact Heap.lt_size hI.1
    rcases List.mem_cons.mp hb with rfl | hb
    · exact Heap.lt_size hacc
    obtain ⟨k, hk, rfl⟩ := List.mem_map.mp hb
    obtain ⟨p, hm, _, eT, _⟩ := hT k (hsz ▸ List.mem_range.mp hk)
    rw [eT]
    exact Heap.lt_size (S3.keep _ _ (hp p hm))
  case hcs =>
    intro q
    have z : 245 < I := hI.2.2.1
    rw [← List.mem_singleton.mp q] at z
    exact absurd z (by decide)
  case hq =>
    intro href hk
    refine ⟨fun A'' E' k va vb s5 m5 _ _ _ _ _ _ => wpAny_pure ⟨rfl, ⟨_, _, rfl, fun _ _ e => e⟩⟩, fun A'' E' k va vb s5 m5 _ hP _ hn ha hb hkeep => ?_⟩
    obtain ⟨p, hm, ek, _, eV, eL⟩ := hT k (hsz ▸ hP.1)
    have e := hP.2.trans eV
    injection e with e
    injection e with e1 e
    injection e with e2 _
    subst e1 e2
    have low : ∀ (b : Addr) (o : Obj), b < 245 → h3.get? b = some o → s5.heap.get? b = some o := fun b o hlow e => hkeep b (List.mem_range.mpr (Heap.lt_size e)) (fun q => by
      have z : 245 < I := hI.2.2.1
      rw [← List.mem_singleton.mp q] at z
      exact absurd (Nat.lt_trans z hlow) (Nat.lt_irrefl _)) o (hk _ _ e)
    exact helt A'' E' k p s5 m5 _ code ek hm hn ha hb (low 3 _ (by decide) S3.g3) (low 0 _ (by decide) S3.g0)
  case hgo =>
    intro a h5 tk5 gs hgb hlt hsz5 hk5 W G0
    have S5 : St O w g f m ((I, itO acc 0) :: L) h5 s2.os (s2.gens.push gs) := (S3.keeps hk5).regen rfl (AllBare.push S3.tb.bare hgb)
    refine hgo a { s2 with heap := h5, toks := tk5, gens := s2.gens.push gs } _ _ _ _ I S5 (walk_cast W (by rw [passing_all, List.length_range, hsz]) ?_) G0 ?_ (.head _) ?_ fun s' hk' ho' hG' => ?_
    · rintro q v ⟨k, e, ev⟩
      rw [passing_all] at e
      have this := range_at e
      subst this
      exact ev
    · intro b hb
      show b < h5.objs.size
      rw [hsz5]
      rcases List.mem_cons.mp hb with rfl | hb
      · exact Nat.lt_succ_self _
      rcases List.mem_cons.mp hb with rfl | hb
      · exact Nat.lt_succ_of_lt hlt
      · exact Nat.lt_succ_of_lt (Nat.lt_trans (List.mem_range.mp hb) hlt)
    · intro k s' hT'
      obtain ⟨o, x, y, ho, hc, _⟩ := hT'.1
      exact ⟨o, ho, hc⟩
    · refine St.regen (S5.tail.moved hk' fun b hb => ?_) ho' (AllBare.moved (AllBare.push S3.tb.bare hgb) hG')
      rcases List.mem_cons.mp hb with rfl | hb
      · refine ⟨S3.gnone (get_size h3), Nat.lt_trans S3.fbig S3.fsz, Nat.ne_of_gt S3.fsz, fun p hp => Nat.ne_of_lt (Heap.lt_size (S3.has p (.tail _ hp)).1)⟩
      · rw [List.mem_singleton.mp hb]
        exact ⟨hI.2.1, hI.2.2.1, hI.2.2.2, fun p hp => S3.head_off p hp⟩
def pt (p : Part) : Str := Txt.join (Str.ofString "") [p.x, p.y]
def ptext (ps : List Part) : Str := Txt.join (Str.ofString "") (ps.map pt)
def txtf (ps : List Part) (k : Nat) : Str := ((ps[k]?).map pt).getD (Str.ofString "")
theorem items_are {ps : List Part} {l : List (Str × Tok)} (h : ItemsOf (fun k y => ∃ tk, y = Value.str (txtf ps k) tk) (strValues l).toArray ps.length) : l.map (·.1) = ps.map pt := by
  have hl : l.length = ps.length := by have := h.1; simpa [strValues] using this
  apply List.ext_getElem?
  intro k
  by_cases hk : k < ps.length
  · have hk' : k < l.length := by omega
    obtain ⟨tk, e⟩ := h.2 k (.str l[k].1 l[k].2) (by simp [strValues, hk'])
    injection e with e _
    simp only [List.getElem?_map, List.getElem?_eq_getElem hk, List.getElem?_eq_getElem hk', Option.map_some]
    rw [e, txtf, List.getElem?_eq_getElem hk]; rfl
  · rw [List.getElem?_eq_none (by rw [List.length_map]; omega), List.getElem?_eq_none (by rw [List.length_map]; omega)]
theorem len_empty : (Str.ofString "").length = 0 := by decide +kernel
theorem pt_len {p : Part} (hx : p.x.length < 1000) (hy : p.y.length < 1000) : (pt p).length ≤ 2000 := by
  have h := StrLaws.join_length_le (Str.ofString "") [p.x, p.y]
  have e : pt p = Str.join (Str.ofString "") [p.x, p.y] := StrLaws.glued_eq_join _ _
  rw [e]
  simp [len_empty] at h
  omega
theorem sum_le {ps : List Part} : (∀ p ∈ ps, p.x.length < 1000 ∧ p.y.length < 1000) → ((ps.map pt).map (·.length)).sum ≤ 2000 * ps.length := by
  induction ps with
  | nil => intro _; simp
  | cons p ps ih =>
    intro h
    have h1 := pt_len (h p (.head _)).1 (h p (.head _)).2
    have h2 := ih fun q hq => h q (.tail _ hq)
    simp only [List.map_cons, List.sum_cons, List.length_cons]
    omega
theorem str_spec {i j : Nat} {acc d : Addr} {ps : List Part} {n : Nat} {t : Tok} {hs : Int} {sz : Value} {R : Result → Shared → Prop} (S : St O w g f m L s.heap s.os s.gens) (r : Rm 8 A)
    (hi : L[i]? = some (acc, accP ps n d)) (hj : L[j]? = some (d, accD t hs sz)) (hp : PartsIn g ps) (hx : ∀ p ∈ ps, p.x.length < 1000 ∧ p.y.length < 1000) (hn : ps.length ≤ 1000)
    (h : ∀ t' s', St O w g f m L s'.heap s'.os s'.gens → R (.ok (.ret (.str (ptext ps) t'))) s') : codeAny (model prog w) A (.call (.ref 174) ⟨[.ref acc], []⟩) R s := by
  refine call_at [(Str.ofString "self", .ref acc)] S r (by rfl) (by rfl) (by rfl) (by rfl) (by rfl) (by rfl) (by rfl) (by rfl) (by kernel_rfl) (by kernel_rfl) (by kernel_rfl) (by rfl) (by rfl) (by rfl) ?_
  intro g' f' s1 A' r' le S1 back
  walk_at "env"
  refine r_execs_cons (wpAny_Return_some ?_)
  refine r_CallM (r_global S1 (g_empty w) ?_)
  with_reducible refine gm_join ?_
  refine Calls.callWith_builtin rfl ?_
  refine r_args1 ?_
  refine gen_acc (fun k y => ∃ tk, y = Value.str (txtf ps k) tk) S1 (r'.le (by decide)) hi hj (fun p hm => le _ _ (hp p hm)) rfl rfl rfl rfl rfl rfl rfl (.inr (.inl ⟨rfl, rfl⟩)) rfl rfl (by decide) rfl rfl rfl rfl ?_ ?_
  · intro A'' E' k p s2 m2 C code ek hm hn' ha hb e3 e0
    have e : txtf ps k = pt p := by simp [txtf, ek]
    rw [e]
    exact str_elt e3 hn' ha hb (Nat.lt_trans (hx p hm).1 (by decide)) (Nat.lt_trans (hx p hm).2 (by decide)) rfl rfl rfl rfl rfl rfl
  · intro a s2 wr fp G T I S2 W T0 hfp ha hTy hback
    refine r_item0 ?_
    refine SC.joinGen (WalksS.in4_2 W) hTy T0 hfp ha (fun k v ⟨tk, e⟩ => ⟨_, _, e⟩) (fun s' l hm hl => ?_) (Nat.le_trans hn (by decide))
    rw [items_are hl]
    refine ⟨join_ok ?_, fun t' k => h t' _ (back _ _ _ (hback _ hm.heap hm.os hm.gens))⟩
    have := sum_le hx
    rw [len_empty, Nat.mul_zero, Nat.add_zero]
    refine Nat.le_trans this (Nat.le_trans (Nat.mul_le_mul_left 2000 hn) (by decide))
end
end Mine
namespace Mine
section
variable {α : Type} {O : OsState} {w : World} {A : Around} {E : Value → Shared → Prop} {s : Shared} {Q : α → Shared → Prop} {g : Heap} {f : Addr} {m : Str → Option Value} {L : List (Addr × Obj)} {env : Env}
/-- into a call, the running code known (super) -/
theorem enterAt {R : Result → Shared → Prop} {n : Nat} {fa : Addr} {oc : Value} {od : Option Addr} {osl : Array (Option Value)} {fd : FuncData} {body : List Stmt} {args : Args} (binds : List (Str × Value))
    (S : St O w g f m L s.heap s.os s.gens) (r : Rm (n + 1) A) (ho : s.heap.get? fa = some ⟨oc, od, .func fd, osl⟩) (hcd : s.heap.CodeRec fd.code fd.qualname) (hbody : fd.body = .stmts body) (hbind : BindsTo s fd args binds)
    (hcell : ∀ x ∈ fd.scope.names, x.2 ≠ .cell) (hloc : ∀ x ∈ binds, fd.scope.names.lookup x.1 = some .local)
    (h : ∀ g' f' s' A', Rm n A' → (∀ b o, g.get? b = some o → g'.get? b = some o) → St O w g' f' (fun x => binds.reverse.lookup x) L s'.heap s'.os s'.gens → (∀ m'' L'' h'' {so'' sg''}, St O w g' f' m'' L'' h'' so'' sg'' → St O w g f m L'' h'' so'' sg'') →
      _root_.PySem.wpAt (model prog w) A' (.func body (callEnv fd f' fa)) (execs body (callEnv fd f' fa)) (fun fl s'' => R (.ok (.ret (match fl with | .ret v => v | _ => .none))) s'') (fun _ _ => False) s')
    (hco : fd.scope.isCoroutine = false := by rfl) (hgen : fd.scope.isGenerator = false := by rfl) (hk : fd.scope.kind = .function := by rfl) :
    codeAny (model prog w) A (.call (.ref fa) args) R s := by
  refine ks_codeAny_call_defAt r.room ho rfl S.lim hcd hbody hbind hcell hloc (fun h₀ hns hk₀ => ?_) hco hgen hk
  have hideL : ∀ b o, g.get? b = some o → b ∉ [162, 169, 206] ++ L.map (·.1) := fun b o e q => by
    rcases List.mem_append.mp q with q | q
    · have : isTab b = true := by simp at q; rcases q with rfl | rfl | rfl <;> rfl
      rw [S.kg.hid b this] at e; cases e
    · obtain ⟨p, hp, rfl⟩ := List.mem_map.mp q
      rw [(S.has p hp).2.1] at e; cases e
  have hf : f ∉ [162, 169, 206] ++ L.map (·.1) := fun q => by
    have z := S.fbig
    rcases List.mem_append.mp q with q | q
    · simp at q
      rcases q with e | e | e <;> rw [e] at z <;> exact absurd z (by decide)
    · obtain ⟨p, hp, e⟩ := List.mem_map.mp q
      exact (S.has p hp).2.2.2 e
  let g' := hideAll s.heap ([162, 169, 206] ++ L.map (·.1))
  have st : ∀ b o, g.get? b = some o → g'.get? b = some o := fun b o e => hideAll_get _ (S.keep b o e) (hideL b o e)
  have gsz : g'.objs.size = s.heap.objs.size := hideAll_size _ _
  have kg : Kin w g' := ⟨fun a o ht e => st _ _ (S.kg.objs a o ht e), fun a ht => hideAll_none _ (by unfold isTab at ht; simp only [Bool.or_eq_true, beq_iff_eq] at ht; rcases ht with (e | e) | e <;> rw [e] <;> simp), by rw [gsz]; exact Nat.lt_trans S.fbig S.fsz, S.kg.lim.keeps st⟩
  have S' : St O w g' s.heap.objs.size (fun x => binds.reverse.lookup x) L h₀ s.os s.gens := ⟨kg, fun b o e => hk₀ _ _ (of_hideAll _ e), hns, (by
      cases q : g'.get? s.heap.objs.size with
      | none => rfl
      | some o => exact absurd (gsz ▸ Heap.lt_size q) (Nat.lt_irrefl _)), Nat.lt_trans S.fbig S.fsz,
    fun p hp => ⟨hk₀ _ _ (S.has p hp).1, hideAll_none _ (List.mem_append_right _ (List.mem_map_of_mem hp)), (S.has p hp).2.2.1, Nat.ne_of_lt (Heap.lt_size (S.has p hp).1)⟩, S.nd, S.tb.mono fun b o _ e => hk₀ _ _ e⟩
  refine ks_wpAt_mono (h g' s.heap.objs.size { s with heap := h₀, toks := s.toks + binds.length } (A.deeper (callEnv fd s.heap.objs.size fa)) r.deeper st S' ?_) (fun _ _ q => q) fun _ _ q => q.elim
  intro m'' L'' h'' so'' sg'' S''
  obtain ⟨oF, es, ep, hF, rF⟩ := S.ns
  have hFg : g'.get? f = some oF := hideAll_get _ hF hf
  refine ⟨S.kg, fun b o e => S''.keep _ _ (st _ _ e), ⟨oF, es, ep, S''.keep _ _ hFg, rF⟩, S.fg, S.fb, fun p hp => ?_, S''.nd, S''.tb⟩
  have z := S''.has p hp
  refine ⟨z.1, ?_, z.2.2.1, fun q => ?_⟩
  · cases q : g.get? p.1 with
    | none => rfl
    | some o => rw [st _ _ q] at z; exact nomatch z.2.1
  · rw [q, hFg] at z; exact nomatch z.2.1
theorem call_atS {R : Result → Shared → Prop} {n : Nat} {fa : Addr} {body : List Stmt} {args : Args} (binds : List (Str × Value)) (S : St O w g f m L s.heap s.os s.gens) (r : Rm (n + 1) A)
    (ho : (KF w).lookup fa = some ⟨.type "function", none, .func (fdAt w fa), #[]⟩) (ht : isTab fa = false) {c : Addr} {oc : Obj} {vs : Array Value} {t : Tok} (hc : (fdAt w fa).code = .ref c) (htc : isTab c = false) (hoc : (KF w).lookup c = some oc) (hvs : oc.data = .fields vs) (hq : vs[1]? = some (.str (fdAt w fa).qualname t))
    (hbody : (fdAt w fa).body = .stmts body) (hbind : bindArgs (fdAt w fa) args = pure binds)
    (hcell : ((fdAt w fa).scope.names.all fun x => decide (x.2 ≠ .cell)) = true) (hloc : (binds.all fun x => decide ((fdAt w fa).scope.names.lookup x.1 = some .local)) = true)
    (hco : (fdAt w fa).scope.isCoroutine = false) (hgen : (fdAt w fa).scope.isGenerator = false) (hk : (fdAt w fa).scope.kind = .function)
    (h : ∀ g' f' s' A', Rm n A' → (∀ b o, g.get? b = some o → g'.get? b = some o) → St O w g' f' (fun x => binds.reverse.lookup x) L s'.heap s'.os s'.gens → (∀ m'' L'' h'' {so'' sg''}, St O w g' f' m'' L'' h'' so'' sg'' → St O w g f m L'' h'' so'' sg'') →
      _root_.PySem.wpAt (model prog w) A' (.func body (callEnv (fdAt w fa) f' fa)) (execs body (callEnv (fdAt w fa) f' fa)) (fun fl s'' => R (.ok (.ret (match fl with | .ret v => v | _ => .none))) s'') (fun _ _ => False) s') :
    codeAny (model prog w) A (.call (.ref fa) args) R s :=
  enterAt binds S r (S.k ho ht) ⟨c, oc, vs, t, hc, S.k hoc htc, hvs, hq⟩ hbody (BindsTo.of_eq hbind) (fun x hx => of_decide_eq_true (List.all_eq_true.mp hcell x hx)) (fun x hx => of_decide_eq_true (List.all_eq_true.mp hloc x hx)) h hco hgen hk

theorem g_super (w : World) : nsLook (Str.ofString "super") (o3 w) = pure none ∧ nsLook (Str.ofString "super") (o0 w) = pure (some (.type "super")) := ⟨by kernel_rfl, by kernel_rfl⟩
theorem l_builtin {x : Str} {v : Value} {Q : Value → Shared → Prop} (S : St O w g f m L s.heap s.os s.gens) (h3 : nsLook x (o3 w) = pure none) (h0 : nsLook x (o0 w) = pure (some v)) (h : Q v s) (he : env.globals = 3 := by rfl)
    (hb : env.builtins = 0 := by rfl) (hk : env.scope.kind = .function := by rfl) (hl : env.kindOf x = some .globalImplicit := by rfl) : wpAny (model prog w) A (loadName env x) Q E s := by
  refine loadGlobal_of ?_ hk hl
  unfold loadGlobal nsGet
  rw [he, hb]
  refine wpAny_bind (wpAny_bind (wpAny_loadPart S.g3 ?_))
  rw [h3]
  refine wpAny_pure ?_
  refine wpAny_bind (wpAny_bind (wpAny_loadPart S.g0 ?_))
  rw [h0]
  exact wpAny_pure (wpAny_pure h)
def supO (x : Addr) : Obj := { cls := .type "super", dict := none, data := .fields #[.ref 200, .ref x, .ref 200], slots := #[] }
theorem St.kept {h' : Heap} {q : Addr} {o : Obj} {h : Heap} (S : St O w g f m L h so sg) (hq : q = h.objs.size) (ho : h'.get? q = some o) (k : ∀ b o, h.get? b = some o → h'.get? b = some o) : St O w g f m ((q, o) :: L) h' so sg := by
  have S' := S.keeps k
  subst hq
  refine ⟨S'.kg, S'.keep, S'.ns, S'.fg, S'.fb, fun p hp => ?_, ?_, S'.tb⟩
  · rcases List.mem_cons.mp hp with rfl | hp
    · exact ⟨ho, S.gnone (get_size h), Nat.lt_trans S.fbig S.fsz, Nat.ne_of_gt S.fsz⟩
    · exact S'.has p hp
  · rw [List.map_cons, List.nodup_cons]
    refine ⟨fun q => ?_, S.nd⟩
    obtain ⟨p, hp, e⟩ := List.mem_map.mp q
    have z := Heap.lt_size (S.has p hp).1
    rw [e] at z
    exact Nat.lt_irrefl _ z
/-- super() in a method of _Accumulator -/
theorem super_node {fa : Addr} {body : List Stmt} {p0 p1 : Pos} {attr : Str} {whole : Sem Value} {acc d : Addr} {its : List Value} {n : Nat} {Q : Value → Shared → Prop} {ar : Arg} {of oc : Obj} {cc : Addr} {vs : Array Value} {tf : Tok} {fd : FuncData}
    (S : St O w g f m L s.heap s.os s.gens) (ho : s.heap.get? acc = some (accO its n d)) (hv : m ar.arg = some (.ref acc)) (he : env.locals = f)
    (hks : env.kindOf (Str.ofString "super") = some .globalImplicit) (hkc : env.kindOf (Str.ofString "__class__") = some .free) (hat : (attr == ("__class__" : Str)) = false) (hfu : env.func = some fa) (hf : s.heap.get? fa = some of) (hfd : of.data = .func fd)
    (hp : (fd.params.posonlyargs ++ fd.params.args).head? = some ar) (hco : env.code = .ref cc) (hcc : s.heap.get? cc = some oc) (hoc : oc.data = .fields vs) (hvs : vs[2]? = some (.str (Str.ofString "/claim/cut.py") tf))
    (hg : env.globals = 3) (hb : env.builtins = 0) (hk : env.scope.kind = .function) (hcell : env.cells.lookup (Str.ofString "__class__") = some 124) (hka : env.kindOf ar.arg = some .local)
    (h : ∀ so s', St O w g f m ((so, supO acc) :: L) s'.heap s'.os s'.gens → Q (.ref so) s') :
    _root_.PySem.wpAt (model prog w) A (.func body env) (attributeBase (.Call (.Name (Str.ofString "super") p0) [] [] p1) attr env whole) Q E s := by
  refine ks_wpAt_super_base hks hkc hat hfu hf hfd hp hco hcc hoc hvs (by decide +kernel) (by decide +kernel) ?_
  refine l_builtin S (g_super w).1 (g_super w).2 ⟨rfl, ?_⟩ hg hb hk hks
  refine wpAny_loadName_free hk hkc hcell ⟨_, S.k (a := 124) rfl, rfl⟩ ?_
  refine wpAny_loadName_local hk hka (he ▸ S.ns) hv ?_
  obtain ⟨hh, gn, dr, tk, os⟩ := s
  refine ks_wpAny_isType_cls (S.k (a := 200) rfl) rfl ⟨rfl, ?_⟩
  refine ks_wpAny_call_super (C := 200) (S.k (a := 200) rfl) rfl ho rfl (fun c e => nomatch e) ?_ fun h' e k => ?_
  · intro A' Q' E' s' k q
    have S' := S.keeps k
    walk_at "raw"
    repeat walk_at "st"
    exact wpAny_pure q
  · exact h _ _ (S.kept rfl e k)
theorem ca {fv : Value} {args : Args} {args' : Args} {R : Result → Shared → Prop} (e : args' = args) (h : codeAny (model prog w) A (.call fv args) R s) : codeAny (model prog w) A (.call fv args') R s := e ▸ h
/-- a slot or a method of a built-in type, called with a value whose type is plain -/
theorem b_plain (id owner name : String) (b : Builtin) {self : Value} {r : List Value} {R : Result → Shared → Prop} (hp : plainId id = true) (hb : entryFor table id = some b) (hk : builtinKind id = some .method ∨ builtinKind id = some .slot)
    (hs : splitId id = some (owner, name)) (ha : argsOk id ⟨self :: r, []⟩) (hi : isInstance self (.type owner) = pure true)
    (h : wpAny (model prog w) A.in1 (b ⟨self :: r, []⟩) (fun fin s' => match fin with | .done f => R (.ok f) s' | .again c' => c'.quiet = true ∧ codeAny (model prog w) A c' R s') (fun e s' => R (.error e) s') s) :
    codeAny (model prog w) A (.call (.builtin id) ⟨self :: r, []⟩) R s := by
  refine codeAny_call_builtin hp hb ?_
  rcases hk with hk | hk
  · exact chk_method hk hs ha (by rw [hi]; exact wpAny_pure ⟨rfl, h⟩)
  · exact chk_slot hk hs ha (by rw [hi]; exact wpAny_pure ⟨rfl, h⟩)
theorem wd_p : plainId "wrapper_descriptor.__get__" = true := by decide +kernel
theorem wd_e : entryFor table "wrapper_descriptor.__get__" = some Builtin.«wrapper_descriptor.__get__» := entryFor_of_tree (by kernel_rfl)
theorem wd_k : builtinKind "wrapper_descriptor.__get__" = some .slot := by kernel_rfl
theorem wd_s : splitId "wrapper_descriptor.__get__" = some ("wrapper_descriptor", "__get__") := by kernel_rfl
theorem wd_a (x y z : Value) : argsOk "wrapper_descriptor.__get__" ⟨[x, y, z], []⟩ := by unfold argsOk; kernel_rfl
theorem wd_i : isInstance (.builtin "list.__len__") (.type "wrapper_descriptor") = pure true := by kernel_rfl
def bmO (kd : Bool) (id : String) (x : Addr) : Obj := { cls := .type (if kd then "method-wrapper" else "builtin_function_or_method"), data := .fields #[.builtin id, .ref x] }
abbrev mwO (id : String) (x : Addr) : Obj := bmO true id x
theorem sup_len {so acc d : Addr} {its : List Value} {n i : Nat} {pl : Sem Bool} {Q : Value × List Value → Shared → Prop} (S : St O w g f m ((so, supO acc) :: L) s.heap s.os s.gens) (hi : L[i]? = some (acc, accO its n d))
    (h : ∀ mw s', St O w g f m ((mw, mwO "list.__len__" acc) :: (so, supO acc) :: L) s'.heap s'.os s'.gens → Q (.ref mw, []) s') : wpAny (model prog w) A (getMethod (.ref so) (Str.ofString "__len__") pl) Q E s := by
  walk_at "raw"
  repeat walk_at "st"
  refine t_fresh S fun tk s1 S1 => ?_
  clear S
  have ho : s1.heap.get? acc = some (accO its n d) := S1.get (i + 1) hi
  have hne : ¬ (Value.ref acc == Value.ref 200) = true := fun q => by
    have z : 245 < acc := (S1.has _ (.tail _ (List.mem_of_getElem? hi))).2.2.1
    have e := Value.ref.inj (beq_iff_eq.mp q)
    rw [e] at z
    exact absurd z (by decide)
  walk_at "raw"
  repeat walk_at "st"
  refine x_call ?_ (by intro h; cases h)
  refine cb (id := "super.__getattribute__") (by kernel_rfl) ?_
  refine codeAny_call_builtin F.ks_slot_super_ga.plain F.ks_entry_super_ga ?_
  refine F.ks_slot_super_ga.check _ _ _ _ _ _ _ _ ⟨_, S1.get 0 rfl, rfl⟩ (F.ks_gaArgs_super _ _) ?_
  walk_at "raw"
  repeat walk_at "st"
  refine x_call ?_ (by intro h; cases h)
  refine cb (id := "wrapper_descriptor.__get__") (by kernel_rfl) ?_
  refine ca (args := ⟨[.builtin "list.__len__", .ref acc, .ref 200], []⟩) ?_ ?_
  · refine congrArg (fun l => (⟨l, []⟩ : Args)) (congr (congrArg List.cons ?_) (congr (congrArg List.cons ?_) rfl))
    · kernel_rfl
    · exact if_neg hne
  refine b_plain "wrapper_descriptor.__get__" "wrapper_descriptor" "__get__" Builtin.«wrapper_descriptor.__get__» wd_p wd_e (.inr wd_k) wd_s (wd_a _ _ _) wd_i ?_
  walk_at "raw"
  repeat walk_at "st"
  refine t_alloc S1 rfl fun mw s2 S2 => ?_
  walk_at "raw"
  refine wpAny_pure ?_
  walk_at "raw"
  refine wpAny_pure ?_
  walk_at "raw"
  exact wpAny_pure (h mw s2 S2)
theorem lenb_e : entryFor table "list.__len__" = some Builtin.«list.__len__» := entryFor_of_tree (by kernel_rfl)
theorem seq_size {its : List Value} {acc d : Addr} {n : Nat} {Q : Nat → Shared → Prop} (ho : s.heap.get? acc = some (accO its n d)) (h : Q its.length s) : wpAny (model prog w) A (seqSize acc) Q E s := by
  walk_at "raw"
  repeat walk_at "st"
  exact wpAny_pure (by rw [List.size_toArray]; exact h)
theorem r_callW {id : String} {x mw : Addr} {kd : Bool} {pos : Pos} {first : List Value} {args : List (Bool × Sem Value)} {Q : Value → Shared → Prop} (hs : args.any (·.1) = false)
    (h : wpAny (model prog w) A (evalArgs (.ref mw) true args []) (fun a s₁ => s₁.heap.get? mw = some (bmO kd id x) ∧
      codeAny (model prog w) A (.call (.ref mw) ⟨first ++ a.pos, a.kw⟩) (fun r s' => match r with | .ok (.ret v) => Q v s' | .ok _ => False | .error e => E e s') s₁) E s) :
    wpAny (model prog w) A (callWith pos (.ref mw) first args []) Q E s := by
  unfold callWith
  refine wpAny_bind (wpAny_holding (wpAny_mono h (fun a s₁ q => wpAny_bind (wpAny_standAt ?_)) fun _ _ e => e))
  rw [hs]
  refine wpAny_bind (m := keeperOf (.ref mw)) ?_
  unfold keeperOf
  refine wpAny_bind (wpAny_load q.1 ?_)
  cases kd
  all_goals refine wpAny_pure ?_
  all_goals refine wpAny_bind (wpAny_call (codeAny_mono q.2 fun r s' z => ?_))
  all_goals cases r with
  | error e => exact z
  | ok fl =>
    cases fl with
    | ret v => exact wpAny_bind (wpAny_holding (wpAny_point (wpAny_pure z)))
    | _ => exact z.elim
theorem call_bm {id : String} {x mw : Addr} {kd : Bool} {b : Builtin} {args : List Value} {R : Result → Shared → Prop} (ho : s.heap.get? mw = some (bmO kd id x)) (hp : plainId id = true) (hb : entryFor table id = some b) (hc : checkBoundCall id ⟨.ref x :: args, []⟩ = pure ())
    (h : wpAny (model prog w) A.in1 (b ⟨.ref x :: args, []⟩) (fun fin s' => match fin with | .done f => R (.ok f) s' | .again c' => c'.quiet = true ∧ codeAny (model prog w) A c' R s') (fun e s' => R (.error e) s') s) :
    codeAny (model prog w) A (.call (.ref mw) ⟨args, []⟩) R s := by
  refine x_code ?_
  show wpAny _ _ (callAny (.ref mw) ⟨args, []⟩) _ _ s
  unfold callAny
  refine wpAny_bind (wpAny_load ho ?_)
  have fin : wpAny (model prog w) (A.under (.call (.ref mw) ⟨args, []⟩)) (do checkBoundCall id ⟨.ref x :: args, []⟩; again (.builtin id ⟨.ref x :: args, []⟩)) (fun fin s' => match fin with | .done f => R (.ok f) s' | .again c' => c'.quiet = true ∧ codeAny (model prog w) A c' R s') (fun e s' => R (.error e) s') s := by
    rw [hc]
    refine wpAny_bind (wpAny_pure (wpAny_pure ⟨plainId_quiet hp _, codeAny_builtin hb ?_⟩))
    rw [Around.under_plainId hp _]
    exact h
  cases kd
  · exact fin
  · exact fin
theorem lenb_c (x : Addr) : checkBoundCall "list.__len__" ⟨[.ref x], []⟩ = pure () := by kernel_rfl
theorem lenb_p : plainId "list.__len__" = true := by decide +kernel
theorem part_count_spec {i : Nat} {acc d : Addr} {its : List Value} {n : Nat} {R : Result → Shared → Prop} (S : St O w g f m L s.heap s.os s.gens) (r : Rm 8 A)
    (hi : L[i]? = some (acc, accO its n d)) (hl : its.length < 1000)
    (h : ∀ t' s', St O w g f m L s'.heap s'.os s'.gens → R (.ok (.ret (.int its.length t'))) s') : codeAny (model prog w) A (.call (.ref 197) ⟨[.ref acc], []⟩) R s := by
  refine call_atS [(Str.ofString "self", .ref acc)] S r (by rfl) (by rfl) (by rfl) (by rfl) (by rfl) (by rfl) (by rfl) (by rfl) (by kernel_rfl) (by kernel_rfl) (by kernel_rfl) (by rfl) (by rfl) (by rfl) ?_
  intro g' f' s1 A' r' le S1 back
  refine ks_wpAt_execs_cons (ks_wpAt_Return_some ?_)
  refine ks_wpAt_MethodCall ?_
  refine super_node (ar := _) S1 (S1.get i hi) rfl rfl rfl rfl rfl rfl (S1.k (a := 197) rfl) rfl rfl rfl (S1.k (a := 196) rfl) rfl rfl rfl rfl rfl rfl rfl fun so s2 S2 => ?_
  refine sup_len S2 hi fun mw s3 S3 => ?_
  refine r_callW (id := "list.__len__") (x := acc) (kd := true) rfl (r_args0 ⟨S3.get 0 rfl, ?_⟩)
  refine call_bm (S3.get 0 rfl) lenb_p lenb_e (lenb_c acc) ?_
  refine wpAny_bind (wpAny_of_eq (a := (Value.ref acc, [])) (by rfl) ?_)
  refine wpAny_bind (seq_size (S3.get (i + 2) hi) ?_)
  refine wpAny_bind (m := mkInt _) (wpAny_mkInt (wpAny_pure ?_))
  exact h _ _ (back _ _ _ S3.tail.tail)
end
end Mine
namespace Mine
theorem k_get : builtinKind "list.__getitem__" = some .method := by kernel_rfl
theorem s_get : splitId "list.__getitem__" = some ("list", "__getitem__") := by kernel_rfl
theorem p_get : plainId "list.__getitem__" = true := by decide +kernel
theorem e_get : entryFor table "list.__getitem__" = some Builtin.«list.__getitem__» := entryFor_of_tree (by kernel_rfl)
theorem a_get (x y : Value) : argsOk "list.__getitem__" ⟨[x, y], []⟩ := PySem.F.args_list_getitem_2 x y
def slO (l u : Value) : Obj := { cls := .type "slice", data := .fields #[l, u, .none] }
section
variable {O : OsState} {w : World} {A : Around} {E : Value → Shared → Prop} {s : Shared} {g : Heap} {f : Addr} {m : Str → Option Value} {L : List (Addr × Obj)} {env : Env}
theorem acc_slice {i : Nat} {acc d sl : Addr} {its : List Value} {n : Nat} {vl vu : Value} {lo hi : Option Int} {Q : Value → Shared → Prop} (S : St O w g f m ((sl, slO vl vu) :: L) s.heap s.os s.gens) (hi' : L[i]? = some (acc, accO its n d)) (pl : IsPart vl lo) (pu : IsPart vu hi) (hl : its.length < 1000)
    (h : ∀ a s', St O w g f m ((a, lstO (slicePick its.toArray lo hi none).toList) :: (sl, slO vl vu) :: L) s'.heap s'.os s'.gens → Q (.ref a) s') : wpAny (model prog w) A (getItem (.ref acc) (.ref sl)) Q E s := by
  have ho := S.get (i + 1) hi'
  walk_at "raw"
  repeat walk_at "st"
  refine x_call ?_ (by intro h; cases h)
  refine cb (id := "list.__getitem__") (by kernel_rfl) ?_
  refine b_acc "list.__getitem__" "__getitem__" Builtin.«list.__getitem__» S ho p_get e_get (.inl k_get) s_get (a_get _ _) ?_
  have hsl : s.heap.get? sl = some (slO vl vu) := S.get 0 rfl
  have hTs : s.TypeIs (.ref sl) "slice" := ⟨_, hsl, rfl⟩
  refine wpAny_bind (wpAny_of_eq (a := (Value.ref acc, Value.ref sl)) (by rfl) ?_)
  refine wpAny_bind (m := Builtin.List.listSubscript? (.ref sl)) ?_
  unfold Builtin.List.listSubscript?
  refine wpAny_bind (wpAny_specialOf hTs slice_no_index ?_)
  simp only [Option.isNone_none, if_true]
  refine wpAny_pure ?_
  refine wpAny_bind (m := typeOf (.ref sl)) (wpAny_typeOf hTs ?_)
  rw [if_neg (by decide)]
  rw [listSliceParts_eq]
  refine wpAny_bind (wpAny_bind (wpAny_field hsl rfl (x := .none) rfl (wpAny_bind (wpAny_listPart .none ?_))))
  rw [if_neg (show ¬ ((rawPart none == rawInt 0) = true) from Bool.false_ne_true)]
  refine wpAny_bind (wpAny_field hsl rfl (x := vl) rfl (wpAny_bind (wpAny_listPart pl ?_)))
  refine wpAny_bind (wpAny_field hsl rfl (x := vu) rfl (wpAny_bind (wpAny_listPart pu (wpAny_pure ?_))))
  refine wpAny_bind (m := Builtin.List.listItems (.ref acc)) ?_
  unfold Builtin.List.listItems
  refine wpAny_bind (wpAny_seqItems ho rfl (wpAny_pure ?_))
  refine wpAny_bind (wpAny_of_eq (sliceIndices_raw lo hi none its.toArray.size (by simp)) ?_)
  refine wpAny_bind (wpAny_newObj_type (wpAny_pure ?_) (Nat.le_trans (slicePick_size_le its.toArray lo hi none) (by rw [List.size_toArray]; exact Nat.le_trans (Nat.le_of_lt hl) (by decide))))
  have S' := S.push (lstO (slicePick its.toArray lo hi none).toList) rfl
  dsimp only
  walk_at "raw"
  exact wpAny_pure (h _ _ S')
theorem pick_last {pre : List Value} {x : Value} : (slicePick (pre ++ [x]).toArray (some pre.length) none none).toList = [x] := by
  rw [slicePick_from']
  simp
theorem k_set : builtinKind "list.__setitem__" = some .slot := by kernel_rfl
theorem s_set : splitId "list.__setitem__" = some ("list", "__setitem__") := by kernel_rfl
theorem p_set : plainId "list.__setitem__" = true := by decide +kernel
theorem e_set : entryFor table "list.__setitem__" = some Builtin.«list.__setitem__» := entryFor_of_tree (by kernel_rfl)
theorem a_set (x y z : Value) : argsOk "list.__setitem__" ⟨[x, y, z], []⟩ := PySem.F.args_list_setitem_3 x y z
theorem acc_setslice {i : Nat} {acc d sl lv : Addr} {its new : List Value} {n nl k : Nat} {vl : Value} {lo : Option Int} {Q : Unit → Shared → Prop} (S : St O w g f m ((sl, slO vl .none) :: L) s.heap s.os s.gens) (hi' : L[i]? = some (acc, accO its n d)) (pl : IsPart vl lo)
    (hlv : s.heap.get? lv = some (lstO new nl)) (hl : its.length < 1000) (hn : new.length < 1000) (hk : (sliceBounds lo none none its.length).1 = k) (hkl : k ≤ its.length)
    (h : ∀ n' s', St O w g f m ((sl, slO vl .none) :: L.set i (acc, accO (its.take k ++ new) n' d)) s'.heap s'.os s'.gens → Q () s') : wpAny (model prog w) A (setItem (.ref acc) (.ref sl) (.ref lv)) Q E s := by
  have ho := S.get (i + 1) hi'
  have hne : lv ≠ acc := fun q => by rw [q, ho] at hlv; exact absurd (congrArg (fun o : Option Obj => o.map (·.cls)) hlv) (by simp [accO, lstO])
  walk_at "raw"
  repeat walk_at "st"
  refine x_call ?_ (by intro h; cases h)
  refine cb (id := "list.__setitem__") (by kernel_rfl) ?_
  refine b_acc "list.__setitem__" "__setitem__" Builtin.«list.__setitem__» S ho p_set e_set (.inr k_set) s_set (a_set _ _ _) ?_
  have hsl : s.heap.get? sl = some (slO vl .none) := S.get 0 rfl
  have hTs : s.TypeIs (.ref sl) "slice" := ⟨_, hsl, rfl⟩
  refine wpAny_bind (wpAny_of_eq (a := (Value.ref acc, [Value.ref sl, Value.ref lv])) (by rfl) ?_)
  refine wpAny_bind (m := Builtin.List.listSubscript? (.ref sl)) ?_
  unfold Builtin.List.listSubscript?
  refine wpAny_bind (wpAny_specialOf hTs slice_no_index ?_)
  simp only [Option.isNone_none, if_true]
  refine wpAny_pure ?_
  refine wpAny_bind (m := typeOf (.ref sl)) (wpAny_typeOf hTs ?_)
  rw [if_neg (by decide)]
  rw [listSliceParts_eq]
  refine wpAny_bind (wpAny_bind (wpAny_field hsl rfl (x := .none) rfl (wpAny_bind (wpAny_listPart .none ?_))))
  rw [if_neg (show ¬ ((rawPart none == rawInt 0) = true) from Bool.false_ne_true)]
  refine wpAny_bind (wpAny_field hsl rfl (x := vl) rfl (wpAny_bind (wpAny_listPart pl ?_)))
  refine wpAny_bind (wpAny_field hsl rfl (x := .none) rfl (wpAny_bind (wpAny_listPart .none (wpAny_pure ?_))))
  rw [if_neg (show ¬ Builtin.List.listSameRef (.ref acc) (.ref lv) = true from fun q => hne (beq_iff_eq.mp q).symm)]
  refine wpAny_bind (m := Builtin.List.listAllItems (.ref lv) _) ?_
  unfold Builtin.List.listAllItems
  refine wpAny_bind (wpAny_typeOf (T := "list") ⟨_, hlv, rfl⟩ ?_)
  rw [if_pos (by decide)]
  unfold Builtin.List.listItems
  refine wpAny_bind (wpAny_seqItems hlv rfl (wpAny_pure ?_))
  refine wpAny_bind (wpAny_bind (wpAny_seqItems ho rfl (wpAny_pure ?_)))
  refine wpAny_bind (wpAny_of_eq (sliceIndices_raw lo none none its.toArray.size (by simp)) ?_)
  rw [if_pos (show ((sliceBounds lo none none its.toArray.size).2.2 == 1) = true from rfl)]
  refine wpAny_bind (wpAny_rule ?_)
  rw [if_neg (show ¬ Builtin.List.listTooLong (its.toArray.size + new.toArray.size) = true from fun q => by
    have z : its.toArray.size + new.toArray.size > sizeLine := of_decide_eq_true q
    rw [List.size_toArray, List.size_toArray] at z
    exact absurd z (by unfold sizeLine; omega))]
  have hk' : (sliceBounds lo none none its.toArray.size).1 = k := by rw [List.size_toArray]; exact hk
  have hk2 : (sliceBounds lo none none its.toArray.size).2.1 = its.length := by rw [List.size_toArray]; rfl
  rw [hk', hk2]
  refine wpAny_bind ?_
  have em : ∃ n', Obj.mapSeq (fun xs => xs.extract 0 (k : Int).toNat ++ new.toArray ++ xs.extract (max (k : Int) (its.length : Int)).toNat) (accO its n d) = accO (its.take k ++ new) n' d := by
    have e : (max (k : Int) (its.length : Int)).toNat = its.length := by omega
    rw [e, Int.toNat_natCast]
    have eA : its.toArray.extract 0 k ++ new.toArray ++ its.toArray.extract its.length = (its.take k ++ new).toArray := by simp
    simp only [Obj.mapSeq, accO, eA]
    exact ⟨_, rfl⟩
  obtain ⟨n', em⟩ := em
  refine r_updateSeq (accO (its.take k ++ new) n' d) S (i := i + 1) hi' em rfl (seq_fits ?_) fun s' S' => ?_
  · simp; omega
  · refine wpAny_bind (wpAny_letGo (wpAny_pure ?_))
    dsimp only
    walk_at "raw"
    exact wpAny_pure (h n' _ S')
end
end Mine
namespace Mine
section
variable {O : OsState} {w : World} {A : Around} {E : Value → Shared → Prop} {s : Shared} {g : Heap} {f : Addr} {m : Str → Option Value} {L : List (Addr × Obj)} {env : Env}
theorem acc_gip {acc d : Addr} {its : List Value} {n : Nat} {Q : Bool → Shared → Prop} (S : St O w g f m L s.heap s.os s.gens) (ho : s.heap.get? acc = some (accO its n d)) (h : Q false s) : wpAny (model prog w) A (getitemInPython (.ref acc)) Q E s := by
  walk_at "raw"
  repeat walk_at "st"
  exact wpAny_pure h
theorem r_slice {lower upper : Option Expr} {p : Pos} {Q : Value → Shared → Prop}
    (h : wpAny (model prog w) A (valueOrNone (evalOpt lower env)) (fun vl s₁ => wpAny (model prog w) A (valueOrNone (evalOpt upper env)) (fun vu s₂ => ∃ g f m L, St O w g f m L s₂.heap s₂.os s₂.gens ∧ ∀ a s₃, St O w g f m ((a, slO vl vu) :: L) s₃.heap s₃.os s₃.gens → Q (.ref a) s₃) E s₁) E s) :
    wpAny (model prog w) A (eval (.Slice lower upper none p) env) Q E s := by
  rw [arm_eval_Slice]
  refine wpAny_bind (wpAny_mono h (fun vl s₁ q => wpAny_bind (wpAny_holding (wpAny_mono q (fun vu s₂ q => ?_) fun _ _ e => e))) fun _ _ e => e)
  obtain ⟨g, f, m, L, S, q⟩ := q
  refine wpAny_bind (wpAny_holding (wpAny_pure ?_))
  exact wpAny_newObj_type (q _ _ (S.push _ rfl))
/-- self[lower:upper] of an accumulator held by a name -/
theorem r_SubSlice {x : Str} {p pos p' : Pos} {lower upper : Option Expr} {Q : Value → Shared → Prop}
    (h : wpAny (model prog w) A (eval (.Name x p) env) (fun o s₁ => wpAny (model prog w) A (eval (.Slice lower upper none p') env) (fun i s₂ => wpAny (model prog w) A (getitemInPython o) (fun _ s₃ => wpAny (model prog w) A (getItem o i) Q E s₃) E s₂) E s₁) E s) :
    wpAny (model prog w) A (eval (.Subscript (.Name x p) (.Slice lower upper none p') pos) env) Q E s := by
  rw [arm_eval_Subscript]
  refine wpAny_bind (wpAny_mono h (fun o s₁ q => wpAny_bind (wpAny_holding (wpAny_mono q (fun i s₂ q => ?_) fun _ _ e => e))) fun _ _ e => e)
  refine wpAny_bind (wpAny_standAt (wpAny_bind (wpAny_mono q (fun b s₃ q => ?_) fun _ _ e => e)))
  have e : subscripted (.Slice lower upper none p') b o i = operate [i, o] (getItem o i) := by cases b <;> rfl
  rw [e]
  exact wpAny_bind (wpAny_operating (wpAny_mono q (fun r s₄ q => wpAny_bind (wpAny_pure (wpAny_pure q))) fun _ _ e => e))
theorem call_atB {R : Result → Shared → Prop} {n : Nat} {fa : Addr} {body : List Stmt} {args : Args} (binds : List (Str × Value)) (S : St O w g f m L s.heap s.os s.gens) (r : Rm (n + 1) A)
    (ho : (KF w).lookup fa = some ⟨.type "function", none, .func (fdAt w fa), #[]⟩) (ht : isTab fa = false) {c : Addr} {oc : Obj} {vs : Array Value} {t : Tok} (hc : (fdAt w fa).code = .ref c) (htc : isTab c = false) (hoc : (KF w).lookup c = some oc) (hvs : oc.data = .fields vs) (hq : vs[1]? = some (.str (fdAt w fa).qualname t))
    (hbody : (fdAt w fa).body = .stmts body) (hbind : BindsTo s (fdAt w fa) args binds)
    (hcell : ((fdAt w fa).scope.names.all fun x => decide (x.2 ≠ .cell)) = true) (hloc : (binds.all fun x => decide ((fdAt w fa).scope.names.lookup x.1 = some .local)) = true)
    (hco : (fdAt w fa).scope.isCoroutine = false) (hgen : (fdAt w fa).scope.isGenerator = false) (hk : (fdAt w fa).scope.kind = .function)
    (h : ∀ g' f' s' A', Rm n A' → (∀ b o, g.get? b = some o → g'.get? b = some o) → St O w g' f' (fun x => binds.reverse.lookup x) L s'.heap s'.os s'.gens → (∀ m'' L'' h'' {so'' sg''}, St O w g' f' m'' L'' h'' so'' sg'' → St O w g f m L'' h'' so'' sg'') →
      wpAny (model prog w) A' (execs body (callEnv (fdAt w fa) f' fa)) (fun fl s'' => R (.ok (.ret (match fl with | .ret v => v | _ => .none))) s'') (fun _ _ => False) s') :
    codeAny (model prog w) A (.call (.ref fa) args) R s :=
  enter binds S r (S.k ho ht) ⟨c, oc, vs, t, hc, S.k hoc htc, hvs, hq⟩ hbody hbind (fun x hx => of_decide_eq_true (List.all_eq_true.mp hcell x hx)) (fun x hx => of_decide_eq_true (List.all_eq_true.mp hloc x hx)) h hco hgen hk
theorem St.drop2 {p q : Addr × Obj} {h : Heap} (S : St O w g f m (p :: q :: L) h so sg) : St O w g f m (p :: L) h so sg := by
  have nd := S.nd
  rw [List.map_cons, List.map_cons, List.nodup_cons, List.nodup_cons] at nd
  refine ⟨S.kg, S.keep, S.ns, S.fg, S.fb, fun r hr => S.has r ?_, ?_, S.tb⟩
  · rcases List.mem_cons.mp hr with rfl | hr
    · exact .head _
    · exact .tail _ (.tail _ hr)
  · rw [List.map_cons, List.nodup_cons]
    exact ⟨fun z => nd.1 (.tail _ z), nd.2.2⟩
theorem bounds_from (k n : Nat) (h : k ≤ n) : (sliceBounds (some (k : Int)) none none n).1 = k := by
  simp [sliceBounds]
  omega
theorem pop_from_spec {i : Nat} {acc d : Addr} {pre : List Value} {x : Value} {n : Nat} {t : Tok} {R : Result → Shared → Prop} (S : St O w g f m L s.heap s.os s.gens) (r : Rm 8 A)
    (hi : L[i]? = some (acc, accO (pre ++ [x]) n d)) (hl : pre.length < 900)
    (h : ∀ a n' s', St O w g f m ((a, lstO [x]) :: L.set i (acc, accO pre n' d)) s'.heap s'.os s'.gens → R (.ok (.ret (.ref a))) s') : codeAny (model prog w) A (.call (.ref 152) ⟨[.ref acc, .int pre.length t], []⟩) R s := by
  refine call_atB [(Str.ofString "self", .ref acc), (Str.ofString "i", .int pre.length t)] S r (by rfl) (by rfl) (by rfl) (by rfl) (by rfl) (by rfl) (by rfl) (by rfl) (BindsTo.of_defaults (T := 145) (by rfl) (S.k (by rfl)) (by rfl) (by rfl) (by kernel_rfl)) (by kernel_rfl) (by kernel_rfl) (by rfl) (by rfl) (by rfl) ?_
  intro g' f' s1 A' r' le S1 back
  walk_at "env"
  refine r_execs_cons (wpAny_Assign_Name ?_)
  refine r_SubSlice (r_local S1 rfl ?_)
  refine r_slice (O := O) (r_local S1 rfl (wpAny_pure ⟨_, _, _, _, S1, fun sl s2 S2 => ?_⟩))
  refine acc_gip S2 (S2.get (i + 1) hi) ?_
  refine acc_slice S2 hi (.int _ _) .none (by simp; omega) fun a s3 S3 => ?_
  rw [pick_last] at S3
  refine r_store (bs := [(Str.ofString "i", Value.int pre.length t), (Str.ofString "self", .ref acc)]) S3 fun s4 S4 => ?_
  refine r_execs_cons (wpAny_Assign_Subscript ?_)
  refine r_list (O := O) (r_item0 ⟨by simp [sizeLine], _, _, _, _, S4, fun e s5 S5 => ?_⟩)
  refine r_local S5 rfl ?_
  refine r_slice (O := O) (r_local S5 rfl (wpAny_pure ⟨_, _, _, _, S5, fun sl2 s6 S6 => ?_⟩))
  refine acc_setslice (i := i + 3) (k := pre.length) S6 hi (.int _ _) (S6.get 1 rfl) (by simp; omega) (by simp) (bounds_from _ _ (by simp)) (by simp) fun n' s7 S7 => ?_
  refine r_execs_cons (wpAny_Return_some (r_local S7 rfl ?_))
  have e1 : List.take pre.length (pre ++ [x]) ++ [] = pre := by simp
  rw [e1] at S7
  exact h a n' _ (back _ _ _ (S7.tail.tail.drop2))
end
end Mine
namespace Mine
section
variable {O : OsState} {w : World} {A : Around} {E : Value → Shared → Prop} {s : Shared} {g : Heap} {f : Addr} {m : Str → Option Value} {L : List (Addr × Obj)} {env : Env}
theorem acc_isObj {a d : Addr} {its : List Value} {n : Nat} {Q : Bool → Shared → Prop} (S : St O w g f m L s.heap s.os s.gens) (ho : s.heap.get? a = some (accO its n d)) (h : Q true s) :
    wpAny (model prog w) A (isInstance (.ref a) (.type "object")) Q E s := by
  walk_at "raw"
  repeat walk_at "st"
  exact wpAny_pure h
theorem k_sa : builtinKind "object.__setattr__" = some .slot := by kernel_rfl
theorem s_sa : splitId "object.__setattr__" = some ("object", "__setattr__") := by kernel_rfl
theorem p_sa : plainId "object.__setattr__" = true := by decide +kernel
theorem a_sa (x y z : Value) : argsOk "object.__setattr__" ⟨[x, y, z], []⟩ := PySem.F.args_object_setattr_3 x y z
theorem e_sa : entryFor table "object.__setattr__" = some Builtin.«object.__setattr__» := entryFor_of_tree (by kernel_rfl)
theorem b_sa {a d : Addr} {its : List Value} {n : Nat} {v v' : Value} {R : Result → Shared → Prop} (S : St O w g f m L s.heap s.os s.gens) (ho : s.heap.get? a = some (accO its n d))
    (h : wpAny (model prog w) A.in1 (Builtin.«object.__setattr__» ⟨[.ref a, v, v'], []⟩) (fun fin s' => match fin with | .done f => R (.ok f) s' | .again c' => c'.quiet = true ∧ codeAny (model prog w) A c' R s') (fun e s' => R (.error e) s') s) :
    codeAny (model prog w) A (.call (.builtin "object.__setattr__") ⟨[.ref a, v, v'], []⟩) R s := by
  refine codeAny_call_builtin p_sa e_sa ?_
  refine chk_slot (id := "object.__setattr__") (owner := "object") (name := "__setattr__") ?_ ?_ ?_ ?_
  · exact k_sa
  · exact s_sa
  · exact a_sa _ _ _
  · exact acc_isObj S ho ⟨rfl, h⟩
theorem acc_setsize {i j : Nat} {acc d : Addr} {its : List Value} {n : Nat} {t : Tok} {hs : Int} {sz v : Value} {Q : Unit → Shared → Prop} (S : St O w g f m L s.heap s.os s.gens) (hi : L[i]? = some (acc, accO its n d)) (hj : L[j]? = some (d, accD t hs sz))
    (h : ∀ s', St O w g f m (L.set j (d, accD t hs v)) s'.heap s'.os s'.gens → Q () s') : wpAny (model prog w) A (setAttr (.ref acc) (Str.ofString "_initial_size") v) Q E s := by
  walk_at "raw"
  refine t_fresh S fun tk s1 S1 => ?_
  clear S
  have ho := S1.get i hi
  have hd := S1.get j hj
  walk_at "raw"
  repeat walk_at "st"
  refine x_call ?_ (by intro h; cases h)
  refine cb (id := "object.__setattr__") (by kernel_rfl) ?_
  refine b_sa S1 ho ?_
  walk_at "raw"
  repeat walk_at "st"
  refine t_fresh S1 fun tk2 s2 S2 => ?_
  clear S1 ho hd
  have ho := S2.get i hi
  have hd := S2.get j hj
  walk_at "raw"
  repeat walk_at "st"
  refine t_update (accD t hs v) S2 j hj (by rfl) (by rfl) fun s3 S3 => ?_
  walk_at "raw"
  refine t_load (S3.get j (set_get hj)) ?_
  walk_at "raw"
  refine wpAny_pure ?_
  walk_at "raw"
  exact wpAny_pure (h _ S3)
theorem set_comm_get {i j : Nat} {a d : Addr} {o o' q : Obj} (hi : L[i]? = some (a, o)) (hj : L[j]? = some (d, q)) (hne : i ≠ j) : (L.set i (a, o'))[j]? = some (d, q) := by
  rw [List.getElem?_set_ne hne]; exact hj
/-- reset(startval), a list given -/
theorem reset_spec {i j k : Nat} {acc d lv : Addr} {its new : List Value} {n nl : Nat} {t : Tok} {hs : Int} {sz : Value} {R : Result → Shared → Prop} (S : St O w g f m L s.heap s.os s.gens) (r : Rm 8 A)
    (hi : L[i]? = some (acc, accO its n d)) (hj : L[j]? = some (d, accD t hs sz)) (hne : i ≠ j) (hk : L[k]? = some (lv, lstO new nl)) (hl : its.length < 1000) (hn : new.length < 1000)
    (h : ∀ n' t' s', St O w g f m ((L.set i (acc, accO new n' d)).set j (d, accD t hs (.int 0 t'))) s'.heap s'.os s'.gens → R (.ok (.ret .none)) s') : codeAny (model prog w) A (.call (.ref 182) ⟨[.ref acc, .ref lv], []⟩) R s := by
  refine call_atB [(Str.ofString "self", .ref acc), (Str.ofString "startval", .ref lv)] S r (by rfl) (by rfl) (by rfl) (by rfl) (by rfl) (by rfl) (by rfl) (by rfl) (BindsTo.of_defaults (T := 175) (by rfl) (S.k (by rfl)) (by rfl) (by rfl) (by kernel_rfl)) (by kernel_rfl) (by kernel_rfl) (by rfl) (by rfl) (by rfl) ?_
  intro g' f' s1 A' r' le S1 back
  walk_at "env"
  refine r_execs_cons (wpAny_If (wpAny_isTrue_Compare1 (r_local S1 rfl ?_)))
  refine wpAny_Constant_none ?_
  refine is_none (wpAny_truthy_bool ?_)
  refine wpAny_execs_nil ?_
  refine r_execs_cons (wpAny_Assign_Subscript (r_local S1 rfl (r_local S1 rfl ?_)))
  refine r_slice (O := O) (wpAny_pure (wpAny_pure ⟨_, _, _, _, S1, fun sl s2 S2 => ?_⟩))
  refine acc_setslice (k := 0) S2 hi .none (S2.get (k + 1) hk) hl hn rfl (Nat.zero_le _) fun n' s3 S3 => ?_
  have S3 := S3.tail
  rw [List.take_zero, List.nil_append] at S3
  refine r_execs_cons (plainObj_wpAny_Assign_Attribute ?_ (by rfl))
  refine wpAny_Constant_int ?_
  refine r_local (s := { s3 with toks := s3.toks + 1 }) S3 rfl ?_
  refine acc_setsize (s := { s3 with toks := s3.toks + 1 }) S3 (set_get hi) (set_comm_get hi hj hne) fun s4 S4 => ?_
  exact wpAny_execs_nil (h n' _ _ (back _ _ _ S4))
/-- reset() -/
theorem reset0_spec {i j : Nat} {acc d : Addr} {its : List Value} {n : Nat} {t : Tok} {hs : Int} {sz : Value} {R : Result → Shared → Prop} (S : St O w g f m L s.heap s.os s.gens) (r : Rm 8 A)
    (hi : L[i]? = some (acc, accO its n d)) (hj : L[j]? = some (d, accD t hs sz)) (hne : i ≠ j) (hl : its.length < 1000)
    (h : ∀ n' t' s', St O w g f m ((L.set i (acc, accO [] n' d)).set j (d, accD t hs (.int 0 t'))) s'.heap s'.os s'.gens → R (.ok (.ret .none)) s') : codeAny (model prog w) A (.call (.ref 182) ⟨[.ref acc], []⟩) R s := by
  refine call_atB [(Str.ofString "self", .ref acc), (Str.ofString "startval", .none)] S r (by rfl) (by rfl) (by rfl) (by rfl) (by rfl) (by rfl) (by rfl) (by rfl) (BindsTo.of_defaults (T := 175) (by rfl) (S.k (by rfl)) (by rfl) (by rfl) (by kernel_rfl)) (by kernel_rfl) (by kernel_rfl) (by rfl) (by rfl) (by rfl) ?_
  intro g' f' s1 A' r' le S1 back
  walk_at "env"
  refine r_execs_cons (wpAny_If (wpAny_isTrue_Compare1 (r_local S1 rfl ?_)))
  refine wpAny_Constant_none ?_
  refine is_none (wpAny_truthy_bool ?_)
  refine r_execs_cons (wpAny_Assign_Name ?_)
  refine r_list (O := O) (r_item0 ⟨by simp [sizeLine], _, _, _, _, S1, fun e s2 S2 => ?_⟩)
  refine r_store (bs := [(Str.ofString "startval", Value.none), (Str.ofString "self", .ref acc)]) S2 fun s3 S3 => ?_
  refine wpAny_execs_nil ?_
  refine r_execs_cons (wpAny_Assign_Subscript (r_local S3 rfl (r_local S3 rfl ?_)))
  refine r_slice (O := O) (wpAny_pure (wpAny_pure ⟨_, _, _, _, S3, fun sl s4 S4 => ?_⟩))
  refine acc_setslice (i := i + 1) (k := 0) S4 hi .none (S4.get 1 rfl) hl (by simp) rfl (Nat.zero_le _) fun n' s5 S5 => ?_
  have S5 := S5.tail.tail
  rw [List.take_zero, List.nil_append] at S5
  refine r_execs_cons (plainObj_wpAny_Assign_Attribute ?_ (by rfl))
  refine wpAny_Constant_int ?_
  refine r_local (s := { s5 with toks := s5.toks + 1 }) S5 rfl ?_
  refine acc_setsize (s := { s5 with toks := s5.toks + 1 }) S5 (set_get hi) (set_comm_get hi hj hne) fun s6 S6 => ?_
  exact wpAny_execs_nil (h n' _ _ (back _ _ _ S6))
end
end Mine
namespace Mine
section
variable {O : OsState} {w : World} {A : Around} {E : Value → Shared → Prop} {s : Shared} {g : Heap} {f : Addr} {m : Str → Option Value} {L : List (Addr × Obj)} {env : Env}
/-- a method of the class itself -/
theorem acc_meth {name : Str} {fa a d : Addr} {its : List Value} {n : Nat} {t : Tok} {hs : Int} {sz : Value} {pl : Sem Bool} {Q : Value × List Value → Shared → Prop} (S : St O w g f m L s.heap s.os s.gens) (ho : s.heap.get? a = some (accO its n d)) (hd : s.heap.get? d = some (accD t hs sz))
    (hn : nsLook name (o199 w) = pure (some (.ref fa))) (hf : ∃ o, s.heap.get? fa = some o ∧ o.cls = .type "function") (hne : nsLook name (accD t hs sz) = pure none) (h : Q (.ref fa, [.ref a]) s) :
    wpAny (model prog w) A (getMethod (.ref a) name pl) Q E s := by
  obtain ⟨of, hof, hcf⟩ := hf
  unfold getMethod
  refine wpAny_bind (acc_ga S ho ?_)
  dsimp only
  rw [if_neg (by rw [canon_list_getattribute]; exact Bool.false_ne_true)]
  refine wpAny_bind (acc_gt S ho ?_)
  rw [if_neg (by exact Bool.false_ne_true)]
  refine wpAny_bind (m := specialOf (.ref a) name) ?_
  unfold specialOf typeLookup
  refine wpAny_bind (acc_type ho ?_)
  refine wpAny_bind (acc_mro S ?_)
  simp only [List.forIn_cons]
  refine wpAny_bind (wpAny_bind (wpAny_bind (acc_own S hn (wpAny_pure ?_))))
  refine wpAny_pure ?_
  refine wpAny_pure ?_
  dsimp only
  refine wpAny_bind (m := typeOf (.ref fa)) (wpAny_typeOf (T := "function") ⟨of, hof, hcf⟩ ?_)
  rw [if_neg (by decide)]
  refine wpAny_bind (wpAny_loadPart ho ?_)
  dsimp only [accO]
  unfold nsGet
  refine wpAny_bind (wpAny_bind (wpAny_loadPart hd ?_))
  rw [hne]
  refine wpAny_pure ?_
  rw [if_neg (by exact Bool.false_ne_true)]
  exact wpAny_bind (wpAny_rule (wpAny_pure h))
end
end Mine
namespace Mine
section
variable {O : OsState} {w : World} {A : Around} {E : Value → Shared → Prop} {s : Shared} {g : Heap} {f : Addr} {m : Str → Option Value} {L : List (Addr × Obj)} {env : Env}
theorem md_p : plainId "method_descriptor.__get__" = true := by decide +kernel
theorem md_e : entryFor table "method_descriptor.__get__" = some Builtin.«method_descriptor.__get__» := entryFor_of_tree (by kernel_rfl)
theorem md_k : builtinKind "method_descriptor.__get__" = some .slot := by kernel_rfl
theorem md_s : splitId "method_descriptor.__get__" = some ("method_descriptor", "__get__") := by kernel_rfl
theorem md_a (x y z : Value) : argsOk "method_descriptor.__get__" ⟨[x, y, z], []⟩ := by unfold argsOk; kernel_rfl
theorem md_i : isInstance (.builtin "list.pop") (.type "method_descriptor") = pure true := by kernel_rfl
theorem sup_pop {so acc d : Addr} {its : List Value} {n i : Nat} {pl : Sem Bool} {Q : Value × List Value → Shared → Prop} (S : St O w g f m ((so, supO acc) :: L) s.heap s.os s.gens) (hi : L[i]? = some (acc, accO its n d))
    (h : ∀ mw s', St O w g f m ((mw, bmO false "list.pop" acc) :: (so, supO acc) :: L) s'.heap s'.os s'.gens → Q (.ref mw, []) s') : wpAny (model prog w) A (getMethod (.ref so) (Str.ofString "pop") pl) Q E s := by
  walk_at "raw"
  repeat walk_at "st"
  refine t_fresh S fun tk s1 S1 => ?_
  clear S
  have ho : s1.heap.get? acc = some (accO its n d) := S1.get (i + 1) hi
  have hne : ¬ (Value.ref acc == Value.ref 200) = true := fun q => by
    have z : 245 < acc := (S1.has _ (.tail _ (List.mem_of_getElem? hi))).2.2.1
    have e := Value.ref.inj (beq_iff_eq.mp q)
    rw [e] at z
    exact absurd z (by decide)
  walk_at "raw"
  repeat walk_at "st"
  refine x_call ?_ (by intro h; cases h)
  refine cb (id := "super.__getattribute__") (by kernel_rfl) ?_
  refine codeAny_call_builtin F.ks_slot_super_ga.plain F.ks_entry_super_ga ?_
  refine F.ks_slot_super_ga.check _ _ _ _ _ _ _ _ ⟨_, S1.get 0 rfl, rfl⟩ (F.ks_gaArgs_super _ _) ?_
  walk_at "raw"
  repeat walk_at "st"
  refine x_call ?_ (by intro h; cases h)
  refine cb (id := "method_descriptor.__get__") (by kernel_rfl) ?_
  refine ca (args := ⟨[.builtin "list.pop", .ref acc, .ref 200], []⟩) ?_ ?_
  · refine congrArg (fun l => (⟨l, []⟩ : Args)) (congr (congrArg List.cons ?_) (congr (congrArg List.cons ?_) rfl))
    · kernel_rfl
    · exact if_neg hne
  refine b_plain "method_descriptor.__get__" "method_descriptor" "__get__" Builtin.«method_descriptor.__get__» md_p md_e (.inr md_k) md_s (md_a _ _ _) md_i ?_
  walk_at "raw"
  repeat walk_at "st"
  refine t_alloc S1 rfl fun mw s2 S2 => ?_
  walk_at "raw"
  refine wpAny_pure ?_
  walk_at "raw"
  refine wpAny_pure ?_
  walk_at "raw"
  exact wpAny_pure (h mw s2 S2)

theorem popb_p : plainId "list.pop" = true := by decide +kernel
theorem popb_e : entryFor table "list.pop" = some Builtin.«list.pop» := entryFor_of_tree (by kernel_rfl)
theorem popb_c {acc d : Addr} {its : List Value} {n : Nat} {Q : Unit → Shared → Prop} (S : St O w g f m L s.heap s.os s.gens) (ho : s.heap.get? acc = some (accO its n d)) (h : Q () s) : wpAny (model prog w) A (checkBoundCall "list.pop" ⟨[.ref acc], []⟩) Q E s := by
  walk_at "raw"
  repeat walk_at "st"
  exact wpAny_pure h
theorem call_bm' {id : String} {x mw : Addr} {kd : Bool} {b : Builtin} {args : List Value} {R : Result → Shared → Prop} (ho : s.heap.get? mw = some (bmO kd id x)) (hp : plainId id = true) (hb : entryFor table id = some b)
    (hc : ∀ (A' : Around) (Q : Unit → Shared → Prop) (E : Value → Shared → Prop), Q () s → wpAny (model prog w) A' (checkBoundCall id ⟨.ref x :: args, []⟩) Q E s)
    (h : wpAny (model prog w) A.in1 (b ⟨.ref x :: args, []⟩) (fun fin s' => match fin with | .done f => R (.ok f) s' | .again c' => c'.quiet = true ∧ codeAny (model prog w) A c' R s') (fun e s' => R (.error e) s') s) :
    codeAny (model prog w) A (.call (.ref mw) ⟨args, []⟩) R s := by
  refine x_code ?_
  show wpAny _ _ (callAny (.ref mw) ⟨args, []⟩) _ _ s
  unfold callAny
  refine wpAny_bind (wpAny_load ho ?_)
  have fin : wpAny (model prog w) (A.under (.call (.ref mw) ⟨args, []⟩)) (do checkBoundCall id ⟨.ref x :: args, []⟩; again (.builtin id ⟨.ref x :: args, []⟩)) (fun fin s' => match fin with | .done f => R (.ok f) s' | .again c' => c'.quiet = true ∧ codeAny (model prog w) A c' R s') (fun e s' => R (.error e) s') s := by
    refine wpAny_bind (hc _ _ _ (wpAny_pure ⟨plainId_quiet hp _, codeAny_builtin hb ?_⟩))
    rw [Around.under_plainId hp _]
    exact h
  cases kd
  · exact fin
  · exact fin
theorem n_pc (w : World) : nsLook (Str.ofString "part_count") (o199 w) = pure (some (.ref 197)) := by kernel_rfl
theorem d_no {t : Tok} {hs : Int} {sz : Value} : nsLook (Str.ofString "part_count") (accD t hs sz) = pure none := by kernel_rfl
theorem pop_spec {i j : Nat} {acc d : Addr} {pre : List Value} {x : Value} {n : Nat} {t : Tok} {hs : Int} {sz : Value} {R : Result → Shared → Prop} (S : St O w g f m L s.heap s.os s.gens) (r : Rm 20 A)
    (hi : L[i]? = some (acc, accO (pre ++ [x]) n d)) (hj : L[j]? = some (d, accD t hs sz)) (hl : pre.length < 900)
    (h : ∀ n' s', St O w g f m (L.set i (acc, accO pre n' d)) s'.heap s'.os s'.gens → R (.ok (.ret x)) s') : codeAny (model prog w) A (.call (.ref 160) ⟨[.ref acc], []⟩) R s := by
  refine call_atS [(Str.ofString "self", .ref acc)] S r (by rfl) (by rfl) (by rfl) (by rfl) (by rfl) (by rfl) (by rfl) (by rfl) (by kernel_rfl) (by kernel_rfl) (by kernel_rfl) (by rfl) (by rfl) (by rfl) ?_
  intro g' f' s1 A' r' le S1 back
  refine ks_wpAt_execs_cons (wpAt_of_wpAny (wpAny_If (wpAny_isTrue_Compare1 ?_)))
  refine r_CallM (r_local S1 rfl ?_)
  refine acc_meth S1 (S1.get i hi) (S1.get j hj) (n_pc w) ⟨_, S1.k rfl, rfl⟩ d_no ?_
  refine r_callF (r_args0 ⟨S1.k rfl, ?_⟩)
  refine part_count_spec S1 (r'.le (by decide)) hi (by simp; omega) fun t' s2 S2 => ?_
  refine wpAny_Constant_int ?_
  refine P.eq_int (wpAny_truthy_bool ?_)
  rw [if_neg (by simp; omega)]
  refine wpAny_execs_nil ?_
  have S3 : St O w g' f' (fun x => List.lookup x [(Str.ofString "self", Value.ref acc)].reverse) L ({ s2 with toks := s2.toks + 1 } : Shared).heap ({ s2 with toks := s2.toks + 1 } : Shared).os ({ s2 with toks := s2.toks + 1 } : Shared).gens := S2
  refine ks_wpAt_execs_cons (ks_wpAt_Return_some (ks_wpAt_MethodCall ?_))
  refine super_node (ar := _) S3 (S3.get i hi) rfl rfl rfl rfl rfl rfl (S3.k (a := 160) rfl) rfl rfl rfl (S3.k (a := 159) rfl) rfl rfl rfl rfl rfl rfl rfl fun so s4 S4 => ?_
  refine sup_pop S4 hi fun mw s5 S5 => ?_
  refine r_callW (id := "list.pop") (x := acc) (kd := false) rfl (r_args0 ⟨S5.get 0 rfl, ?_⟩)
  refine call_bm' (S5.get 0 rfl) popb_p popb_e (fun A'' Q'' E'' q => popb_c S5 (S5.get (i + 2) hi) q) ?_
  refine wpAny_bind (wpAny_of_eq (a := (Value.ref acc, [])) (by rfl) ?_)
  dsimp only
  refine wpAny_bind (wpAny_pure ?_)
  rw [if_neg (by decide)]
  unfold Builtin.List.listItems
  refine wpAny_bind (wpAny_bind (wpAny_seqItems (S5.get (i + 2) hi) rfl (wpAny_pure ?_)))
  rw [if_neg (by simp)]
  have e1 : ((seqIndex? (-1) (pre ++ [x]).toArray.size).bind fun k => Option.map (fun y => (k, y)) (pre ++ [x]).toArray[k]?) = some (pre.length, x) := by
    have e0 : seqIndex? (-1) (pre ++ [x]).toArray.size = some pre.length := by
      unfold seqIndex?
      simp
      omega
    rw [e0]
    simp
  rw [e1]
  dsimp only
  have em : ∃ n', Obj.mapSeq (fun xs => xs.eraseIdxIfInBounds pre.length) (accO (pre ++ [x]) n d) = accO pre n' d := by
    have eA : (pre ++ [x]).toArray.eraseIdxIfInBounds pre.length = pre.toArray := by
      simp [List.eraseIdx_append_of_length_le]
    simp only [Obj.mapSeq, accO, eA]
    exact ⟨_, rfl⟩
  obtain ⟨n', em⟩ := em
  refine wpAny_bind (r_updateSeq (accO pre n' d) S5 (i := i + 2) hi em rfl (seq_fits (by simp; omega)) fun s6 S6 => ?_)
  exact wpAny_pure (h n' _ (back _ _ _ S6.tail.tail))
end
end Mine
namespace Mine
section
variable {O : OsState} {w : World} {A : Around} {E : Value → Shared → Prop} {s : Shared} {g : Heap} {f : Addr} {m : Str → Option Value} {L : List (Addr × Obj)} {env : Env}
theorem wd_i2 : isInstance (.builtin "list.__init__") (.type "wrapper_descriptor") = pure true := by kernel_rfl
theorem sup_init {so acc d : Addr} {its : List Value} {n i : Nat} {pl : Sem Bool} {Q : Value × List Value → Shared → Prop} (S : St O w g f m ((so, supO acc) :: L) s.heap s.os s.gens) (hi : L[i]? = some (acc, accO its n d))
    (h : ∀ mw s', St O w g f m ((mw, mwO "list.__init__" acc) :: (so, supO acc) :: L) s'.heap s'.os s'.gens → Q (.ref mw, []) s') : wpAny (model prog w) A (getMethod (.ref so) (Str.ofString "__init__") pl) Q E s := by
  walk_at "raw"
  repeat walk_at "st"
  refine t_fresh S fun tk s1 S1 => ?_
  clear S
  have ho : s1.heap.get? acc = some (accO its n d) := S1.get (i + 1) hi
  have hne : ¬ (Value.ref acc == Value.ref 200) = true := fun q => by
    have z : 245 < acc := (S1.has _ (.tail _ (List.mem_of_getElem? hi))).2.2.1
    have e := Value.ref.inj (beq_iff_eq.mp q)
    rw [e] at z
    exact absurd z (by decide)
  walk_at "raw"
  repeat walk_at "st"
  refine x_call ?_ (by intro h; cases h)
  refine cb (id := "super.__getattribute__") (by kernel_rfl) ?_
  refine codeAny_call_builtin F.ks_slot_super_ga.plain F.ks_entry_super_ga ?_
  refine F.ks_slot_super_ga.check _ _ _ _ _ _ _ _ ⟨_, S1.get 0 rfl, rfl⟩ (F.ks_gaArgs_super _ _) ?_
  walk_at "raw"
  repeat walk_at "st"
  refine x_call ?_ (by intro h; cases h)
  refine cb (id := "wrapper_descriptor.__get__") (by kernel_rfl) ?_
  refine ca (args := ⟨[.builtin "list.__init__", .ref acc, .ref 200], []⟩) ?_ ?_
  · refine congrArg (fun l => (⟨l, []⟩ : Args)) (congr (congrArg List.cons ?_) (congr (congrArg List.cons ?_) rfl))
    · kernel_rfl
    · exact if_neg hne
  refine b_plain "wrapper_descriptor.__get__" "wrapper_descriptor" "__get__" Builtin.«wrapper_descriptor.__get__» wd_p wd_e (.inr wd_k) wd_s (wd_a _ _ _) wd_i2 ?_
  walk_at "raw"
  repeat walk_at "st"
  refine t_alloc S1 rfl fun mw s2 S2 => ?_
  walk_at "raw"
  refine wpAny_pure ?_
  walk_at "raw"
  refine wpAny_pure ?_
  walk_at "raw"
  exact wpAny_pure (h mw s2 S2)

end
end Mine
namespace Mine
section
variable {O : OsState} {w : World} {A : Around} {E : Value → Shared → Prop} {s : Shared} {g : Heap} {f : Addr} {m : Str → Option Value} {L : List (Addr × Obj)} {env : Env}
def emD : Obj := ⟨.type "dict", none, .dict #[] 0, #[]⟩
theorem acc_setnew {i j : Nat} {acc d : Addr} {its : List Value} {n : Nat} {v : Value} {Q : Unit → Shared → Prop} (S : St O w g f m L s.heap s.os s.gens) (hi : L[i]? = some (acc, accO its n d)) (hj : L[j]? = some (d, emD))
    (h : ∀ t hs s', St O w g f m (L.set j (d, accD t hs v)) s'.heap s'.os s'.gens → Q () s') : wpAny (model prog w) A (setAttr (.ref acc) (Str.ofString "_initial_size") v) Q E s := by
  walk_at "raw"
  refine t_fresh S fun tk s1 S1 => ?_
  clear S
  have ho := S1.get i hi
  have hd := S1.get j hj
  walk_at "raw"
  repeat walk_at "st"
  refine x_call ?_ (by intro h; cases h)
  refine cb (id := "object.__setattr__") (by kernel_rfl) ?_
  refine b_sa S1 ho ?_
  walk_at "raw"
  repeat walk_at "st"
  refine t_fresh S1 fun tk2 s2 S2 => ?_
  clear S1 ho hd
  have ho := S2.get i hi
  have hd := S2.get j hj
  walk_at "raw"
  repeat walk_at "st"
  refine t_update (accD tk2 _ v) S2 j hj (by rfl) (by rfl) fun s3 S3 => ?_
  walk_at "raw"
  refine t_load (S3.get j (set_get hj)) ?_
  walk_at "raw"
  refine wpAny_pure ?_
  walk_at "raw"
  exact wpAny_pure (h _ _ _ S3)
theorem li_p : plainId "list.__init__" = true := by decide +kernel
theorem li_e : entryFor table "list.__init__" = some Builtin.«list.__init__» := entryFor_of_tree (by kernel_rfl)
theorem li_c (x : Addr) : checkBoundCall "list.__init__" ⟨[.ref x], []⟩ = pure () := by kernel_rfl
theorem call_atSB {R : Result → Shared → Prop} {n : Nat} {fa : Addr} {body : List Stmt} {args : Args} (binds : List (Str × Value)) (S : St O w g f m L s.heap s.os s.gens) (r : Rm (n + 1) A)
    (ho : (KF w).lookup fa = some ⟨.type "function", none, .func (fdAt w fa), #[]⟩) (ht : isTab fa = false) {c : Addr} {oc : Obj} {vs : Array Value} {t : Tok} (hc : (fdAt w fa).code = .ref c) (htc : isTab c = false) (hoc : (KF w).lookup c = some oc) (hvs : oc.data = .fields vs) (hq : vs[1]? = some (.str (fdAt w fa).qualname t))
    (hbody : (fdAt w fa).body = .stmts body) (hbind : BindsTo s (fdAt w fa) args binds)
    (hcell : ((fdAt w fa).scope.names.all fun x => decide (x.2 ≠ .cell)) = true) (hloc : (binds.all fun x => decide ((fdAt w fa).scope.names.lookup x.1 = some .local)) = true)
    (hco : (fdAt w fa).scope.isCoroutine = false) (hgen : (fdAt w fa).scope.isGenerator = false) (hk : (fdAt w fa).scope.kind = .function)
    (h : ∀ g' f' s' A', Rm n A' → (∀ b o, g.get? b = some o → g'.get? b = some o) → St O w g' f' (fun x => binds.reverse.lookup x) L s'.heap s'.os s'.gens → (∀ m'' L'' h'' {so'' sg''}, St O w g' f' m'' L'' h'' so'' sg'' → St O w g f m L'' h'' so'' sg'') →
      _root_.PySem.wpAt (model prog w) A' (.func body (callEnv (fdAt w fa) f' fa)) (execs body (callEnv (fdAt w fa) f' fa)) (fun fl s'' => R (.ok (.ret (match fl with | .ret v => v | _ => .none))) s'') (fun _ _ => False) s') :
    codeAny (model prog w) A (.call (.ref fa) args) R s :=
  enterAt binds S r (S.k ho ht) ⟨c, oc, vs, t, hc, S.k hoc htc, hvs, hq⟩ hbody hbind (fun x hx => of_decide_eq_true (List.all_eq_true.mp hcell x hx)) (fun x hx => of_decide_eq_true (List.all_eq_true.mp hloc x hx)) h hco hgen hk
theorem init_spec {i j : Nat} {acc d : Addr} {n : Nat} {v : Value} {R : Result → Shared → Prop} (S : St O w g f m L s.heap s.os s.gens) (r : Rm 8 A)
    (hi : L[i]? = some (acc, accO [] n d)) (hj : L[j]? = some (d, emD)) (hne : i ≠ j)
    (h : ∀ n' t hs s', St O w g f m ((L.set j (d, accD t hs v)).set i (acc, accO [] n' d)) s'.heap s'.os s'.gens → R (.ok (.ret .none)) s') : codeAny (model prog w) A (.call (.ref 137) ⟨[.ref acc, v], []⟩) R s := by
  refine call_atSB [(Str.ofString "self", .ref acc), (Str.ofString "initial_size", v)] S r (by rfl) (by rfl) (by rfl) (by rfl) (by rfl) (by rfl) (by rfl) (by rfl) (BindsTo.of_defaults (T := 129) (by rfl) (S.k (by rfl)) (by rfl) (by rfl) (by kernel_rfl)) (by kernel_rfl) (by kernel_rfl) (by rfl) (by rfl) (by rfl) ?_
  intro g' f' s1 A' r' le S1 back
  refine ks_wpAt_execs_cons (wpAt_of_wpAny (plainObj_wpAny_Assign_Attribute ?_ (by rfl)))
  refine r_local S1 rfl (r_local S1 rfl ?_)
  refine acc_setnew S1 hi hj fun t hs s2 S2 => ?_
  have hi2 : (L.set j (d, accD t hs v))[i]? = some (acc, accO [] n d) := by rw [List.getElem?_set_ne (Ne.symm hne)]; exact hi
  refine ks_wpAt_execs_cons (ks_wpAt_Expr_any (ks_wpAt_MethodCall ?_))
  refine super_node (ar := _) S2 (S2.get i hi2) rfl rfl rfl rfl rfl rfl (S2.k (a := 137) rfl) rfl rfl rfl (S2.k (a := 136) rfl) rfl rfl rfl rfl rfl rfl rfl fun so s3 S3 => ?_
  refine sup_init S3 hi2 fun mw s4 S4 => ?_
  refine r_callW (id := "list.__init__") (x := acc) (kd := true) rfl (r_args0 ⟨S4.get 0 rfl, ?_⟩)
  refine call_bm (S4.get 0 rfl) li_p li_e (li_c acc) ?_
  walk_at "raw"
  refine t_load (S4.get (i + 2) hi2) ?_
  walk_at "raw"
  refine t_load (S4.get (i + 2) hi2) ?_
  walk_at "raw"
  refine t_update (accO [] _ d) S4 (i + 2) hi2 (by rfl) (by rfl) fun s5 S5 => ?_
  walk_at "raw"
  repeat (refine t_load (S5.get (i + 2) (set_get hi2)) ?_; walk_at "raw")
  refine wpAny_pure ?_
  refine wpAt_of_wpAny (wpAny_execs_nil ?_)
  exact h _ t hs _ (back _ _ _ S5.tail.tail)
theorem tc_e : entryFor table "type.__call__" = some Builtin.«type.__call__» := entryFor_of_tree (by kernel_rfl)
theorem tc_k : builtinKind "type.__call__" = some .slot := by kernel_rfl
theorem tc_s : splitId "type.__call__" = some ("type", "__call__") := by kernel_rfl
theorem tc_a (x y : Value) : argsOk "type.__call__" ⟨[x, y], []⟩ := PySem.W.tc_args x [y] []
theorem ln_e : entryFor table "list.__new__" = some Builtin.«list.__new__» := entryFor_of_tree (by kernel_rfl)
theorem ln_p : plainId "list.__new__" = true := by decide +kernel
theorem tc_w (v : Value) : (Code.builtin "type.__call__" ⟨[.ref 200, v], []⟩).weight = 1 := by kernel_rfl
theorem tc_u (v : Value) : (Code.builtin "type.__call__" ⟨[.ref 200, v], []⟩).cUnits = 1 := by kernel_rfl
theorem Rm.under {n : Nat} {c : Code} (r : Rm (n + 1) A) (hw : c.weight = 1) (hu : c.cUnits = 1) : Rm n (A.under c) :=
  ⟨r.hd, by have := r.depth; show A.depth + _ + n ≤ _; omega, by have := r.units; show A.units + _ + _ ≤ _; omega⟩
/-- the call _Accumulator(v) -/
theorem new_acc {v : Value} {R : Result → Shared → Prop} (S : St O w g f m L s.heap s.os s.gens) (r : Rm 9 A)
    (h : ∀ acc d n' t hs s', St O w g f m ((acc, accO [] n' d) :: (d, accD t hs v) :: L) s'.heap s'.os s'.gens → R (.ok (.ret (.ref acc))) s') : codeAny (model prog w) A (.call (.ref 200) ⟨[v], []⟩) R s := by
  refine x_code ?_
  walk_at "raw"
  repeat walk_at "st"
  refine wpAny_pure ⟨rfl, ?_⟩
  refine cb (id := "type.__call__") (by kernel_rfl) ?_
  refine ca (args := ⟨[.ref 200, v], []⟩) rfl ?_
  refine codeAny_call_builtin_at (b := Builtin.«type.__call__») (by kernel_rfl) tc_e ?_
  refine chk_slot (id := "type.__call__") (owner := "type") (name := "__call__") ?_ ?_ ?_ ?_
  · exact tc_k
  · exact tc_s
  · exact tc_a _ _
  walk_at "raw"
  repeat walk_at "st"
  refine wpAny_pure ⟨rfl, ?_⟩
  walk_at "raw"
  repeat walk_at "st"
  refine x_call ?_ (by intro h; cases h)
  refine codeAny_call_builtin_code (plainId_quiet ln_p _) ?_
  walk_at "raw"
  repeat walk_at "st"
  refine wpAny_pure ?_
  refine codeAny_builtin_stack ln_e rfl fun p st => ?_
  rw [Around.under_plainId ln_p _]
  have hown := owner_list_new
  simp only [hown]
  walk_at "raw"
  repeat walk_at "st"
  refine t_alloc S rfl fun d s1 S1 => ?_
  clear S
  walk_at "raw"
  repeat walk_at "st"
  refine t_alloc S1 rfl fun acc s2 S2 => ?_
  clear S1
  walk_at "raw"
  repeat walk_at "st"
  refine wpAny_pure ?_
  walk_at "raw"
  repeat walk_at "st"
  refine x_call ?_ (by intro h; cases h)
  refine init_spec (i := 0) (j := 1) (n := 0) (acc := acc) (d := d) (v := v) S2 ?_ rfl rfl (by decide) fun n' t hs s3 S3 => ?_
  · exact (r.under (tc_w v) (tc_u v)).mark
  walk_at "raw"
  exact wpAny_pure (h acc d n' t hs _ S3)
end
end Mine
namespace Mine
def en (name : String) (x : Tok × Int) (v : Value) : DictEntry := ⟨x.2, .str (Str.ofString name) x.1, v⟩
def dcO (es : List DictEntry) : Obj := ⟨.type "dict", none, .dict es.toArray es.length, #[]⟩
def fmO (md : Addr) : Obj := ⟨.ref 116, some md, .plain, #[]⟩
section
variable {O : OsState} {w : World} {A : Around} {E : Value → Shared → Prop} {s : Shared} {g : Heap} {f : Addr} {m : Str → Option Value} {L : List (Addr × Obj)} {env : Env}
theorem fm_isObj {a d : Addr} {Q : Bool → Shared → Prop} (S : St O w g f m L s.heap s.os s.gens) (ho : s.heap.get? a = some (fmO d)) (h : Q true s) :
    wpAny (model prog w) A (isInstance (.ref a) (.type "object")) Q E s := by
  walk_at "raw"
  repeat walk_at "st"
  exact wpAny_pure h
theorem b_saF {a d : Addr} {v v' : Value} {R : Result → Shared → Prop} (S : St O w g f m L s.heap s.os s.gens) (ho : s.heap.get? a = some (fmO d))
    (h : wpAny (model prog w) A.in1 (Builtin.«object.__setattr__» ⟨[.ref a, v, v'], []⟩) (fun fin s' => match fin with | .done f => R (.ok f) s' | .again c' => c'.quiet = true ∧ codeAny (model prog w) A c' R s') (fun e s' => R (.error e) s') s) :
    codeAny (model prog w) A (.call (.builtin "object.__setattr__") ⟨[.ref a, v, v'], []⟩) R s := by
  refine codeAny_call_builtin p_sa e_sa ?_
  refine chk_slot (id := "object.__setattr__") (owner := "object") (name := "__setattr__") ?_ ?_ ?_ ?_
  · exact k_sa
  · exact s_sa
  · exact a_sa _ _ _
  · exact fm_isObj S ho ⟨rfl, h⟩
theorem fm_set0 {i j : Nat} {mk d : Addr} {v : Value} {Q : Unit → Shared → Prop} (S : St O w g f m L s.heap s.os s.gens) (hi : L[i]? = some (mk, fmO d)) (hj : L[j]? = some (d, dcO []))
    (h : ∀ x s', St O w g f m (L.set j (d, dcO [en "_maxlen" x v])) s'.heap s'.os s'.gens → Q () s') : wpAny (model prog w) A (setAttr (.ref mk) (Str.ofString "_maxlen") v) Q E s := by
  walk_at "raw"
  refine t_fresh S fun tk s1 S1 => ?_
  clear S
  have ho := S1.get i hi
  have hd := S1.get j hj
  walk_at "raw"
  repeat walk_at "st"
  refine x_call ?_ (by intro h; cases h)
  refine cb (id := "object.__setattr__") (by kernel_rfl) ?_
  refine b_saF S1 ho ?_
  walk_at "raw"
  repeat walk_at "st"
  refine t_fresh S1 fun tk2 s2 S2 => ?_
  clear S1 ho hd
  have ho := S2.get i hi
  have hd := S2.get j hj
  walk_at "raw"
  repeat walk_at "st"
  refine t_update (dcO [en "_maxlen" (tk2, _) v]) S2 j hj (by rfl) (by rfl) fun s3 S3 => ?_
  walk_at "raw"
  refine t_load (S3.get j (set_get hj)) ?_
  walk_at "raw"
  refine wpAny_pure ?_
  walk_at "raw"
  exact wpAny_pure (h _ _ S3)
theorem fm_set1 {i j : Nat} {mk d : Addr} {x0 : Tok × Int} {v0 : Value} {v : Value} {Q : Unit → Shared → Prop} (S : St O w g f m L s.heap s.os s.gens) (hi : L[i]? = some (mk, fmO d)) (hj : L[j]? = some (d, dcO [en "_maxlen" x0 v0]))
    (h : ∀ x s', St O w g f m (L.set j (d, dcO [en "_maxlen" x0 v0, en "_continuation_ws" x v])) s'.heap s'.os s'.gens → Q () s') : wpAny (model prog w) A (setAttr (.ref mk) (Str.ofString "_continuation_ws") v) Q E s := by
  walk_at "raw"
  refine t_fresh S fun tk s1 S1 => ?_
  clear S
  have ho := S1.get i hi
  have hd := S1.get j hj
  walk_at "raw"
  repeat walk_at "st"
  refine x_call ?_ (by intro h; cases h)
  refine cb (id := "object.__setattr__") (by kernel_rfl) ?_
  refine b_saF S1 ho ?_
  walk_at "raw"
  repeat walk_at "st"
  refine t_fresh S1 fun tk2 s2 S2 => ?_
  clear S1 ho hd
  have ho := S2.get i hi
  have hd := S2.get j hj
  walk_at "raw"
  repeat walk_at "st"
  refine t_update (dcO [en "_maxlen" x0 v0, en "_continuation_ws" (tk2, _) v]) S2 j hj (by rfl) (by rfl) fun s3 S3 => ?_
  walk_at "raw"
  refine t_load (S3.get j (set_get hj)) ?_
  walk_at "raw"
  refine wpAny_pure ?_
  walk_at "raw"
  exact wpAny_pure (h _ _ S3)
theorem fm_set2 {i j : Nat} {mk d : Addr} {x0 x1 : Tok × Int} {v0 v1 : Value} {v : Value} {Q : Unit → Shared → Prop} (S : St O w g f m L s.heap s.os s.gens) (hi : L[i]? = some (mk, fmO d)) (hj : L[j]? = some (d, dcO [en "_maxlen" x0 v0, en "_continuation_ws" x1 v1]))
    (h : ∀ x s', St O w g f m (L.set j (d, dcO [en "_maxlen" x0 v0, en "_continuation_ws" x1 v1, en "_continuation_ws_len" x v])) s'.heap s'.os s'.gens → Q () s') : wpAny (model prog w) A (setAttr (.ref mk) (Str.ofString "_continuation_ws_len") v) Q E s := by
  walk_at "raw"
  refine t_fresh S fun tk s1 S1 => ?_
  clear S
  have ho := S1.get i hi
  have hd := S1.get j hj
  walk_at "raw"
  repeat walk_at "st"
  refine x_call ?_ (by intro h; cases h)
  refine cb (id := "object.__setattr__") (by kernel_rfl) ?_
  refine b_saF S1 ho ?_
  walk_at "raw"
  repeat walk_at "st"
  refine t_fresh S1 fun tk2 s2 S2 => ?_
  clear S1 ho hd
  have ho := S2.get i hi
  have hd := S2.get j hj
  walk_at "raw"
  repeat walk_at "st"
  refine t_update (dcO [en "_maxlen" x0 v0, en "_continuation_ws" x1 v1, en "_continuation_ws_len" (tk2, _) v]) S2 j hj (by rfl) (by rfl) fun s3 S3 => ?_
  walk_at "raw"
  refine t_load (S3.get j (set_get hj)) ?_
  walk_at "raw"
  refine wpAny_pure ?_
  walk_at "raw"
  exact wpAny_pure (h _ _ S3)
theorem fm_set3 {i j : Nat} {mk d : Addr} {x0 x1 x2 : Tok × Int} {v0 v1 v2 : Value} {v : Value} {Q : Unit → Shared → Prop} (S : St O w g f m L s.heap s.os s.gens) (hi : L[i]? = some (mk, fmO d)) (hj : L[j]? = some (d, dcO [en "_maxlen" x0 v0, en "_continuation_ws" x1 v1, en "_continuation_ws_len" x2 v2]))
    (h : ∀ x s', St O w g f m (L.set j (d, dcO [en "_maxlen" x0 v0, en "_continuation_ws" x1 v1, en "_continuation_ws_len" x2 v2, en "_splitchars" x v])) s'.heap s'.os s'.gens → Q () s') : wpAny (model prog w) A (setAttr (.ref mk) (Str.ofString "_splitchars") v) Q E s := by
  walk_at "raw"
  refine t_fresh S fun tk s1 S1 => ?_
  clear S
  have ho := S1.get i hi
  have hd := S1.get j hj
  walk_at "raw"
  repeat walk_at "st"
  refine x_call ?_ (by intro h; cases h)
  refine cb (id := "object.__setattr__") (by kernel_rfl) ?_
  refine b_saF S1 ho ?_
  walk_at "raw"
  repeat walk_at "st"
  refine t_fresh S1 fun tk2 s2 S2 => ?_
  clear S1 ho hd
  have ho := S2.get i hi
  have hd := S2.get j hj
  walk_at "raw"
  repeat walk_at "st"
  refine t_update (dcO [en "_maxlen" x0 v0, en "_continuation_ws" x1 v1, en "_continuation_ws_len" x2 v2, en "_splitchars" (tk2, _) v]) S2 j hj (by rfl) (by rfl) fun s3 S3 => ?_
  walk_at "raw"
  refine t_load (S3.get j (set_get hj)) ?_
  walk_at "raw"
  refine wpAny_pure ?_
  walk_at "raw"
  exact wpAny_pure (h _ _ S3)
theorem fm_set4 {i j : Nat} {mk d : Addr} {x0 x1 x2 x3 : Tok × Int} {v0 v1 v2 v3 : Value} {v : Value} {Q : Unit → Shared → Prop} (S : St O w g f m L s.heap s.os s.gens) (hi : L[i]? = some (mk, fmO d)) (hj : L[j]? = some (d, dcO [en "_maxlen" x0 v0, en "_continuation_ws" x1 v1, en "_continuation_ws_len" x2 v2, en "_splitchars" x3 v3]))
    (h : ∀ x s', St O w g f m (L.set j (d, dcO [en "_maxlen" x0 v0, en "_continuation_ws" x1 v1, en "_continuation_ws_len" x2 v2, en "_splitchars" x3 v3, en "_lines" x v])) s'.heap s'.os s'.gens → Q () s') : wpAny (model prog w) A (setAttr (.ref mk) (Str.ofString "_lines") v) Q E s := by
  walk_at "raw"
  refine t_fresh S fun tk s1 S1 => ?_
  clear S
  have ho := S1.get i hi
  have hd := S1.get j hj
  walk_at "raw"
  repeat walk_at "st"
  refine x_call ?_ (by intro h; cases h)
  refine cb (id := "object.__setattr__") (by kernel_rfl) ?_
  refine b_saF S1 ho ?_
  walk_at "raw"
  repeat walk_at "st"
  refine t_fresh S1 fun tk2 s2 S2 => ?_
  clear S1 ho hd
  have ho := S2.get i hi
  have hd := S2.get j hj
  walk_at "raw"
  repeat walk_at "st"
  refine t_update (dcO [en "_maxlen" x0 v0, en "_continuation_ws" x1 v1, en "_continuation_ws_len" x2 v2, en "_splitchars" x3 v3, en "_lines" (tk2, _) v]) S2 j hj (by rfl) (by rfl) fun s3 S3 => ?_
  walk_at "raw"
  refine t_load (S3.get j (set_get hj)) ?_
  walk_at "raw"
  refine wpAny_pure ?_
  walk_at "raw"
  exact wpAny_pure (h _ _ S3)
theorem fm_set5 {i j : Nat} {mk d : Addr} {x0 x1 x2 x3 x4 : Tok × Int} {v0 v1 v2 v3 v4 : Value} {v : Value} {Q : Unit → Shared → Prop} (S : St O w g f m L s.heap s.os s.gens) (hi : L[i]? = some (mk, fmO d)) (hj : L[j]? = some (d, dcO [en "_maxlen" x0 v0, en "_continuation_ws" x1 v1, en "_continuation_ws_len" x2 v2, en "_splitchars" x3 v3, en "_lines" x4 v4]))
    (h : ∀ x s', St O w g f m (L.set j (d, dcO [en "_maxlen" x0 v0, en "_continuation_ws" x1 v1, en "_continuation_ws_len" x2 v2, en "_splitchars" x3 v3, en "_lines" x4 v4, en "_current_line" x v])) s'.heap s'.os s'.gens → Q () s') : wpAny (model prog w) A (setAttr (.ref mk) (Str.ofString "_current_line") v) Q E s := by
  walk_at "raw"
  refine t_fresh S fun tk s1 S1 => ?_
  clear S
  have ho := S1.get i hi
  have hd := S1.get j hj
  walk_at "raw"
  repeat walk_at "st"
  refine x_call ?_ (by intro h; cases h)
  refine cb (id := "object.__setattr__") (by kernel_rfl) ?_
  refine b_saF S1 ho ?_
  walk_at "raw"
  repeat walk_at "st"
  refine t_fresh S1 fun tk2 s2 S2 => ?_
  clear S1 ho hd
  have ho := S2.get i hi
  have hd := S2.get j hj
  walk_at "raw"
  repeat walk_at "st"
  refine t_update (dcO [en "_maxlen" x0 v0, en "_continuation_ws" x1 v1, en "_continuation_ws_len" x2 v2, en "_splitchars" x3 v3, en "_lines" x4 v4, en "_current_line" (tk2, _) v]) S2 j hj (by rfl) (by rfl) fun s3 S3 => ?_
  walk_at "raw"
  refine t_load (S3.get j (set_get hj)) ?_
  walk_at "raw"
  refine wpAny_pure ?_
  walk_at "raw"
  exact wpAny_pure (h _ _ S3)
end
end Mine
namespace Mine
structure MkT where
  x0 : Tok × Int
  x1 : Tok × Int
  x2 : Tok × Int
  x3 : Tok × Int
  x4 : Tok × Int
  x5 : Tok × Int
def mkD (X : MkT) (v0 v1 v2 v3 v4 v5 : Value) : Obj := dcO [en "_maxlen" X.x0 v0, en "_continuation_ws" X.x1 v1, en "_continuation_ws_len" X.x2 v2, en "_splitchars" X.x3 v3, en "_lines" X.x4 v4, en "_current_line" X.x5 v5]
section
variable {O : OsState} {w : World} {A : Around} {E : Value → Shared → Prop} {s : Shared} {g : Heap} {f : Addr} {m : Str → Option Value} {L : List (Addr × Obj)} {env : Env}
theorem keep200 {Q : Keeper → Shared → Prop} (S : St O w g f m L s.heap s.os s.gens) (h : Q .machine s) : wpAny (model prog w) A (keeperOf (.ref 200)) Q E s := by
  walk_at "raw"
  repeat walk_at "st"
  exact wpAny_pure h
theorem keep116 {Q : Keeper → Shared → Prop} (S : St O w g f m L s.heap s.os s.gens) (h : Q .machine s) : wpAny (model prog w) A (keeperOf (.ref 116)) Q E s := by
  walk_at "raw"
  repeat walk_at "st"
  exact wpAny_pure h
/-- a class called -/
theorem r_callC {c : Addr} {pos : Pos} {args : List (Bool × Sem Value)} {Q : Value → Shared → Prop} (hs : args.any (·.1) = false)
    (h : wpAny (model prog w) A (evalArgs (.ref c) true args []) (fun a s₁ => (∀ {A : Around} {Q : Keeper → Shared → Prop} {E : Value → Shared → Prop}, Q .machine s₁ → wpAny (model prog w) A (keeperOf (.ref c)) Q E s₁) ∧
      codeAny (model prog w) A (.call (.ref c) ⟨[] ++ a.pos, a.kw⟩) (fun r s' => match r with | .ok (.ret v) => Q v s' | .ok _ => False | .error e => E e s') s₁) E s) :
    wpAny (model prog w) A (callWith pos (.ref c) [] args []) Q E s := by
  unfold callWith
  refine wpAny_bind (wpAny_holding (wpAny_mono h (fun a s₁ q => wpAny_bind (wpAny_standAt ?_)) fun _ _ e => e))
  rw [hs]
  refine wpAny_bind (q.1 ?_)
  refine wpAny_bind (wpAny_call (codeAny_mono q.2 fun r s' z => ?_))
  cases r with
  | error e => exact z
  | ok fl =>
    cases fl with
    | ret v => exact wpAny_bind (wpAny_holding (wpAny_point (wpAny_pure z)))
    | _ => exact z.elim
theorem g_acc (w : World) : nsLook (Str.ofString "_Accumulator") (o3 w) = pure (some (.ref 200)) := by kernel_rfl
theorem initF_spec {i j : Nat} {mk d : Addr} {v1 v2 : Value} {x3 : Str} {t3 : Tok} {v4 : Value} {R : Result → Shared → Prop} (S : St O w g f m L s.heap s.os s.gens) (r : Rm 20 A)
    (hi : L[i]? = some (mk, fmO d)) (hj : L[j]? = some (d, dcO [])) (hne : i ≠ j) (h3 : x3.length < 1000)
    (h : ∀ acc da n' t hs ln X t2 s', St O w g f m ((acc, accO [] n' da) :: (da, accD t hs v1) :: (ln, lstO []) :: L.set j (d, mkD X v2 (.str x3 t3) (.int x3.length t2) v4 (.ref ln) (.ref acc))) s'.heap s'.os s'.gens → R (.ok (.ret .none)) s') :
    codeAny (model prog w) A (.call (.ref 57) ⟨[.ref mk, v1, v2, .str x3 t3, v4], []⟩) R s := by
  refine call_at [(Str.ofString "self", .ref mk), (Str.ofString "headerlen", v1), (Str.ofString "maxlen", v2), (Str.ofString "continuation_ws", .str x3 t3), (Str.ofString "splitchars", v4)] S r (by rfl) (by rfl) (by rfl) (by rfl) (by rfl) (by rfl) (by rfl) (by rfl) (by kernel_rfl) (by kernel_rfl) (by kernel_rfl) (by rfl) (by rfl) (by rfl) ?_
  intro g' f' s1 A' r' le S1 back
  walk_at "env"
  have gi : ∀ o, (L.set j (d, o))[i]? = some (mk, fmO d) := fun o => by rw [List.getElem?_set_ne (Ne.symm hne)]; exact hi
  have gj : ∀ o, (L.set j (d, o))[j]? = some (d, o) := fun o => set_get hj
  refine r_execs_cons (plainObj_wpAny_Assign_Attribute ?_ (by rfl))
  refine r_local S1 rfl (r_local S1 rfl ?_)
  refine fm_set0 S1 hi hj fun x0 s2 S2 => ?_
  refine r_execs_cons (plainObj_wpAny_Assign_Attribute ?_ (by rfl))
  refine r_local S2 rfl (r_local S2 rfl ?_)
  refine fm_set1 S2 (gi _) (gj _) fun x1 s3 S3 => ?_
  rw [List.set_set] at S3
  refine r_execs_cons (plainObj_wpAny_Assign_Attribute ?_ (by rfl))
  refine wpAny_Call_NameR (r_builtin S3 (g_len w).1 (g_len w).2 ?_)
  refine Calls.callWith_builtin rfl ?_
  refine r_args1 (r_local S3 rfl ?_)
  refine r_item0 ?_
  refine P.len_str (by omega) ?_
  have S4 : St O w g' f' _ _ ({ s3 with toks := s3.toks + 1 } : Shared).heap ({ s3 with toks := s3.toks + 1 } : Shared).os ({ s3 with toks := s3.toks + 1 } : Shared).gens := S3
  refine r_local S4 rfl ?_
  refine fm_set2 S4 (gi _) (gj _) fun x2 s5 S5 => ?_
  rw [List.set_set] at S5
  refine r_execs_cons (plainObj_wpAny_Assign_Attribute ?_ (by rfl))
  refine r_local S5 rfl (r_local S5 rfl ?_)
  refine fm_set3 S5 (gi _) (gj _) fun x3 s6 S6 => ?_
  rw [List.set_set] at S6
  refine r_execs_cons (plainObj_wpAny_Assign_Attribute ?_ (by rfl))
  refine r_list (O := O) (r_item0 ⟨by simp [sizeLine], _, _, _, _, S6, fun ln s7 S7 => ?_⟩)
  refine r_local S7 rfl ?_
  refine fm_set4 (i := i + 1) (j := j + 1) S7 (gi _) (gj _) fun x4 s8 S8 => ?_
  rw [List.set_cons_succ, List.set_set] at S8
  refine r_execs_cons (plainObj_wpAny_Assign_Attribute ?_ (by rfl))
  refine wpAny_Call_NameR (r_global S8 (g_acc w) ?_)
  refine r_callC rfl (r_args1 (r_local S8 rfl ?_))
  refine r_item0 ⟨fun q => keep200 S8 q, ?_⟩
  refine new_acc S8 (r'.le (by decide)) fun acc da n' t hs s9 S9 => ?_
  refine r_local S9 rfl ?_
  refine fm_set5 (i := i + 3) (j := j + 3) S9 (gi _) (gj _) fun x5 s10 S10 => ?_
  rw [List.set_cons_succ, List.set_cons_succ, List.set_cons_succ, List.set_set] at S10
  exact wpAny_execs_nil (h _ _ _ _ _ _ ⟨x0, x1, x2, x3, x4, x5⟩ _ _ (back _ _ _ S10))
theorem on_e : entryFor table "object.__new__" = some Builtin.«object.__new__» := F.entry_object_new
theorem on_p : plainId "object.__new__" = true := by decide +kernel
theorem tc_w4 (v1 v2 v3 v4 : Value) : (Code.builtin "type.__call__" ⟨[.ref 116, v1, v2, v3, v4], []⟩).weight = 1 := by kernel_rfl
theorem tc_u4 (v1 v2 v3 v4 : Value) : (Code.builtin "type.__call__" ⟨[.ref 116, v1, v2, v3, v4], []⟩).cUnits = 1 := by kernel_rfl
theorem new_fm {v1 v2 : Value} {x3 : Str} {t3 : Tok} {v4 : Value} {R : Result → Shared → Prop} (S : St O w g f m L s.heap s.os s.gens) (r : Rm 21 A) (h3 : x3.length < 1000)
    (h : ∀ mk d acc da n' t hs ln X t2 s', St O w g f m ((acc, accO [] n' da) :: (da, accD t hs v1) :: (ln, lstO []) :: (mk, fmO d) :: (d, mkD X v2 (.str x3 t3) (.int x3.length t2) v4 (.ref ln) (.ref acc)) :: L) s'.heap s'.os s'.gens → R (.ok (.ret (.ref mk))) s') :
    codeAny (model prog w) A (.call (.ref 116) ⟨[v1, v2, .str x3 t3, v4], []⟩) R s := by
  refine x_code ?_
  walk_at "raw"
  repeat walk_at "st"
  refine wpAny_pure ⟨rfl, ?_⟩
  refine cb (id := "type.__call__") (by kernel_rfl) ?_
  refine ca (args := ⟨[.ref 116, v1, v2, .str x3 t3, v4], []⟩) rfl ?_
  refine codeAny_call_builtin_at (b := Builtin.«type.__call__») (by kernel_rfl) tc_e ?_
  refine chk_slot (id := "type.__call__") (owner := "type") (name := "__call__") ?_ ?_ ?_ ?_
  · exact tc_k
  · exact tc_s
  · unfold argsOk; kernel_rfl
  walk_at "raw"
  repeat walk_at "st"
  refine wpAny_pure ⟨rfl, ?_⟩
  walk_at "raw"
  repeat walk_at "st"
  refine x_call ?_ (by intro h; cases h)
  refine codeAny_call_builtin_code (plainId_quiet on_p _) ?_
  walk_at "raw"
  repeat walk_at "st"
  refine wpAny_pure ?_
  refine codeAny_builtin on_e ?_
  rw [Around.under_plainId on_p _]
  walk_at "raw"
  repeat walk_at "st"
  refine t_alloc S rfl fun d s1 S1 => ?_
  clear S
  walk_at "raw"
  repeat walk_at "st"
  refine t_alloc S1 rfl fun mk s2 S2 => ?_
  clear S1
  walk_at "raw"
  repeat walk_at "st"
  refine wpAny_pure ?_
  walk_at "raw"
  repeat walk_at "st"
  refine x_call ?_ (by intro h; cases h)
  refine initF_spec (i := 0) (j := 1) (mk := mk) (d := d) (v1 := v1) S2 ((r.under (tc_w4 _ _ _ _) (tc_u4 _ _ _ _)).mark) rfl rfl (by decide) h3 fun acc da n' t hs ln X t2 s3 S3 => ?_
  walk_at "raw"
  exact wpAny_pure (h mk d acc da n' t hs ln X t2 _ S3)
end
end Mine
namespace Mine
/-- a formatter, as it stays: width, split signs, its lines' list, its line -/
structure Mk where
  a : Addr
  d : Addr
  X : MkT
  W : Int
  tw : Tok
  ts : Tok
  v1 : Value
  v2 : Value
  ln : Addr
  acc : Addr
def Mk.D (K : Mk) : Obj := mkD K.X (.int K.W K.tw) K.v1 K.v2 (.str (Str.ofString " ") K.ts) (.ref K.ln) (.ref K.acc)
structure Mk.In (K : Mk) (g : Heap) : Prop where
  o : g.get? K.a = some (fmO K.d)
  e : g.get? K.d = some K.D
theorem Mk.In.le {K : Mk} {g g' : Heap} (k : K.In g) (le : ∀ b o, g.get? b = some o → g'.get? b = some o) : K.In g' := ⟨le _ _ k.o, le _ _ k.e⟩
section
variable {O : OsState} {w : World} {A : Around} {E : Value → Shared → Prop} {s : Shared} {g : Heap} {f : Addr} {m : Str → Option Value} {L : List (Addr × Obj)} {env : Env}
theorem gh_e : entryFor table "proto.getattr_hooked" = some Builtin.«proto.getattr_hooked» := F.entry_getattr_hooked
theorem fm_getLine {K : Mk} {Q : Value → Shared → Prop} (S : St O w g f m L s.heap s.os s.gens) (k : K.In g)
    (h : ∀ s', St O w g f m L s'.heap s'.os s'.gens → Q (.ref K.acc) s') : wpAny (model prog w) A (getAttr (.ref K.a) (Str.ofString "_current_line") true) Q E s := by
  walk_at "raw"
  refine t_fresh S fun tk s1 S1 => ?_
  clear S
  have ho1 := S1.keep _ _ k.o
  have hd1 := S1.keep _ _ k.e
  walk_at "raw"
  repeat walk_at "st"
  refine x_call ?_ (by intro h; cases h)
  refine codeAny_builtin gh_e ?_
  walk_at "raw"
  repeat walk_at "st"
  refine wpAny_pure ?_
  walk_at "raw"
  exact wpAny_pure (h _ S1)
theorem fm_getLines {K : Mk} {Q : Value → Shared → Prop} (S : St O w g f m L s.heap s.os s.gens) (k : K.In g)
    (h : ∀ s', St O w g f m L s'.heap s'.os s'.gens → Q (.ref K.ln) s') : wpAny (model prog w) A (getAttr (.ref K.a) (Str.ofString "_lines") true) Q E s := by
  walk_at "raw"
  refine t_fresh S fun tk s1 S1 => ?_
  clear S
  have ho1 := S1.keep _ _ k.o
  have hd1 := S1.keep _ _ k.e
  walk_at "raw"
  repeat walk_at "st"
  refine x_call ?_ (by intro h; cases h)
  refine codeAny_builtin gh_e ?_
  walk_at "raw"
  repeat walk_at "st"
  refine wpAny_pure ?_
  walk_at "raw"
  exact wpAny_pure (h _ S1)
theorem fm_getMax {K : Mk} {Q : Value → Shared → Prop} (S : St O w g f m L s.heap s.os s.gens) (k : K.In g)
    (h : ∀ s', St O w g f m L s'.heap s'.os s'.gens → Q (.int K.W K.tw) s') : wpAny (model prog w) A (getAttr (.ref K.a) (Str.ofString "_maxlen") true) Q E s := by
  walk_at "raw"
  refine t_fresh S fun tk s1 S1 => ?_
  clear S
  have ho1 := S1.keep _ _ k.o
  have hd1 := S1.keep _ _ k.e
  walk_at "raw"
  repeat walk_at "st"
  refine x_call ?_ (by intro h; cases h)
  refine codeAny_builtin gh_e ?_
  walk_at "raw"
  repeat walk_at "st"
  refine wpAny_pure ?_
  walk_at "raw"
  exact wpAny_pure (h _ S1)
theorem fm_getSc {K : Mk} {Q : Value → Shared → Prop} (S : St O w g f m L s.heap s.os s.gens) (k : K.In g)
    (h : ∀ s', St O w g f m L s'.heap s'.os s'.gens → Q (.str (Str.ofString " ") K.ts) s') : wpAny (model prog w) A (getAttr (.ref K.a) (Str.ofString "_splitchars") true) Q E s := by
  walk_at "raw"
  refine t_fresh S fun tk s1 S1 => ?_
  clear S
  have ho1 := S1.keep _ _ k.o
  have hd1 := S1.keep _ _ k.e
  walk_at "raw"
  repeat walk_at "st"
  refine x_call ?_ (by intro h; cases h)
  refine codeAny_builtin gh_e ?_
  walk_at "raw"
  repeat walk_at "st"
  refine wpAny_pure ?_
  walk_at "raw"
  exact wpAny_pure (h _ S1)
theorem fm_ga {K : Mk} {Q : Option Value → Shared → Prop} (S : St O w g f m L s.heap s.os s.gens) (k : K.In g) (h : Q (some (.builtin "object.__getattribute__")) s) :
    wpAny (model prog w) A (specialOf (.ref K.a) (Str.ofString "__getattribute__")) Q E s := by
  have ho1 := S.keep _ _ k.o
  walk_at "raw"
  repeat walk_at "st"
  exact wpAny_pure h
theorem fm_gt {K : Mk} {Q : Option Value → Shared → Prop} (S : St O w g f m L s.heap s.os s.gens) (k : K.In g) (h : Q none s) :
    wpAny (model prog w) A (specialOf (.ref K.a) (Str.ofString "__getattr__")) Q E s := by
  have ho1 := S.keep _ _ k.o
  walk_at "raw"
  repeat walk_at "st"
  exact wpAny_pure h
noncomputable def o115 (w : World) : Obj := ((KF w).lookup 115).getD default
theorem St.c115 {h : Heap} (S : St O w g f m L h so sg) : h.get? 115 = some (o115 w) := S.k rfl
theorem fm_type {K : Mk} {Q : Value → Shared → Prop} (S : St O w g f m L s.heap s.os s.gens) (k : K.In g) (h : Q (.ref 116) s) : wpAny (model prog w) A (typeOf (.ref K.a)) Q E s := by
  have ho := S.keep _ _ k.o
  walk_at "raw"
  repeat walk_at "st"
  exact wpAny_pure h
theorem fm_mro {Q : List Value → Shared → Prop} (S : St O w g f m L s.heap s.os s.gens) (h : Q [.ref 116, .type "object"] s) : wpAny (model prog w) A (mroOf (.ref 116)) Q E s := by
  walk_at "raw"
  repeat walk_at "st"
  exact wpAny_pure h
theorem fm_own {name : Str} {v : Option Value} {Q : Option Value → Shared → Prop} (S : St O w g f m L s.heap s.os s.gens) (hn : nsLook name (o115 w) = pure v) (h : Q v s) : wpAny (model prog w) A (classOwn (.ref 116) name) Q E s := by
  unfold classOwn
  have e : wpAny (model prog w) A (classData 116) (fun c s' => wpAny (model prog w) A (nsGet c.ns name) Q E s') E s := by
    unfold classData
    refine wpAny_bind (wpAny_load (S.k (a := 116) rfl) ?_)
    refine wpAny_pure ?_
    unfold nsGet
    refine wpAny_bind (wpAny_loadPart S.c115 ?_)
    rw [hn]
    exact wpAny_pure h
  exact wpAny_bind e
/-- a method of the class itself -/
theorem fm_meth {K : Mk} {name : Str} {fa : Addr} {pl : Sem Bool} {Q : Value × List Value → Shared → Prop} (S : St O w g f m L s.heap s.os s.gens) (k : K.In g)
    (hn : nsLook name (o115 w) = pure (some (.ref fa))) (hf : ∃ o, s.heap.get? fa = some o ∧ o.cls = .type "function") (hne : nsLook name K.D = pure none) (h : Q (.ref fa, [.ref K.a]) s) :
    wpAny (model prog w) A (getMethod (.ref K.a) name pl) Q E s := by
  obtain ⟨of, hof, hcf⟩ := hf
  unfold getMethod
  refine wpAny_bind (fm_ga S k ?_)
  dsimp only
  rw [if_neg (by rw [PySem.F.canon_object_ga]; exact Bool.false_ne_true)]
  refine wpAny_bind (fm_gt S k ?_)
  rw [if_neg (by exact Bool.false_ne_true)]
  refine wpAny_bind (m := specialOf (.ref K.a) name) ?_
  unfold specialOf typeLookup
  refine wpAny_bind (fm_type S k ?_)
  refine wpAny_bind (fm_mro S ?_)
  simp only [List.forIn_cons]
  refine wpAny_bind (wpAny_bind (wpAny_bind (fm_own S hn (wpAny_pure ?_))))
  refine wpAny_pure ?_
  refine wpAny_pure ?_
  dsimp only
  refine wpAny_bind (m := typeOf (.ref fa)) (wpAny_typeOf (T := "function") ⟨of, hof, hcf⟩ ?_)
  rw [if_neg (by decide)]
  refine wpAny_bind (wpAny_loadPart (S.keep _ _ k.o) ?_)
  dsimp only [fmO]
  unfold nsGet
  refine wpAny_bind (wpAny_bind (wpAny_loadPart (S.keep _ _ k.e) ?_))
  rw [hne]
  refine wpAny_pure ?_
  rw [if_neg (by exact Bool.false_ne_true)]
  exact wpAny_bind (wpAny_rule (wpAny_pure h))
theorem n_nl (w : World) : nsLook (Str.ofString "newline") (o115 w) = pure (some (.ref 78)) := by kernel_rfl
theorem n_ac (w : World) : nsLook (Str.ofString "_append_chunk") (o115 w) = pure (some (.ref 113)) := by kernel_rfl
theorem n_as (w : World) : nsLook (Str.ofString "_ascii_split") (o115 w) = pure (some (.ref 106)) := by kernel_rfl
theorem n_st (w : World) : nsLook (Str.ofString "_str") (o115 w) = pure (some (.ref 64)) := by kernel_rfl
theorem k_nl (K : Mk) : nsLook (Str.ofString "newline") K.D = pure none := by kernel_rfl
theorem k_ac (K : Mk) : nsLook (Str.ofString "_append_chunk") K.D = pure none := by kernel_rfl
theorem k_as (K : Mk) : nsLook (Str.ofString "_ascii_split") K.D = pure none := by kernel_rfl
theorem k_st (K : Mk) : nsLook (Str.ofString "_str") K.D = pure none := by kernel_rfl
theorem fm_meth_nl {K : Mk} {pl : Sem Bool} {Q : Value × List Value → Shared → Prop} (S : St O w g f m L s.heap s.os s.gens) (k : K.In g) (h : Q (.ref 78, [.ref K.a]) s) :
    wpAny (model prog w) A (getMethod (.ref K.a) (Str.ofString "newline") pl) Q E s := by
  have hf : ∃ o, s.heap.get? 78 = some o ∧ o.cls = .type "function" := ⟨_, S.k rfl, rfl⟩
  with_reducible exact fm_meth S k (n_nl w) hf (k_nl K) h
theorem fm_meth_ac {K : Mk} {pl : Sem Bool} {Q : Value × List Value → Shared → Prop} (S : St O w g f m L s.heap s.os s.gens) (k : K.In g) (h : Q (.ref 113, [.ref K.a]) s) :
    wpAny (model prog w) A (getMethod (.ref K.a) (Str.ofString "_append_chunk") pl) Q E s := by
  have hf : ∃ o, s.heap.get? 113 = some o ∧ o.cls = .type "function" := ⟨_, S.k rfl, rfl⟩
  with_reducible exact fm_meth S k (n_ac w) hf (k_ac K) h
theorem fm_meth_as {K : Mk} {pl : Sem Bool} {Q : Value × List Value → Shared → Prop} (S : St O w g f m L s.heap s.os s.gens) (k : K.In g) (h : Q (.ref 106, [.ref K.a]) s) :
    wpAny (model prog w) A (getMethod (.ref K.a) (Str.ofString "_ascii_split") pl) Q E s := by
  have hf : ∃ o, s.heap.get? 106 = some o ∧ o.cls = .type "function" := ⟨_, S.k rfl, rfl⟩
  with_reducible exact fm_meth S k (n_as w) hf (k_as K) h
theorem fm_meth_str {K : Mk} {pl : Sem Bool} {Q : Value × List Value → Shared → Prop} (S : St O w g f m L s.heap s.os s.gens) (k : K.In g) (h : Q (.ref 64, [.ref K.a]) s) :
    wpAny (model prog w) A (getMethod (.ref K.a) (Str.ofString "_str") pl) Q E s := by
  have hf : ∃ o, s.heap.get? 64 = some o ∧ o.cls = .type "function" := ⟨_, S.k rfl, rfl⟩
  with_reducible exact fm_meth S k (n_st w) hf (k_st K) h
end
end Mine
namespace Mine
section
variable {O : OsState} {w : World} {A : Around} {E : Value → Shared → Prop} {s : Shared} {g : Heap} {f : Addr} {m : Str → Option Value} {L : List (Addr × Obj)} {env : Env}
theorem Rm.in1 {n : Nat} (r : Rm (n + 1) A) : Rm n A.in1 := ⟨r.hd, by have := r.depth; show A.depth + n ≤ _; omega, by have := r.units; show A.units + 1 + _ ≤ _; omega⟩
theorem len_acc {i j : Nat} {acc d : Addr} {ps : List Part} {n : Nat} {t : Tok} {hs c : Int} {tc : Tok} {R : Result → Shared → Prop} (S : St O w g f m L s.heap s.os s.gens) (r : Rm 9 A)
    (hi : L[i]? = some (acc, accP ps n d)) (hj : L[j]? = some (d, accD t hs (.int c tc))) (hp : PartsIn g ps) (hx : ∀ p ∈ ps, p.x.length < 1000000 ∧ p.y.length < 1000000) (h0 : 0 ≤ c + plen ps) (h1 : c + plen ps < 1000000000)
    (h : ∀ t' s', St O w g f m L s'.heap s'.os s'.gens → R (.ok (.ret (.int (c + plen ps) t'))) s') : codeAny (model prog w) A (.call (.builtin "len") ⟨[.ref acc], []⟩) R s := by
  have ho := S.get i hi
  have hd := S.get j hj
  refine b_fun kind_len plain_len entry_len (args_len1 _) ?_
  walk_at "raw"
  repeat walk_at "st"
  refine x_call ?_ (by intro h; cases h)
  refine len_spec (acc := acc) (d := d) (ps := ps) (c := c) S r.in1.mark hi hj hp hx fun t' s' S' => ?_
  walk_at "raw"
  simp only [if_neg (show ¬ c + plen ps < 0 by omega), if_neg (show ¬ (c + plen ps ≥ 2 ^ 63) by omega)]
  walk_at "raw"
  refine t_fresh S' fun tk s1 S1 => ?_
  walk_at "raw"
  exact wpAny_pure (h _ _ S1)
theorem strOf_acc {i j : Nat} {acc d : Addr} {ps : List Part} {n : Nat} {t : Tok} {hs : Int} {sz : Value} {Q : Value → Shared → Prop} (S : St O w g f m L s.heap s.os s.gens) (r : Rm 9 A)
    (hi : L[i]? = some (acc, accP ps n d)) (hj : L[j]? = some (d, accD t hs sz)) (hp : PartsIn g ps) (hx : ∀ p ∈ ps, p.x.length < 1000 ∧ p.y.length < 1000) (hn : ps.length ≤ 1000)
    (h : ∀ t' s', St O w g f m L s'.heap s'.os s'.gens → Q (.str (ptext ps) t') s') : wpAny (model prog w) A (Builtin.Str.strOf (.ref acc)) Q E s := by
  have ho := S.get i hi
  have hd := S.get j hj
  unfold Builtin.Str.strOf
  rw [show Builtin.Str.isExactStr (.ref acc) = false from rfl]
  refine wpAny_bind (m := cRoomFor _ _) (wpAny_cRoomFor (by have := r.units; unfold cLine; omega) ?_)
  walk_at "raw"
  repeat walk_at "st"
  refine x_call ?_ (by intro h; cases h)
  refine str_spec (acc := acc) (d := d) (ps := ps) S (r.le (by decide)).mark hi hj hp hx hn fun t' s' S' => ?_
  walk_at "raw"
  exact wpAny_pure (h _ _ S')
theorem str_acc {i j : Nat} {acc d : Addr} {ps : List Part} {n : Nat} {t : Tok} {hs : Int} {sz : Value} {Q : Value → Shared → Prop} (S : St O w g f m L s.heap s.os s.gens) (r : Rm 11 A)
    (hi : L[i]? = some (acc, accP ps n d)) (hj : L[j]? = some (d, accD t hs sz)) (hp : PartsIn g ps) (hx : ∀ p ∈ ps, p.x.length < 1000 ∧ p.y.length < 1000) (hn : ps.length ≤ 1000)
    (h : ∀ t' s', St O w g f m L s'.heap s'.os s'.gens → Q (.str (ptext ps) t') s') : wpAny (model prog w) A (call (.type "str") [.ref acc]) Q E s := by
  refine callType_codes (T := "str") (Bi := Builtin.«object.__init__») (Q₁ := fun r s₁ => ∃ y u, r = .str y u ∧ Q r s₁) PySem.F.called_str (PySem.F.typeCall_str_1 _) PySem.F.entry_object_init ?_ ?_
  · refine codeAny_of_tree ?_
    show wpAny _ A.in1.in1 (do checkBuiltinCall "str.__new__" ⟨[.type "str", .ref acc], []⟩; again (.builtin "str.__new__" ⟨[.type "str", .ref acc], []⟩)) _ _ s
    refine wpAny_bind (wpAny_of_eq (PySem.F.newCall_str_1 _) (wpAny_pure ⟨plainId_quiet (by decide +kernel) _, codeAny_builtin PySem.F.entry_str_new ?_⟩))
    rw [Around.under_plainId (by decide +kernel) _]
    rw [str_new_tree]
    refine wpAny_bind (wpAny_pure ?_)
    refine wpAny_bind (wpAny_of_eq isSubtype_str_str ?_)
    exact wpAny_bind (strOf_acc S r.in1.in1 hi hj hp hx hn fun t' s' S' => wpAny_pure ⟨_, _, rfl, h _ _ S'⟩)
  · rintro obj s₁ ⟨y, u, rfl, hq⟩
    exact ⟨typeIs_str _ _ _, PySem.F.args_object_init_2 _ _, object_init_meets PySem.F.called_str.init.lookup PySem.F.called_str.made (by decide) prog w A.in1 _ s₁ ⟨typeIs_str _ _ _, rfl, hq⟩⟩
theorem item_acc {i : Nat} {k : Int} {acc d : Addr} {its : List Value} {n : Nat} {t : Tok} {v : Value} {Q : Value → Shared → Prop} (S : St O w g f m L s.heap s.os s.gens)
    (hi : L[i]? = some (acc, accO its n d)) (h0 : 0 ≤ k) (hk' : k < 2 ^ 63) (hk : its[k.toNat]? = some v)
    (h : ∀ s', St O w g f m L s'.heap s'.os s'.gens → Q v s') : wpAny (model prog w) A (getItem (.ref acc) (.int k t)) Q E s := by
  have ho := S.get i hi
  walk_at "raw"
  repeat walk_at "st"
  refine x_call ?_ (by intro h; cases h)
  refine cb (id := "list.__getitem__") (by kernel_rfl) ?_
  refine b_acc "list.__getitem__" "__getitem__" Builtin.«list.__getitem__» S ho p_get e_get (.inl k_get) s_get (a_get _ _) ?_
  show wpAny _ _ (Builtin.List.listSubscript? (.int k t) >>= _) _ _ s
  refine wpAny_bind (wpAny_listSubscript_int (fitsIndex_of h0 hk') ?_)
  clear hk'
  obtain ⟨j, rfl⟩ := Int.eq_ofNat_of_zero_le h0
  have e : its.toArray[j]? = some v := by simpa using hk
  show wpAny _ _ ((seqItemAt acc j >>= fun r => pure (r.map (j, ·))) >>= _) _ _ s
  refine wpAny_bind (wpAny_bind (wpAny_seqItemAt ho rfl (wpAny_pure ?_)))
  rw [e]
  first
    | refine wpAny_bind (wpAny_pure (wpAny_pure ?_))
    | refine wpAny_pure ?_
  walk_at "raw"
  exact wpAny_pure (h _ S)
end
end Mine
namespace Mine
section
variable {O : OsState} {w : World} {A : Around} {E : Value → Shared → Prop} {s : Shared} {g : Heap} {f : Addr} {m : Str → Option Value} {L : List (Addr × Obj)} {env : Env}
theorem lst_append {a : Addr} {vs : List Value} {n : Nat} {pl : Sem Bool} {Q : Value × List Value → Shared → Prop} (ho : s.heap.get? a = some (lstO vs n))
    (h : Q (.builtin "list.append", [.ref a]) s) : wpAny (model prog w) A (getMethod (.ref a) (Str.ofString "append") pl) Q E s := by
  have hT : s.TypeIs (.ref a) "list" := ⟨_, ho, rfl⟩
  have hd : ∀ b, Value.ref a = .ref b → ∃ o, s.heap.get? b = some o ∧ o.dict = none := fun b e => by cases e; exact ⟨_, ho, rfl⟩
  with_reducible exact PySem.getMethod_builtin hT PySem.F.plainAttrs_list PySem.F.slot_list_append PySem.F.type_list_append hd h
theorem lst_isList {a : Addr} {vs : List Value} {n : Nat} {Q : Bool → Shared → Prop} (ho : s.heap.get? a = some (lstO vs n)) (h : Q true s) :
    wpAny (model prog w) A (isInstance (.ref a) (.type "list")) Q E s := by
  walk_at "raw"
  repeat walk_at "st"
  exact wpAny_pure h
theorem b_appendL {i : Nat} {a : Addr} {vs : List Value} {n : Nat} {v : Value} {R : Result → Shared → Prop} (S : St O w g f m L s.heap s.os s.gens) (hi : L[i]? = some (a, lstO vs n)) (hl : vs.length < 10000)
    (h : ∀ n' s', St O w g f m (L.set i (a, lstO (vs ++ [v]) n')) s'.heap s'.os s'.gens → R (.ok (.ret .none)) s') : codeAny (model prog w) A (.call (.builtin "list.append") ⟨[.ref a, v], []⟩) R s := by
  have ho := S.get i hi
  with_reducible refine codeAny_call_builtin p_append e_append ?_
  with_reducible refine chk_method k_append s_append (a_append _ _) ?_
  refine lst_isList ho ⟨rfl, ?_⟩
  unfold Builtin.«list.append»
  refine wpAny_bind (wpAny_pure (a := (Value.ref a, v)) ?_)
  refine wpAny_bind ?_
  have em : ∃ n', Obj.mapSeq (fun xs => xs.push v) (lstO vs n) = lstO (vs ++ [v]) n' := by
    simp only [Obj.mapSeq, lstO]
    exact ⟨n + 1, by simp⟩
  obtain ⟨n', em⟩ := em
  refine r_updateSeq (lstO (vs ++ [v]) n') S hi em rfl (seq_fits ?_) fun s' S' => ?_
  · simp; omega
  · exact wpAny_pure (h _ _ S')
theorem St.cast {h : Heap} {L' : List (Addr × Obj)} (S : St O w g f m L h so sg) (e : L = L') : St O w g f m L' h so sg := e ▸ S
/-- a def of the text called, its arguments laid -/
theorem r_callK {fa : Addr} {pos : Pos} {first : List Value} {args : List (Bool × Sem Value)} {Q : Value → Shared → Prop}
    (h : wpAny (model prog w) A (evalArgs (.ref fa) true args []) (fun x s₁ => (∃ g f m L, St O w g f m L s₁.heap s₁.os s₁.gens) ∧
      codeAny (model prog w) A (.call (.ref fa) ⟨first ++ x.pos, x.kw⟩) (fun r s' => match r with | .ok (.ret v) => Q v s' | .ok _ => False | .error e => E e s') s₁) E s)
    (hk : (KF w).lookup fa = some ⟨.type "function", none, .func (fdAt w fa), #[]⟩ := by rfl) (ht : isTab fa = false := by rfl) :
    wpAny (model prog w) A (callWith pos (.ref fa) first args []) Q E s :=
  r_callF (fd := fdAt w fa) (oc := .type "function") (od := none) (osl := #[]) (wpAny_mono h (fun _ _ ⟨⟨_, _, _, _, S⟩, q⟩ => ⟨S.k hk ht, q⟩) fun _ _ e => e)
/-- what was laid with what stays is known again -/
theorem St.uncommit {m0 : Str → Option Value} {L0 : List (Addr × Obj)} {h0 h1 : Heap} {T : Addr} {o : Obj} (S0 : St O w g f m0 ((T, o) :: L0) h0 so0 sg0) (S1 : St O w g f m L h1 so sg) (e : h1.get? T = some o) (hn : T ∉ L.map (·.1)) : St O w g f m ((T, o) :: L) h1 so sg := by
  have z := S0.has _ (.head _)
  refine ⟨S1.kg, S1.keep, S1.ns, S1.fg, S1.fb, fun p hp => ?_, ?_, S1.tb⟩
  · rcases List.mem_cons.mp hp with rfl | hp
    · exact ⟨e, z.2⟩
    · exact S1.has p hp
  · rw [List.map_cons, List.nodup_cons]
    exact ⟨hn, S1.nd⟩
/-- the first of what is made is laid with what stays -/
theorem St.commit1 {h : Heap} {T : Addr} {o : Obj} (S : St O w g f m ((T, o) :: L) h so sg) :
    ∃ g', St O w g' f m L h so sg ∧ (∀ b o, g.get? b = some o → g'.get? b = some o) ∧ g'.get? T = some o ∧ ∀ m'' L'' h'' {so'' sg''}, St O w g' f m'' L'' h'' so'' sg'' → St O w g f m'' L'' h'' so'' sg'' := by
  have nd : (L.map (·.1)).Nodup := (List.nodup_cons.mp (by have := S.nd; rwa [List.map_cons] at this)).2
  obtain ⟨g', S', le, hin, back⟩ := S.commit L (fun p hp => .tail _ hp) nd
  exact ⟨g', S', le, hin (T, o) (.head _) (List.nodup_cons.mp (by have := S.nd; rwa [List.map_cons] at this)).1, back⟩
end
end Mine
namespace Mine
section
variable {O : OsState} {w : World} {A : Around} {E : Value → Shared → Prop} {s : Shared} {g : Heap} {f : Addr} {m : Str → Option Value} {L : List (Addr × Obj)} {env : Env}
theorem s_int {i : Int} {k : Nat} {pos : Pos} {Q : Value → Shared → Prop} (S : St O w g f m L s.heap s.os s.gens) (h : ∀ t s', St O w g f m L s'.heap s'.os s'.gens → Q (.int i t) s') : wpAny (model prog w) A (eval (.Constant (.int i) k pos) env) Q E s :=
  wpAny_Constant_int (h _ _ S)
theorem s_add {a b : Int} {t u : Tok} {Q : Value → Shared → Prop} (S : St O w g f m L s.heap s.os s.gens) (h : ∀ t s', St O w g f m L s'.heap s'.os s'.gens → Q (.int (a + b) t) s') : wpAny (model prog w) A (binaryOp .Add (.int a t) (.int b u)) Q E s :=
  P.add_int (h _ _ S)
theorem s_sub {a b : Int} {t u : Tok} {Q : Value → Shared → Prop} (S : St O w g f m L s.heap s.os s.gens) (h : ∀ t s', St O w g f m L s'.heap s'.os s'.gens → Q (.int (a - b) t) s') : wpAny (model prog w) A (binaryOp .Sub (.int a t) (.int b u)) Q E s :=
  P.sub_int (h _ _ S)
theorem s_neg {a : Int} {t : Tok} {Q : Value → Shared → Prop} (S : St O w g f m L s.heap s.os s.gens) (h : ∀ t s', St O w g f m L s'.heap s'.os s'.gens → Q (.int (-a) t) s') : wpAny (model prog w) A (unaryOp .USub (.int a t)) Q E s :=
  P.neg_int (h _ _ S)
theorem s_len {x : Str} {t : Tok} {Q : Value → Shared → Prop} (S : St O w g f m L s.heap s.os s.gens) (hx : x.length < 1000000) (h : ∀ t s', St O w g f m L s'.heap s'.os s'.gens → Q (.int x.length t) s') : wpAny (model prog w) A (call (.builtin "len") [.str x t]) Q E s :=
  P.len_str (by omega) (h _ _ S)
theorem s_str {x : Str} {k : Nat} {pos : Pos} {Q : Value → Shared → Prop} (S : St O w g f m L s.heap s.os s.gens) (h : ∀ t s', St O w g f m L s'.heap s'.os s'.gens → Q (.str x t) s') : wpAny (model prog w) A (eval (.Constant (.str x) k pos) env) Q E s :=
  wpAny_Constant_str (h _ _ S)
/-- an object outside is changed or new ones come -/
theorem St.drop1 {h h' : Heap} {a : Addr} {o : Obj} (S : St O w g f m ((a, o) :: L) h so sg) (hk : Heap.ExtBut a h h') : St O w g f m L h' so sg := by
  have z := S.has _ (.head _)
  refine S.tail.moved (wr := [a]) (fun b o hb e => hk b o (fun q => hb (by rw [q]; exact .head _)) e) fun b hb => ?_
  rw [List.mem_singleton.mp hb]
  exact ⟨z.2.1, z.2.2.1, z.2.2.2, fun p hp => S.head_off p hp⟩
theorem St.change1 {h h' : Heap} {a : Addr} {o o' : Obj} (S : St O w g f m ((a, o) :: L) h so sg) (hk : Heap.ExtBut a h h') (e : h'.get? a = some o') : St O w g f m ((a, o') :: L) h' so sg := by
  have z := S.has _ (.head _)
  have S' := S.drop1 hk
  refine ⟨S'.kg, S'.keep, S'.ns, S'.fg, S'.fb, fun p hp => ?_, ?_, S'.tb⟩
  · rcases List.mem_cons.mp hp with rfl | hp
    · exact ⟨e, z.2⟩
    · exact S'.has p hp
  · have := S.nd
    rw [List.map_cons, List.nodup_cons] at this ⊢
    exact this
def rgO (a b c : Int) (t u v : Tok) : Obj := { cls := .type "range", data := .fields #[.int a t, .int b u, .int c v] }
def riO (x left step : Int) : Obj := { cls := .type "range_iterator", data := .fields #[rawInt x, rawInt left, rawInt step] }
theorem s_range3 {a b c : Int} {t u v : Tok} {Q : Value → Shared → Prop} (S : St O w g f m L s.heap s.os s.gens) (hc : c ≠ 0) (hp : Builtin.divisionGoesByPylong (b - a) c = false) (h : ∀ r s', St O w g f m ((r, rgO a b c t u v) :: L) s'.heap s'.os s'.gens → Q (.ref r) s') : wpAny (model prog w) A (call (.type "range") [.int a t, .int b u, .int c v]) Q E s :=
  call_range_3 hc (h _ _ (S.push (rgO a b c t u v) rfl)) (.inl hp)
theorem s_range1 {n : Int} {t : Tok} {Q : Value → Shared → Prop} (S : St O w g f m L s.heap s.os s.gens) (h : ∀ r u v s', St O w g f m ((r, rgO 0 n 1 u t v) :: L) s'.heap s'.os s'.gens → Q (.ref r) s') : wpAny (model prog w) A (call (.type "range") [.int n t]) Q E s :=
  call_range_1 (h _ _ _ _ (S.push (rgO 0 n 1 s.toks t (s.toks + 1)) rfl))
theorem s_range2 {a b : Int} {t u : Tok} {Q : Value → Shared → Prop} (S : St O w g f m L s.heap s.os s.gens) (h : ∀ r v s', St O w g f m ((r, rgO a b 1 t u v) :: L) s'.heap s'.os s'.gens → Q (.ref r) s') : wpAny (model prog w) A (call (.type "range") [.int a t, .int b u]) Q E s :=
  call_range_2 (h _ _ _ (S.push (rgO a b 1 t u s.toks) rfl))
theorem s_rangeIter {r : Addr} {a b c : Int} {t u v : Tok} {Q : Value → Shared → Prop} (S : St O w g f m ((r, rgO a b c t u v) :: L) s.heap s.os s.gens) (hs : Builtin.Range.small a b c = true)
    (h : ∀ it s', St O w g f m ((it, riO a (Builtin.Range.rangeSize a b c) c) :: L) s'.heap s'.os s'.gens → Q (.ref it) s') : wpAny (model prog w) A (pyIter (.ref r)) Q E s :=
  wpAny_pyIter_range (S.get 0 rfl) hs (h _ _ (S.push (riO a (Builtin.Range.rangeSize a b c) c) rfl).drop2)
theorem s_rangeNext {it : Addr} {x left step : Int} {Q : Option Value → Shared → Prop} (S : St O w g f m ((it, riO x left step) :: L) s.heap s.os s.gens) (hl : 0 < left)
    (h : ∀ t s', St O w g f m ((it, riO (x + step) (left - 1) step) :: L) s'.heap s'.os s'.gens → Q (some (.int x t)) s') : wpAny (model prog w) A (pyNext (.ref it)) Q E s :=
  wpAny_pyNext_range_item (S.get 0 rfl) hl fun _ hit hs => h _ _ (S.change1 hs.extBut hit)
theorem s_rangeEnd {n : Nat} {it : Addr} {x left step : Int} {Q : Option Value → Shared → Prop} (S : St O w g f m ((it, riO x left step) :: L) s.heap s.os s.gens) (r : Rm n A) (hl : left ≤ 0)
    (h : ∀ s', St O w g f m L s'.heap s'.os s'.gens → Q none s') : wpAny (model prog w) A (pyNext (.ref it)) Q E s :=
  wpAny_pyNext_range_end r.hd (S.get 0 rfl) hl fun _ hs => h _ (S.drop1 hs)
def siO (x : Str) (t : Tok) (i : Nat) : Obj := { cls := .type "str_ascii_iterator", data := .fields #[.str x t, .int i 0] }
theorem s_strIter {x : Str} {t : Tok} {Q : Value → Shared → Prop} (S : St O w g f m L s.heap s.os s.gens) (ha : x.cps.all (· < 128) = true) (h : ∀ it s', St O w g f m ((it, siO x t 0) :: L) s'.heap s'.os s'.gens → Q (.ref it) s') : wpAny (model prog w) A (pyIter (.str x t)) Q E s :=
  wpAny_pyIter_ascii ha (h _ _ (S.push (siO x t 0) rfl))
/-- one sign more: the iterator is let go -/
theorem s_strNext {it : Addr} {x : Str} {t : Tok} {i c : Nat} {Q : Option Value → Shared → Prop} (S : St O w g f m ((it, siO x t i) :: L) s.heap s.os s.gens) (hx : x.cps[i]? = some c)
    (h : ∀ u s', St O w g f m L s'.heap s'.os s'.gens → Q (some (.str ⟨#[c]⟩ u)) s') : wpAny (model prog w) A (pyNext (.ref it)) Q E s :=
  wpAny_pyNext_ascii_item ⟨_, S.get 0 rfl, rfl, rfl⟩ hx fun _ _ hs => h _ _ (S.drop1 hs.extBut)
/-- a loop that is left in its first turn -/
theorem for_once {R : Result → Shared → Prop} {target : Expr} {it : Value} {body orelse : List Stmt}
    (turn : wpAny (model prog w) A (pyNext it) (fun r s₁ => match r with
      | none => False
      | some v => wpAny (model prog w) A (assign target env v) (fun _ s₂ => wpAny (model prog w) A (execs body env) (fun f s₃ => match f with
          | .next | .cont => False
          | .brk => R (.ok .next) s₃
          | .ret v => R (.ok (.ret v)) s₃) (notedBy (model prog w) A env fun e s' => R (.error e) s') s₂) (notedBy (model prog w) A env fun e s' => R (.error e) s') s₁) (notedBy (model prog w) A env fun e s' => R (.error e) s') s)
    (ht : ∀ v, letOwnedTupleGo target it v = pure () := by intro _; rfl) : codeAny (model prog w) A (.forLoop target it body orelse env) R s := by
  refine codeAny_forLoop (fun _ s' => s' = s) (fun q s' e => ?_) 1 rfl ht
  subst e
  refine wpAny_mono turn (fun r s₁ z => ?_) fun _ _ e => e
  cases r with
  | none => exact z.elim
  | some v =>
    refine wpAny_mono z (fun _ s₂ z => wpAny_mono z (fun fl s₃ z => ?_) fun _ _ e => e) fun _ _ e => e
    cases fl with
    | next => exact z.elim
    | cont => exact z.elim
    | brk => exact z
    | ret v => exact z
theorem r_callT {T : String} {pos : Pos} {args : List (Bool × Sem Value)} {Q : Value → Shared → Prop} (hs : args.any (·.1) = false)
    (h : wpAny (model prog w) A (evalArgs (.type T) true args []) (fun a s₁ => wpAny (model prog w) A (call (.type T) a.pos a.kw) Q E s₁) E s) : wpAny (model prog w) A (callWith pos (.type T) [] args []) Q E s := by
  unfold callWith
  refine wpAny_bind (wpAny_holding (wpAny_mono h (fun a s₁ h₁ => wpAny_bind (wpAny_standAt ?_)) fun _ _ x => x))
  simp only [hs, List.any_nil, Bool.or_false]
  refine wpAny_bind (wpAny_pure ?_)
  exact wpAny_bind (wpAny_mono h₁ (fun r s₂ hr => wpAny_bind (wpAny_holding (wpAny_point (wpAny_pure hr)))) fun _ _ x => x)
theorem rsz_down {n : Int} (h : 0 < n) : Builtin.Range.rangeSize n 0 (-1) = n := by
  unfold Builtin.Range.rangeSize
  rw [if_neg (by decide), if_pos (by omega)]
  have : -(-1 : Int) = 1 := by decide
  rw [this, Int.ediv_one]; omega
theorem rsm_down {n : Int} (h : 0 < n) (h' : n < 1000000) : Builtin.Range.small n 0 (-1) = true := by
  unfold Builtin.Range.small
  rw [rsz_down h]
  unfold Builtin.Range.rangeFitsLong
  simp
  omega
theorem rsz_up {n : Int} (h : 0 ≤ n) : Builtin.Range.rangeSize 0 n 1 = n := by
  unfold Builtin.Range.rangeSize
  rw [if_pos (by decide), Int.ediv_one]
  split <;> omega
theorem rsm_up {n : Int} (h : 0 ≤ n) (h' : n < 1000000) : Builtin.Range.small 0 n 1 = true := by
  unfold Builtin.Range.small
  rw [rsz_up h]
  unfold Builtin.Range.rangeFitsLong
  simp
  omega
/-- value[slice], no slice in it -/
theorem r_Sub {value slice : Expr} {pos : Pos} {Q : Value → Shared → Prop}
    (h : wpAny (model prog w) A (eval value env) (fun o s₁ => wpAny (model prog w) A (eval slice env) (fun i s₂ => wpAny (model prog w) A (getitemInPython o) (fun b s₃ => b = false ∧ wpAny (model prog w) A (getItem o i) Q E s₃) E s₂) E s₁) E s)
    (hs : ∀ o i, subscripted slice false o i = operate [o, i] (getItem o i) := by intro _ _; rfl) : wpAny (model prog w) A (eval (.Subscript value slice pos) env) Q E s := by
  rw [arm_eval_Subscript]
  refine wpAny_bind (wpAny_mono h (fun o s₁ q => wpAny_bind (wpAny_holding (wpAny_mono q (fun i s₂ q => ?_) fun _ _ e => e))) fun _ _ e => e)
  refine wpAny_bind (wpAny_standAt (wpAny_bind (wpAny_mono q (fun b s₃ q => ?_) fun _ _ e => e)))
  obtain ⟨rfl, q⟩ := q
  rw [hs]
  exact wpAny_bind (wpAny_operating (wpAny_mono q (fun r s₄ q => wpAny_bind (wpAny_letTemporaryGo (wpAny_pure q))) fun _ _ e => e))
theorem gip_type {o : Value} {T : String} {id : String} {Q : Bool → Shared → Prop} (hT : s.TypeIs o T) (hl : typeLookup (.type T) "__getitem__" = pure (some (.builtin id))) (h : Q false s) : wpAny (model prog w) A (getitemInPython o) Q E s := by
  unfold getitemInPython
  exact wpAny_bind (wpAny_specialOf hT hl (wpAny_pure h))
theorem gip_tuple {a : Addr} {vs : List Value} {Q : Bool → Shared → Prop} (ho : s.heap.get? a = some (tupO vs)) (h : Q false s) : wpAny (model prog w) A (getitemInPython (.ref a)) Q E s := gip_type (T := "tuple") ⟨_, ho, rfl⟩ F.slot_tuple_getitem.lookup h
theorem gip_list {a : Addr} {vs : List Value} {n : Nat} {Q : Bool → Shared → Prop} (ho : s.heap.get? a = some (lstO vs n)) (h : Q false s) : wpAny (model prog w) A (getitemInPython (.ref a)) Q E s := gip_type (T := "list") ⟨_, ho, rfl⟩ slot_list_getitem.lookup h
theorem gip_str {x : Str} {t : Tok} {Q : Bool → Shared → Prop} (h : Q false s) : wpAny (model prog w) A (getitemInPython (.str x t)) Q E s := gip_type (T := "str") (typeIs_str _ _ _) F.slot_str_getitem.lookup h
theorem s_truthStr {x : Str} {t : Tok} {Q : Bool → Shared → Prop} (S : St O w g f m L s.heap s.os s.gens) (hx : x.length < 1000000) (h : ∀ s', St O w g f m L s'.heap s'.os s'.gens → Q (decide (x.length ≠ 0)) s') : wpAny (model prog w) A (truthy (.str x t)) Q E s := by
  refine P.truthy_str (by omega) ?_
  have e : ((x.length : Int) != 0) = decide (x.length ≠ 0) := by
    by_cases q : x.length = 0
    · simp [q]
    · simp [q]
  rw [e]
  exact h _ S
theorem seq_at {i n : Nat} (h : i < n) : seqIndex? i n = some i := by
  unfold seqIndex?
  have h1 : ¬ ((i : Int) < 0) := by omega
  simp [h1, h]
theorem s_tupItem {a : Addr} {vs : List Value} {i : Nat} {u : Tok} {y : Value} {Q : Value → Shared → Prop} (ho : s.heap.get? a = some (tupO vs)) (hi : vs[i]? = some y) (hs : i < 1000) (h : Q y s) : wpAny (model prog w) A (getItem (.ref a) (.int i u)) Q E s := by
  have hl := (List.getElem?_eq_some_iff.mp hi).1
  refine P.getItem_tuple (items := vs.toArray) (k := i) (n := 0) ho (by omega) (by omega) ?_ (by simpa using hi) h
  exact seq_at (by simpa using hl)
theorem s_strItem {x : Str} {t u : Tok} {i c : Nat} {Q : Value → Shared → Prop} (S : St O w g f m L s.heap s.os s.gens) (hi : x.cps[i]? = some c) (hs : i < 1000) (h : ∀ t s', St O w g f m L s'.heap s'.os s'.gens → Q (.str ⟨#[c]⟩ t) s') : wpAny (model prog w) A (getItem (.str x t) (.int i u)) Q E s := by
  have hl := (Array.getElem?_eq_some_iff.mp hi).1
  refine P.getItem_str (by simp; omega) ?_ (h _ _ S)
  rw [seq_at (show i < x.length from hl)]
  exact hi
theorem g_range (w : World) : nsLook (Str.ofString "range") (o3 w) = pure none ∧ nsLook (Str.ofString "range") (o0 w) = pure (some (.type "range")) := ⟨by kernel_rfl, by kernel_rfl⟩
theorem g_str (w : World) : nsLook (Str.ofString "str") (o3 w) = pure none ∧ nsLook (Str.ofString "str") (o0 w) = pure (some (.type "str")) := ⟨by kernel_rfl, by kernel_rfl⟩
end
end Mine
namespace Mine
section
variable {O : OsState} {w : World} {A : Around} {E : Value → Shared → Prop} {s : Shared} {g : Heap} {f : Addr} {m : Str → Option Value} {L : List (Addr × Obj)} {env : Env}
theorem n_push (w : World) : nsLook (Str.ofString "push") (o199 w) = pure (some (.ref 144)) := by kernel_rfl
theorem d_push {t : Tok} {hs : Int} {sz : Value} : nsLook (Str.ofString "push") (accD t hs sz) = pure none := by kernel_rfl
theorem n_pf (w : World) : nsLook (Str.ofString "pop_from") (o199 w) = pure (some (.ref 152)) := by kernel_rfl
theorem d_pf {t : Tok} {hs : Int} {sz : Value} : nsLook (Str.ofString "pop_from") (accD t hs sz) = pure none := by kernel_rfl
theorem n_rs (w : World) : nsLook (Str.ofString "reset") (o199 w) = pure (some (.ref 182)) := by kernel_rfl
theorem d_rs {t : Tok} {hs : Int} {sz : Value} : nsLook (Str.ofString "reset") (accD t hs sz) = pure none := by kernel_rfl
theorem plen_app : ∀ (ps qs : List Part), plen (ps ++ qs) = plen ps + plen qs
  | [], qs => by simp [plen]
  | p :: ps, qs => by rw [List.cons_append, plen, plen, plen_app ps qs]; omega
theorem plen_nn : ∀ ps : List Part, 0 ≤ plen ps
  | [] => Int.le_refl _
  | p :: ps => by have := plen_nn ps; rw [plen]; omega
theorem plen_le : ∀ ps : List Part, (∀ p ∈ ps, p.x.length < 1000 ∧ p.y.length < 1000) → plen ps ≤ 2000 * ps.length
  | [], _ => by simp [plen]
  | p :: ps, h => by
    have h1 := h p (.head _)
    have h2 := plen_le ps fun q hq => h q (.tail _ hq)
    rw [plen, List.length_cons]; omega
/-- the part of a formatter that changes -/
def LA (K : Mk) (ps : List Part) (n : Nat) (da : Addr) (t : Tok) (hs c : Int) (tc : Tok) (lns : List (Str × Tok)) (nl : Nat) (R : List (Addr × Obj)) : List (Addr × Obj) :=
  (K.acc, accP ps n da) :: (da, accD t hs (.int c tc)) :: (K.ln, lstO (strValues lns) nl) :: R
theorem append_spec {K : Mk} {ps : List Part} {n : Nat} {da : Addr} {t : Tok} {hs c : Int} {tc : Tok} {lns : List (Str × Tok)} {nl : Nat} {R : List (Addr × Obj)} {x y : Str} {tx ty : Tok} {Rz : Result → Shared → Prop}
    (S : St O w g f m (LA K ps n da t hs c tc lns nl R) s.heap s.os s.gens) (r : Rm 40 A) (k : K.In g) (hp : PartsIn g ps) (hx : ∀ p ∈ ps, p.x.length < 1000 ∧ p.y.length < 1000) (hxx : x.length < 1000) (hxy : y.length < 1000) (hn : ps.length < 500) (hl : lns.length < 500)
    (hc0 : 0 ≤ c) (hc1 : c < 1000)
    (fits : c + plen ps + x.length + y.length ≤ K.W → ∀ T n' s', St O w g f m ((T, (Part.mk x y tx ty T).o) :: LA K (ps ++ [⟨x, y, tx, ty, T⟩]) n' da t hs c tc lns nl R) s'.heap s'.os s'.gens → Rz (.ok (.ret .none)) s')
    (over : K.W < c + plen ps + x.length + y.length → ps ≠ [] ∧ x = Str.ofString " " ∧ ∀ T n' tc' tl nl' s', St O w g f m ((T, (Part.mk x y tx ty T).o) :: LA K [⟨x, y, tx, ty, T⟩] n' da t hs 0 tc' (lns ++ [(ptext ps, tl)]) nl' R) s'.heap s'.os s'.gens → Rz (.ok (.ret .none)) s') :
    codeAny (model prog w) A (.call (.ref 113) ⟨[.ref K.a, .str x tx, .str y ty], []⟩) Rz s := by
  refine call_at [(Str.ofString "self", .ref K.a), (Str.ofString "fws", .str x tx), (Str.ofString "string", .str y ty)] S r (by rfl) (by rfl) (by rfl) (by rfl) (by rfl) (by rfl) (by rfl) (by rfl) (by kernel_rfl) (by kernel_rfl) (by kernel_rfl) (by rfl) (by rfl) (by rfl) ?_
  intro g' f' s1 A' r' le S1 back
  walk_at "env"
  have k' := k.le le
  refine r_execs_cons (wpAny_Expr_any ?_)
  refine r_CallM (r_AttrN (r_local S1 rfl ?_))
  refine fm_getLine S1 k' fun s2 S2 => ?_
  refine acc_meth S2 (S2.get 0 rfl) (S2.get 1 rfl) (n_push w) ⟨_, S2.k rfl, rfl⟩ d_push ?_
  refine r_callK (O := O) (r_args1 (r_local S2 rfl ?_))
  refine r_item (r_local S2 rfl ?_)
  refine r_item0 ⟨⟨_, _, _, _, S2⟩, ?_⟩
  refine push_spec (i := 0) (j := 1) S2 (r'.le (by decide)) rfl rfl (by simp; omega) fun T s3 S3 => ?_
  have S3' := S3.cast (L' := (T, (Part.mk x y tx ty T).o) :: LA K (ps ++ [⟨x, y, tx, ty, T⟩]) (n + 1) da t hs c tc lns nl R) (by
    have e : accP (ps ++ [⟨x, y, tx, ty, T⟩]) (n + 1) da = accO (ps.map (fun p => Value.ref p.T) ++ [.ref T]) (n + 1) da := by simp [accP]
    unfold LA
    rw [e]
    rfl)
  obtain ⟨g2, S4, le2, hT, back2⟩ := S3'.commit1
  have k2 := k'.le le2
  have hp2 : PartsIn g2 (ps ++ [⟨x, y, tx, ty, T⟩]) := fun p hm => by
    rcases List.mem_append.mp hm with hm | hm
    · exact le2 _ _ (le _ _ (hp p hm))
    · rw [List.mem_singleton.mp hm]; exact hT
  have hx2 : ∀ p ∈ ps ++ [⟨x, y, tx, ty, T⟩], p.x.length < 1000 ∧ p.y.length < 1000 := fun p hm => by
    rcases List.mem_append.mp hm with hm | hm
    · exact hx p hm
    · rw [List.mem_singleton.mp hm]; exact ⟨hxx, hxy⟩
  have nn := plen_nn (ps ++ [⟨x, y, tx, ty, T⟩])
  have le' := plen_le _ hx2
  have ep : plen (ps ++ [⟨x, y, tx, ty, T⟩]) = plen ps + x.length + y.length := by rw [plen_app]; simp [plen]; omega
  rw [List.length_append] at le'
  simp at le'
  refine r_execs_cons (wpAny_If (wpAny_isTrue_Compare1 ?_))
  refine wpAny_Call_NameR (r_builtin S4 (g_len w).1 (g_len w).2 ?_)
  refine r_callB rfl (r_args1 (r_AttrN (r_local S4 rfl ?_)))
  refine fm_getLine S4 k2 fun s5 S5 => ?_
  refine r_item0 ?_
  refine len_acc (i := 0) (j := 1) S5 (r'.le (by decide)) rfl rfl hp2 (fun p hm => ⟨Nat.lt_trans (hx2 p hm).1 (by decide), Nat.lt_trans (hx2 p hm).2 (by decide)⟩) (by omega) (by omega) fun t6 s6 S6 => ?_
  refine r_AttrN (r_local S6 rfl ?_)
  refine fm_getMax S6 k2 fun s7 S7 => ?_
  refine P.gt_int (wpAny_truthy_bool ?_)
  by_cases hcmp : c + plen (ps ++ [⟨x, y, tx, ty, T⟩]) > K.W
  · rw [if_pos (by simpa using hcmp)]
    obtain ⟨hne, hblank, over⟩ := over (by omega)
    refine r_execs_cons (wpAny_For ?_)
    refine r_AttrN (r_local S7 rfl ?_)
    refine fm_getSc S7 k2 fun s8 S8 => ?_
    refine s_strIter S8 (by decide +kernel) fun I s9 S9 => ?_
    refine for_once (s_strNext S9 (c := 32) (by decide +kernel) fun uc s10 S10 => ?_)
    refine wpAny_assign_Name (r_store (bs := [(Str.ofString "string", .str y ty), (Str.ofString "fws", .str x tx), (Str.ofString "self", .ref K.a)]) S10 fun s11 S11 => ?_)
    refine r_execs_cons (wpAny_For ?_)
    refine wpAny_Call_NameR (r_builtin S11 (g_range w).1 (g_range w).2 ?_)
    refine r_callT rfl (r_args1 (wpAny_BinOp ?_))
    refine r_CallM (r_AttrN (r_local S11 rfl ?_))
    refine fm_getLine S11 k2 fun s12 S12 => ?_
    refine acc_meth S12 (S12.get 0 rfl) (S12.get 1 rfl) (n_pc w) ⟨_, S12.k rfl, rfl⟩ d_no ?_
    refine r_callK (O := O) (r_args0 ⟨⟨_, _, _, _, S12⟩, ?_⟩)
    refine part_count_spec (i := 0) S12 (r'.le (by decide)) rfl (by simp; omega) fun t13 s13 S13 => ?_
    refine s_int S13 fun t14 s14 S14 => ?_
    refine s_sub S14 fun t15 s15 S15 => ?_
    have en : ((List.map (fun p => Value.ref p.T) (ps ++ [⟨x, y, tx, ty, T⟩])).length : Int) - 1 = ps.length := by simp
    rw [en]
    refine r_item (s_int S15 fun t16 s16 S16 => ?_)
    refine r_item (wpAny_UnaryOp (s_int S16 fun t17 s17 S17 => s_neg S17 fun t18 s18 S18 => ?_))
    refine r_item0 ?_
    refine s_range3 S18 (by decide) (PyProof.noPylong_small (by decide)) fun rg s19 S19 => ?_
    have hpos : (0 : Int) < ps.length := by
      have := List.length_pos_iff.mpr hne
      omega
    refine s_rangeIter S19 (rsm_down hpos (by omega)) fun it s20 S20 => ?_
    rw [rsz_down hpos] at S20
    refine for_once (s_rangeNext S20 hpos fun t21 s21 S21 => ?_)
    refine wpAny_assign_Name (r_store S21 fun s22 S22 => ?_)
    refine r_execs_cons (wpAny_If (isTrue_plain ?_))
    refine r_CallM (r_local S22 rfl ?_)
    with_reducible refine gm_isspace ?_
    refine Calls.callWith_builtin rfl (r_args0 ?_)
    refine SC.isspace ?_
    refine wpAny_truthy_bool ?_
    rw [if_pos (by decide +kernel)]
    refine r_execs_cons (wpAny_Assign_Name ?_)
    have hTp : (List.map (fun p => Value.ref p.T) (ps ++ [⟨x, y, tx, ty, T⟩]))[(ps.length : Int).toNat]? = some (.ref T) := by simp
    refine r_Sub (r_Sub (r_AttrN (r_local S22 rfl ?_)))
    refine fm_getLine S22 k2 fun s23 S23 => ?_
    refine r_local S23 rfl ?_
    refine acc_gip S23 (S23.get 1 rfl) ⟨rfl, ?_⟩
    refine item_acc (i := 1) S23 rfl (by omega) (by omega) hTp fun s24 S24 => ?_
    refine s_int S24 fun t25 s25 S25 => ?_
    have gT : s25.heap.get? T = some (tupO [.str x tx, .str y ty]) := S25.keep _ _ hT
    refine gip_tuple gT ⟨rfl, ?_⟩
    refine s_tupItem (i := 0) gT rfl (by decide) ?_
    refine r_store S25 fun s26 S26 => ?_
    refine r_execs_cons (wpAny_If (isTrue_and ?_))
    refine isTrue_plain (r_local S26 rfl ?_)
    refine s_truthStr S26 (by omega) fun s27 S27 => ?_
    subst hblank
    rw [if_pos (by decide +kernel)]
    refine isTrue_and (wpAny_isTrue_Compare1 ?_)
    refine r_Sub (r_local S27 rfl ?_)
    refine s_int S27 fun t28 s28 S28 => ?_
    refine gip_str ⟨rfl, ?_⟩
    refine s_strItem (i := 0) (c := 32) S28 (by decide +kernel) (by decide) fun t29 s29 S29 => ?_
    refine r_local S29 rfl ?_
    refine P.eq_str (wpAny_truthy_bool ?_)
    rw [if_pos (by decide +kernel)]
    refine isTrue_and_nil ?_
    rw [if_pos rfl]
    refine r_execs_cons (wpAny_Break ?_)
    refine r_execs_cons (wpAny_Break ?_)
    refine r_execs_cons (wpAny_Assign_Name ?_)
    refine r_CallM (r_AttrN (r_local S29 rfl ?_))
    refine fm_getLine S29 k2 fun s30 S30 => ?_
    refine acc_meth S30 (S30.get 1 rfl) (S30.get 2 rfl) (n_pf w) ⟨_, S30.k rfl, rfl⟩ d_pf ?_
    refine r_callK (O := O) (r_args1 (r_local S30 rfl (r_item0 ⟨⟨_, _, _, _, S30⟩, ?_⟩)))
    have S31 := S30.cast (L' := (it, riO (↑ps.length + -1) (↑ps.length - 1) (-1)) :: (K.acc, accO (ps.map (fun p => Value.ref p.T) ++ [.ref T]) (n + 1) da) :: (da, accD t hs (.int c tc)) :: (K.ln, lstO (strValues lns) nl) :: R) (by simp [LA, accP])
    have e31 : (ps.length : Int) = ((ps.map (fun p => Value.ref p.T)).length : Nat) := by simp
    rw [e31]
    refine pop_from_spec (i := 1) S31 (r'.le (by decide)) rfl (by simp; omega) fun rem n32 s32 S32 => ?_
    refine r_store S32 fun s33 S33 => ?_
    refine r_execs_cons (wpAny_Expr_any ?_)
    refine r_CallM (r_AttrN (r_local S33 rfl (fm_getLines S33 k2 fun s34 S34 => ?_)))
    refine lst_append (S34.get 4 rfl) ?_
    refine r_callB rfl (r_args1 ?_)
    refine wpAny_Call_NameR (r_builtin S34 (g_str w).1 (g_str w).2 ?_)
    refine r_callT rfl (r_args1 (r_AttrN (r_local S34 rfl (fm_getLine S34 k2 fun s35 S35 => ?_))))
    refine r_item0 ?_
    refine str_acc (i := 2) (j := 3) (ps := ps) S35 (r'.le (by decide)) rfl rfl (fun p hm => hp2 p (List.mem_append_left _ hm)) hx (by omega) fun tl s36 S36 => ?_
    refine r_item0 ?_
    refine b_appendL (i := 4) S36 rfl (by simp [strValues]; omega) fun nl' s37 S37 => ?_
    refine r_execs_cons (wpAny_Expr_any ?_)
    refine r_CallM (r_AttrN (r_local S37 rfl (fm_getLine S37 k2 fun s38 S38 => ?_)))
    refine acc_meth S38 (S38.get 2 rfl) (S38.get 3 rfl) (n_rs w) ⟨_, S38.k rfl, rfl⟩ d_rs ?_
    refine r_callK (O := O) (r_args1 (r_local S38 rfl (r_item0 ⟨⟨_, _, _, _, S38⟩, ?_⟩)))
    refine reset_spec (i := 2) (j := 3) (k := 0) S38 (r'.le (by decide)) rfl rfl (by decide) rfl (by simp; omega) (by simp) fun n' t' s39 S39 => ?_
    refine wpAny_execs_nil (wpAny_execs_nil ?_)
    have S40 := S39.tail.tail.cast (L' := LA K [⟨Str.ofString " ", y, tx, ty, T⟩] n' da t hs 0 t' (lns ++ [(ptext ps, tl)]) nl' R) (by simp [LA, accP, strValues])
    refine over T n' t' tl nl' s39 (back _ _ _ (S3'.uncommit (back2 _ _ _ S40) (S40.keep _ _ hT) ?_))
    have := S3'.nd
    rw [List.map_cons, List.nodup_cons] at this
    exact this.1
  · rw [if_neg (by simpa using hcmp)]
    refine wpAny_execs_nil (wpAny_execs_nil ?_)
    refine fits (by omega) T (n + 1) s7 (back _ _ _ (S3'.uncommit (back2 _ _ _ S7) (S7.keep _ _ hT) ?_))
    have := S3'.nd
    rw [List.map_cons, List.nodup_cons] at this
    exact this.1
end
end Mine
namespace Mine
section
variable {O : OsState} {w : World} {A : Around} {E : Value → Shared → Prop} {s : Shared} {g : Heap} {f : Addr} {m : Str → Option Value} {L : List (Addr × Obj)} {env : Env}
theorem acc_sizeS {i j : Nat} {a d : Addr} {its : List Value} {n : Nat} {t : Tok} {hs c : Int} {tc : Tok} {Q : Value → Shared → Prop} (S : St O w g f m L s.heap s.os s.gens) (hi : L[i]? = some (a, accO its n d)) (hj : L[j]? = some (d, accD t hs (.int c tc)))
    (h : ∀ s', St O w g f m L s'.heap s'.os s'.gens → Q (.int c tc) s') : wpAny (model prog w) A (getAttr (.ref a) (Str.ofString "_initial_size") true) Q E s := acc_size S (S.get i hi) (S.get j hj) fun _ _ => h _ S
theorem len_accB {i j : Nat} {acc d : Addr} {ps : List Part} {n : Nat} {t : Tok} {hs c : Int} {tc : Tok} {R : Result → Shared → Prop} (S : St O w g f m L s.heap s.os s.gens) (r : Rm 9 A)
    (hi : L[i]? = some (acc, accP ps n d)) (hj : L[j]? = some (d, accD t hs (.int c tc))) (hp : PartsIn g ps) (hx : ∀ p ∈ ps, p.x.length < 1000000 ∧ p.y.length < 1000000) (h0 : 0 ≤ c + plen ps) (h1 : c + plen ps < 1000000000)
    (h : ∀ t' s', St O w g f m L s'.heap s'.os s'.gens → R (.ok (.ret (.int (c + plen ps) t'))) s') : codeAny (model prog w) A (.builtin "len" ⟨[.ref acc], []⟩) R s := by
  have ho := S.get i hi
  have hd := S.get j hj
  refine codeAny_builtin entry_len ?_
  rw [Around.under_plainId plain_len _]
  walk_at "raw"
  repeat walk_at "st"
  refine x_call ?_ (by intro h; cases h)
  refine len_spec (acc := acc) (d := d) (ps := ps) (c := c) S r.in1.mark hi hj hp hx fun t' s' S' => ?_
  walk_at "raw"
  simp only [if_neg (show ¬ c + plen ps < 0 by omega), if_neg (show ¬ (c + plen ps ≥ 2 ^ 63) by omega)]
  walk_at "raw"
  refine t_fresh S' fun tk s1 S1 => ?_
  walk_at "raw"
  exact wpAny_pure (h _ _ S1)
theorem truthy_acc {i j : Nat} {acc d : Addr} {ps : List Part} {n : Nat} {t : Tok} {hs c : Int} {tc : Tok} {Q : Bool → Shared → Prop} (S : St O w g f m L s.heap s.os s.gens) (r : Rm 9 A)
    (hi : L[i]? = some (acc, accP ps n d)) (hj : L[j]? = some (d, accD t hs (.int c tc))) (hp : PartsIn g ps) (hx : ∀ p ∈ ps, p.x.length < 1000000 ∧ p.y.length < 1000000) (h0 : 0 < c + plen ps) (h1 : c + plen ps < 1000000000)
    (h : ∀ s', St O w g f m L s'.heap s'.os s'.gens → Q true s') : wpAny (model prog w) A (truthy (.ref acc)) Q E s := by
  have ho := S.get i hi
  have hd := S.get j hj
  walk_at "raw"
  repeat walk_at "st"
  refine x_call ?_ (by intro h; cases h)
  refine len_accB (acc := acc) (d := d) (ps := ps) (c := c) S r.mark hi hj hp hx (by omega) (by omega) fun t' s' S' => ?_
  refine x_skim 400 ?_
  have e : (c + plen ps != 0) = true := by simp; omega
  conv => arg 3; whnf
  refine wpAny_pure ?_
  exact e ▸ h _ S'
theorem onlyws_spec {i j : Nat} {acc d : Addr} {ps : List Part} {n : Nat} {t : Tok} {hs c : Int} {tc : Tok} {R : Result → Shared → Prop} (S : St O w g f m L s.heap s.os s.gens) (r : Rm 20 A)
    (hi : L[i]? = some (acc, accP ps n d)) (hj : L[j]? = some (d, accD t hs (.int c tc))) (hp : PartsIn g ps) (hx : ∀ p ∈ ps, p.x.length < 1000 ∧ p.y.length < 1000) (hn : ps.length ≤ 1000) (h0 : 0 < c + plen ps) (h1 : c + plen ps < 1000000000)
    (hs' : Txt.isspace (ptext ps) = false)
    (h : ∀ s', St O w g f m L s'.heap s'.os s'.gens → R (.ok (.ret (.bool false))) s') : codeAny (model prog w) A (.call (.ref 189) ⟨[.ref acc], []⟩) R s := by
  refine call_at [(Str.ofString "self", .ref acc)] S r (by rfl) (by rfl) (by rfl) (by rfl) (by rfl) (by rfl) (by rfl) (by rfl) (by kernel_rfl) (by kernel_rfl) (by kernel_rfl) (by rfl) (by rfl) (by rfl) ?_
  intro g' f' s1 A' r' le S1 back
  walk_at "env"
  have hp' : PartsIn g' ps := fun p hm => le _ _ (hp p hm)
  refine r_execs_cons (wpAny_Return_some ?_)
  refine BoolOp_and (wpAny_Compare1 (r_AttrN (r_local S1 rfl ?_)))
  refine acc_sizeS S1 hi hj fun s2 S2 => ?_
  refine s_int S2 fun t3 s3 S3 => ?_
  refine P.eq_int (wpAny_truthy_bool ?_)
  by_cases hc : c = 0
  · rw [if_pos (by simpa using hc)]
    refine BoolOp_one (BoolOp_or (wpAny_UnaryOp (r_local S3 rfl ?_)))
    refine not_of ?_
    refine truthy_acc S3 (r'.le (by decide)) hi hj hp' (fun p hm => ⟨Nat.lt_trans (hx p hm).1 (by decide), Nat.lt_trans (hx p hm).2 (by decide)⟩) h0 h1 fun s4 S4 => ?_
    refine wpAny_truthy_bool ?_
    rw [if_neg (by decide)]
    refine BoolOp_one (r_CallM ?_)
    refine wpAny_Call_NameR (r_builtin S4 (g_str w).1 (g_str w).2 ?_)
    refine r_callT rfl (r_args1 (r_local S4 rfl ?_))
    refine r_item0 ?_
    refine str_acc (ps := ps) S4 (r'.le (by decide)) hi hj hp' hx hn fun tl s5 S5 => ?_
    with_reducible refine gm_isspace ?_
    refine Calls.callWith_builtin rfl (r_args0 ?_)
    refine SC.isspace ?_
    rw [hs']
    exact h _ (back _ _ _ S5)
  · rw [if_neg (by simpa using hc)]
    have e : (c == 0) = false := by simpa using hc
    rw [e]
    exact h _ (back _ _ _ S3)
end
end Mine
namespace Mine
section
variable {O : OsState} {w : World} {A : Around} {E : Value → Shared → Prop} {s : Shared} {g : Heap} {f : Addr} {m : Str → Option Value} {L : List (Addr × Obj)} {env : Env}
theorem s_star {a : Addr} {o : Obj} {T : String} {vs : List Value} {n : Nat} {Q : List Value → Shared → Prop} (S : St O w g f m L s.heap s.os s.gens) (ho : s.heap.get? a = some o) (hc : o.cls = .type T) (hd : o.data = .seq vs.toArray n) (hT : T = "list" ∨ T = "tuple") (hz : vs.length ≤ 100000)
    (h : ∀ s', St O w g f m L s'.heap s'.os s'.gens → Q vs s') : StarOf (model prog w) A E (.ref a) Q s := by
  have hT' : s.TypeIs (.ref a) T := ⟨o, ho, hc⟩
  have z : wpAny (model prog w) A (collect (.ref a)) Q E s :=
    wpAny_collect_seq a hT ho hc hd (fun h' hk => h { s with heap := h' } (S.keeps hk)) (by rw [List.size_toArray]; exact Nat.le_trans hz (by decide))
  unfold StarOf notIterableAtAll
  rcases hT with rfl | rfl
  · exact wpAny_bind (wpAny_specialOf hT' PySem.F.slot_list_iter.lookup (wpAny_pure ⟨rfl, z⟩))
  · exact wpAny_bind (wpAny_specialOf hT' PySem.F.slot_tuple_iter.lookup (wpAny_pure ⟨rfl, z⟩))
def bdO (fa x : Addr) : Obj := { cls := .type "method", data := .fields #[.ref fa, .ref x] }
theorem fg_p : plainId "function.__get__" = true := by decide +kernel
theorem fg_e : entryFor table "function.__get__" = some Builtin.«function.__get__» := entryFor_of_tree (by kernel_rfl)
theorem fg_k : builtinKind "function.__get__" = some .slot := by kernel_rfl
theorem fg_s : splitId "function.__get__" = some ("function", "__get__") := by kernel_rfl
theorem fg_a (x y z : Value) : argsOk "function.__get__" ⟨[x, y, z], []⟩ := PySem.W.KF.args_fn x y z
theorem acc_getPush {i j : Nat} {a d : Addr} {its : List Value} {n : Nat} {t : Tok} {hs : Int} {sz : Value} {Q : Value → Shared → Prop} (S : St O w g f m L s.heap s.os s.gens) (hi : L[i]? = some (a, accO its n d)) (hj : L[j]? = some (d, accD t hs sz))
    (h : ∀ bm s', St O w g f m ((bm, bdO 144 a) :: L) s'.heap s'.os s'.gens → Q (.ref bm) s') : wpAny (model prog w) A (getAttr (.ref a) (Str.ofString "push") true) Q E s := by
  walk_at "raw"
  refine t_fresh S fun tk s1 S1 => ?_
  clear S
  have ho := S1.get i hi
  have hd := S1.get j hj
  walk_at "raw"
  repeat walk_at "st"
  refine x_call ?_ (by intro h; cases h)
  refine cb (id := "list.__getattribute__") (by kernel_rfl) ?_
  refine b_acc "list.__getattribute__" "__getattribute__" Builtin.«object.__getattribute__» S1 ho p_lga am_entry_list_getattribute (.inr k_lga) s_lga (a_lga _ _) ?_
  walk_at "raw"
  repeat walk_at "st"
  refine x_call ?_ (by intro h; cases h)
  refine cb (id := "function.__get__") (by kernel_rfl) ?_
  refine ca (args := ⟨[.ref 144, .ref a, .ref 200], []⟩) rfl ?_
  refine codeAny_call_builtin fg_p fg_e ?_
  refine chk_slot (id := "function.__get__") (owner := "function") (name := "__get__") ?_ ?_ ?_ ?_
  · exact fg_k
  · exact fg_s
  · exact fg_a _ _ _
  walk_at "raw"
  repeat walk_at "st"
  refine wpAny_pure ⟨rfl, ?_⟩
  walk_at "raw"
  repeat walk_at "st"
  refine t_alloc S1 rfl fun bm s2 S2 => ?_
  walk_at "raw"
  refine wpAny_pure ?_
  walk_at "raw"
  refine wpAny_pure ?_
  walk_at "raw"
  exact wpAny_pure (h bm s2 S2)
theorem call_bd {fa x bm : Addr} {args : List Value} {R : Result → Shared → Prop} (ho : s.heap.get? bm = some (bdO fa x)) (hk : (KF w).lookup fa = some ⟨.type "function", none, .func (fdAt w fa), #[]⟩) (S : St O w g f m L s.heap s.os s.gens) (ht : isTab fa = false)
    (h : codeAny (model prog w) A (.call (.ref fa) ⟨.ref x :: args, []⟩) R s) : codeAny (model prog w) A (.call (.ref bm) ⟨args, []⟩) R s := by
  have hf := S.k hk ht
  refine x_code ?_
  walk_at "raw"
  repeat walk_at "st"
  exact wpAny_pure ⟨rfl, h⟩
theorem keep_bd {fa x bm : Addr} {Q : Keeper → Shared → Prop} (ho : s.heap.get? bm = some (bdO fa x)) (hk : (KF w).lookup fa = some ⟨.type "function", none, .func (fdAt w fa), #[]⟩) (S : St O w g f m L s.heap s.os s.gens) (ht : isTab fa = false)
    (h : Q .boundFrame s) : wpAny (model prog w) A (keeperOf (.ref bm)) Q E s := by
  have hf := S.k hk ht
  walk_at "raw"
  repeat walk_at "st"
  exact wpAny_pure h
/-- o.name(*e), o's method bound first -/
theorem r_CallMS {o : Expr} {name : Str} {apos pos : Pos} {e : Expr} {p : Pos} {Q : Value → Shared → Prop}
    (h : wpAny (model prog w) A (eval o env) (fun ov s₁ => wpAny (model prog w) A (getAttr ov name true) (fun fm s₂ =>
      wpAny (model prog w) A (eval e env) (fun v s₃ => StarOf (model prog w) A E v (fun vs s₄ => (∀ {A : Around} {Q : Keeper → Shared → Prop} {E : Value → Shared → Prop}, Q .boundFrame s₄ → wpAny (model prog w) A (keeperOf fm) Q E s₄) ∧
        codeAny (model prog w) A (.call fm ⟨vs, []⟩) (fun r s' => match r with | .ok (.ret v) => Q v s' | .ok _ => False | .error e => E e s') s₄) s₃) E s₂) E s₁) E s)
    (hb : attributeBase o name env (eval o env) = eval o env := by rfl) (he : starEach [.Starred e p] env = [(true, eval e env)] := by rfl) :
    wpAny (model prog w) A (eval (.Call (.Attribute o name apos) [.Starred e p] [] pos) env) Q E s := by
  rw [arm_eval_Call, hb]
  refine wpAny_bind (wpAny_mono h (fun ov s₁ h₁ => ?_) fun _ _ e => e)
  refine wpAny_bind (wpAny_standAt ?_)
  unfold methodCall
  rw [he]
  have hf : methodCallForm ([Expr.Starred e p].length + ([] : List Keyword).length) (backTo pos [(true, eval e env)]) (backToKw pos (keywordEach [] env)) = false := rfl
  rw [hf]
  unfold calleeOf
  refine wpAny_bind (wpAny_holding (wpAny_bind (wpAny_mono h₁ (fun fm s₂ h₂ => wpAny_pure ?_) fun _ _ e => e)))
  show wpAny _ _ (methodCallPos false o env apos pos >>= fun callPos => callWith callPos fm [] [(true, (do let v ← eval e env; standAt pos; pure v))] []) _ _ _
  unfold methodCallPos
  refine wpAny_bind (wpAny_pure ?_)
  unfold callWith
  refine wpAny_bind (wpAny_holding (ks_lone (wpAny_mono h₂ (fun v s₃ h₃ => ?_) fun _ _ x => x)))
  unfold StarOf at h₃ ⊢
  refine wpAny_mono h₃ (fun b s₄ h₄ => ⟨h₄.1, wpAny_mono h₄.2 (fun vs s₅ h₅ => ?_) fun _ _ x => x⟩) fun _ _ x => x
  refine wpAny_bind (wpAny_standAt ?_)
  refine wpAny_bind (h₅.1 ?_)
  refine wpAny_bind (m := operate _ _) (wpAny_operating (wpAny_call (codeAny_mono h₅.2 fun r s' z => ?_)))
  cases r with
  | error e => exact z
  | ok fl =>
    cases fl with
    | ret v => exact wpAny_bind (wpAny_holding (wpAny_point (wpAny_pure z)))
    | _ => exact z.elim
theorem pt_same (p : Part) (T : Addr) : pt { p with T := T } = pt p := rfl
theorem eqv_no {x y : Str} (h : y.length ≠ 0) : PyData.eqv (.tuple [.str x, .str y]) (.tuple [.str (Str.ofString " "), .str (Str.ofString "")]) = false := by
  have : (y == Str.ofString "") = false := by
    rw [beq_eq_false_iff_ne]
    intro e
    rw [e] at h
    exact h (by decide +kernel)
  simp [PyData.eqv, PyData.eqvAll, this]
theorem n_pop (w : World) : nsLook (Str.ofString "pop") (o199 w) = pure (some (.ref 160)) := by kernel_rfl
theorem d_pop {t : Tok} {hs : Int} {sz : Value} : nsLook (Str.ofString "pop") (accD t hs sz) = pure none := by kernel_rfl
theorem n_ow (w : World) : nsLook (Str.ofString "is_onlyws") (o199 w) = pure (some (.ref 189)) := by kernel_rfl
theorem d_ow {t : Tok} {hs : Int} {sz : Value} : nsLook (Str.ofString "is_onlyws") (accD t hs sz) = pure none := by kernel_rfl
theorem reads_pair {h : Heap} {a : Addr} {x y : Str} {t u : Tok} (ho : h.get? a = some (tupO [.str x t, .str y u])) : Reads h (.ref a) (.tuple [.str x, .str y]) [] :=
  .tuple (vs := [Value.str x t, Value.str y u].toArray) (n := 0) ho rfl rfl (.cons (.str x t) (.cons (.str y u) .nil))
theorem newline_spec {K : Mk} {pre : List Part} {p : Part} {n : Nat} {da : Addr} {t : Tok} {hs c : Int} {tc : Tok} {lns : List (Str × Tok)} {nl : Nat} {R : List (Addr × Obj)} {Rz : Result → Shared → Prop}
    (S : St O w g f m (LA K (pre ++ [p]) n da t hs c tc lns nl R) s.heap s.os s.gens) (r : Rm 40 A) (k : K.In g) (hp : PartsIn g (pre ++ [p])) (hx : ∀ p' ∈ pre ++ [p], p'.x.length < 1000 ∧ p'.y.length < 1000) (hn : pre.length < 500) (hl : lns.length < 500)
    (hc0 : 0 ≤ c) (hc1 : c < 1000) (hy : p.y.length ≠ 0) (hk1 : PyData.strOk p.x = true) (hk2 : PyData.strOk p.y = true) (hsp : Txt.isspace (ptext (pre ++ [p])) = false)
    (h : ∀ n' tc' tl nl' s', St O w g f m (LA K [] n' da t hs 0 tc' (lns ++ [(ptext (pre ++ [p]), tl)]) nl' R) s'.heap s'.os s'.gens → Rz (.ok (.ret .none)) s') :
    codeAny (model prog w) A (.call (.ref 78) ⟨[.ref K.a], []⟩) Rz s := by
  refine call_at [(Str.ofString "self", .ref K.a)] S r (by rfl) (by rfl) (by rfl) (by rfl) (by rfl) (by rfl) (by rfl) (by rfl) (by kernel_rfl) (by kernel_rfl) (by kernel_rfl) (by rfl) (by rfl) (by rfl) ?_
  intro g' f' s1 A' r' le S1 back
  walk_at "env"
  have k' := k.le le
  have hpT : g'.get? p.T = some p.o := le _ _ (hp p (by simp))
  have S1 := S1.cast (L' := (K.acc, accO (pre.map (fun p => Value.ref p.T) ++ [.ref p.T]) n da) :: (da, accD t hs (.int c tc)) :: (K.ln, lstO (strValues lns) nl) :: R) (by simp [LA, accP])
  refine r_execs_cons (wpAny_Assign_Name ?_)
  refine r_CallM (r_AttrN (r_local S1 rfl (fm_getLine S1 k' fun s2 S2 => ?_)))
  refine acc_meth S2 (S2.get 0 rfl) (S2.get 1 rfl) (n_pop w) ⟨_, S2.k rfl, rfl⟩ d_pop ?_
  refine r_callK (O := O) (r_args0 ⟨⟨_, _, _, _, S2⟩, ?_⟩)
  refine pop_spec (i := 0) (j := 1) S2 (r'.le (by decide)) rfl rfl (by simp; omega) fun n3 s3 S3 => ?_
  refine r_store (bs := [(Str.ofString "self", .ref K.a)]) S3 fun s4 S4 => ?_
  refine r_execs_cons (wpAny_If (wpAny_isTrue_Compare1 (r_local S4 rfl ?_)))
  refine r_tuple (O := O) (r_item (s_str S4 fun t5 s5 S5 => r_item (s_str S5 fun t6 s6 S6 => r_item0 ⟨by simp [sizeLine], _, _, _, _, S6, fun U s7 S7 => ?_⟩)))
  refine SeqAt.compareNe_reads (reads_pair (S7.keep _ _ hpT)) (reads_pair (S7.get 0 rfl)) ?_ ?_ ?_ (wpAny_truthy_bool ?_)
  · simp [PyData.canLay0, PyData.canLayAll0, hk1, hk2]
  · decide +kernel
  · have := r'.units
    have e : PyData.depth (.tuple [.str p.x, .str p.y]) ≤ 4 := by simp [PyData.depth, PyData.depthAll]
    have := Nat.min_le_left (PyData.depth (.tuple [.str p.x, .str p.y])) (PyData.depth (.tuple [.str (Str.ofString " "), .str (Str.ofString "")]))
    unfold cLine
    omega
  rw [eqv_no hy, if_pos (by decide)]
  have S7 := S7.tail
  refine r_execs_cons (wpAny_Expr_any ?_)
  refine r_CallMS (r_AttrN (r_local S7 rfl (fm_getLine S7 k' fun s8 S8 => ?_)))
  refine acc_getPush (i := 0) (j := 1) S8 rfl rfl fun bm s9 S9 => ?_
  refine r_local S9 rfl ?_
  refine s_star (vs := [.str p.x p.t, .str p.y p.u]) S9 (S9.keep _ _ hpT) rfl rfl (.inr rfl) (by simp) fun s10 S10 => ?_
  refine ⟨fun q => keep_bd (S10.get 0 rfl) rfl S10 rfl q, ?_⟩
  refine call_bd (S10.get 0 rfl) rfl S10 rfl ?_
  have S10 := S10.tail
  refine push_spec (i := 0) (j := 1) S10 (r'.le (by decide)) rfl rfl (by simp; omega) fun T s11 S11 => ?_
  have S11 := S11.cast (L' := (T, ({ p with T := T } : Part).o) :: LA K (pre ++ [{ p with T := T }]) (n3 + 1) da t hs c tc lns nl R) (by simp [LA, accP]; rfl)
  obtain ⟨g2, S12, le2, hT, back2⟩ := S11.commit1
  have k2 := k'.le le2
  have hp2 : PartsIn g2 (pre ++ [{ p with T := T }]) := fun q hm => by
    rcases List.mem_append.mp hm with hm | hm
    · exact le2 _ _ (le _ _ (hp q (List.mem_append_left _ hm)))
    · rw [List.mem_singleton.mp hm]; exact hT
  have hx2 : ∀ q ∈ pre ++ [{ p with T := T }], q.x.length < 1000 ∧ q.y.length < 1000 := fun q hm => by
    rcases List.mem_append.mp hm with hm | hm
    · exact hx q (List.mem_append_left _ hm)
    · rw [List.mem_singleton.mp hm]; exact hx p (by simp)
  have et : ptext (pre ++ [{ p with T := T }]) = ptext (pre ++ [p]) := by simp [ptext, pt]
  have le' := plen_le _ hx2
  have nn : 0 < plen (pre ++ [{ p with T := T }]) := by
    have := plen_nn pre
    rw [plen_app]; simp [plen]; omega
  rw [List.length_append] at le'
  simp at le'
  refine wpAny_execs_nil ?_
  refine r_execs_cons (wpAny_If (wpAny_isTrue_Compare1 ?_))
  refine wpAny_Call_NameR (r_builtin S12 (g_len w).1 (g_len w).2 ?_)
  refine r_callB rfl (r_args1 (r_AttrN (r_local S12 rfl (fm_getLine S12 k2 fun s13 S13 => ?_))))
  refine r_item0 ?_
  refine len_acc (i := 0) (j := 1) S13 (r'.le (by decide)) rfl rfl hp2 (fun p hm => ⟨Nat.lt_trans (hx2 p hm).1 (by decide), Nat.lt_trans (hx2 p hm).2 (by decide)⟩) (by omega) (by omega) fun t14 s14 S14 => ?_
  refine s_int S14 fun t15 s15 S15 => ?_
  refine P.gt_int (wpAny_truthy_bool ?_)
  rw [if_pos (by simp; omega)]
  refine r_execs_cons (wpAny_If (isTrue_and (isTrue_plain ?_)))
  refine r_CallM (r_AttrN (r_local S15 rfl (fm_getLine S15 k2 fun s16 S16 => ?_)))
  refine acc_meth S16 (S16.get 0 rfl) (S16.get 1 rfl) (n_ow w) ⟨_, S16.k rfl, rfl⟩ d_ow ?_
  refine r_callK (O := O) (r_args0 ⟨⟨_, _, _, _, S16⟩, ?_⟩)
  refine onlyws_spec (i := 0) (j := 1) S16 (r'.le (by decide)) rfl rfl hp2 hx2 (by simp; omega) (by omega) (by omega) (et ▸ hsp) fun s17 S17 => ?_
  refine wpAny_truthy_bool ?_
  rw [if_neg (by decide), if_neg (by decide)]
  refine r_execs_cons (wpAny_Expr_any ?_)
  refine r_CallM (r_AttrN (r_local S17 rfl (fm_getLines S17 k2 fun s18 S18 => ?_)))
  refine lst_append (S18.get 2 rfl) ?_
  refine r_callB rfl (r_args1 ?_)
  refine wpAny_Call_NameR (r_builtin S18 (g_str w).1 (g_str w).2 ?_)
  refine r_callT rfl (r_args1 (r_AttrN (r_local S18 rfl (fm_getLine S18 k2 fun s19 S19 => ?_))))
  refine r_item0 ?_
  refine str_acc (i := 0) (j := 1) S19 (r'.le (by decide)) rfl rfl hp2 hx2 (by simp; omega) fun tl s20 S20 => ?_
  refine r_item0 ?_
  refine b_appendL (i := 2) S20 rfl (by simp [strValues]; omega) fun nl' s21 S21 => ?_
  refine wpAny_execs_nil (wpAny_execs_nil ?_)
  refine r_execs_cons (wpAny_Expr_any ?_)
  refine r_CallM (r_AttrN (r_local S21 rfl (fm_getLine S21 k2 fun s22 S22 => ?_)))
  refine acc_meth S22 (S22.get 0 rfl) (S22.get 1 rfl) (n_rs w) ⟨_, S22.k rfl, rfl⟩ d_rs ?_
  refine r_callK (O := O) (r_args0 ⟨⟨_, _, _, _, S22⟩, ?_⟩)
  refine reset0_spec (i := 0) (j := 1) S22 (r'.le (by decide)) rfl rfl (by decide) (by simp; omega) fun n' t' s23 S23 => ?_
  refine wpAny_execs_nil ?_
  rw [et] at S23
  have S24 := S23.cast (L' := LA K [] n' da t hs 0 t' (lns ++ [(ptext (pre ++ [p]), tl)]) nl' R) (by simp [LA, accP, strValues])
  exact h n' t' tl nl' s23 (back _ _ _ (back2 _ _ _ S24))
end
end Mine
namespace Mine
section
variable {O : OsState} {w : World} {A : Around} {E : Value → Shared → Prop} {s : Shared} {g : Heap} {f : Addr} {m : Str → Option Value} {L : List (Addr × Obj)} {env : Env}
theorem s_join {a : Addr} {n : Nat} {x : Str} {t : Tok} {l : List (Str × Tok)} {Q : Value → Shared → Prop} (S : St O w g f m L s.heap s.os s.gens) (ho : s.heap.get? a = some (lstO (strValues l) n)) (hok : ((l.map (·.1)).map (·.length)).sum + (l.map (·.1)).length * x.length ≤ 1000000)
    (h : ∀ t' s', St O w g f m L s'.heap s'.os s'.gens → Q (.str (Txt.join x (l.map (·.1))) t') s') : wpAny (model prog w) A (call (.builtin "str.join") [.str x t, .ref a]) Q E s :=
  SC.join ⟨_, ho, rfl, _, rfl⟩ rfl (join_ok (Nat.le_trans hok (by decide))) fun _ _ => h _ _ S
theorem str64_spec {K : Mk} {pre : List Part} {p : Part} {n : Nat} {da : Addr} {t : Tok} {hs c : Int} {tc : Tok} {lns : List (Str × Tok)} {nl : Nat} {R : List (Addr × Obj)} {sep : Str} {ts : Tok} {Rz : Result → Shared → Prop}
    (S : St O w g f m (LA K (pre ++ [p]) n da t hs c tc lns nl R) s.heap s.os s.gens) (r : Rm 50 A) (k : K.In g) (hp : PartsIn g (pre ++ [p])) (hx : ∀ p' ∈ pre ++ [p], p'.x.length < 1000 ∧ p'.y.length < 1000) (hn : pre.length < 500) (hl : lns.length < 500)
    (hc0 : 0 ≤ c) (hc1 : c < 1000) (hy : p.y.length ≠ 0) (hk1 : PyData.strOk p.x = true) (hk2 : PyData.strOk p.y = true) (hsp : Txt.isspace (ptext (pre ++ [p])) = false)
    (hok : ((lns.map (·.1) ++ [ptext (pre ++ [p])]).map (·.length)).sum + (lns.map (·.1) ++ [ptext (pre ++ [p])]).length * sep.length ≤ 1000000)
    (h : ∀ t' n' tc' lns' nl' s', St O w g f m (LA K [] n' da t hs 0 tc' lns' nl' R) s'.heap s'.os s'.gens → Rz (.ok (.ret (.str (Txt.join sep (lns.map (·.1) ++ [ptext (pre ++ [p])])) t'))) s') :
    codeAny (model prog w) A (.call (.ref 64) ⟨[.ref K.a, .str sep ts], []⟩) Rz s := by
  refine call_at [(Str.ofString "self", .ref K.a), (Str.ofString "linesep", .str sep ts)] S r (by rfl) (by rfl) (by rfl) (by rfl) (by rfl) (by rfl) (by rfl) (by rfl) (by kernel_rfl) (by kernel_rfl) (by kernel_rfl) (by rfl) (by rfl) (by rfl) ?_
  intro g' f' s1 A' r' le S1 back
  walk_at "env"
  have k' := k.le le
  refine r_execs_cons (wpAny_Expr_any ?_)
  refine r_CallM (r_local S1 rfl (fm_meth_nl S1 k' ?_))
  refine r_callK (O := O) (r_args0 ⟨⟨_, _, _, _, S1⟩, ?_⟩)
  refine newline_spec S1 (r'.le (by decide)) k' (fun q hm => le _ _ (hp q hm)) hx hn hl hc0 hc1 hy hk1 hk2 hsp fun n' tc' tl nl' s2 S2 => ?_
  refine r_execs_cons (wpAny_Return_some ?_)
  refine r_CallM (r_local S2 rfl ?_)
  with_reducible refine gm_join ?_
  refine Calls.callWith_builtin rfl ?_
  refine r_args1 (r_AttrN (r_local S2 rfl (fm_getLines S2 k' fun s3 S3 => ?_)))
  refine r_item0 ?_
  refine s_join S3 (S3.get 2 rfl) (by simpa using hok) fun t' s4 S4 => ?_
  have e : (lns ++ [(ptext (pre ++ [p]), tl)]).map (·.1) = lns.map (·.1) ++ [ptext (pre ++ [p])] := by simp
  rw [e]
  exact h _ _ _ _ _ _ (back _ _ _ S4)
end
end Mine
open PySem
namespace Mine
def sreC : Array Nat := #[14, 4, 0, 1, 4294967295, 17, 0, 24, 11, 1, 4294967295, 13, 6, 16, 32, 16, 9, 0, 1, 17, 1, 1]
/-- the machine at a start -/
def m0 (text : Array Nat) (s : Nat) (a b : Option Nat) (first : Bool) (seen : Sre.Seen) : Sre.M :=
  { code := sreC, text, lim := text.size, start := s, lastStart := text.size, pc := 5, pos := s, handed := s, outermost := first, marks := #[a, b],
    frames := [{ wait := .nextStart, pc := 5, pos := s, outermost := first }], weight := 1, seen }
def m1 (text : Array Nat) (s : Nat) (b : Option Nat) (first : Bool) (seen : Sre.Seen) : Sre.M :=
  { m0 text s (some s) b first seen with pc := 7, lastmark := 0 }
theorem step1 (text : Array Nat) (s : Nat) (a b : Option Nat) (first : Bool) (seen : Sre.Seen) : (m0 text s a b first seen).step = m1 text s b first (seen.add 17) := rfl
theorem runFor_add : ∀ (a b : Nat) (m : Sre.M), m.runFor (a + b) = (m.runFor a).runFor b
  | 0, b, m => by rw [Nat.zero_add]; rfl
  | a + 1, b, m => by
    rw [Nat.succ_add]
    show (if m.outcome.isSome then m else Sre.M.runFor (a + b) m.step) = Sre.M.runFor b (if m.outcome.isSome then m else Sre.M.runFor a m.step)
    by_cases h : m.outcome.isSome = true
    · rw [if_pos h, if_pos h]
      cases b with
      | zero => rfl
      | succ b => show _ = if m.outcome.isSome then m else _; rw [if_pos h]
    · rw [if_neg h, if_neg h, runFor_add a b]
theorem runFor_done {m : Sre.M} (h : m.outcome.isSome = true) (n : Nat) : m.runFor n = m := by
  cases n with
  | zero => rfl
  | succ n => show (if m.outcome.isSome then m else _) = m; rw [if_pos h]
theorem runFor_step {m : Sre.M} (h : m.outcome = none) (n : Nat) : m.runFor (n + 1) = m.step.runFor n := by
  show (if m.outcome.isSome then m else _) = _
  rw [h]; rfl
theorem acc_no {c : Nat} (h1 : c ≠ 32) (h2 : c ≠ 9) (seen : Sre.Seen) : ∃ sn, Sre.accepts sreC 11 c seen = .ok (false, sn) := by
  have e1 : (c == 32) = false := by simpa using h1
  have e2 : (c == 9) = false := by simpa using h2
  refine ⟨((seen.add 16).add 16).add 0, ?_⟩
  show (if (c == 32) = true then _ else if (c == 9) = true then _ else _) = _
  rw [if_neg (by rw [e1]; decide), if_neg (by rw [e2]; decide)]
  rfl
theorem acc_yes (seen : Sre.Seen) : ∃ sn, Sre.accepts sreC 11 32 seen = .ok (true, sn) := ⟨_, rfl⟩
theorem step2_no {text : Array Nat} {s : Nat} {b : Option Nat} {first : Bool} {seen : Sre.Seen} (hs : s < text.size) (h1 : text.getD s 0 ≠ 32) (h2 : text.getD s 0 ≠ 9) :
    ∃ sn, (m1 text s b first seen).step = { m1 text s b first sn with answer := some false } := by
  obtain ⟨sn, e⟩ := acc_no h1 h2 ((seen.add 24).add 13)
  refine ⟨sn, ?_⟩
  have hr : ∃ n, min 4294967295 (((text.size : Int) - s).toNat) = n + 1 := ⟨min 4294967295 (((text.size : Int) - s).toNat) - 1, by omega⟩
  obtain ⟨n, hr⟩ := hr
  have er : Sre.run sreC text 11 (min 4294967295 (((text.size : Int) - s).toNat)) s 0 ((seen.add 24).add 13) = .ok (0, sn) := by
    rw [hr]
    show (Sre.accepts sreC 11 (text.getD s 0) ((seen.add 24).add 13) >>= _) = _
    rw [e]; rfl
  show (if ((1 : Nat) : Int) > (text.size : Int) - s then _ else _) = _
  rw [if_neg (by omega)]
  show (match Sre.run sreC text 11 (min 4294967295 (((text.size : Int) - s).toNat)) s 0 ((seen.add 24).add 13) with | .error why => _ | .ok (n, seen) => _) = _
  rw [er]
  rfl
/-- a start at a sign that is no blank: on to the next -/
theorem go_no {text : Array Nat} {s : Nat} (a b : Option Nat) (first : Bool) (seen : Sre.Seen) (hs : s < text.size) (h1 : text.getD s 0 ≠ 32) (h2 : text.getD s 0 ≠ 9) :
    ∃ sn, (m0 text s a b first seen).runFor 3 = m0 text (s + 1) (some s) b false sn := by
  obtain ⟨sn, e⟩ := step2_no (b := b) (first := first) (seen := seen.add 17) hs h1 h2
  refine ⟨sn, ?_⟩
  rw [runFor_step rfl, step1, runFor_step rfl, e, runFor_step rfl]
  show (if s < text.size then _ else _ : Sre.M).runFor 0 = _
  rw [if_pos hs]
  rfl
theorem go_nos {text : Array Nat} (b : Option Nat) : ∀ (d s : Nat) (a : Option Nat) (first : Bool) (seen : Sre.Seen), (∀ i, s ≤ i → i < s + d → i < text.size ∧ text.getD i 0 ≠ 32 ∧ text.getD i 0 ≠ 9) →
    ∃ a' first' sn, (m0 text s a b first seen).runFor (3 * d) = m0 text (s + d) a' b first' sn
  | 0, s, a, first, seen, _ => ⟨a, first, seen, rfl⟩
  | d + 1, s, a, first, seen, h => by
    obtain ⟨h0, h1, h2⟩ := h s (Nat.le_refl _) (by omega)
    obtain ⟨sn, e⟩ := go_no a b first seen h0 h1 h2
    obtain ⟨a', f', sn', e'⟩ := go_nos b d (s + 1) (some s) false sn fun i hi hi' => h i (by omega) (by omega)
    refine ⟨a', f', sn', ?_⟩
    rw [show 3 * (d + 1) = 3 + 3 * d by omega, runFor_add, e, e']
    congr 1; omega
/-- the end is reached: no match -/
theorem go_end {text : Array Nat} (a b : Option Nat) (first : Bool) (seen : Sre.Seen) : ∃ m', (m0 text text.size a b first seen).runFor 4 = m' ∧ m'.outcome = some .failed := by
  refine ⟨_, rfl, ?_⟩
  rw [runFor_step rfl, step1]
  have e : (m1 text text.size b first (seen.add 17)).step = { m1 text text.size b first ((seen.add 17).add 24) with answer := some false } := by
    show (if ((1 : Nat) : Int) > (text.size : Int) - text.size then _ else _) = _
    rw [if_pos (by omega)]
    rfl
  rw [runFor_step rfl, e, runFor_step rfl]
  show ((if text.size < text.size then _ else _ : Sre.M).runFor 1).outcome = _
  rw [if_neg (Nat.lt_irrefl _)]
  rfl
/-- a blank is found -/
theorem go_yes {text : Array Nat} {s : Nat} (a b : Option Nat) (first : Bool) (seen : Sre.Seen) (hs : s + 1 < text.size) (h0 : text.getD s 0 = 32) (h1 : text.getD (s + 1) 0 ≠ 32) (h2 : text.getD (s + 1) 0 ≠ 9) :
    ∃ m', (m0 text s a b first seen).runFor 7 = m' ∧ m'.outcome = some .matched ∧ m'.start = s ∧ m'.handed = s + 1 ∧ m'.marks = #[some s, some (s + 1)] ∧ m'.lastmark = 1 := by
  obtain ⟨sn1, e1⟩ := acc_yes (((seen.add 17).add 24).add 13)
  obtain ⟨sn, e2⟩ := acc_no h1 h2 sn1
  obtain ⟨n, hr⟩ : ∃ n, min 4294967295 (((text.size : Int) - s).toNat) = n + 1 + 1 := ⟨min 4294967295 (((text.size : Int) - s).toNat) - 2, by omega⟩
  have er : Sre.run sreC text 11 (min 4294967295 (((text.size : Int) - s).toNat)) s 0 (((seen.add 17).add 24).add 13) = .ok (1, sn) := by
    rw [hr]
    show (Sre.accepts sreC 11 (text.getD s 0) (((seen.add 17).add 24).add 13) >>= _) = _
    rw [h0, e1]
    show (Sre.accepts sreC 11 (text.getD (s + 1) 0) sn1 >>= _) = _
    rw [e2]; rfl
  have e : (m1 text s b first (seen.add 17)).step = { m1 text s b first sn with pos := s + 1, handed := s + 1, pc := 19, weight := 2, frames := [{ wait := .giveBack, pc := 7, pos := s + 1, outermost := first, count := 1, kept := { lastmark := 0, lastindex := -1 } }, { wait := .nextStart, pc := 5, pos := s, outermost := first }] } := by
    show (if ((1 : Nat) : Int) > (text.size : Int) - s then _ else _) = _
    rw [if_neg (by omega)]
    show (match Sre.run sreC text 11 (min 4294967295 (((text.size : Int) - s).toNat)) s 0 (((seen.add 17).add 24).add 13) with | .error why => _ | .ok (n, seen) => _) = _
    rw [er]
    rfl
  refine ⟨_, rfl, ?_⟩
  rw [runFor_step rfl, step1, runFor_step rfl, e, runFor_step rfl, runFor_step rfl]
  generalize hm2 : ({ m1 text s b first sn with pos := s + 1, handed := s + 1, pc := 19, weight := 2, frames := [{ wait := .giveBack, pc := 7, pos := s + 1, outermost := first, count := 1, kept := { lastmark := 0, lastindex := -1 } }, { wait := .nextStart, pc := 5, pos := s, outermost := first }] } : Sre.M) = m2
  obtain ⟨li, e3⟩ : ∃ li, m2.step = { m2 with marks := #[some s, some (s + 1)], lastmark := 1, lastindex := li, pc := 21, seen := sn.add 17 } := by rw [← hm2]; exact ⟨_, rfl⟩
  rw [e3]
  have e4 : ({ m2 with marks := #[some s, some (s + 1)], lastmark := 1, lastindex := li, pc := 21, seen := sn.add 17 } : Sre.M).step = { m2 with marks := #[some s, some (s + 1)], lastmark := 1, lastindex := li, pc := 21, seen := (sn.add 17).add 1, handed := s + 1, answer := some true } := by
    rw [← hm2]
    cases first <;> rfl
  rw [e4, ← hm2]
  exact ⟨rfl, rfl, rfl, rfl, rfl⟩
end Mine
namespace Mine
section
variable {O : OsState} {w : World} {A : Around} {E : Value → Shared → Prop} {s : Shared} {g : Heap} {f : Addr} {m : Str → Option Value} {L : List (Addr × Obj)} {env : Env}
theorem drive {Q : Sre.M → Shared → Prop} {m' : Sre.M} (hd : m'.outcome.isSome = true) (hq : Q m' s) : ∀ (turns k : Nat) (mm : Sre.M), mm.runFor k = m' → 1 ≤ turns → k ≤ 4 * turns → wpAny (model prog w) A (Builtin.Re.reDrive turns mm) Q E s
  | 0, _, _, _, h, _ => absurd h (by decide)
  | turns + 1, k, mm, h, _, hk => by
    unfold Builtin.Re.reDrive
    dsimp only [Builtin.Re.reTurnSteps]
    by_cases h4 : k ≤ 4
    · have e : mm.runFor 4 = m' := by
        rw [show 4 = k + (4 - k) by omega, runFor_add, h, runFor_done hd]
      rw [e, if_pos hd]
      exact wpAny_pure hq
    · have e : (mm.runFor 4).runFor (k - 4) = m' := by rw [← runFor_add, show 4 + (k - 4) = k by omega, h]
      by_cases ho : (mm.runFor 4).outcome.isSome = true
      · rw [runFor_done ho] at e
        rw [if_pos ho, e]
        exact wpAny_pure hq
      · rw [if_neg ho]
        exact wpAny_bind (wpAny_rule (drive hd hq turns (k - 4) _ e (by omega) (by omega)))
theorem seen_loop (sn : Sre.Seen) {Q : PUnit → Shared → Prop} (hq : Q ⟨⟩ s) : ∀ l : List Nat, wpAny (model prog w) A (forIn l PUnit.unit fun i (_ : PUnit) => do
      if sn.has i then rule (Sre.names.getD i "")
      pure (ForInStep.yield PUnit.unit)) Q E s
  | [] => by simp only [List.forIn_nil]; exact wpAny_pure hq
  | i :: l => by
    simp only [List.forIn_cons]
    split
    · exact wpAny_bind (wpAny_bind (wpAny_rule (wpAny_pure (seen_loop sn hq l))))
    · exact wpAny_bind (wpAny_pure (seen_loop sn hq l))
theorem run_end {Q : Option Sre.M → Shared → Prop} {m' mm : Sre.M} {k : Nat} (hr : mm.runFor k = m') (hk : k ≤ 1000000) (h : (m'.outcome = some .matched ∧ Q (some m') s) ∨ (m'.outcome = some .failed ∧ Q none s)) : wpAny (model prog w) A (Builtin.Re.reRunToEnd mm) Q E s := by
  unfold Builtin.Re.reRunToEnd
  refine wpAny_bind (drive (m' := m') (by rcases h with h | h <;> rw [h.1] <;> rfl) ?_ (2 ^ 64) k mm hr (by decide) (by omega))
  refine wpAny_bind (seen_loop m'.seen ?_ _)
  rcases h with h | h <;> rw [h.1] <;> exact wpAny_pure h.2
theorem search_at {text : Array Nat} {st : Nat} (h : st < text.size) : Sre.forSearch sreC text 1 st text.size false = m0 text st none none true (({} : Sre.Seen).add 14) := by
  unfold Sre.forSearch
  show (if (decide (st > text.size) || decide (text.size - st < 1)) = true then _ else _) = _
  rw [if_neg (by simp; omega)]
  rfl
/-- from a start on: the next blank -/
theorem next_yes {tg : Builtin.Re.ReTarget} {text : Array Nat} {st d : Nat} {Q : Option Sre.M → Shared → Prop} (hc : tg.code = sreC) (ht : tg.text = text) (hg : tg.groups = 1) (hl : tg.lim = text.size) (hz : text.size < 10000)
    (hno : ∀ i, st ≤ i → i < st + d → text.getD i 0 ≠ 32 ∧ text.getD i 0 ≠ 9) (hs : st + d + 1 < text.size) (h0 : text.getD (st + d) 0 = 32) (h1 : text.getD (st + d + 1) 0 ≠ 32) (h2 : text.getD (st + d + 1) 0 ≠ 9)
    (h : ∀ m', m'.start = st + d → m'.handed = st + d + 1 → m'.marks = #[some (st + d), some (st + d + 1)] → m'.lastmark = 1 → Q (some m') s) : wpAny (model prog w) A (Builtin.Re.reNextFound tg st false) Q E s := by
  unfold Builtin.Re.reNextFound
  rw [hc, ht, hg, hl, search_at (by omega)]
  obtain ⟨a', f', sn, e⟩ := go_nos (text := text) none d st none true (({} : Sre.Seen).add 14) fun i hi hi' => ⟨by omega, hno i hi hi'⟩
  obtain ⟨m', e', ho, q1, q2, q3, q4⟩ := go_yes (text := text) (s := st + d) a' none f' sn hs h0 h1 h2
  exact run_end (m' := m') (k := 3 * d + 7) (by rw [runFor_add, e, e']) (by omega) (.inl ⟨ho, h m' q1 q2 q3 q4⟩)
theorem next_no {tg : Builtin.Re.ReTarget} {text : Array Nat} {st : Nat} {Q : Option Sre.M → Shared → Prop} (hc : tg.code = sreC) (ht : tg.text = text) (hg : tg.groups = 1) (hl : tg.lim = text.size) (hz : text.size < 10000) (hs : st < text.size)
    (hno : ∀ i, st ≤ i → i < text.size → text.getD i 0 ≠ 32 ∧ text.getD i 0 ≠ 9) (h : Q none s) : wpAny (model prog w) A (Builtin.Re.reNextFound tg st false) Q E s := by
  unfold Builtin.Re.reNextFound
  rw [hc, ht, hg, hl, search_at hs]
  obtain ⟨a', f', sn, e⟩ := go_nos (text := text) none (text.size - st) st none true (({} : Sre.Seen).add 14) fun i hi hi' => ⟨by omega, hno i hi (by omega)⟩
  rw [show st + (text.size - st) = text.size by omega] at e
  obtain ⟨m', e', ho⟩ := go_end (text := text) a' none f' sn
  exact run_end (m' := m') (k := 3 * (text.size - st) + 4) (by rw [runFor_add, e, e']) (by omega) (.inr ⟨ho, h⟩)
end
end Mine
namespace Mine
section
variable {O : OsState} {w : World} {A : Around} {E : Value → Shared → Prop} {s : Shared} {g : Heap} {f : Addr} {m : Str → Option Value} {L : List (Addr × Obj)} {env : Env}
theorem re_ga : typeLookup (.type "re.Pattern") (Str.ofString "__getattribute__") = pure (some (.builtin "object.__getattribute__")) := by rw [typeLookup_type, builtinLookup_eq_fast]; kernel_rfl
theorem re_gt : typeLookup (.type "re.Pattern") (Str.ofString "__getattr__") = pure none := by rw [typeLookup_type, builtinLookup_eq_fast]; kernel_rfl
theorem re_plain : PlainAttrs "re.Pattern" := ⟨⟨"object.__getattribute__", re_ga, PySem.F.canon_object_ga⟩, re_gt⟩
theorem re_slot : Slot "re.Pattern" (Str.ofString "split") "re.Pattern.split" :=
  .of (owner := "re.Pattern") (n := "split") (by rw [typeLookup_type, builtinLookup_eq_fast]; kernel_rfl) (by decide +kernel) (by decide +kernel) (by decide +kernel)
    (by first | exact .inl (by decide +kernel) | exact .inr (by decide +kernel)) (by rw [isSubtype_type]; kernel_rfl)
theorem re_ty : typeOf (.builtin "re.Pattern.split") = pure (.type "method_descriptor") := by show builtinType _ = _; rw [builtinType_eq_fast]; kernel_rfl
noncomputable def o43 (w : World) : Obj := ((KF w).lookup 43).getD default
theorem St.g43 {h : Heap} (S : St O w g f m L h so sg) : h.get? 43 = some (o43 w) := S.k rfl
theorem o43c (w : World) : (o43 w).cls = .type "re.Pattern" := by rfl
theorem o43d (w : World) : (o43 w).dict = none := by rfl
theorem re_meth {pl : Sem Bool} {Q : Value × List Value → Shared → Prop} (S : St O w g f m L s.heap s.os s.gens) (h : Q (.builtin "re.Pattern.split", [.ref 43]) s) :
    wpAny (model prog w) A (getMethod (.ref 43) (Str.ofString "split") pl) Q E s := by
  have hT : s.TypeIs (.ref 43) "re.Pattern" := ⟨_, S.g43, o43c w⟩
  have hd : ∀ b, Value.ref 43 = .ref b → ∃ o, s.heap.get? b = some o ∧ o.dict = none := fun b e => by cases e; exact ⟨_, S.g43, o43d w⟩
  with_reducible exact PySem.getMethod_builtin hT re_plain re_slot re_ty hd h
theorem re_target {x : Str} {t : Tok} {Q : Builtin.Re.ReTarget → Shared → Prop} (S : St O w g f m L s.heap s.os s.gens) (h : Q { pattern := .ref 43, string := .str x t, code := sreC, text := x.cps, kind := 0, groups := 1, pos := 0, lim := x.cps.size } s) :
    wpAny (model prog w) A (Builtin.Re.reWholeTarget (.ref 43) (.str x t)) Q E s := by
  have key : ∀ c gr, c = sreC → gr = 1 → Q { pattern := .ref 43, string := .str x t, code := c, text := x.cps, kind := 0, groups := gr, pos := 0, lim := x.cps.size } s := by rintro _ _ rfl rfl; exact h
  walk_at "raw"
  repeat walk_at "st"
  exact wpAny_pure (key _ _ (by kernel_rfl) (by kernel_rfl))
theorem sp_e : entryFor table "re.Pattern.split" = some Builtin.«re.Pattern.split» := entryFor_of_tree (by kernel_rfl)
theorem sp_a (x y : Value) : argsOk "re.Pattern.split" ⟨[x, y], []⟩ := by unfold argsOk; kernel_rfl
end
end Mine
namespace Mine
/-- words a blank apart -/
def inter : List (List Nat) → List Nat
  | [] => []
  | [w] => w
  | w :: v :: r => w ++ 32 :: inter (v :: r)
/-- what a split lays ahead of the last word -/
def pieces : List (List Nat) → List (List Nat)
  | [] => []
  | [_] => []
  | w :: v :: r => w :: [32] :: pieces (v :: r)
def lastW : List (List Nat) → List Nat
  | [] => []
  | [w] => w
  | _ :: v :: r => lastW (v :: r)
def okW (w : List Nat) : Prop := w ≠ [] ∧ ∀ c ∈ w, c ≠ 32 ∧ c ≠ 9
theorem getD_list (t : Array Nat) (i : Nat) : t.getD i 0 = (t.toList[i]?).getD 0 := by
  simp [Array.getD_eq_getD_getElem?]
theorem extract_list (t : Array Nat) (a b : Nat) : t.extract a b = (((t.toList.drop a).take (b - a))).toArray := by
  apply Array.ext'
  simp [List.extract]
theorem inter_head {w : List Nat} {r : List (List Nat)} (h : okW w) : ∃ c, (inter (w :: r))[0]? = some c ∧ c ≠ 32 ∧ c ≠ 9 := by
  obtain ⟨hne, hall⟩ := h
  cases w with
  | nil => exact absurd rfl hne
  | cons c w =>
    refine ⟨c, ?_, hall c (.head _)⟩
    cases r with
    | nil => rfl
    | cons v r => rfl
theorem mid {P w R : List Nat} {i : Nat} (h1 : P.length ≤ i) (h2 : i < P.length + w.length) : ∃ c ∈ w, (P ++ (w ++ R))[i]? = some c := by
  have hlt : i - P.length < w.length := by omega
  refine ⟨w[i - P.length], List.getElem_mem hlt, ?_⟩
  rw [List.getElem?_append_right h1, List.getElem?_append_left hlt, List.getElem?_eq_getElem hlt]
section
variable {O : OsState} {w : World} {A : Around} {E : Value → Shared → Prop} {s : Shared} {g : Heap} {f : Addr} {m : Str → Option Value} {L : List (Addr × Obj)} {env : Env}
theorem s_mkStr {x : Str} {Q : Value → Shared → Prop} (S : St O w g f m L s.heap s.os s.gens) (hx : x.length ≤ 100000) (h : ∀ t s', St O w g f m L s'.heap s'.os s'.gens → Q (.str x t) s') : wpAny (model prog w) A (mkStr x) Q E s :=
  wpAny_mkStr (h _ _ S) (Nat.le_trans hx (by decide))
abbrev SpSt := Array Value × Nat × Nat × Bool × Int × Bool
def spBody (t : Builtin.Re.ReTarget) : Nat → SpSt → Sem (ForInStep SpSt) := fun _ st =>
  if (!st.2.2.2.2.2) = true then do
    let r ← (if ((0 : Int) != 0 && decide (st.2.2.2.2.1 ≥ 0)) = true then pure none else Builtin.Re.reNextFound t st.2.1 st.2.2.2.1 : Sem (Option Sre.M))
    match r with
    | none => pure (ForInStep.yield (st.1, st.2.1, st.2.2.1, st.2.2.2.1, st.2.2.2.2.1, true))
    | some m => do
      let v ← Builtin.Re.reSlice t.text t.kind st.2.2.1 m.start
      let o ← forIn (List.range t.groups) (st.1.push v) fun g o => do
        let v ← Builtin.Re.reMachineGroup t m (g + 1) (pure Value.none)
        pure (ForInStep.yield (o.push v))
      pure (ForInStep.yield (o, m.handed, m.handed, m.handed == m.start, st.2.2.2.2.1 + 1, st.2.2.2.2.2))
  else pure (ForInStep.yield (st.1, st.2.1, st.2.2.1, st.2.2.2.1, st.2.2.2.2.1, st.2.2.2.2.2))
theorem sp_rest (t : Builtin.Re.ReTarget) {o : Array Value} {a b : Nat} {u : Bool} {n : Int} {Q : SpSt → Shared → Prop} (hq : Q (o, a, b, u, n, true) s) : ∀ l : List Nat, wpAny (model prog w) A (forIn l (o, a, b, u, n, true) (spBody t)) Q E s
  | [] => by simp only [List.forIn_nil]; exact wpAny_pure hq
  | i :: l => by
    simp only [List.forIn_cons]
    exact wpAny_bind (wpAny_pure (sp_rest t hq l))
theorem sp_yes {t : Builtin.Re.ReTarget} (hc : t.code = sreC) (hg : t.groups = 1) (hl : t.lim = t.text.size) (hk : t.kind = 0) (hz : t.text.size < 10000) {Q : ForInStep SpSt → Shared → Prop}
    {u : List Nat} {r : List (List Nat)} {v P : List Nat} {o : Array Value} {n : Int} {i : Nat} (S : St O w g f m L s.heap s.os s.gens) (hok : ∀ z ∈ v :: u :: r, okW z) (ht : t.text.toList = P ++ inter (v :: u :: r))
    (h : ∀ t1 t2 s', St O w g f m L s'.heap s'.os s'.gens → Q (.yield ((o.push (Value.str { cps := v.toArray } t1)).push (Value.str { cps := [32].toArray } t2), (P ++ v ++ [32]).length, (P ++ v ++ [32]).length, false, n + 1, false)) s') :
    wpAny (model prog w) A (spBody t i (o, P.length, P.length, false, n, false)) Q E s := by
  have hv := hok v (.head _)
  have hu := hok u (.tail _ (.head _))
  have ei : inter (v :: u :: r) = v ++ 32 :: inter (u :: r) := rfl
  obtain ⟨c0, ec0, hc0⟩ := inter_head (r := r) hu
  have hi0 : 0 < (inter (u :: r)).length := (List.getElem?_eq_some_iff.mp ec0).1
  have hsz : t.text.size = P.length + v.length + 1 + (inter (u :: r)).length := by rw [← Array.length_toList, ht, ei]; simp; omega
  have hpos : 0 < v.length := List.length_pos_iff.mpr hv.1
  unfold spBody
  dsimp only
  rw [if_pos (by decide)]
  refine wpAny_bind ?_
  rw [if_neg (by simp)]
  refine next_yes (text := t.text) (d := v.length) hc rfl hg hl hz (fun j h1 h2 => ?_) (by omega) ?_ ?_ ?_ fun m' q1 q2 q3 q4 => ?_
  · obtain ⟨c, hcm, e⟩ := mid (P := P) (w := v) (R := 32 :: inter (u :: r)) h1 h2
    rw [getD_list, ht, ei, e]
    exact hv.2 c hcm
  · rw [getD_list, ht, ei, List.getElem?_append_right (by omega), List.getElem?_append_right (by omega)]
    simp
  · rw [getD_list, ht, ei, List.getElem?_append_right (by omega), List.getElem?_append_right (by omega)]
    have e : P.length + v.length + 1 - P.length - v.length = 1 := by omega
    rw [e, List.getElem?_cons_succ, ec0]
    exact hc0.1
  · rw [getD_list, ht, ei, List.getElem?_append_right (by omega), List.getElem?_append_right (by omega)]
    have e : P.length + v.length + 1 - P.length - v.length = 1 := by omega
    rw [e, List.getElem?_cons_succ, ec0]
    exact hc0.2
  dsimp only
  have x1 : t.text.extract P.length (P.length + v.length) = v.toArray := by
    rw [extract_list, ht, ei]; simp
  have x2 : t.text.extract (P.length + v.length) (P.length + v.length + 1) = [32].toArray := by
    rw [extract_list, ht, ei, ← List.append_assoc]
    have e : P.length + v.length + 1 - (P.length + v.length) = 1 := by omega
    have e2 : P.length + v.length = (P ++ v).length := by simp
    rw [e, e2, List.drop_left]
    rfl
  rw [q1, q2, hg, hk]
  refine wpAny_bind ?_
  unfold Builtin.Re.reSlice
  rw [if_pos (by decide), x1]
  refine s_mkStr S (by show v.toArray.size ≤ _; rw [List.size_toArray]; omega) fun t1 s1 S1 => ?_
  refine wpAny_bind ?_
  simp only [List.range_one, List.forIn_cons, List.forIn_nil]
  refine wpAny_bind (wpAny_bind ?_)
  unfold Builtin.Re.reMachineGroup
  rw [q3, q4, if_neg (by decide)]
  show wpAny _ _ (if P.length + v.length + 1 < P.length + v.length then _ else Builtin.Re.reSlice t.text t.kind (P.length + v.length) (P.length + v.length + 1)) _ _ _
  rw [if_neg (by omega), hk]
  unfold Builtin.Re.reSlice
  rw [if_pos (by decide), x2]
  refine s_mkStr S1 (by decide) fun t2 s2 S2 => ?_
  refine wpAny_pure (wpAny_pure (wpAny_pure ?_))
  have em : (P.length + v.length + 1 == P.length + v.length) = false := by simp
  rw [em]
  have eP : P.length + v.length + 1 = (P ++ v ++ [32]).length := by simp [Nat.add_assoc]
  rw [eP]
  exact h t1 t2 s2 S2
theorem sp_loop {t : Builtin.Re.ReTarget} (hc : t.code = sreC) (hg : t.groups = 1) (hl : t.lim = t.text.size) (hk : t.kind = 0) (hz : t.text.size < 10000) {Q : SpSt → Shared → Prop} :
    ∀ (r : List (List Nat)) (v : List Nat) (P : List Nat) (o : Array Value) (n : Int) (l : List Nat) (s : Shared), St O w g f m L s.heap s.os s.gens → (∀ u ∈ v :: r, okW u) → t.text.toList = P ++ inter (v :: r) → (v :: r).length ≤ l.length →
      (∀ (l' : List (Str × Tok)) n' s', St O w g f m L s'.heap s'.os s'.gens → l'.map (fun z => z.1.cps.toList) = pieces (v :: r) →
        Q (o ++ (strValues l').toArray, t.text.size - (lastW (v :: r)).length, t.text.size - (lastW (v :: r)).length, false, n', true) s') →
      wpAny (model prog w) A (forIn l (o, P.length, P.length, false, n, false) (spBody t)) Q E s
  | _, _, _, _, _, [], _, _, _, _, hlen, _ => absurd hlen (by simp)
  | [], v, P, o, n, i :: l, s, S, hok, ht, _, hq => by
    simp only [List.forIn_cons]
    have hv := hok v (.head _)
    have hsz : t.text.size = P.length + v.length := by rw [← Array.length_toList, ht, List.length_append]; rfl
    have hpos : 0 < v.length := List.length_pos_iff.mpr hv.1
    refine wpAny_bind ?_
    unfold spBody
    dsimp only
    rw [if_pos (by decide)]
    refine wpAny_bind ?_
    rw [if_neg (by simp)]
    refine next_no hc rfl hg hl hz (by omega) (fun j h1 h2 => ?_) ?_
    · obtain ⟨c, hcm, e⟩ := mid (P := P) (w := v) (R := []) h1 (by omega)
      rw [getD_list, ht]
      have : P ++ inter [v] = P ++ (v ++ []) := by simp [inter]
      rw [this, e]
      exact hv.2 c hcm
    · refine wpAny_pure ?_
      have z := hq [] n s S rfl
      have e : t.text.size - (lastW [v]).length = P.length := by show t.text.size - v.length = _; omega
      rw [e] at z
      refine sp_rest t ?_ l
      simpa [strValues] using z
  | u :: r, v, P, o, n, i :: l, s, S, hok, ht, hlen, hq => by
    simp only [List.forIn_cons]
    have ei : inter (v :: u :: r) = v ++ 32 :: inter (u :: r) := rfl
    refine wpAny_bind (sp_yes hc hg hl hk hz S hok ht fun t1 t2 s2 S2 => ?_)
    refine sp_loop hc hg hl hk hz r u (P ++ v ++ [32]) _ _ l s2 S2 (fun z hz => hok z (.tail _ hz)) (by rw [ht, ei]; simp) (by simpa using hlen) fun l' n' s' S' hl' => ?_
    have z := hq ((⟨v.toArray⟩, t1) :: (⟨[32].toArray⟩, t2) :: l') n' s' S' (by simp [hl', pieces])
    have el : lastW (v :: u :: r) = lastW (u :: r) := rfl
    rw [el] at z
    have ea : o ++ (strValues ((⟨v.toArray⟩, t1) :: (⟨[32].toArray⟩, t2) :: l')).toArray = (o.push (Value.str ⟨v.toArray⟩ t1)).push (Value.str ⟨[32].toArray⟩ t2) ++ (strValues l').toArray := by
      apply Array.ext'
      simp [strValues]
    rw [ea] at z
    exact z
end
end Mine
namespace Mine
section
variable {O : OsState} {w : World} {A : Around} {E : Value → Shared → Prop} {s : Shared} {g : Heap} {f : Addr} {m : Str → Option Value} {L : List (Addr × Obj)} {env : Env}
theorem inter_len : ∀ (r : List (List Nat)) (v : List Nat), (v :: r).length ≤ (inter (v :: r)).length + 1
  | [], v => by simp [inter]
  | u :: r, v => by
    have := inter_len r u
    show (v :: u :: r).length ≤ (v ++ 32 :: inter (u :: r)).length + 1
    simp at this ⊢
    omega
theorem pieces_len : ∀ (r : List (List Nat)) (v : List Nat), (pieces (v :: r)).length ≤ 2 * (inter (v :: r)).length
  | [], v => by simp [pieces]
  | u :: r, v => by
    have := pieces_len r u
    show (v :: [32] :: pieces (u :: r)).length ≤ 2 * (v ++ 32 :: inter (u :: r)).length
    simp at this ⊢
    omega
theorem inter_last : ∀ (r : List (List Nat)) (v : List Nat), ∃ P, inter (v :: r) = P ++ lastW (v :: r)
  | [], v => ⟨[], rfl⟩
  | u :: r, v => by
    obtain ⟨P, e⟩ := inter_last r u
    refine ⟨v ++ 32 :: P, ?_⟩
    show v ++ 32 :: inter (u :: r) = _ ++ lastW (u :: r)
    rw [e]; simp
/-- the pattern's split of words a blank apart -/
theorem split_spec {x : Str} {t : Tok} {R : Result → Shared → Prop} {v : List Nat} {r : List (List Nat)} (S : St O w g f m L s.heap s.os s.gens) (hok : ∀ z ∈ v :: r, okW z) (hx : x.cps.toList = inter (v :: r)) (hz : x.cps.size < 10000)
    (h : ∀ a (l : List (Str × Tok)) s', St O w g f m ((a, lstO (strValues l)) :: L) s'.heap s'.os s'.gens → l.map (fun z => z.1.cps.toList) = pieces (v :: r) ++ [lastW (v :: r)] → R (.ok (.ret (.ref a))) s') :
    codeAny (model prog w) A (.call (.builtin "re.Pattern.split") ⟨[.ref 43, .str x t], []⟩) R s := by
  have hT : s.TypeIs (.ref 43) "re.Pattern" := ⟨_, S.g43, o43c w⟩
  with_reducible refine codeAny_call_builtin re_slot.plain sp_e ?_
  with_reducible refine re_slot.check _ _ _ _ _ _ _ _ hT (sp_a _ _) ?_
  unfold Builtin.«re.Pattern.split»
  dsimp only
  refine wpAny_bind (wpAny_of_eq (a := [some (.str x t), none]) (by rfl) ?_)
  dsimp only
  refine wpAny_bind (wpAny_pure ?_)
  refine wpAny_bind (re_target S ?_)
  have hsz : x.cps.size = (inter (v :: r)).length := by rw [← hx, Array.length_toList]
  have hl := inter_len r v
  refine wpAny_bind (sp_loop (t := { pattern := .ref 43, string := .str x t, code := sreC, text := x.cps, kind := 0, groups := 1, pos := 0, lim := x.cps.size }) rfl rfl rfl rfl hz r v [] #[] 0
    (List.range (Builtin.Re.reMostMatches { pattern := .ref 43, string := .str x t, code := sreC, text := x.cps, kind := 0, groups := 1, pos := 0, lim := x.cps.size })) s S hok (by simpa using hx) ?_ fun l' n' s' S' hl' => ?_)
  · rw [List.length_range]
    show _ ≤ 2 * x.cps.size + 3
    omega
  dsimp only
  rw [if_neg (by decide)]
  refine wpAny_bind ?_
  unfold Builtin.Re.reSlice
  rw [if_pos (by decide)]
  obtain ⟨P, eP⟩ := inter_last r v
  have ex : x.cps.extract (x.cps.size - (lastW (v :: r)).length) x.cps.size = (lastW (v :: r)).toArray := by
    rw [extract_list, hx, eP]
    have e1 : x.cps.size = P.length + (lastW (v :: r)).length := by rw [hsz, eP, List.length_append]
    have e2 : x.cps.size - (lastW (v :: r)).length = P.length := by omega
    rw [e2, List.drop_left]
    rw [List.take_of_length_le (by omega)]
  rw [ex]
  have hll : (lastW (v :: r)).length ≤ (inter (v :: r)).length := by rw [eP, List.length_append]; omega
  refine s_mkStr S' (by show (lastW (v :: r)).toArray.size ≤ _; rw [List.size_toArray]; omega) fun t1 s1 S1 => ?_
  refine wpAny_bind ?_
  have ea : ((#[] ++ (strValues l').toArray).push (Value.str ⟨(lastW (v :: r)).toArray⟩ t1)).toList = strValues (l' ++ [(⟨(lastW (v :: r)).toArray⟩, t1)]) := by simp [strValues]
  rw [ea]
  have hlen : l'.length + 1 ≤ 20000 := by
    have := congrArg List.length hl'
    have hp := pieces_len r v
    simp at this
    omega
  have hsize : (strValues (l' ++ [((⟨(lastW (v :: r)).toArray⟩ : Str), t1)])).toArray.size ≤ sizeLine := by
    have e : (strValues (l' ++ [((⟨(lastW (v :: r)).toArray⟩ : Str), t1)])).toArray.size = l'.length + 1 := by simp [strValues]
    rw [e]; exact Nat.le_trans hlen (by decide)
  refine wpAny_newObj_type (wpAny_pure ?_) hsize
  exact h _ _ _ (S1.push (lstO (strValues (l' ++ [(⟨(lastW (v :: r)).toArray⟩, t1)]))) rfl) (by simp [hl'])
end
end Mine
namespace Mine
def zipO (f0 : Value) (TI TO : Addr) : Obj := { cls := .type "zip", data := .fields #[f0, .bool false, .bool false, .ref TI, .ref TO] }
def toO (a b : Value) (n : Nat) : Obj := { cls := .type "tuple", data := .seq #[a, b] n }
section
variable {O : OsState} {w : World} {A : Around} {E : Value → Shared → Prop} {s : Shared} {g : Heap} {f : Addr} {m : Str → Option Value} {L : List (Addr × Obj)} {env : Env}
theorem li_next {i j : Nat} {it pl : Addr} {vs : List Value} {nl : Nat} {x : Value} {R : Result → Shared → Prop} (S : St O w g f m L s.heap s.os s.gens) (hi : L[i]? = some (it, itO pl j)) (hpl : s.heap.get? pl = some (lstO vs nl)) (hx : vs[j]? = some x)
    (h : ∀ s', St O w g f m (L.set i (it, itO pl (j + 1))) s'.heap s'.os s'.gens → R (.ok (.ret x)) s') : codeAny (model prog w) A (.call (.builtin "list_iterator.__next__") ⟨[.ref it], []⟩) R s := by
  have ho := S.get i hi
  refine codeAny_call_builtin slot_listiter_next.plain entry_listiter_next ?_
  refine slot_listiter_next.check _ _ _ _ _ _ _ _ ⟨_, ho, rfl⟩ (args_listiter_next _) ?_
  refine wpAny_bind (m := field (.ref it) 0) (wpAny_field ho rfl (x := .ref pl) rfl ?_)
  rw [if_neg (show ¬ ((Value.ref pl == Value.none) = true) from Bool.false_ne_true)]
  refine wpAny_bind (m := field (.ref it) 1) (wpAny_field ho rfl (x := .int j 0) rfl ?_)
  refine wpAny_bind (m := seqItems? (.ref pl)) (wpAny_seqItems hpl rfl ?_)
  have hx' : vs.toArray[j]? = some x := by simpa using hx
  simp only [Int.toNat_natCast, hx']
  refine wpAny_bind (wpAny_setField ho rfl (by simp) (wpAny_pure (h _ (S.update i hi ?_ rfl))))
  rfl
theorem li_end {n i j : Nat} {it pl : Addr} {vs : List Value} {nl : Nat} {R : Result → Shared → Prop} (S : St O w g f m L s.heap s.os s.gens) (r : Rm n A) (hi : L[i]? = some (it, itO pl j)) (hpl : s.heap.get? pl = some (lstO vs nl)) (hx : vs[j]? = none)
    (h : ∀ e oe o s', St O w g f m ((e, oe) :: L.set i (it, o)) s'.heap s'.os s'.gens → oe.cls = .type "StopIteration" → R (.error (.ref e)) s') : codeAny (model prog w) A (.call (.builtin "list_iterator.__next__") ⟨[.ref it], []⟩) R s := by
  have ho := S.get i hi
  refine codeAny_call_builtin slot_listiter_next.plain entry_listiter_next ?_
  refine slot_listiter_next.check _ _ _ _ _ _ _ _ ⟨_, ho, rfl⟩ (args_listiter_next _) ?_
  refine wpAny_bind (m := field (.ref it) 0) (wpAny_field ho rfl (x := .ref pl) rfl ?_)
  rw [if_neg (show ¬ ((Value.ref pl == Value.none) = true) from Bool.false_ne_true)]
  refine wpAny_bind (m := field (.ref it) 1) (wpAny_field ho rfl (x := .int j 0) rfl ?_)
  refine wpAny_bind (m := seqItems? (.ref pl)) (wpAny_seqItems hpl rfl ?_)
  have hx' : vs.toArray[j]? = none := by simpa using hx
  simp only [Int.toNat_natCast, hx']
  refine wpAny_bind (wpAny_rule (wpAny_bind (wpAny_setField ho rfl (by simp) ?_)))
  have S1 := S.update (fn := Obj.mapFields fun x => x.setIfInBounds 0 Value.none) i hi rfl (by rfl)
  generalize hs1 : ({ s with heap := s.heap.update it (Obj.mapFields fun x => x.setIfInBounds 0 Value.none) } : Shared) = s1 at S1 ⊢
  have S1 : St O w g f m (L.set i (it, Obj.mapFields (fun x => x.setIfInBounds 0 Value.none) (itO pl j))) s1.heap s1.os s1.gens := by rw [← hs1]; exact S1
  clear S hs1
  walk_at "raw"
  refine t_alloc S1 rfl fun e1 s2 S2 => ?_
  walk_at "raw"
  repeat walk_at "st"
  refine t_alloc S2 rfl fun e2 s3 S3 => ?_
  walk_at "raw"
  repeat walk_at "st"
  refine x_handled ?_
  rw [show A.in1.handled = none from r.hd]
  walk_at "raw"
  exact wpAny_throw (h e2 _ _ s3 S3.drop2 rfl)
theorem z_next {z TO it TI pl : Addr} {a b x y : Value} {n nl j : Nat} {vs : List Value} {Q : Option Value → Shared → Prop} (S : St O w g f m ((z, zipO .none TI TO) :: (TO, toO a b n) :: (it, itO pl j) :: L) s.heap s.os s.gens)
    (hTI : g.get? TI = some (tupO [.ref it, .ref it])) (hpl : g.get? pl = some (lstO vs nl)) (hx : vs[j]? = some x) (hy : vs[j + 1]? = some y)
    (h : ∀ T n' s', St O w g f m ((T, tupO [x, y]) :: (z, zipO (rawInt T) TI TO) :: (TO, toO x y n') :: (it, itO pl (j + 2)) :: L) s'.heap s'.os s'.gens → Q (some (.ref T)) s') : wpAny (model prog w) A (pyNext (.ref z)) Q E s := by
  have h1 := S.get 0 rfl
  have h2 := S.get 1 rfl
  have h3 := S.keep _ _ hTI
  have hT : s.TypeIs (.ref z) "zip" := ⟨_, h1, rfl⟩
  unfold pyNext
  refine wpAny_bind (wpAny_attempt (wpAny_callSpecial?_slot (name := Str.ofString "__next__") hT F.slot_zip_next (wpAny_call_entry F.slot_zip_next hT F.entry_zip_next ?_ (F.args_zip_next_1 _))))
  walk_at "raw"
  repeat walk_at "st"
  refine t_update (zipO .ellipsis TI TO) S 0 rfl (by rfl) (by rfl) fun s1 S1 => ?_
  clear S h1 h2 h3 hT
  have h1 := S1.get 0 rfl
  have h2 := S1.get 1 rfl
  have h3 := S1.get 2 rfl
  walk_at "raw"
  repeat walk_at "st"
  refine x_call ?_ (by intro h; cases h)
  refine cb (id := "list_iterator.__next__") (by kernel_rfl) ?_
  refine li_next (i := 2) (x := x) S1 rfl (S1.keep _ _ hpl) hx fun s2 S2 => ?_
  clear S1 h1 h2 h3
  have h1 := S2.get 0 rfl
  have h2 := S2.get 1 rfl
  have h3 := S2.get 2 rfl
  walk_at "raw"
  repeat walk_at "st"
  refine t_update (toO x b n) S2 1 rfl (by rfl) (by rfl) fun s3 S3 => ?_
  clear S2 h1 h2 h3
  have h1 := S3.get 0 rfl
  have h2 := S3.get 1 rfl
  have h3 := S3.get 2 rfl
  walk_at "raw"
  repeat walk_at "st"
  refine x_call ?_ (by intro h; cases h)
  refine cb (id := "list_iterator.__next__") (by kernel_rfl) ?_
  refine li_next (i := 2) (x := y) S3 rfl (S3.keep _ _ hpl) hy fun s4 S4 => ?_
  clear S3 h1 h2 h3
  have h1 := S4.get 0 rfl
  have h2 := S4.get 1 rfl
  have h3 := S4.get 2 rfl
  walk_at "raw"
  repeat walk_at "st"
  refine t_update (toO x y n) S4 1 rfl (by rfl) (by rfl) fun s5 S5 => ?_
  clear S4 h1 h2 h3
  have h1 := S5.get 0 rfl
  have h2 := S5.get 1 rfl
  have h3 := S5.get 2 rfl
  walk_at "raw"
  repeat walk_at "st"
  refine t_alloc S5 rfl fun T s6 S6 => ?_
  clear S5 h1 h2 h3
  have h1 := S6.get 1 rfl
  walk_at "raw"
  repeat walk_at "st"
  refine t_update (zipO (rawInt T) TI TO) S6 1 rfl (by rfl) (by rfl) fun s7 S7 => ?_
  clear S6 h1
  have h1 := S7.get 1 rfl
  walk_at "raw"
  repeat walk_at "st"
  refine t_update (zipO (rawInt T) TI TO) S7 1 rfl (by rfl) (by rfl) fun s8 S8 => ?_
  walk_at "raw"
  refine wpAny_pure ⟨_, rfl, ?_⟩
  exact wpAny_pure (h T n s8 S8)
theorem z_end {k : Nat} {z TO it TI pl : Addr} {a b : Value} {n nl j : Nat} {vs : List Value} {Q : Option Value → Shared → Prop} (S : St O w g f m ((z, zipO .none TI TO) :: (TO, toO a b n) :: (it, itO pl j) :: L) s.heap s.os s.gens) (r : Rm (k + 1) A)
    (hTI : g.get? TI = some (tupO [.ref it, .ref it])) (hpl : g.get? pl = some (lstO vs nl)) (hx : vs[j]? = none)
    (h : ∀ s', St O w g f m L s'.heap s'.os s'.gens → Q none s') : wpAny (model prog w) A (pyNext (.ref z)) Q E s := by
  have h1 := S.get 0 rfl
  have h2 := S.get 1 rfl
  have h3 := S.keep _ _ hTI
  have hT : s.TypeIs (.ref z) "zip" := ⟨_, h1, rfl⟩
  unfold pyNext
  refine wpAny_bind (wpAny_attempt (wpAny_callSpecial?_slot (name := Str.ofString "__next__") hT F.slot_zip_next (wpAny_call_entry F.slot_zip_next hT F.entry_zip_next ?_ (F.args_zip_next_1 _))))
  walk_at "raw"
  repeat walk_at "st"
  refine t_update (zipO .ellipsis TI TO) S 0 rfl (by rfl) (by rfl) fun s1 S1 => ?_
  clear S h1 h2 h3 hT
  have h1 := S1.get 0 rfl
  have h2 := S1.get 1 rfl
  have h3 := S1.get 2 rfl
  walk_at "raw"
  repeat walk_at "st"
  refine x_call ?_ (by intro h; cases h)
  refine cb (id := "list_iterator.__next__") (by kernel_rfl) ?_
  refine li_end (i := 2) S1 r.in1.mark rfl (S1.keep _ _ hpl) hx fun e oe o s2 S2 hc => ?_
  clear S1 h1 h2 h3
  have h1 := S2.get 1 rfl
  walk_at "raw"
  repeat walk_at "st"
  refine t_update (zipO .none TI TO) S2 1 rfl (by rfl) (by rfl) fun s3 S3 => ?_
  walk_at "raw"
  refine wpAny_throw ?_
  refine wpAny_bind (wpAny_isInstance (T := "StopIteration") (b := true) ⟨_, S3.get 0 rfl, hc⟩ isSubtype_stop ?_)
  exact wpAny_pure (h s3 S3.tail.tail.tail.tail)
theorem z_go {elts : List Expr} {x1 : Nat} {pos : Pos} {z TI TO T : Addr} {Q : Unit → Shared → Prop} {p : Addr × Obj} (S : St O w g f m (p :: (z, zipO (rawInt T) TI TO) :: L) s.heap s.os s.gens)
    (h : ∀ s', St O w g f m (p :: (z, zipO .none TI TO) :: L) s'.heap s'.os s'.gens → Q () s') : wpAny (model prog w) A (letOwnedTupleGo (.Tuple elts x1 pos) (.ref z) (.ref T)) Q E s := by
  have h1 := S.get 1 rfl
  unfold letOwnedTupleGo
  refine wpAny_bind (wpAny_load h1 ?_)
  show wpAny _ _ (if (["enumerate", "zip", "dict_itemiterator", "dict_reverseitemiterator", "odict_iterator", "itertools.zip_longest", "itertools.pairwise"].contains "zip" &&
      (#[rawInt T, .bool false, .bool false, .ref TI, .ref TO] : Array Value)[0]? == some (rawInt T)) = true then _ else _) Q E s
  rw [if_pos (by simp)]
  refine wpAny_bind (wpAny_rule ?_)
  show wpAny _ _ (setField (.ref z) 0 .none) Q E s
  exact wpAny_setField h1 rfl (by simp) (h _ (S.update 1 rfl (by rfl) rfl))
end
end Mine
namespace Mine
section
variable {O : OsState} {w : World} {A : Around} {E : Value → Shared → Prop} {s : Shared} {g : Heap} {f : Addr} {m : Str → Option Value} {L : List (Addr × Obj)} {env : Env}
theorem z_new {i j : Nat} {it pl : Addr} {Q : Value → Shared → Prop} (S : St O w g f m L s.heap s.os s.gens) (hi : L[i]? = some (it, itO pl j))
    (h : ∀ z TO TI s', St O w g f m ((z, zipO .none TI TO) :: (TO, toO .none .none 0) :: (TI, tupO [.ref it, .ref it]) :: L) s'.heap s'.os s'.gens → Q (.ref z) s') : wpAny (model prog w) A (call (.type "zip") [.ref it, .ref it]) Q E s := by
  refine callType_codes (T := "zip") (Bi := Builtin.«object.__init__») (Q₁ := fun r s₁ => ∃ z TI TO, r = .ref z ∧ s₁.heap.get? z = some (zipO .none TI TO) ∧ Q r s₁) PySem.F.called_zip (PySem.F.typeCall_zip_2 _ _) PySem.F.entry_object_init ?_ ?_
  · refine codeAny_of_tree ?_
    show wpAny _ A.in1.in1 (do checkBuiltinCall "zip.__new__" ⟨[.type "zip", .ref it, .ref it], []⟩; again (.builtin "zip.__new__" ⟨[.type "zip", .ref it, .ref it], []⟩)) _ _ s
    refine wpAny_bind (wpAny_of_eq (PySem.F.newCall_zip_2 _ _) (wpAny_pure ⟨plainId_quiet (by decide +kernel) _, codeAny_builtin PySem.F.entry_zip_new ?_⟩))
    rw [Around.under_plainId (by decide +kernel) _]
    have h1 := S.get i hi
    obtain ⟨hp, gn, dr, tk, os⟩ := s
    have hsub := sub_zip
    have hit : Heap.IsListIter (Shared.heap ⟨hp, gn, dr, tk, os⟩) it pl j := ⟨_, h1, rfl, rfl⟩
    wp_walk using wpAny_pyIter_listiter hit
    have S1 := S.push (tupO [.ref it, .ref it]) rfl
    have S2 := S1.push (toO .none .none 0) rfl
    have S3 := S2.push (zipO .none hp.objs.size (hp.push (tupO [.ref it, .ref it])).objs.size) rfl
    exact ⟨_, _, _, rfl, S3.get 0 rfl, h _ _ _ _ S3⟩
  · rintro obj s₁ ⟨z, TI, TO, rfl, hz, hq⟩
    exact ⟨⟨_, hz, rfl⟩, PySem.F.args_object_init_3 _ _ _, object_init_meets PySem.F.called_zip.init.lookup PySem.F.called_zip.made (by decide) prog w A.in1 _ s₁ ⟨⟨_, hz, rfl⟩, rfl, hq⟩⟩
end
end Mine
namespace Mine
section
variable {O : OsState} {w : World} {A : Around} {E : Value → Shared → Prop} {s : Shared} {g : Heap} {f : Addr} {m : Str → Option Value} {L : List (Addr × Obj)} {env : Env}
theorem St.perm {h : Heap} {L' : List (Addr × Obj)} (S : St O w g f m L h so sg) (p : L.Perm L') : St O w g f m L' h so sg :=
  ⟨S.kg, S.keep, S.ns, S.fg, S.fb, fun q hq => S.has q (p.mem_iff.mpr hq), (p.map _).nodup_iff.mp S.nd, S.tb⟩
theorem fold_rep (v : Value) : ∀ (k : Nat) (acc : Array Value), List.foldl (fun x1 x2 => x1 ++ x2) acc (List.replicate k #[v]) = acc ++ (List.replicate k v).toArray
  | 0, acc => by simp
  | k + 1, acc => by
    rw [List.replicate_succ, List.foldl_cons, fold_rep v k]
    apply Array.ext'
    simp [List.replicate_succ]
theorem s_mulList {l : Addr} {v : Value} {n : Nat} {x : Int} {u : Tok} {Q : Value → Shared → Prop} (S : St O w g f m L s.heap s.os s.gens) (hl : s.heap.get? l = some (lstO [v] n)) (h0 : 0 ≤ x) (hk : x < 100000)
    (h : ∀ a s', St O w g f m ((a, lstO (List.replicate x.toNat v)) :: L) s'.heap s'.os s'.gens → Q (.ref a) s') : wpAny (model prog w) A (binaryOp .Mult (.ref l) (.int x u)) Q E s := by
  have hl' : s.heap.get? l = some { cls := .type "list", dict := none, data := .seq #[v] n, slots := #[] } := hl
  have hsz0 : (#[v] : Array Value).size * x.toNat = x.toNat := by simp
  have hsz1 : ¬ ((#[v] : Array Value).size * x.toNat > (2 ^ 63 - 1) / 8) := by rw [hsz0]; omega
  refine wpAny_binaryOp_repeat_ref (T := "list") (U := "int") (by decide) ⟨_, hl, rfl⟩ (fun s' => typeIs_int s' x u) noFill_list_mul F.fills_int_mul F.slot_int_rmul repeat_list F.slot_int_index.lookup
    (call_meets F.slot_int_rmul (typeIs_int s x u) F.entry_int_rmul (F.args_int_rmul_2 _ _) (int___rmul___int_list x u l #[v] n)
      ⟨hl', rfl, ⟨_, hl, rfl⟩, call_meets F.slot_list_mul ⟨_, hl, rfl⟩ F.entry_list_mul (F.args_list_mul_2 _ _)
        (AutoListH.list___mul___list_int_3 l #[v] n x u (by simp [Builtin.List.listFitsIndex]; omega) hsz1 (by simp [Builtin.List.listTooLong, sizeLine]; omega))
        ⟨hl', ?_⟩⟩)
  have e : List.foldl (fun x1 x2 => x1 ++ x2) #[] (List.replicate (if (#[v] : Array Value).isEmpty = true then 0 else x.toNat) #[v]) = (List.replicate x.toNat v).toArray := by
    have : (if (#[v] : Array Value).isEmpty = true then 0 else x.toNat) = x.toNat := by simp
    rw [this, fold_rep]; simp
  rw [e]
  exact h _ _ (S.push (lstO (List.replicate x.toNat v)) rfl)
theorem g_iter (w : World) : nsLook (Str.ofString "iter") (o3 w) = pure none ∧ nsLook (Str.ofString "iter") (o0 w) = pure (some (.builtin "iter")) := ⟨by kernel_rfl, by kernel_rfl⟩
theorem g_zip (w : World) : nsLook (Str.ofString "zip") (o3 w) = pure none ∧ nsLook (Str.ofString "zip") (o0 w) = pure (some (.type "zip")) := ⟨by kernel_rfl, by kernel_rfl⟩
theorem it_k : builtinKind "iter" = none := by decide +kernel
theorem it_p : plainId "iter" = true := by decide +kernel
theorem s_iterL {pl : Addr} {vs : List Value} {n : Nat} {R : Result → Shared → Prop} (S : St O w g f m L s.heap s.os s.gens) (hl : s.heap.get? pl = some (lstO vs n))
    (h : ∀ it s', St O w g f m ((it, itO pl 0) :: L) s'.heap s'.os s'.gens → R (.ok (.ret (.ref it))) s') : codeAny (model prog w) A (.call (.builtin "iter") ⟨[.ref pl], []⟩) R s := by
  refine b_fun it_k it_p kdk_entry_iter (kdk_args_iter _) ?_
  refine wpAny_bind (wpAny_of_eq (a := [Value.ref pl]) (by rfl) ?_)
  refine wpAny_bind (wpAny_pyIter_list ⟨_, hl, rfl, _, rfl⟩ (wpAny_pure ?_))
  exact h _ _ (S.push (itO pl 0) rfl)
/-- vs[:0] = new -/
theorem lst_setfront {i : Nat} {pl sl lv : Addr} {vs new : List Value} {n nl : Nat} {t : Tok} {Q : Unit → Shared → Prop} (S : St O w g f m ((sl, slO .none (.int 0 t)) :: L) s.heap s.os s.gens) (hi' : L[i]? = some (pl, lstO vs n))
    (hlv : s.heap.get? lv = some (lstO new nl)) (hne : lv ≠ pl) (hl : vs.length < 10000) (hn : new.length < 1000)
    (h : ∀ n' s', St O w g f m ((sl, slO .none (.int 0 t)) :: L.set i (pl, lstO (new ++ vs) n')) s'.heap s'.os s'.gens → Q () s') : wpAny (model prog w) A (setItem (.ref pl) (.ref sl) (.ref lv)) Q E s := by
  have ho := S.get (i + 1) hi'
  walk_at "raw"
  repeat walk_at "st"
  refine x_call ?_ (by intro h; cases h)
  refine cb (id := "list.__setitem__") (by kernel_rfl) ?_
  refine codeAny_call_builtin p_set e_set ?_
  refine chk_slot (id := "list.__setitem__") (owner := "list") (name := "__setitem__") ?_ ?_ ?_ ?_
  · exact k_set
  · exact s_set
  · exact a_set _ _ _
  refine lst_isList ho ⟨rfl, ?_⟩
  have hsl : s.heap.get? sl = some (slO .none (.int 0 t)) := S.get 0 rfl
  have hTs : s.TypeIs (.ref sl) "slice" := ⟨_, hsl, rfl⟩
  refine wpAny_bind (wpAny_of_eq (a := (Value.ref pl, [Value.ref sl, Value.ref lv])) (by rfl) ?_)
  refine wpAny_bind (m := Builtin.List.listSubscript? (.ref sl)) ?_
  unfold Builtin.List.listSubscript?
  refine wpAny_bind (wpAny_specialOf hTs slice_no_index ?_)
  simp only [Option.isNone_none, if_true]
  refine wpAny_pure ?_
  refine wpAny_bind (m := typeOf (.ref sl)) (wpAny_typeOf hTs ?_)
  rw [if_neg (by decide)]
  rw [listSliceParts_eq]
  refine wpAny_bind (wpAny_bind (wpAny_field hsl rfl (x := .none) rfl (wpAny_bind (wpAny_listPart .none ?_))))
  rw [if_neg (show ¬ ((rawPart none == rawInt 0) = true) from Bool.false_ne_true)]
  refine wpAny_bind (wpAny_field hsl rfl (x := .none) rfl (wpAny_bind (wpAny_listPart .none ?_)))
  refine wpAny_bind (wpAny_field hsl rfl (x := .int 0 t) rfl (wpAny_bind (wpAny_listPart (.int 0 t) (wpAny_pure ?_))))
  rw [if_neg (show ¬ Builtin.List.listSameRef (.ref pl) (.ref lv) = true from fun q => hne (beq_iff_eq.mp q).symm)]
  refine wpAny_bind (m := Builtin.List.listAllItems (.ref lv) _) ?_
  unfold Builtin.List.listAllItems
  refine wpAny_bind (wpAny_typeOf (T := "list") ⟨_, hlv, rfl⟩ ?_)
  rw [if_pos (by decide)]
  unfold Builtin.List.listItems
  refine wpAny_bind (wpAny_seqItems hlv rfl (wpAny_pure ?_))
  refine wpAny_bind (wpAny_bind (wpAny_seqItems ho rfl (wpAny_pure ?_)))
  refine wpAny_bind (wpAny_of_eq (sliceIndices_raw none (some 0) none vs.toArray.size (by simp)) ?_)
  rw [if_pos (show ((sliceBounds none (some 0) none vs.toArray.size).2.2 == 1) = true from rfl)]
  refine wpAny_bind (wpAny_rule ?_)
  rw [if_neg (show ¬ Builtin.List.listTooLong (vs.toArray.size + new.toArray.size) = true from fun q => by
    have z : vs.toArray.size + new.toArray.size > sizeLine := of_decide_eq_true q
    rw [List.size_toArray, List.size_toArray] at z
    exact absurd z (by unfold sizeLine; omega))]
  have hk' : (sliceBounds none (some 0) none vs.toArray.size).1 = 0 := by simp [sliceBounds]
  have hk2 : (sliceBounds none (some 0) none vs.toArray.size).2.1 = 0 := by simp [sliceBounds]; omega
  rw [hk', hk2]
  refine wpAny_bind ?_
  have em : ∃ n', Obj.mapSeq (fun xs => xs.extract 0 (0 : Int).toNat ++ new.toArray ++ xs.extract (max (0 : Int) (0 : Int)).toNat) (lstO vs n) = lstO (new ++ vs) n' := by
    have eA : vs.toArray.extract 0 (0 : Int).toNat ++ new.toArray ++ vs.toArray.extract (max (0 : Int) (0 : Int)).toNat = (new ++ vs).toArray := by
      apply Array.ext'
      simp
    simp only [Obj.mapSeq, lstO, eA]
    exact ⟨_, rfl⟩
  obtain ⟨n', em⟩ := em
  refine r_updateSeq (lstO (new ++ vs) n') S (i := i + 1) hi' em rfl (seq_fits ?_) fun s' S' => ?_
  · simp; omega
  · refine wpAny_bind (wpAny_letGo (wpAny_pure ?_))
    dsimp only
    walk_at "raw"
    exact wpAny_pure (h n' _ S')
/-- x, y = a pair -/
theorem s_unpack2 {k : Nat} {T : Addr} {v1 v2 : Value} {x y : Str} {p1 p2 pos : Pos} {x1 : Nat} {bs : List (Str × Value)} {Q : Unit → Shared → Prop} (S : St O w g f (fun z => bs.lookup z) L s.heap s.os s.gens) (r : Rm k A) (hT : s.heap.get? T = some (tupO [v1, v2]))
    (h : ∀ s', St O w g f (fun z => ((y, v2) :: (x, v1) :: bs).lookup z) L s'.heap s'.os s'.gens → Q () s')
    (he : env.locals = f := by rfl) (hk : env.scope.kind = .function := by rfl) (hl : env.kindOf x = some .local := by rfl) (hl' : env.kindOf y = some .local := by rfl)
    (hn : (assignEach [.Name x p1, .Name y p2] env).length = 2 := by rfl) (hst : (assignEach [.Name x p1, .Name y p2] env).findIdx? (·.1) = none := by rfl)
    (hm : (assignEach [.Name x p1, .Name y p2] env).map (·.2) = [fun v => assign (.Name x p1) env v, fun v => assign (.Name y p2) env v] := by rfl) :
    wpAny (model prog w) A (assign (.Tuple [.Name x p1, .Name y p2] x1 pos) env (.ref T)) Q E s := by
  refine wpAny_assign_Tuple r.hd (items := #[v1, v2]) ⟨_, hT, rfl, _, rfl⟩ hn hst fun h' hx => ?_
  have S1 : St O w g f (fun z => bs.lookup z) L ({ s with heap := h' } : Shared).heap ({ s with heap := h' } : Shared).os ({ s with heap := h' } : Shared).gens := S.keeps fun b o e => hx b o (fun q => by rw [q, get_size] at e; cases e) e
  rw [hm]
  show wpAny _ _ (assignInOrder _ [v1, v2]) _ _ _
  unfold assignInOrder
  refine wpAny_bind (wpAny_holding (wpAny_assign_Name (r_store S1 (fun s2 S2 => ?_) he hk hl)))
  unfold assignInOrder
  refine wpAny_bind (wpAny_holding (wpAny_assign_Name (r_store S2 (fun s3 S3 => ?_) he hk hl')))
  unfold assignInOrder
  exact wpAny_pure (h _ S3)
end
end Mine
namespace Mine
def Part.xy (p : Part) : Str × Str := (p.x, p.y)
def layT (ps : List (Str × Str)) : Str := Txt.join (Str.ofString "") (ps.map fun p => Txt.join (Str.ofString "") [p.1, p.2])
def layL : List (Str × Str) → Int
  | [] => 0
  | p :: ps => (p.1.length : Int) + p.2.length + layL ps
abbrev LSt := Int × List (Str × Str) × List Str
def layStep (W : Int) (q : LSt) (xy : Str × Str) : LSt :=
  if q.1 + layL q.2.1 + xy.1.length + xy.2.length ≤ W then (q.1, q.2.1 ++ [xy], q.2.2) else (0, [xy], q.2.2 ++ [layT q.2.1])
theorem plen_lay : ∀ ps : List Part, plen ps = layL (ps.map Part.xy)
  | [] => rfl
  | p :: ps => by rw [plen, List.map_cons, layL, plen_lay ps]; rfl
theorem ptext_lay (ps : List Part) : ptext ps = layT (ps.map Part.xy) := by
  unfold ptext layT pt
  rw [List.map_map]
  rfl
/-- a list of pairs of texts, flat -/
def flatV : List ((Str × Tok) × (Str × Tok)) → List Value
  | [] => []
  | p :: r => .str p.1.1 p.1.2 :: .str p.2.1 p.2.2 :: flatV r
theorem flat_at : ∀ (pr : List ((Str × Tok) × (Str × Tok))) (j : Nat) (p : (Str × Tok) × (Str × Tok)), pr[j]? = some p → (flatV pr)[2 * j]? = some (.str p.1.1 p.1.2) ∧ (flatV pr)[2 * j + 1]? = some (.str p.2.1 p.2.2)
  | [], j, p, h => by simp at h
  | q :: r, 0, p, h => by
    simp at h
    subst h
    exact ⟨rfl, rfl⟩
  | q :: r, j + 1, p, h => by
    have := flat_at r j p (by simpa using h)
    rw [show 2 * (j + 1) = 2 * j + 1 + 1 by omega]
    simpa [flatV] using this
theorem flat_len : ∀ pr : List ((Str × Tok) × (Str × Tok)), (flatV pr).length = 2 * pr.length
  | [] => rfl
  | p :: r => by simp [flatV, flat_len r]; omega
def pxy (p : (Str × Tok) × (Str × Tok)) : Str × Str := (p.1.1, p.2.1)
section
variable {O : OsState} {w : World} {A : Around} {E : Value → Shared → Prop} {s : Shared} {g : Heap} {f : Addr} {m : Str → Option Value} {L : List (Addr × Obj)} {env : Env}
theorem St.front3 {h : Heap} {a b c d e x : Addr × Obj} (S : St O w g f m (a :: b :: c :: d :: e :: x :: L) h so sg) : St O w g f m (d :: e :: x :: a :: b :: c :: L) h so sg :=
  S.perm (by
    have p : ([a, b, c] ++ [d, e, x] ++ L).Perm ([d, e, x] ++ [a, b, c] ++ L) := List.Perm.append_right L (List.perm_append_comm)
    exact p)
/-- between the turns of _ascii_split's loop -/
def Turn (O : OsState) (w : World) (g : Heap) (f : Addr) (K : Mk) (da : Addr) (t : Tok) (hs : Int) (z TO TI it pl : Addr) (R : List (Addr × Obj)) (q0 : LSt) (pr : List ((Str × Tok) × (Str × Tok))) (j : Nat) (s : Shared) : Prop :=
  ∃ gk bs ps n c tc lns nl a b nTO, (∀ b o, g.get? b = some o → gk.get? b = some o) ∧ (∀ m'' L'' h'' {so'' sg''}, St O w gk f m'' L'' h'' so'' sg'' → St O w g f m'' L'' h'' so'' sg'') ∧
    St O w gk f (fun y => List.lookup y bs) ((z, zipO .none TI TO) :: (TO, toO a b nTO) :: (it, itO pl (2 * j)) :: LA K ps n da t hs c tc lns nl R) s.heap s.os s.gens ∧
    bs.lookup (Str.ofString "self") = some (.ref K.a) ∧ PartsIn gk ps ∧ ((c, ps.map Part.xy, lns.map (·.1)) : LSt) = ((pr.take j).map pxy).foldl (layStep K.W) q0 ∧
    ps.length ≤ j ∧ lns.length ≤ j ∧ 0 ≤ c ∧ c < 1000 ∧ (∀ p ∈ ps, p.x.length < 1000 ∧ p.y.length < 1000) ∧ (j ≠ 0 → ps ≠ [])
end
end Mine
namespace Mine
section
variable {O : OsState} {w : World} {A : Around} {E : Value → Shared → Prop} {s : Shared} {g : Heap} {f : Addr} {m : Str → Option Value} {L : List (Addr × Obj)} {env : Env}
theorem g_re (w : World) : nsLook (Str.ofString "_twin_re_1") (o3 w) = pure (some (.ref 43)) := by kernel_rfl
theorem add_empty {x : Str} {t u : Tok} {Q : Value → Shared → Prop} (h : Q (.str x u) s) : wpAny (model prog w) A (binaryOp .Add (.str (Str.ofString "") t) (.str x u)) Q E s := by
  refine P.add_str ?_
  rw [if_pos (by decide +kernel)]
  exact h
/-- what a split's list is, the empty text ahead -/
theorem flat_of : ∀ (r : List (List Nat)) (v : List Nat) (l : List (Str × Tok)) (x : Str) (t : Tok), l.map (fun z => z.1.cps.toList) = pieces (v :: r) ++ [lastW (v :: r)] →
    ∃ pr, flatV pr = .str x t :: strValues l ∧ pr.length = r.length + 1 ∧ (∀ p, pr[0]? = some p → p.1.1 = x) ∧ (∀ j p, pr[j + 1]? = some p → p.1.1 = ⟨#[32]⟩) ∧ pr.map (fun p => p.2.1.cps.toList) = v :: r
  | [], v, l, x, t, h => by
    match l, h with
    | [z], h =>
      refine ⟨[((x, t), z)], rfl, rfl, ?_, ?_, ?_⟩
      · intro p hp; simp at hp; rw [← hp]
      · intro j p hp; simp at hp
      · simpa [pieces, lastW] using h
  | u :: r, v, l, x, t, h => by
    match l, h with
    | z1 :: z2 :: l', h =>
      have h1 : z1.1.cps.toList = v ∧ z2.1.cps.toList = [32] ∧ l'.map (fun z => z.1.cps.toList) = pieces (u :: r) ++ [lastW (u :: r)] := by
        simpa [pieces, lastW] using h
      obtain ⟨pr, e1, e2, e3, e4, e5⟩ := flat_of r u l' z2.1 z2.2 h1.2.2
      refine ⟨((x, t), z1) :: pr, ?_, ?_, ?_, ?_, ?_⟩
      · show _ :: _ :: flatV pr = _
        rw [e1]; rfl
      · simp [e2]
      · intro p hp; simp at hp; rw [← hp]
      · intro j p hp
        rw [List.getElem?_cons_succ] at hp
        cases j with
        | zero =>
          rw [e3 p hp]
          have := h1.2.1
          cases hz : z2.1 with
          | mk c =>
            rw [hz] at this
            congr 1
            exact Array.ext' this
        | succ j => exact e4 j p hp
      · simp [e5, h1.1]
theorem word_le : ∀ (r : List (List Nat)) (v u : List Nat), u ∈ v :: r → u.length ≤ (inter (v :: r)).length
  | [], v, u, h => by
    rw [List.mem_singleton.mp h]; exact Nat.le_refl _
  | v' :: r, v, u, h => by
    show u.length ≤ (v ++ 32 :: inter (v' :: r)).length
    rw [List.length_append, List.length_cons]
    rcases List.mem_cons.mp h with rfl | h
    · omega
    · have := word_le r v' u h
      omega
theorem str_eq {x : Str} {l : List Nat} (h : x.cps.toList = l) : x = ⟨l.toArray⟩ := by
  cases x with
  | mk c => congr 1; exact Array.ext' h
theorem pairs_of {pr : List ((Str × Tok) × (Str × Tok))} {v : List Nat} {r : List (List Nat)} (e3 : ∀ p, pr[0]? = some p → p.1.1 = Str.ofString "") (e4 : ∀ j p, pr[j + 1]? = some p → p.1.1 = ⟨#[32]⟩) (e5 : pr.map (fun p => p.2.1.cps.toList) = v :: r) :
    pr.map pxy = (⟨#[]⟩, ⟨v.toArray⟩) :: r.map fun u => (⟨#[32]⟩, ⟨u.toArray⟩) := by
  match pr, e3, e4, e5 with
  | p :: pr', e3, e4, e5 =>
    rw [List.map_cons] at e5 ⊢
    injection e5 with h1 h2
    congr 1
    · unfold pxy
      rw [e3 p rfl, str_eq h1]
      rfl
    · rw [← h2, List.map_map]
      apply List.map_congr_left
      intro q hq
      obtain ⟨j, hj⟩ := List.getElem?_of_mem hq
      have := e4 j q (by simpa using hj)
      unfold pxy
      rw [this]
      simp
/-- out of a call, with what it has laid -/
theorem St.leave {gk h : Heap} {f' : Addr} {m' : Str → Option Value} (Sb : St O w g f m L h so sg) (S' : St O w gk f' m' L h so sg) (le : ∀ b o, g.get? b = some o → gk.get? b = some o) :
    ∃ gk2, St O w gk2 f m L h so sg ∧ (∀ b o, g.get? b = some o → gk2.get? b = some o) ∧ (∀ a o, gk.get? a = some o → (∀ es ep, o.data ≠ .dict es ep) → gk2.get? a = some o) := by
  have off : ∀ b o, g.get? b = some o → b ∉ [f] := fun b o e q => Sb.fne e (List.mem_singleton.mp q)
  have st : ∀ b o, g.get? b = some o → (hideAll gk [f]).get? b = some o := fun b o e => hideAll_get _ (le b o e) (off b o e)
  refine ⟨hideAll gk [f], ⟨⟨fun a o ht e => st _ _ (Sb.kg.objs a o ht e), fun a ht => ?_, ?_, Sb.kg.lim.keeps st⟩, fun b o e => S'.keep _ _ (of_hideAll _ e), Sb.ns, hideAll_none _ (.head _), Sb.fb, fun p hp => ?_, Sb.nd, Sb.tb⟩, st, fun a o e hd => ?_⟩
  · cases q : (hideAll gk [f]).get? a with
    | none => rfl
    | some o => have := of_hideAll _ q; rw [S'.kg.hid a ht] at this; cases this
  · rw [hideAll_size]; exact S'.kg.sz
  · have z := Sb.has p hp
    refine ⟨z.1, ?_, z.2.2⟩
    cases q : (hideAll gk [f]).get? p.1 with
    | none => rfl
    | some o => have := of_hideAll _ q; rw [(S'.has p hp).2.1] at this; cases this
  · refine hideAll_get _ e fun q => ?_
    obtain ⟨oF, es, ep, hF, hdF, _⟩ := Sb.ns
    rw [← List.mem_singleton.mp q, S'.keep _ _ e] at hF
    cases hF
    exact hd es ep hdF
/-- a class called with a star -/
theorem r_callTS {T : String} {pos p : Pos} {e : Expr} {Q : Value → Shared → Prop}
    (h : wpAny (model prog w) A (eval e env) (fun v s₁ => StarOf (model prog w) A E v (fun vs s₂ => wpAny (model prog w) A (call (.type T) vs) Q E s₂) s₁) E s)
    (he : starEach [.Starred e p] env = [(true, eval e env)] := by rfl) :
    wpAny (model prog w) A (callWith pos (.type T) [] (backTo pos (starEach [.Starred e p] env)) []) Q E s := by
  rw [he]
  show wpAny (model prog w) A (callWith pos (.type T) [] [(true, (do let v ← eval e env; standAt pos; pure v))] []) Q E s
  unfold callWith
  refine wpAny_bind (wpAny_holding (ks_lone (wpAny_mono h (fun v s₁ h₁ => ?_) fun _ _ x => x)))
  unfold StarOf at h₁ ⊢
  refine wpAny_mono h₁ (fun b s₂ h₂ => ⟨h₂.1, wpAny_mono h₂.2 (fun vs s₃ h₃ => ?_) fun _ _ x => x⟩) fun _ _ x => x
  refine wpAny_bind (wpAny_standAt ?_)
  refine wpAny_bind (m := keeperOf (.type T)) (wpAny_pure ?_)
  refine wpAny_bind (m := operate _ _) (wpAny_operating (wpAny_mono h₃ (fun r s' z => ?_) fun _ _ x => x))
  exact wpAny_bind (wpAny_holding (wpAny_point (wpAny_pure z)))
theorem split106_spec {K : Mk} {n : Nat} {da : Addr} {t : Tok} {hs c : Int} {tc : Tok} {nl : Nat} {R : List (Addr × Obj)} {x : Str} {t1 t2 : Tok} {sc : Value} {v : List Nat} {r : List (List Nat)} {Rz : Result → Shared → Prop}
    (S : St O w g f m (LA K [] n da t hs c tc [] nl R) s.heap s.os s.gens) (rm : Rm 60 A) (k : K.In g) (hok : ∀ u ∈ v :: r, okW u) (hx : x.cps.toList = inter (v :: r)) (hz : x.cps.size < 900) (hr : r.length < 400)
    (hc0 : 0 ≤ c) (hc1 : c < 1000) (hfit : c + v.length ≤ K.W)
    (h : ∀ gk ps n' c' tc' lns nl' s', (∀ b o, g.get? b = some o → gk.get? b = some o) → St O w gk f m (LA K ps n' da t hs c' tc' lns nl' R) s'.heap s'.os s'.gens → PartsIn gk ps →
      ((c', ps.map Part.xy, lns.map (·.1)) : LSt) = (((⟨#[]⟩, ⟨v.toArray⟩) :: r.map fun u => (⟨#[32]⟩, ⟨u.toArray⟩)) : List (Str × Str)).foldl (layStep K.W) (c, [], []) →
      ps.length ≤ r.length + 1 → lns.length ≤ r.length + 1 → 0 ≤ c' → c' < 1000 → (∀ p ∈ ps, p.x.length < 1000 ∧ p.y.length < 1000) → ps ≠ [] → Rz (.ok (.ret .none)) s') :
    codeAny (model prog w) A (.call (.ref 106) ⟨[.ref K.a, .str (Str.ofString "") t1, .str x t2, sc], []⟩) Rz s := by
  refine call_at [(Str.ofString "self", .ref K.a), (Str.ofString "fws", .str (Str.ofString "") t1), (Str.ofString "string", .str x t2), (Str.ofString "splitchars", sc)] S rm (by rfl) (by rfl) (by rfl) (by rfl) (by rfl) (by rfl) (by rfl) (by rfl) (by kernel_rfl) (by kernel_rfl) (by kernel_rfl) (by rfl) (by rfl) (by rfl) ?_
  intro g' f' s1 A' rm' le S1 back
  walk_at "env"
  have k' := k.le le
  refine r_execs_cons (wpAny_Assign_Name ?_)
  refine r_CallM (r_global S1 (g_re w) ?_)
  refine re_meth S1 ?_
  refine r_callB rfl (r_args1 (wpAny_BinOp (r_local S1 rfl (r_local S1 rfl ?_))))
  refine add_empty ?_
  refine r_item0 ?_
  refine split_spec S1 hok hx (by omega) fun pl l s2 S2 hl => ?_
  refine r_store (bs := [(Str.ofString "splitchars", sc), (Str.ofString "string", .str x t2), (Str.ofString "fws", .str (Str.ofString "") t1), (Str.ofString "self", .ref K.a)]) S2 fun s3 S3 => ?_
  refine r_execs_cons (wpAny_If (isTrue_plain ?_))
  refine r_Sub (r_local S3 rfl ?_)
  refine s_int S3 fun t4 s4 S4 => ?_
  refine gip_list (S4.get 0 rfl) ⟨rfl, ?_⟩
  obtain ⟨z0, l0, el, ez⟩ : ∃ z l', l = z :: l' ∧ z.1.cps.toList = v := by
    cases r with
    | nil =>
      match l, hl with
      | [z], hl => exact ⟨z, [], rfl, by simpa [pieces, lastW] using hl⟩
    | cons u r =>
      match l, hl with
      | z :: l', hl => exact ⟨z, l', rfl, by simp [pieces] at hl; exact hl.1⟩
  have hz0 : z0.1.length ≠ 0 := by
    have := (hok v (.head _)).1
    show z0.1.cps.size ≠ 0
    rw [← Array.length_toList, ez]
    exact fun q => this (List.length_eq_zero_iff.mp q)
  have hll : l.length = 2 * r.length + 1 := by
    obtain ⟨pr, e1, e2, _⟩ := flat_of r v l (Str.ofString "") 0 hl
    have := congrArg List.length e1
    rw [flat_len, e2] at this
    simp [strValues] at this
    omega
  refine wpAny_getItem_list (x := .str z0.1 z0.2) ⟨_, S4.get 0 rfl, rfl, _, rfl⟩ (by decide) (by decide) (by rw [el]; rfl) ?_
  refine s_truthStr S4 ?_ fun s5 S5 => ?_
  · show z0.1.cps.size < _
    have : z0.1.cps.size = v.length := by rw [← Array.length_toList, ez]
    have e : (inter (v :: r)).length = x.cps.size := by rw [← hx, Array.length_toList]
    have : v.length ≤ (inter (v :: r)).length := by cases r <;> simp [inter]
    omega
  rw [if_pos (by simpa using hz0)]
  refine r_execs_cons (wpAny_Assign_Subscript ?_)
  refine r_list (O := O) (r_item (s_str S5 fun t6 s6 S6 => r_item0 ⟨by simp [sizeLine], _, _, _, _, S6, fun lv s7 S7 => ?_⟩))
  refine r_local S7 rfl ?_
  refine r_slice (O := O) (wpAny_pure (s_int (k := 0) (pos := ⟨49, 19, 49, 20⟩) S7 fun t8 s8 S8 => ⟨_, _, _, _, S8, fun sl s9 S9 => ?_⟩))
  refine lst_setfront (i := 1) S9 rfl (S9.get 1 rfl) ?_ (by simp [strValues]; omega) (by simp) fun n10 s10 S10 => ?_
  · exact fun q => S8.head_off _ (.head _) q.symm
  obtain ⟨pr, e1, e2, e3, e4, e5⟩ := flat_of r v l (Str.ofString "") t6 hl
  have S10 := S10.tail.tail.cast (L' := (pl, lstO (flatV pr) n10) :: LA K [] n da t hs c tc [] nl R) (by rw [e1]; rfl)
  refine wpAny_execs_nil ?_
  obtain ⟨g2, S11, le2, hpl, back2⟩ := S10.commit1
  have k2 := k'.le le2
  refine r_execs_cons (wpAny_For ?_)
  refine wpAny_Call_NameR (r_builtin S11 (g_zip w).1 (g_zip w).2 ?_)
  refine r_callTS (wpAny_BinOp (r_list (O := O) (r_item ?_)))
  refine wpAny_Call_NameR (r_builtin S11 (g_iter w).1 (g_iter w).2 ?_)
  refine r_callB rfl (r_args1 (r_local S11 rfl (r_item0 ?_)))
  refine s_iterL S11 (S11.keep _ _ hpl) fun it s12 S12 => ?_
  refine r_item0 ⟨by simp [sizeLine], _, _, _, _, S12, fun lst s13 S13 => ?_⟩
  refine s_int S13 fun t14 s14 S14 => ?_
  refine s_mulList S14 (S14.get 0 rfl) (by decide) (by decide) fun dbl s15 S15 => ?_
  refine s_star (vs := [.ref it, .ref it]) S15 (S15.get 0 rfl) rfl rfl (.inl rfl) (by simp) fun s16 S16 => ?_
  refine z_new (i := 2) S16 rfl fun z TO TI s17 S17 => ?_
  have nd := S17.nd
  obtain ⟨g3, S18, le3, hin3, back3⟩ := S17.commit ((z, zipO .none TI TO) :: (TO, toO .none .none 0) :: (it, itO pl 0) :: LA K [] n da t hs c tc [] nl R) (fun p hp => by
      rcases List.mem_cons.mp hp with rfl | hp
      · exact .head _
      rcases List.mem_cons.mp hp with rfl | hp
      · exact .tail _ (.head _)
      · exact .tail _ (.tail _ (.tail _ (.tail _ (.tail _ hp))))) (by
      simp only [List.map_cons, List.nodup_cons] at nd ⊢
      grind)
  have hTI : g3.get? TI = some (tupO [.ref it, .ref it]) := hin3 (TI, _) (.tail _ (.tail _ (.head _))) (by
    simp only [List.map_cons, List.nodup_cons] at nd ⊢
    grind)
  have hpl3 := le3 _ _ hpl
  have k3 := k2.le le3
  refine wpAny_pyIter_zip (S18.get 0 rfl) ?_
  refine codeAny_forLoop_any (fun q s => ∃ j, j + q = pr.length ∧ Turn O w g3 f' K da t hs z TO TI it pl R (c, [], []) pr j s) (fun q s I => ?_) pr.length
    ⟨0, by omega, g3, _, [], n, c, tc, [], nl, _, _, _, fun _ _ e => e, fun _ _ _ {_ _} e => e, S18, rfl, (fun _ hm => nomatch hm), rfl, Nat.le_refl _, Nat.le_refl _, hc0, hc1, (fun _ hm => nomatch hm), fun q => absurd rfl q⟩
  obtain ⟨j, hj, gk, bs, ps, n', c', tc', lns, nl', a, b, nTO, lek, backk, Sk, hself, hpk, heq, b1, b2, b3, b4, b5, b6⟩ := I
  cases q with
  | zero =>
    refine z_end Sk rm' (lek _ _ hTI) (lek _ _ hpl3) ?_ fun s' S' => ?_
    · rw [List.getElem?_eq_none]; rw [flat_len]; omega
    refine wpAny_execs_nil (wpAny_execs_nil ?_)
    have Sg := back _ _ _ (back2 _ _ _ (back3 _ _ _ (backk _ _ _ S')))
    have legk : ∀ b o, g.get? b = some o → gk.get? b = some o := fun b o e => lek _ _ (le3 _ _ (le2 _ _ (le _ _ e)))
    obtain ⟨gk2, S2', le2', keep2⟩ := Sg.leave S' legk
    have hjp : j = pr.length := by omega
    refine h gk2 ps n' c' tc' lns nl' s' le2' S2' (fun p hm => keep2 _ _ (hpk p hm) fun es ep => by simp [Part.o, tupO]) ?_ (by omega) (by omega) b3 b4 b5 (b6 (by omega))
    rw [heq, hjp, List.take_length]
    rw [pairs_of e3 e4 e5]
  | succ q =>
    obtain ⟨p, hp⟩ : ∃ p, pr[j]? = some p := ⟨pr[j], by simp⟩
    obtain ⟨fx, fy⟩ := flat_at pr j p hp
    refine z_next Sk (lek _ _ hTI) (lek _ _ hpl3) fx fy fun T nT s1 S1 => ?_
    refine z_go S1 fun s2 S2 => ?_
    refine s_unpack2 S2 rm' (S2.get 0 rfl) fun s3 S3 => ?_
    have S3 := S3.tail
    have S4 := S3.front3
    have kk := k3.le lek
    refine r_execs_cons (wpAny_Expr_any ?_)
    refine r_CallM (r_local S4 hself (fm_meth_ac S4 kk ?_))
    refine r_callK (O := O) (r_args1 (r_local (v := .str p.1.1 p.1.2) S4 rfl (r_item (r_local (v := .str p.2.1 p.2.2) S4 rfl (r_item0 ⟨⟨_, _, _, _, S4⟩, ?_⟩)))))
    have hj' : j < pr.length := by omega
    have hpx : p.1.1.length < 1000 ∧ (j ≠ 0 → p.1.1 = Str.ofString " ") ∧ (j = 0 → p.1.1.length = 0) := by
      cases j with
      | zero =>
        have := e3 p hp
        rw [this]
        exact ⟨by decide +kernel, fun q => absurd rfl q, fun _ => by decide +kernel⟩
      | succ j =>
        have := e4 j p hp
        rw [this]
        exact ⟨by decide +kernel, fun _ => by decide +kernel, fun q => nomatch q⟩
    have hpy : p.2.1.length < 1000 ∧ (j = 0 → (p.2.1.length : Int) = v.length) := by
      have e : (v :: r)[j]? = some p.2.1.cps.toList := by rw [← e5, List.getElem?_map, hp]; rfl
      have hl1 := word_le r v _ (List.mem_of_getElem? e)
      have el : (inter (v :: r)).length = x.cps.size := by rw [← hx, Array.length_toList]
      have es : p.2.1.cps.toList.length = p.2.1.length := Array.length_toList
      refine ⟨by omega, fun q => ?_⟩
      rw [q] at e
      simp at e
      rw [← es, ← e]
    have step : ∀ ps' c'' lns', ((c'', ps', lns') : LSt) = layStep K.W (c', ps.map Part.xy, lns.map (·.1)) (pxy p) → ((c'', ps', lns') : LSt) = ((pr.take (j + 1)).map pxy).foldl (layStep K.W) (c, [], []) := by
      intro ps' c'' lns' e
      rw [List.take_add_one, hp, List.map_append, List.foldl_append, ← heq, e]
      rfl
    refine append_spec S4 (rm'.le (by decide)) kk hpk b5 hpx.1 hpy.1 (by omega) (by omega) b3 b4 (fun hf T n2 s5 S5 => ?_) (fun ho => ⟨?_, ?_, fun T n2 tc2 tl nl2 s5 S5 => ?_⟩)
    · obtain ⟨g5, S6, le5, hT5, back5⟩ := S5.commit1
      have S7 := S6.front3.cast (L' := (z, zipO Value.none TI TO) :: (TO, toO (Value.str p.1.1 p.1.2) (Value.str p.2.1 p.2.2) nT) :: (it, itO pl (2 * (j + 1))) :: LA K (ps ++ [⟨p.1.1, p.2.1, p.1.2, p.2.2, T⟩]) n2 da t hs c' tc' lns nl' R) rfl
      refine wpAny_execs_nil ⟨q, by omega, j + 1, by omega, g5, (Str.ofString "part", .str p.2.1 p.2.2) :: (Str.ofString "fws", .str p.1.1 p.1.2) :: bs, ps ++ [⟨p.1.1, p.2.1, p.1.2, p.2.2, T⟩], n2, c', tc', lns, nl', _, _, _, fun b o e => le5 _ _ (lek _ _ e), fun m'' L'' h'' {so'' sg''} q => backk _ _ _ (back5 _ _ _ q), S7, hself, ?_, ?_, ?_, ?_, b3, b4, ?_, ?_⟩
      · intro p' hm
        rcases List.mem_append.mp hm with hm | hm
        · exact le5 _ _ (hpk p' hm)
        · rw [List.mem_singleton.mp hm]; exact hT5
      · refine step _ _ _ ?_
        unfold layStep
        rw [if_pos (by rw [← plen_lay]; exact hf)]
        simp [Part.xy, pxy]
      · simp; omega
      · omega
      · intro p' hm
        rcases List.mem_append.mp hm with hm | hm
        · exact b5 p' hm
        · rw [List.mem_singleton.mp hm]; exact ⟨hpx.1, hpy.1⟩
      · simp
    · by_cases hj0 : j = 0
      · exfalso
        have h1 := hpx.2.2 hj0
        have h2 := hpy.2 hj0
        have h3 : plen ps = 0 := by
          have : ps = [] := List.length_eq_zero_iff.mp (by omega)
          rw [this]; rfl
        have h4 : c' = c := by
          have := congrArg Prod.fst heq
          rw [hj0] at this
          simpa using this
        omega
      · exact b6 hj0
    · by_cases hj0 : j = 0
      · exfalso
        have h1 := hpx.2.2 hj0
        have h2 := hpy.2 hj0
        have h3 : plen ps = 0 := by
          have : ps = [] := List.length_eq_zero_iff.mp (by omega)
          rw [this]; rfl
        have h4 : c' = c := by
          have := congrArg Prod.fst heq
          rw [hj0] at this
          simpa using this
        omega
      · exact hpx.2.1 hj0
    · obtain ⟨g5, S6, le5, hT5, back5⟩ := S5.commit1
      have S7 := S6.front3.cast (L' := (z, zipO Value.none TI TO) :: (TO, toO (Value.str p.1.1 p.1.2) (Value.str p.2.1 p.2.2) nT) :: (it, itO pl (2 * (j + 1))) :: LA K [⟨p.1.1, p.2.1, p.1.2, p.2.2, T⟩] n2 da t hs 0 tc2 (lns ++ [(ptext ps, tl)]) nl2 R) rfl
      refine wpAny_execs_nil ⟨q, by omega, j + 1, by omega, g5, (Str.ofString "part", .str p.2.1 p.2.2) :: (Str.ofString "fws", .str p.1.1 p.1.2) :: bs, [⟨p.1.1, p.2.1, p.1.2, p.2.2, T⟩], n2, 0, tc2, lns ++ [(ptext ps, tl)], nl2, _, _, _, fun b o e => le5 _ _ (lek _ _ e), fun m'' L'' h'' {so'' sg''} q => backk _ _ _ (back5 _ _ _ q), S7, hself, ?_, ?_, ?_, ?_, by decide, by decide, ?_, ?_⟩
      · intro p' hm
        rw [List.mem_singleton.mp hm]; exact hT5
      · refine step _ _ _ ?_
        unfold layStep
        rw [if_neg (by rw [← plen_lay]; simp only [pxy]; omega)]
        simp [Part.xy, pxy, ptext_lay]
      · simp
      · simp; omega
      · intro p' hm
        rw [List.mem_singleton.mp hm]; exact ⟨hpx.1, hpy.1⟩
      · simp
end
end Mine
namespace Mine
def jn (sep : List Nat) : List (List Nat) → List Nat
  | [] => []
  | [x] => x
  | x :: y :: r => x ++ sep ++ jn sep (y :: r)
theorem app_list (x y : Str) : (x ++ y).cps.toList = x.cps.toList ++ y.cps.toList := by
  show (x.cps ++ y.cps).toList = _
  simp
theorem sjoin_list (sep : Str) : ∀ l : List Str, (Str.join sep l).cps.toList = jn sep.cps.toList (l.map (·.cps.toList))
  | [] => rfl
  | [x] => rfl
  | x :: y :: r => by
    show (x ++ sep ++ Str.join sep (y :: r)).cps.toList = _
    rw [app_list, app_list, sjoin_list sep (y :: r)]
    rfl
theorem join_list (sep : Str) (l : List Str) : (Txt.join sep l).cps.toList = jn sep.cps.toList (l.map (·.cps.toList)) := by
  have e : Txt.join sep l = Str.join sep l := StrLaws.glued_eq_join _ _
  rw [e, sjoin_list]
theorem inter_jn : ∀ l : List (List Nat), inter l = jn [32] l
  | [] => rfl
  | [x] => rfl
  | x :: y :: r => by
    show x ++ 32 :: inter (y :: r) = x ++ [32] ++ jn [32] (y :: r)
    rw [inter_jn (y :: r)]; simp
theorem jn_nil : ∀ l : List (List Nat), jn [] l = l.flatten
  | [] => rfl
  | [x] => by simp [jn]
  | x :: y :: r => by
    show x ++ [] ++ jn [] (y :: r) = _
    rw [jn_nil (y :: r)]; simp
def okL (u : List Nat) : Prop := u ≠ [] ∧ ∀ c ∈ u, 97 ≤ c ∧ c ≤ 122
theorem okL.okW {u : List Nat} (h : okL u) : okW u := ⟨h.1, fun c hc => by have := h.2 c hc; omega⟩
theorem layT_list (ps : List (Str × Str)) : (layT ps).cps.toList = (ps.map fun p => p.1.cps.toList ++ p.2.cps.toList).flatten := by
  unfold layT
  have e0 : (Str.ofString "").cps.toList = [] := by decide +kernel
  rw [join_list, e0, jn_nil, List.map_map]
  congr 1
  apply List.map_congr_left
  intro p _
  show (Txt.join (Str.ofString "") [p.1, p.2]).cps.toList = _
  rw [join_list, e0, jn_nil]
  simp
theorem lay_last (W : Int) : ∀ (l : List (Str × Str)) (q : LSt) (xy : Str × Str), ∃ pre, ((l ++ [xy]).foldl (layStep W) q).2.1 = pre ++ [xy] := by
  intro l q xy
  rw [List.foldl_append]
  show ∃ pre, (layStep W _ xy).2.1 = _
  unfold layStep
  split
  · exact ⟨_, rfl⟩
  · exact ⟨[], rfl⟩
theorem space_no {c : Nat} (h1 : 97 ≤ c) (h2 : c ≤ 122) : Unicode.isSpace c = false := by
  have : ∀ d : Fin 26, Unicode.isSpace (97 + d.1) = false := by decide +kernel
  have := this ⟨c - 97, by omega⟩
  rwa [show 97 + (c - 97) = c by omega] at this
theorem isspace_no {x : Str} {c : Nat} (hc : c ∈ x.cps.toList) (h1 : 97 ≤ c) (h2 : c ≤ 122) : Txt.isspace x = false := by
  have e : Txt.isspace x = (decide (x.length > 0) && x.cps.all Unicode.isSpace) := rfl
  rw [e, Bool.and_eq_false_iff]
  right
  rw [← Array.all_toList, List.all_eq_false]
  exact ⟨c, hc, by rw [space_no h1 h2]; decide⟩
end Mine
namespace Mine
def prs (v : List Nat) (r : List (List Nat)) : List (Str × Str) := (⟨#[]⟩, ⟨v.toArray⟩) :: r.map fun u => (⟨#[32]⟩, ⟨u.toArray⟩)
/-- the lines laid -/
def linesOf (W head : Int) (v : List Nat) (r : List (List Nat)) : List Str :=
  let q := (prs v r).foldl (layStep W) (head, [], [])
  q.2.2 ++ [layT q.2.1]
section
variable {O : OsState} {w : World} {A : Around} {E : Value → Shared → Prop} {s : Shared} {g : Heap} {f : Addr} {m : Str → Option Value} {L : List (Addr × Obj)} {env : Env}
theorem St.weak {gk h : Heap} (S : St O w gk f m L h so sg) (kg : Kin w g) (le : ∀ b o, g.get? b = some o → gk.get? b = some o) : St O w g f m L h so sg := by
  have no : ∀ b, gk.get? b = none → g.get? b = none := fun b e => by
    cases q : g.get? b with
    | none => rfl
    | some o => rw [le _ _ q] at e; cases e
  exact ⟨kg, fun b o e => S.keep _ _ (le _ _ e), S.ns, no _ S.fg, S.fb, fun p hp => ⟨(S.has p hp).1, no _ (S.has p hp).2.1, (S.has p hp).2.2⟩, S.nd, S.tb⟩
theorem prs_last (v : List Nat) (r : List (List Nat)) (hok : ∀ u ∈ v :: r, okL u) : ∃ l x u, prs v r = l ++ [(x, ⟨u.toArray⟩)] ∧ u ∈ v :: r ∧ PyData.strOk x = true := by
  unfold prs
  rcases List.eq_nil_or_concat r with rfl | ⟨r', u, rfl⟩
  · exact ⟨[], ⟨#[]⟩, v, rfl, .head _, by decide +kernel⟩
  · refine ⟨(⟨#[]⟩, ⟨v.toArray⟩) :: r'.map fun u => (⟨#[32]⟩, ⟨u.toArray⟩), ⟨#[32]⟩, u, by simp, by simp, by decide +kernel⟩
theorem strOk_L {u : List Nat} (h : okL u) : PyData.strOk ⟨u.toArray⟩ = true := by
  unfold PyData.strOk
  rw [← Array.all_toList, List.all_eq_true]
  intro c hc
  have := h.2 c (by simpa using hc)
  simp; omega
theorem g_vf (w : World) : nsLook (Str.ofString "_ValueFormatter") (o3 w) = pure (some (.ref 116)) := by kernel_rfl
theorem laid_spec {wl : Addr} {nw : Nat} {wds : List (Str × Tok)} {v : List Nat} {r : List (List Nat)} {head W : Int} {th tw : Tok} {Rz : Result → Shared → Prop} (S : St O w g f m L s.heap s.os s.gens) (rm : Rm 80 A)
    (hwl : g.get? wl = some (lstO (strValues wds) nw)) (hw : wds.map (fun z => z.1.cps.toList) = v :: r) (hok : ∀ u ∈ v :: r, okL u) (hsz : (inter (v :: r)).length < 900) (hr : r.length < 400)
    (hh0 : 0 ≤ head) (hh1 : head < 1000) (hfit : head + v.length ≤ W) (hjl : ((linesOf W head v r).map (·.length)).sum + (linesOf W head v r).length * 1 ≤ 1000000) (hjw : ((wds.map (·.1)).map (·.length)).sum + (wds.map (·.1)).length * 1 ≤ 1000000)
    (h : ∀ t' s', St O w g f m L s'.heap s'.os s'.gens → Rz (.ok (.ret (.str (Txt.join (Str.ofString "\n") (linesOf W head v r)) t'))) s') :
    codeAny (model prog w) A (.call (.ref 235) ⟨[.ref wl, .int head th, .int W tw], []⟩) Rz s := by
  refine call_at [(Str.ofString "words", .ref wl), (Str.ofString "head", .int head th), (Str.ofString "width", .int W tw)] S rm (by rfl) (by rfl) (by rfl) (by rfl) (by rfl) (by rfl) (by rfl) (by rfl) (by kernel_rfl) (by kernel_rfl) (by kernel_rfl) (by rfl) (by rfl) (by rfl) ?_
  intro g' f' s1 A' rm' le S1 back
  walk_at "env"
  refine r_execs_cons (wpAny_Assign_Name ?_)
  refine wpAny_Call_NameR (r_global S1 (g_vf w) ?_)
  refine r_callC rfl (r_args1 (r_local S1 rfl ?_))
  refine r_item (r_local S1 rfl ?_)
  refine r_item (s_str S1 fun t2 s2 S2 => ?_)
  refine r_item (s_str S2 fun t3 s3 S3 => ?_)
  refine r_item0 ⟨fun q => keep116 S3 q, ?_⟩
  refine new_fm S3 (rm'.le (by decide)) (by decide +kernel) fun mk d acc da n' t hs ln X tl s4 S4 => ?_
  have nd := S4.nd
  obtain ⟨g4, S5, le4, hin4, back4⟩ := S4.commit ((acc, accO [] n' da) :: (da, accD t hs (.int head th)) :: (ln, lstO []) :: L) (fun p hp => by
      rcases List.mem_cons.mp hp with rfl | hp
      · exact .head _
      rcases List.mem_cons.mp hp with rfl | hp
      · exact .tail _ (.head _)
      rcases List.mem_cons.mp hp with rfl | hp
      · exact .tail _ (.tail _ (.head _))
      · exact .tail _ (.tail _ (.tail _ (.tail _ (.tail _ hp))))) (by
      simp only [List.map_cons, List.nodup_cons] at nd ⊢
      grind)
  have k4 : (Mk.mk mk d X W tw t3 (.str (Str.ofString " ") t2) (.int (Str.ofString " ").length tl) ln acc).In g4 := ⟨hin4 (mk, _) (.tail _ (.tail _ (.tail _ (.head _)))) (by
    simp only [List.map_cons, List.nodup_cons] at nd ⊢
    grind), hin4 (d, _) (.tail _ (.tail _ (.tail _ (.tail _ (.head _))))) (by
    simp only [List.map_cons, List.nodup_cons] at nd ⊢
    grind)⟩
  generalize hK : Mk.mk mk d X W tw t3 (.str (Str.ofString " ") t2) (.int (Str.ofString " ").length tl) ln acc = K at k4
  have eW : K.W = W := by rw [← hK]
  have ea : K.a = mk := by rw [← hK]
  have S5 := S5.cast (L' := LA K [] n' da t hs head th [] 0 L) (by rw [← hK]; rfl)
  refine r_store (bs := [(Str.ofString "width", .int W tw), (Str.ofString "head", .int head th), (Str.ofString "words", .ref wl)]) S5 fun s6 S6 => ?_
  rw [← ea] at S6
  refine r_execs_cons (wpAny_Expr_any ?_)
  refine r_CallM (r_local S6 rfl (fm_meth_as S6 k4 ?_))
  refine r_callK (O := O) ?_
  refine r_args1 ?_
  with_reducible refine s_str S6 ?_
  intro t7 s7 S7
  refine r_item ?_
  refine r_CallM ?_
  with_reducible refine s_str S7 ?_
  intro t8 s8 S8
  with_reducible refine gm_join ?_
  refine Calls.callWith_builtin rfl (r_args1 (r_local S8 rfl (r_item0 ?_)))
  refine s_join S8 (S8.keep _ _ (le4 _ _ (le _ _ hwl))) hjw fun t9 s9 S9 => ?_
  refine r_item (s_str S9 fun t10 s10 S10 => r_item0 ⟨⟨_, _, _, _, S10⟩, ?_⟩)
  have hx : (Txt.join (Str.ofString " ") (wds.map (·.1))).cps.toList = inter (v :: r) := by
    rw [join_list, inter_jn, List.map_map, ← hw]
    congr 1
  have hxs : (Txt.join (Str.ofString " ") (wds.map (·.1))).cps.size < 900 := by rw [← Array.length_toList, hx]; exact hsz
  refine split106_spec S10 (rm'.le (by decide)) k4 (fun u hu => (hok u hu).okW) hx hxs hr hh0 hh1 (by rw [eW]; exact hfit) fun gk ps n2 c2 tc2 lns nl2 s11 lek S11 hpk heq b1 b2 b3 b4 b5 b6 => ?_
  rw [eW] at heq
  refine r_execs_cons (wpAny_Return_some ?_)
  refine r_CallM (r_local S11 rfl (fm_meth_str S11 (k4.le lek) ?_))
  refine r_callK (O := O) (r_args1 (s_str S11 fun t12 s12 S12 => r_item0 ⟨⟨_, _, _, _, S12⟩, ?_⟩))
  obtain ⟨l, xx, u, el, hu, hxo⟩ := prs_last v r hok
  have eq2 : ((c2, ps.map Part.xy, lns.map (·.1)) : LSt) = (prs v r).foldl (layStep W) (head, [], []) := heq
  obtain ⟨pre', ep'⟩ := lay_last W l (head, [], []) (xx, ⟨u.toArray⟩)
  rw [← el, ← eq2] at ep'
  obtain ⟨pre, p, rfl⟩ : ∃ pre p, ps = pre ++ [p] := by
    rcases List.eq_nil_or_concat ps with e | ⟨pre, p, e⟩
    · exact absurd e b6
    · exact ⟨pre, p, by simpa using e⟩
  have epx : p.x = xx ∧ p.y = ⟨u.toArray⟩ := by
    have e : List.map Part.xy (pre ++ [p]) = pre' ++ [(xx, ⟨u.toArray⟩)] := ep'
    rw [List.map_append] at e
    have := List.append_inj_right' e rfl
    simpa [Part.xy] using this
  have hul := hok u hu
  have hulen : 0 < u.length := List.length_pos_iff.mpr hul.1
  have elines : lns.map (·.1) ++ [ptext (pre ++ [p])] = linesOf W head v r := by
    unfold linesOf
    rw [← eq2, ptext_lay]
  have hsp : Txt.isspace (ptext (pre ++ [p])) = false := by
    obtain ⟨c, hc⟩ : ∃ c, c ∈ u := ⟨u[0], List.getElem_mem hulen⟩
    refine isspace_no (c := c) ?_ (hul.2 c hc).1 (hul.2 c hc).2
    rw [ptext_lay, layT_list]
    simp [Part.xy, epx.2, hc]
  have one : (Str.ofString "\n").length = 1 := by decide +kernel
  simp only [List.length_append, List.length_singleton] at b1
  refine str64_spec S12 (rm'.le (by decide)) (k4.le lek) hpk b5 (by omega) (by omega) b3 b4 ?_ ?_ ?_ hsp (by rw [elines, one]; exact hjl) fun t' n3 tc3 lns3 nl3 s13 S13 => ?_
  · rw [epx.2]; show u.toArray.size ≠ 0; simp; exact hul.1
  · rw [epx.1]; exact hxo
  · rw [epx.2]; exact strOk_L hul
  rw [elines]
  have S14 := back4 _ _ _ (S13.weak S5.kg lek).tail.tail.tail
  exact h t' s13 (back _ _ _ S14)
end
end Mine
namespace Mine
theorem slot_filter_next : Slot "filter" "__next__" "filter.__next__" :=
  .of (owner := "filter") (n := "__next__") (by rw [typeLookup_type, builtinLookup_eq_fast]; kernel_rfl) (by decide +kernel) (by decide +kernel) (by decide +kernel)
    (by first | exact .inl (by decide +kernel) | exact .inr (by decide +kernel)) (by rw [isSubtype_type]; kernel_rfl)
theorem slot_filter_iter : Slot "filter" "__iter__" "filter.__iter__" :=
  .of (owner := "filter") (n := "__iter__") (by rw [typeLookup_type, builtinLookup_eq_fast]; kernel_rfl) (by decide +kernel) (by decide +kernel) (by decide +kernel)
    (by first | exact .inl (by decide +kernel) | exact .inr (by decide +kernel)) (by rw [isSubtype_type]; kernel_rfl)
theorem entry_filter_next : entryFor table "filter.__next__" = some Builtin.«filter.__next__» := entryFor_of_tree (by kernel_rfl)
theorem args_filter_next (a : Value) : argsOk "filter.__next__" ⟨[a], []⟩ := by unfold argsOk; kernel_rfl
theorem args_filter_iter (a : Value) : argsOk "filter.__iter__" ⟨[a], []⟩ := by unfold argsOk; kernel_rfl
def fiO (J : Addr) : Obj := { cls := .type "filter", data := .fields #[.builtin "len", .ref J] }
section
variable {O : OsState} {w : World} {A : Around} {E : Value → Shared → Prop} {s : Shared}
theorem filter_next_item {I J t : Addr} {i : Nat} {items : Array Value} {x : Str} {tx : Tok} {Q : Option Value → Shared → Prop} (hI : s.heap.get? I = some (fiO J)) (hJ : s.heap.IsTupleIter J t i) (ht : s.heap.IsTuple t items) (hx : items[i]? = some (.str x tx))
    (h0 : x.length ≠ 0) (h1 : x.length < 1000000)
    (hQ : ∀ h' tk, h'.IsTupleIter J t (i + 1) → Heap.SameBut J s.heap h' → Q (some (.str x tx)) { s with heap := h', toks := tk }) : wpAny (model prog w) A (pyNext (.ref I)) Q E s := by
  obtain ⟨o, ho, hc, hd⟩ := id hJ
  obtain ⟨ol, hol, _, nl, hdl⟩ := ht
  have hT : s.TypeIs (.ref I) "filter" := ⟨_, hI, rfl⟩
  unfold pyNext
  refine wpAny_bind (wpAny_attempt (wpAny_callSpecial?_slot (name := Str.ofString "__next__") hT slot_filter_next (wpAny_call_entry slot_filter_next hT entry_filter_next ?_ (args_filter_next _))))
  unfold Builtin.«filter.__next__»
  refine wpAny_bind (wpAny_of_eq (a := (Value.ref I, [])) (by rfl) ?_)
  refine wpAny_bind (m := field (.ref I) 0) (wpAny_field hI rfl (x := .builtin "len") rfl ?_)
  refine wpAny_bind (m := field (.ref I) 1) (wpAny_field hI rfl (x := .ref J) rfl ?_)
  refine wpAny_bind (wpAny_callSpecial?_slot (name := Str.ofString "__next__") hJ.typeIs F.slot_tuple_iterator_next
    (wpAny_call_entry F.slot_tuple_iterator_next hJ.typeIs F.entry_tuple_iterator_next ?_ (F.args_tuple_iterator_next_1 _)))
  show wpAny _ _ (field (.ref J) 0 >>= _) _ _ s
  refine wpAny_bind (wpAny_field ho hd (x := .ref t) rfl ?_)
  show wpAny _ _ (if (Value.ref t == Value.none) = true then _ else _) _ _ s
  rw [if_neg (show ¬ ((Value.ref t == Value.none) = true) from Bool.false_ne_true)]
  show wpAny _ _ (field (.ref J) 1 >>= _) _ _ s
  refine wpAny_bind (wpAny_field ho hd (x := .int i 0) rfl ?_)
  show wpAny _ _ (seqItems? (.ref t) >>= _) _ _ s
  refine wpAny_bind (wpAny_seqItems hol hdl ?_)
  simp only [Int.toNat_natCast, hx]
  refine wpAny_bind (wpAny_setField ho hd (by simp) (wpAny_pure ⟨_, rfl, ?_⟩))
  refine wpAny_bind (wpAny_holding ?_)
  rw [if_neg (by decide)]
  refine wpAny_bind (P.len_str (by omega) ?_)
  refine wpAny_holding (P.truthy_int ?_)
  have e : ((x.length : Int) != 0) = true := by simp; exact h0
  rw [e, if_pos rfl]
  refine wpAny_pure ⟨_, rfl, wpAny_pure (hQ _ _ ?_ (Heap.SameBut.update ..))⟩
  exact ⟨_, Heap.get?_update_self _ ho (Obj.isFreed_of_fields (Obj.data_mapFields hd _)), (Obj.cls_mapFields ..).trans hc, by
    rw [Obj.data_mapFields hd]; simp [rawInt]⟩
theorem filter_next_end {I J t : Addr} {i : Nat} {items : Array Value} {Q : Option Value → Shared → Prop} (hh : A.handled = none) (hI : s.heap.get? I = some (fiO J)) (hJ : s.heap.IsTupleIter J t i) (ht : s.heap.IsTuple t items) (hx : items[i]? = none)
    (hQ : ∀ h', Heap.ExtBut J s.heap h' → Q none { s with heap := h' }) : wpAny (model prog w) A (pyNext (.ref I)) Q E s := by
  obtain ⟨o, ho, hc, hd⟩ := id hJ
  obtain ⟨ol, hol, _, nl, hdl⟩ := ht
  have hT : s.TypeIs (.ref I) "filter" := ⟨_, hI, rfl⟩
  unfold pyNext
  refine wpAny_bind (wpAny_attempt (wpAny_callSpecial?_slot (name := Str.ofString "__next__") hT slot_filter_next (wpAny_call_entry slot_filter_next hT entry_filter_next ?_ (args_filter_next _))))
  unfold Builtin.«filter.__next__»
  refine wpAny_bind (wpAny_of_eq (a := (Value.ref I, [])) (by rfl) ?_)
  refine wpAny_bind (m := field (.ref I) 0) (wpAny_field hI rfl (x := .builtin "len") rfl ?_)
  refine wpAny_bind (m := field (.ref I) 1) (wpAny_field hI rfl (x := .ref J) rfl ?_)
  refine wpAny_bind (wpAny_callSpecial?_slot (name := Str.ofString "__next__") hJ.typeIs F.slot_tuple_iterator_next
    (wpAny_call_entry F.slot_tuple_iterator_next hJ.typeIs F.entry_tuple_iterator_next ?_ (F.args_tuple_iterator_next_1 _)))
  show wpAny _ _ (field (.ref J) 0 >>= _) _ _ s
  refine wpAny_bind (wpAny_field ho hd (x := .ref t) rfl ?_)
  show wpAny _ _ (if (Value.ref t == Value.none) = true then _ else _) _ _ s
  rw [if_neg (show ¬ ((Value.ref t == Value.none) = true) from Bool.false_ne_true)]
  show wpAny _ _ (field (.ref J) 1 >>= _) _ _ s
  refine wpAny_bind (wpAny_field ho hd (x := .int i 0) rfl ?_)
  show wpAny _ _ (seqItems? (.ref t) >>= _) _ _ s
  refine wpAny_bind (wpAny_seqItems hol hdl ?_)
  simp only [Int.toNat_natCast, hx]
  refine wpAny_bind (wpAny_rule (wpAny_bind (wpAny_setField ho hd (by simp) ?_)))
  refine wpAny_bind (m := newExc (.type "StopIteration") []) ?_
  simp only [newExc, newTuple]
  refine wpAny_bind (wpAny_newObj_type ?_ (by size_fits))
  refine wpAny_bind (m := firstArgMember _ _) (wpAny_of_eq (a := Value.none) (by rfl) ?_)
  refine wpAny_newObj_type ?_ (by size_fits)
  simp only [raiseNew]
  refine wpAny_bind (wpAny_handled ?_)
  rw [show A.in1.in1.handled = none from hh]
  refine wpAny_bind (wpAny_pure (wpAny_throw ?_))
  refine wpAny_bind (wpAny_isInstance (T := "StopIteration") (b := true) ⟨_, Heap.get?_push_size _ rfl, rfl⟩ isSubtype_stop ?_)
  exact wpAny_pure (hQ _ (((Heap.SameBut.update ..).extBut.push _).push _))
theorem entry_filter_iter : entryFor table "filter.__iter__" = some Builtin.«dict_keyiterator.__iter__» :=
  entryFor_alias (id' := "dict_keyiterator.__iter__") (by rw [fastTable_eq_tree]; kernel_rfl) (by first | rfl | decide +kernel) (by decide +kernel) (by rw [fastTable_eq_tree]; kernel_rfl)
theorem filter_self {I J : Addr} {Q : Value → Shared → Prop} (hI : s.heap.get? I = some (fiO J)) (h : Q (.ref I) s) : wpAny (model prog w) A (pyIter (.ref I)) Q E s := by
  have hT : s.TypeIs (.ref I) "filter" := ⟨_, hI, rfl⟩
  refine wpAny_pyIter_slot hT slot_filter_iter (wpAny_call_entry slot_filter_iter hT entry_filter_iter ?_ (args_filter_iter _))
  show wpAny _ _ (ret (.ref I)) _ _ s
  exact wpAny_pure ⟨_, rfl, "filter", _, hT, slot_filter_next.lookup, h⟩
end
theorem walk_filter {w : World} {A : Around} (hh : A.handled = none) (I J t : Addr) (hJI : I ≠ J) (htJ : t ≠ J) (items : Array Value) (hit : ∀ i, i < items.size → ∃ x tx, items[i]? = some (.str x tx) ∧ x.length ≠ 0 ∧ x.length < 1000000) :
    Walks prog w A I [I, J, t] [J] items.size (fun i v => items[i]? = some v) (fun i h => h.get? I = some (fiO J) ∧ h.IsTupleIter J t i ∧ h.IsTuple t items) where
  sub := fun b hb => by simp at hb; simp [hb]
  frame := fun i h h' st hk => by
    refine ⟨hk I (by simp) _ st.1, ?_, ?_⟩
    · obtain ⟨o, ho, r⟩ := st.2.1
      exact ⟨o, hk J (by simp) _ ho, r⟩
    · obtain ⟨o, ho, r⟩ := st.2.2
      exact ⟨o, hk t (by simp) _ ho, r⟩
  item := fun i s Q E hi st hQ => by
    obtain ⟨x, tx, hx, h0, h1⟩ := hit i hi
    refine filter_next_item st.1 st.2.1 st.2.2 hx h0 h1 fun h' tk hJ' hs' => ?_
    refine hQ _ h' tk hx ⟨(hs'.2 I hJI).trans st.1, hJ', st.2.2.extBut hs'.extBut htJ⟩ fun b o hb e => hs'.extBut b o (fun q => hb (by simp [q])) e
  done := fun s Q E st hQ => filter_next_end hh st.1 st.2.1 st.2.2 (by simp) fun h' he' => hQ h' s.toks fun b o hb e => he' b o (fun q => hb (by simp [q])) e
  self := fun i s Q E st hQ => filter_self st.1 hQ
end Mine
namespace Mine
theorem mro_filter : mroOf (.type "filter") = pure [.type "filter", .type "object"] := by rw [mroOf_type]; kernel_rfl
theorem lookup_filter_new : typeLookup (.type "filter") "__new__" = pure (some (.builtin "filter.__new__")) := by rw [typeLookup_type, builtinLookup_eq_fast]; kernel_rfl
theorem slot_filter_init : Slot "filter" "__init__" "object.__init__" :=
  .of (owner := "object") (n := "__init__") (by rw [typeLookup_type, builtinLookup_eq_fast]; kernel_rfl) (by decide +kernel) (by decide +kernel) (by decide +kernel)
    (by first | exact .inl (by decide +kernel) | exact .inr (by decide +kernel)) (by rw [isSubtype_type]; kernel_rfl)
theorem called_filter : TypeCalled "filter" "filter.__new__" "object.__init__" :=
  ⟨by decide +kernel, by decide +kernel, ⟨_, _, mro_filter⟩, madeBy_type mro_filter lookup_filter_new (by decide +kernel), by decide +kernel, by rw [isSubtype_type]; kernel_rfl, slot_filter_init⟩
theorem typeCall_filter_2 (a b : Value) : checkTypeCall "filter" ⟨[a, b], []⟩ = pure () := by kernel_rfl
theorem newCall_filter_2 (a b : Value) : checkBuiltinCall "filter.__new__" ⟨[.type "filter", a, b], []⟩ = pure () := by kernel_rfl
theorem entry_filter_new : entryFor table "filter.__new__" = some Builtin.«filter.__new__» := entryFor_of_tree (by kernel_rfl)
theorem sub_filter : isSubtype (.type "filter") (.type "filter") = pure true := by rw [isSubtype_type]; kernel_rfl
section
variable {O : OsState} {w : World} {A : Around} {E : Value → Shared → Prop} {s : Shared} {g : Heap} {f : Addr} {m : Str → Option Value} {L : List (Addr × Obj)}
def tiO (t : Addr) (i : Nat) : Obj := { cls := .type "tuple_iterator", data := .fields #[.ref t, .int i 0] }
theorem f_new {t : Addr} {vs : List Value} {Q : Value → Shared → Prop} (S : St O w g f m L s.heap s.os s.gens) (ht : s.heap.get? t = some (tupO vs))
    (h : ∀ I J s', St O w g f m ((I, fiO J) :: (J, tiO t 0) :: L) s'.heap s'.os s'.gens → Q (.ref I) s') : wpAny (model prog w) A (call (.type "filter") [.builtin "len", .ref t]) Q E s := by
  refine callType_codes (T := "filter") (Bi := Builtin.«object.__init__») (Q₁ := fun r s₁ => ∃ z J, r = .ref z ∧ s₁.heap.get? z = some (fiO J) ∧ Q r s₁) called_filter (typeCall_filter_2 _ _) PySem.F.entry_object_init ?_ ?_
  · refine codeAny_of_tree ?_
    show wpAny _ A.in1.in1 (do checkBuiltinCall "filter.__new__" ⟨[.type "filter", .builtin "len", .ref t], []⟩; again (.builtin "filter.__new__" ⟨[.type "filter", .builtin "len", .ref t], []⟩)) _ _ s
    refine wpAny_bind (wpAny_of_eq (newCall_filter_2 _ _) (wpAny_pure ⟨plainId_quiet (by decide +kernel) _, codeAny_builtin entry_filter_new ?_⟩))
    rw [Around.under_plainId (by decide +kernel) _]
    obtain ⟨hp, gn, dr, tk, os⟩ := s
    have hsub := sub_filter
    have hit : Heap.IsTuple (Shared.heap ⟨hp, gn, dr, tk, os⟩) t vs.toArray := ⟨_, ht, rfl, _, rfl⟩
    wp_walk using wpAny_pyIter_tuple hit
    have S1 := S.push (tiO t 0) rfl
    have S2 := S1.push (fiO hp.objs.size) rfl
    exact ⟨_, _, rfl, S2.get 0 rfl, h _ _ _ S2⟩
  · rintro obj s₁ ⟨z, J, rfl, hz, hq⟩
    exact ⟨⟨_, hz, rfl⟩, PySem.F.args_object_init_3 _ _ _, object_init_meets called_filter.init.lookup called_filter.made (by decide) prog w A.in1 _ s₁ ⟨⟨_, hz, rfl⟩, rfl, hq⟩⟩
end
end Mine
namespace Mine
section
variable {α : Type} {O : OsState} {w : World} {A : Around} {E : Value → Shared → Prop} {s : Shared} {Q : α → Shared → Prop} {g : Heap} {f : Addr} {m : Str → Option Value} {L : List (Addr × Obj)}
/-- into a call -/
theorem enterV {s0 : Shared} {R : Result → Shared → Prop} {n : Nat} {fa : Addr} {oc : Value} {od : Option Addr} {osl : Array (Option Value)} {fd : FuncData} {body : List Stmt} {args : Args} (binds : List (Str × Value))
    (S : St O w g f m L s.heap s.os s.gens) (r : Rm (n + 1) A) (ho : s0.heap.get? fa = some ⟨oc, od, .func fd, osl⟩) (hcd : s0.heap.CodeRec fd.code fd.qualname) (hbody : fd.body = .stmts body) (hbind : ∀ (M : Model) (A : Around) (E : Value → Shared → Prop) (Q : List (Str × Value) → Shared → Prop), Q binds s → wpAny M A (bindArgs fd args) Q E s0)
    (hcell : ∀ x ∈ fd.scope.names, x.2 ≠ .cell) (hloc : ∀ x ∈ binds, fd.scope.names.lookup x.1 = some .local)
    (h : ∀ g' f' s' A', binds.length ≤ s'.toks → Rm n A' → (∀ b o, g.get? b = some o → g'.get? b = some o) → St O w g' f' (fun x => binds.reverse.lookup x) L s'.heap s'.os s'.gens → (∀ m'' L'' h'' {so'' sg''}, St O w g' f' m'' L'' h'' so'' sg'' → St O w g f m L'' h'' so'' sg'') →
      wpAny (model prog w) A' (execs body (callEnv fd f' fa)) (fun fl s'' => R (.ok (.ret (match fl with | .ret v => v | _ => .none))) s'') (fun _ _ => False) s')
    (hco : fd.scope.isCoroutine = false := by rfl) (hgen : fd.scope.isGenerator = false := by rfl) (hk : fd.scope.kind = .function := by rfl) :
    codeAny (model prog w) A (.call (.ref fa) args) R s0 := by
  refine codeAny_call_function r.room ho rfl hco hgen hbody hcd (hbind _ _ _ _ ?_)
  refine wpAny_newFunctionEnv hcell hloc (fun h₀ hns hsb₀ => ⟨S.lim.fresh _ hsb₀, codeAny_func ?_⟩) hk
  have hk₀ : ∀ b o, s.heap.get? b = some o → h₀.get? b = some o := fun b o e => hsb₀.extBut b o (Nat.ne_of_lt (Heap.lt_size e)) (Heap.get?_push_of_some _ e)
  have hideL : ∀ b o, g.get? b = some o → b ∉ [162, 169, 206] ++ L.map (·.1) := fun b o e q => by
    rcases List.mem_append.mp q with q | q
    · have : isTab b = true := by simp at q; rcases q with rfl | rfl | rfl <;> rfl
      rw [S.kg.hid b this] at e; cases e
    · obtain ⟨p, hp, rfl⟩ := List.mem_map.mp q
      rw [(S.has p hp).2.1] at e; cases e
  have hf : f ∉ [162, 169, 206] ++ L.map (·.1) := fun q => by
    have z := S.fbig
    rcases List.mem_append.mp q with q | q
    · simp at q
      rcases q with e | e | e <;> rw [e] at z <;> exact absurd z (by decide)
    · obtain ⟨p, hp, e⟩ := List.mem_map.mp q
      exact (S.has p hp).2.2.2 e
  let g' := hideAll s.heap ([162, 169, 206] ++ L.map (·.1))
  have st : ∀ b o, g.get? b = some o → g'.get? b = some o := fun b o e => hideAll_get _ (S.keep b o e) (hideL b o e)
  have gsz : g'.objs.size = s.heap.objs.size := hideAll_size _ _
  have kg : Kin w g' := ⟨fun a o ht e => st _ _ (S.kg.objs a o ht e), fun a ht => hideAll_none _ (by unfold isTab at ht; simp only [Bool.or_eq_true, beq_iff_eq] at ht; rcases ht with (e | e) | e <;> rw [e] <;> simp), by rw [gsz]; exact Nat.lt_trans S.fbig S.fsz, S.kg.lim.keeps st⟩
  have S' : St O w g' s.heap.objs.size (fun x => binds.reverse.lookup x) L h₀ s.os s.gens := ⟨kg, fun b o e => hk₀ _ _ (of_hideAll _ e), hns, (by
      cases q : g'.get? s.heap.objs.size with
      | none => rfl
      | some o => exact absurd (gsz ▸ Heap.lt_size q) (Nat.lt_irrefl _)), Nat.lt_trans S.fbig S.fsz,
    fun p hp => ⟨hk₀ _ _ (S.has p hp).1, hideAll_none _ (List.mem_append_right _ (List.mem_map_of_mem hp)), (S.has p hp).2.2.1, Nat.ne_of_lt (Heap.lt_size (S.has p hp).1)⟩, S.nd, S.tb.mono fun b o _ e => hk₀ _ _ e⟩
  refine wpAny_mono (h g' s.heap.objs.size { s with heap := h₀, toks := s.toks + binds.length } (A.deeper (callEnv fd s.heap.objs.size fa)) (Nat.le_add_left _ _) r.deeper st S' ?_) (fun _ _ q => q) fun _ _ q => q.elim
  intro m'' L'' h'' so'' sg'' S''
  obtain ⟨oF, es, ep, hF, rF⟩ := S.ns
  have hFg : g'.get? f = some oF := hideAll_get _ hF hf
  refine ⟨S.kg, fun b o e => S''.keep _ _ (st _ _ e), ⟨oF, es, ep, S''.keep _ _ hFg, rF⟩, S.fg, S.fb, fun p hp => ?_, S''.nd, S''.tb⟩
  have z := S''.has p hp
  refine ⟨z.1, ?_, z.2.2.1, fun q => ?_⟩
  · cases q : g.get? p.1 with
    | none => rfl
    | some o => rw [st _ _ q] at z; exact nomatch z.2.1
  · rw [q, hFg] at z; exact nomatch z.2.1
end
end Mine
namespace Mine
section
variable {O : OsState} {w : World} {A : Around} {E : Value → Shared → Prop} {s : Shared} {g : Heap} {f : Addr} {m : Str → Option Value} {L : List (Addr × Obj)} {env : Env}
theorem bind211 {v0 : Value} {vr : List Value} (M : Model) (Q : List (Str × Value) → Shared → Prop) (h : Q [(Str.ofString "args", .ref s.heap.objs.size)] { s with heap := s.heap.push (tupO (v0 :: vr)) }) (hz : (v0 :: vr).length ≤ 1000) :
    wpAny M A (bindArgs (fdAt w 211) ⟨v0 :: vr, []⟩) Q E s := by
  have e : bindArgs (fdAt w 211) ⟨v0 :: vr, []⟩ = (newTuple (v0 :: vr) >>= fun t => pure [(Str.ofString "args", t)]) := by kernel_rfl
  rw [e]
  unfold newTuple
  exact wpAny_bind (wpAny_newObj_type (wpAny_pure h) (by show (v0 :: vr).toArray.size ≤ sizeLine; rw [List.size_toArray]; exact Nat.le_trans hz (by decide)))
end
end Mine
namespace Mine
section
variable {O : OsState} {w : World} {A : Around} {E : Value → Shared → Prop} {s : Shared} {g : Heap} {f : Addr} {m : Str → Option Value} {L : List (Addr × Obj)} {env : Env}
/-- a new frame at the heap's end: what was known stays known, the old frame is laid with what stays -/
theorem St.frame {h h₁ : Heap} {m₁ : Str → Option Value} (S : St O w g f m L h so sg) (hns : h₁.Ns h.objs.size m₁) (hk₀ : ∀ b o, h.get? b = some o → h₁.get? b = some o) :
    ∃ g', St O w g' h.objs.size m₁ L h₁ so sg ∧ (∀ b o, g.get? b = some o → g'.get? b = some o) ∧ ∀ m'' L'' h'' h' {so'' sg''}, St O w g' h.objs.size m'' L'' h'' so'' sg'' → Heap.SameBut h.objs.size h'' h' → St O w g f m L'' h' so'' sg'' := by
  have hideL : ∀ b o, g.get? b = some o → b ∉ [162, 169, 206] ++ L.map (·.1) := fun b o e q => by
    rcases List.mem_append.mp q with q | q
    · have : isTab b = true := by simp at q; rcases q with rfl | rfl | rfl <;> rfl
      rw [S.kg.hid b this] at e; cases e
    · obtain ⟨p, hp, rfl⟩ := List.mem_map.mp q
      rw [(S.has p hp).2.1] at e; cases e
  have hf : f ∉ [162, 169, 206] ++ L.map (·.1) := fun q => by
    have z := S.fbig
    rcases List.mem_append.mp q with q | q
    · simp at q
      rcases q with e | e | e <;> rw [e] at z <;> exact absurd z (by decide)
    · obtain ⟨p, hp, e⟩ := List.mem_map.mp q
      exact (S.has p hp).2.2.2 e
  have st : ∀ b o, g.get? b = some o → (hideAll h ([162, 169, 206] ++ L.map (·.1))).get? b = some o := fun b o e => hideAll_get _ (S.keep b o e) (hideL b o e)
  have gsz : (hideAll h ([162, 169, 206] ++ L.map (·.1))).objs.size = h.objs.size := hideAll_size _ _
  have kg : Kin w (hideAll h ([162, 169, 206] ++ L.map (·.1))) := ⟨fun a o ht e => st _ _ (S.kg.objs a o ht e), fun a ht => hideAll_none _ (by unfold isTab at ht; simp only [Bool.or_eq_true, beq_iff_eq] at ht; rcases ht with (e | e) | e <;> rw [e] <;> simp), by rw [gsz]; exact Nat.lt_trans S.fbig S.fsz, S.kg.lim.keeps st⟩
  refine ⟨_, ⟨kg, fun b o e => hk₀ _ _ (of_hideAll _ e), hns, ?_, Nat.lt_trans S.fbig S.fsz,
    fun p hp => ⟨hk₀ _ _ (S.has p hp).1, hideAll_none _ (List.mem_append_right _ (List.mem_map_of_mem hp)), (S.has p hp).2.2.1, Nat.ne_of_lt (Heap.lt_size (S.has p hp).1)⟩, S.nd, S.tb.mono fun b o _ e => hk₀ _ _ e⟩, st, ?_⟩
  · cases q : (hideAll h ([162, 169, 206] ++ L.map (·.1))).get? h.objs.size with
    | none => rfl
    | some o => exact absurd (gsz ▸ Heap.lt_size q) (Nat.lt_irrefl _)
  · intro m'' L'' h'' h' so'' sg'' S'' hs
    obtain ⟨oF, es, ep, hF, rF⟩ := S.ns
    have hFg : (hideAll h ([162, 169, 206] ++ L.map (·.1))).get? f = some oF := hideAll_get _ hF hf
    have up : ∀ b o, (hideAll h ([162, 169, 206] ++ L.map (·.1))).get? b = some o → h'.get? b = some o := fun b o e => (hs.2 b (S''.fne e)).trans (S''.keep _ _ e)
    refine ⟨S.kg, fun b o e => up _ _ (st _ _ e), ⟨oF, es, ep, up _ _ hFg, rF⟩, S.fg, S.fb, fun p hp => ?_, S''.nd, S''.tb.mono fun b o hb e => (hs.2 b (Nat.ne_of_lt (Nat.lt_of_le_of_lt hb S''.fbig))).trans e⟩
    have z := S''.has p hp
    refine ⟨(hs.2 _ z.2.2.2).trans z.1, ?_, z.2.2.1, fun q => ?_⟩
    · cases q : g.get? p.1 with
      | none => rfl
      | some o => rw [st _ _ q] at z; exact nomatch z.2.1
    · rw [q, hFg] at z; exact nomatch z.2.1
def cellO (v : Option Value) : Obj := { cls := .type "cell", data := .cell v }
def cdO : Obj := { cls := .type "dict", data := .dict #[] }
theorem r_cell {x : Str} {pos : Pos} {c : Addr} {v : Value} {Q : Value → Shared → Prop} (hc : s.heap.get? c = some (cellO (some v))) (h : Q v s) (hcl : env.cells.lookup x = some c := by rfl) (hk : env.scope.kind = .function := by rfl)
    (hl : env.kindOf x = some .cell := by rfl) (hd : (x == ("__debug__" : Str)) = false := by rfl) : wpAny (model prog w) A (eval (.Name x pos) env) Q E s :=
  wpAny_Name (wpAny_loadName_cell hk hl hcl ⟨_, hc, rfl⟩ h) hd
theorem r_storeCell {x : Str} {c : Addr} {i : Nat} {v0 : Option Value} {v : Value} {Q : Unit → Shared → Prop} (S : St O w g f m L s.heap s.os s.gens) (hi : L[i]? = some (c, cellO v0)) (h : ∀ s', St O w g f m (L.set i (c, cellO (some v))) s'.heap s'.os s'.gens → Q () s')
    (hcl : env.cells.lookup x = some c := by rfl) (hk : env.scope.kind = .function := by rfl) (hl : env.kindOf x = some .cell := by rfl) : wpAny (model prog w) A (storeName env x v) Q E s := by
  unfold storeName
  simp only [hl, hk]
  refine wpAny_bind (wpAny_cellOf hcl ?_)
  unfold cellSet
  refine wpAny_bind (wpAny_load (S.get i hi) ?_)
  exact wpAny_update (S.get i hi) (h _ (S.update i hi rfl rfl))
/-- the frame of a comprehension is made -/
theorem comp_env {scope : Scope} {cl : List (Str × Addr)} {Q : Env → Shared → Prop} (hp : ∀ h, pushCells h scope.names = h) (hc : ∀ n, cellsFrom n scope.names cl = cl)
    (h : Q { scope := scope, locals := s.heap.objs.size, globals := env.globals, cells := cl, qual := env.qual, func := none, code := env.code, frame := env.frame, builtins := env.builtins } { s with heap := s.heap.push cdO }) :
    wpAny (model prog w) A (newFunctionEnv scope env.globals cl [] env.qual none .none (some env)) Q E s := by
  simp only [newFunctionEnv, Option.isSome_some, if_true]
  refine wpAny_bind (wpAny_alloc ?_)
  refine wpAny_bind (wpAny_layCells _ (fun name kind cells => by cases hkc : kind == NameKind.cell <;> simp [hkc]) _ _ _ _ ?_)
  rw [hc, hp]
  rw [List.forIn_nil]
  exact wpAny_bind (wpAny_pure (wpAny_pure h))
theorem comp_env1 {scope : Scope} {cl : List (Str × Addr)} {x : Str} {Q : Env → Shared → Prop} (hp : ∀ h, pushCells h scope.names = h.push (cellO none)) (hc : ∀ n, cellsFrom n scope.names cl = (x, n) :: cl)
    (h : Q { scope := scope, locals := s.heap.objs.size, globals := env.globals, cells := (x, s.heap.objs.size + 1) :: cl, qual := env.qual, func := none, code := env.code, frame := env.frame, builtins := env.builtins } { s with heap := (s.heap.push cdO).push (cellO none) }) :
    wpAny (model prog w) A (newFunctionEnv scope env.globals cl [] env.qual none .none (some env)) Q E s := by
  simp only [newFunctionEnv, Option.isSome_some, if_true]
  refine wpAny_bind (wpAny_alloc ?_)
  refine wpAny_bind (wpAny_layCells _ (fun name kind cells => by cases hkc : kind == NameKind.cell <;> simp [hkc]) _ _ _ _ ?_)
  rw [hc, hp]
  rw [List.forIn_nil]
  rw [show ({ s with heap := s.heap.push { cls := .type "dict", data := .dict #[] } } : Shared).heap.objs.size = s.heap.objs.size + 1 from Heap.size_push ..]
  exact wpAny_bind (wpAny_pure (wpAny_pure h))
/-- what a comprehension's loop has to show -/
def CompLoop (O : OsState) (w : World) (A : Around) (env : Env) (scope : Scope) (cells : List (Str × Addr)) (elt target iter : Expr) (ifs : List Expr) (pos : Pos) (it : Value) (g : Heap) (f : Addr) (m : Str → Option Value) (g' : Heap) (C D : Addr) (Q : Value → Shared → Prop) (s' : Shared) : Prop :=
  (∀ (Q' : Value → Shared → Prop) (E' : Value → Shared → Prop), Q' it s' → wpAny (model prog w) A (pyIter it) Q' E' s') ∧
  codeAny (model prog w) A (.compLoop (.ListComp elt [⟨target, iter, ifs, 0⟩] scope pos) 0 it (.ref D) (compEnvC scope cells C env))
    (fun r s'' => r = .ok .next ∧ ∃ m'' L'', St O w g' C m'' L'' s''.heap s''.os s''.gens ∧ ∀ s3, St O w g f m L'' s3.heap s3.os s3.gens → Q (.ref D) s3) s'
theorem r_comp {elt target iter : Expr} {ifs : List Expr} {scope : Scope} {pos : Pos} {cl : List (Str × Addr)} {Q : Value → Shared → Prop}
    (h : wpAny (model prog w) A (eval iter env) (fun xv s₁ => wpAny (model prog w) A (pyIter xv) (fun it s₂ => ∃ g f m L, St O w g f m L s₂.heap s₂.os s₂.gens ∧
      ∀ g' C D s', (∀ b o, g.get? b = some o → g'.get? b = some o) → St O w g' C (fun y => ([] : List (Str × Value)).lookup y) ((D, lstO []) :: L) s'.heap s'.os s'.gens → CompLoop O w A env scope cl elt target iter ifs pos it g f m g' C D Q s') E s₁) E s)
    (hclos : closureFor scope env = pure cl := by rfl) (hp : ∀ h, pushCells h scope.names = h := by intro _; rfl) (hc : ∀ n, cellsFrom n scope.names cl = cl := by intro _; rfl) (hkind : scope.kind = .function := by rfl)
    (hnames : ∀ x ∈ scope.names, x.2 = .local → scope.names.lookup x.1 = some .local := by decide) (hs : ∀ x, foldedSetIterable iter env x = pure x := by intro _; rfl) :
    wpAny (model prog w) A (eval (.ListComp elt [⟨target, iter, ifs, 0⟩] scope pos) env) Q E s := by
  rw [eval_ListComp]
  refine wpAny_comprehension_free (use := none) rfl hs hclos hkind hnames (wpAny_mono h (fun xv s₁ h₁ => wpAny_mono h₁ (fun it s₂ h₂ => ?_) fun _ _ e => e) fun _ _ e => e)
  obtain ⟨g, f, m, L, S, h₂⟩ := h₂
  refine wpAny_newObj_type ?_
  have S1 := S.push (lstO []) rfl
  refine comp_env (s := { s₂ with heap := s₂.heap.push (lstO []) }) hp hc ?_
  obtain ⟨g', S2, le, back⟩ := S1.frame (h₁ := (s₂.heap.push (lstO [])).push cdO) (Heap.Ns.new _ (.type "dict")) fun b o e => Heap.get?_push_of_some _ e
  obtain ⟨self, lp⟩ := h₂ g' _ s₂.heap.objs.size { s₂ with heap := (s₂.heap.push (lstO [])).push cdO } le S2
  have lp' := codeAny_mono (R' := compPost (model prog w) A E none Q (.ref s₂.heap.objs.size) (s₂.heap.push (lstO [])).objs.size) lp fun r s'' z => by
    obtain ⟨rfl, m'', L'', S'', z⟩ := z
    exact ⟨m'', S''.ns, fun h' hs' => z _ (back _ _ _ _ S'' hs')⟩
  exact codeAny_compStart_list lp' (self _ _ lp')
theorem r_comp1 {elt target iter : Expr} {ifs : List Expr} {scope : Scope} {pos : Pos} {cl : List (Str × Addr)} {x : Str} {Q : Value → Shared → Prop}
    (h : wpAny (model prog w) A (eval iter env) (fun xv s₁ => wpAny (model prog w) A (pyIter xv) (fun it s₂ => ∃ g f m L, St O w g f m L s₂.heap s₂.os s₂.gens ∧
      ∀ g' C D c s', (∀ b o, g.get? b = some o → g'.get? b = some o) → St O w g' C (fun y => ([] : List (Str × Value)).lookup y) ((c, cellO none) :: (D, lstO []) :: L) s'.heap s'.os s'.gens → CompLoop O w A env scope ((x, c) :: cl) elt target iter ifs pos it g f m g' C D Q s') E s₁) E s)
    (hclos : closureFor scope env = pure cl := by rfl) (hp : ∀ h, pushCells h scope.names = h.push (cellO none) := by intro _; rfl) (hc : ∀ n, cellsFrom n scope.names cl = (x, n) :: cl := by intro _; rfl) (hkind : scope.kind = .function := by rfl)
    (hnames : ∀ x ∈ scope.names, x.2 = .local → scope.names.lookup x.1 = some .local := by decide) (hs : ∀ x, foldedSetIterable iter env x = pure x := by intro _; rfl) :
    wpAny (model prog w) A (eval (.ListComp elt [⟨target, iter, ifs, 0⟩] scope pos) env) Q E s := by
  rw [eval_ListComp]
  refine wpAny_comprehension_free (use := none) rfl hs hclos hkind hnames (wpAny_mono h (fun xv s₁ h₁ => wpAny_mono h₁ (fun it s₂ h₂ => ?_) fun _ _ e => e) fun _ _ e => e)
  obtain ⟨g, f, m, L, S, h₂⟩ := h₂
  refine wpAny_newObj_type ?_
  have S1 := S.push (lstO []) rfl
  refine comp_env1 (s := { s₂ with heap := s₂.heap.push (lstO []) }) hp hc ?_
  obtain ⟨g', S2, le, back⟩ := S1.frame (h₁ := (s₂.heap.push (lstO [])).push cdO) (Heap.Ns.new _ (.type "dict")) fun b o e => Heap.get?_push_of_some _ e
  have S3 := S2.push (cellO none) rfl
  rw [show ((s₂.heap.push (lstO [])).push cdO).objs.size = (s₂.heap.push (lstO [])).objs.size + 1 from Heap.size_push ..] at S3
  obtain ⟨self, lp⟩ := h₂ g' _ s₂.heap.objs.size _ { s₂ with heap := ((s₂.heap.push (lstO [])).push cdO).push (cellO none) } le S3
  have lp' := codeAny_mono (R' := compPost (model prog w) A E none Q (.ref s₂.heap.objs.size) (s₂.heap.push (lstO [])).objs.size) lp fun r s'' z => by
    obtain ⟨rfl, m'', L'', S'', z⟩ := z
    exact ⟨m'', S''.ns, fun h' hs' => z _ (back _ _ _ _ S'' hs')⟩
  exact codeAny_compStart_list lp' (self _ _ lp')
end
end Mine
namespace Mine
section
variable {O : OsState} {w : World} {A : Around} {E : Value → Shared → Prop} {s : Shared} {g : Heap} {f : Addr} {m : Str → Option Value} {L : List (Addr × Obj)} {env : Env}
theorem St.setBut {h h' : Heap} {i : Nat} {a : Addr} {o o' : Obj} (S : St O w g f m L h so sg) (hi : L[i]? = some (a, o)) (hs : Heap.ExtBut a h h') (e : h'.get? a = some o') : St O w g f m (L.set i (a, o')) h' so sg := by
  have ha := S.has _ (List.mem_of_getElem? hi)
  obtain ⟨oF, es, ep, hF, rF⟩ := S.ns
  refine ⟨S.kg, fun b o e => hs b o (fun q => ?_) (S.keep b o e), ⟨oF, es, ep, hs _ _ (Ne.symm ha.2.2.2) hF, rF⟩, S.fg, S.fb, fun p hp => ?_, ?_, S.tb.mono fun b o hb e => hs b o (fun q => ?_) e⟩
  · rw [q, ha.2.1] at e; cases e
  · rcases set_split hi S.nd hp with rfl | ⟨hp, hne⟩
    · exact ⟨e, ha.2⟩
    · have z := S.has p hp
      exact ⟨hs _ _ hne z.1, z.2⟩
  · rw [map_set hi]; exact S.nd
  · have z := ha.2.2.1
    have e' : b = a := q
    rw [e'] at hb
    exact Nat.lt_irrefl _ (Nat.lt_of_lt_of_le z hb)
theorem St.sub {h : Heap} {L' : List (Addr × Obj)} (S : St O w g f m L h so sg) (hs : List.Sublist L' L) : St O w g f m L' h so sg :=
  ⟨S.kg, S.keep, S.ns, S.fg, S.fb, fun p hp => S.has p (hs.subset hp), S.nd.sublist (hs.map _), S.tb⟩
theorem mem_erase {L : List (Addr × Obj)} {i : Nat} {a : Addr} {o : Obj} (hi : L[i]? = some (a, o)) (nd : (L.map (·.1)).Nodup) {p : Addr × Obj} (hp : p ∈ L.eraseIdx i) : p.1 ≠ a := by
  obtain ⟨hlt, e⟩ := List.getElem?_eq_some_iff.mp hi
  have sp : L = L.take i ++ (a, o) :: L.drop (i + 1) := by
    conv => lhs; rw [← List.take_append_drop i L, List.drop_eq_getElem_cons hlt, e]
  rw [List.eraseIdx_eq_take_drop_succ] at hp
  rw [sp, List.map_append, List.map_cons, List.nodup_append] at nd
  rcases List.mem_append.mp hp with hp | hp
  · intro q
    exact nd.2.2 p.1 (List.mem_map_of_mem hp) a (.head _) q
  · intro q
    refine (List.nodup_cons.mp nd.2.1).1 ?_
    rw [← q]; exact List.mem_map_of_mem (f := (·.1)) hp
theorem St.eraseBut {h h' : Heap} {i : Nat} {a : Addr} {o : Obj} (S : St O w g f m L h so sg) (hi : L[i]? = some (a, o)) (hs : Heap.ExtBut a h h') : St O w g f m (L.eraseIdx i) h' so sg := by
  have z := S.has _ (List.mem_of_getElem? hi)
  refine (S.sub (List.eraseIdx_sublist L i)).moved (wr := [a]) (fun b o hb e => hs b o (fun q => hb (by rw [q]; exact .head _)) e) fun b hb => ?_
  rw [List.mem_singleton.mp hb]
  exact ⟨z.2.1, z.2.2.1, z.2.2.2, fun p hp => mem_erase hi S.nd hp⟩
theorem s_rangeNextI {i : Nat} {it : Addr} {x left step : Int} {Q : Option Value → Shared → Prop} (S : St O w g f m L s.heap s.os s.gens) (hi : L[i]? = some (it, riO x left step)) (hl : 0 < left)
    (h : ∀ t s', St O w g f m (L.set i (it, riO (x + step) (left - 1) step)) s'.heap s'.os s'.gens → Q (some (.int x t)) s') : wpAny (model prog w) A (pyNext (.ref it)) Q E s :=
  wpAny_pyNext_range_item (S.get i hi) hl fun _ hit hs => h _ _ (S.setBut hi hs.extBut hit)
theorem s_rangeEndI {n i : Nat} {it : Addr} {x left step : Int} {Q : Option Value → Shared → Prop} (S : St O w g f m L s.heap s.os s.gens) (hi : L[i]? = some (it, riO x left step)) (r : Rm n A) (hl : left ≤ 0)
    (h : ∀ s', St O w g f m (L.eraseIdx i) s'.heap s'.os s'.gens → Q none s') : wpAny (model prog w) A (pyNext (.ref it)) Q E s :=
  wpAny_pyNext_range_end r.hd (S.get i hi) hl fun _ hs => h _ (S.eraseBut hi hs)
theorem s_rangeSelf {i : Nat} {it : Addr} {x left step : Int} {Q : Value → Shared → Prop} (S : St O w g f m L s.heap s.os s.gens) (hi : L[i]? = some (it, riO x left step)) (h : Q (.ref it) s) : wpAny (model prog w) A (pyIter (.ref it)) Q E s :=
  wpAny_pyIter_rangeiter (S.get i hi) h
/-- a list's iterator -/
def IsIt (o : Obj) (l : Addr) (k : Nat) : Prop := o.cls = .type "list_iterator" ∧ o.data = .fields #[.ref l, .int k 0]
theorem s_listIter {l : Addr} {vs : List Value} {n : Nat} {Q : Value → Shared → Prop} (S : St O w g f m L s.heap s.os s.gens) (hl : s.heap.get? l = some (lstO vs n)) (h : ∀ it o s', IsIt o l 0 → St O w g f m ((it, o) :: L) s'.heap s'.os s'.gens → Q (.ref it) s') :
    wpAny (model prog w) A (pyIter (.ref l)) Q E s :=
  wpAny_pyIter_list ⟨_, hl, rfl, _, rfl⟩ (h _ _ _ ⟨rfl, rfl⟩ (S.push { cls := .type "list_iterator", data := .fields #[.ref l, .int 0 0] } rfl))
theorem s_listNext {i k n : Nat} {it l : Addr} {o : Obj} {vs : List Value} {x : Value} {Q : Option Value → Shared → Prop} (S : St O w g f m L s.heap s.os s.gens) (hi : L[i]? = some (it, o)) (ho : IsIt o l k) (hl : s.heap.get? l = some (lstO vs n)) (hx : vs[k]? = some x)
    (h : ∀ o' s', IsIt o' l (k + 1) → St O w g f m (L.set i (it, o')) s'.heap s'.os s'.gens → Q (some x) s') : wpAny (model prog w) A (pyNext (.ref it)) Q E s := by
  refine wpAny_pyNext_list_item (items := vs.toArray) ⟨o, S.get i hi, ho.1, ho.2⟩ ⟨_, hl, rfl, _, rfl⟩ (by simpa using hx) fun h' hit hs => ?_
  obtain ⟨o', e, c, d⟩ := hit
  exact h o' _ ⟨c, d⟩ (S.setBut hi hs.extBut e)
theorem s_listEnd {i k n rn : Nat} {it l : Addr} {o : Obj} {vs : List Value} {Q : Option Value → Shared → Prop} (S : St O w g f m L s.heap s.os s.gens) (hi : L[i]? = some (it, o)) (ho : IsIt o l k) (hl : s.heap.get? l = some (lstO vs n)) (hk : vs.length ≤ k) (r : Rm rn A)
    (h : ∀ s', St O w g f m (L.eraseIdx i) s'.heap s'.os s'.gens → Q none s') : wpAny (model prog w) A (pyNext (.ref it)) Q E s :=
  wpAny_pyNext_list_end (items := vs.toArray) r.hd ⟨o, S.get i hi, ho.1, ho.2⟩ ⟨_, hl, rfl, _, rfl⟩ (by simpa using hk) fun _ hs => h _ (S.eraseBut hi hs)
theorem s_listSelf {i k : Nat} {it l : Addr} {o : Obj} {Q : Value → Shared → Prop} (S : St O w g f m L s.heap s.os s.gens) (hi : L[i]? = some (it, o)) (ho : IsIt o l k) (h : Q (.ref it) s) : wpAny (model prog w) A (pyIter (.ref it)) Q E s :=
  wpAny_pyIter_listiter ⟨o, S.get i hi, ho.1, ho.2⟩ h
theorem s_appendV {i : Nat} {a : Addr} {vs : List Value} {n : Nat} {v : Value} {Q : Value → Shared → Prop} (S : St O w g f m L s.heap s.os s.gens) (hi : L[i]? = some (a, lstO vs n)) (hl : vs.length < 10000)
    (h : ∀ n' s', St O w g f m (L.set i (a, lstO (vs ++ [v]) n')) s'.heap s'.os s'.gens → Q .none s') : wpAny (model prog w) A (call (.builtin "list.append") [.ref a, v]) Q E s :=
  wpAny_call (b_appendL S hi hl h)
/-- a comprehension's loop, no test in it -/
theorem comp_run {elt target iter : Expr} {scope : Scope} {pos : Pos} {it acc : Value} {cenv : Env} {R : Result → Shared → Prop} (n : Nat) (F : Nat → Value → Prop) (Inv : Nat → List Value → Shared → Prop) (h0 : Inv 0 [] s)
    (turn : ∀ E' j vs s, j < n → vs.length = j → Inv j vs s → wpAny (model prog w) A (pyNext it) (fun r s₁ => ∃ v, r = some v ∧ wpAny (model prog w) A (assign target cenv v) (fun _ s₂ => wpAny (model prog w) A (eval elt cenv) (fun x s₃ => F j x ∧
      wpAny (model prog w) A (call (.builtin "list.append") [acc, x]) (fun _ s₄ => Inv (j + 1) (vs ++ [x]) s₄) E' s₃) E' s₂) E' s₁) E' s)
    (fin : ∀ E' vs s, vs.length = n → (∀ i v, vs[i]? = some v → F i v) → Inv n vs s → wpAny (model prog w) A (pyNext it) (fun r s₁ => r = none ∧ R (.ok .next) s₁) E' s)
    (ht : ∀ v, letOwnedTupleGo target it v = pure () := by intro _; rfl) :
    codeAny (model prog w) A (.compLoop (.ListComp elt [⟨target, iter, [], 0⟩] scope pos) 0 it acc cenv) R s := by
  refine codeAny_compLoop_list (fun k s' => ∃ j vs, k = n - j ∧ j ≤ n ∧ vs.length = j ∧ (∀ i v, vs[i]? = some v → F i v) ∧ Inv j vs s') (fun k s' ⟨j, vs, ek, hj, hl, hF, hI⟩ => ?_) n ⟨0, [], rfl, Nat.zero_le _, rfl, by simp, h0⟩ ht
  by_cases hlt : j < n
  · refine wpAny_mono (turn _ j vs s' hlt hl hI) (fun r s₁ z => ?_) fun _ _ e => e
    obtain ⟨v, rfl, z⟩ := z
    refine wpAny_mono z (fun _ s₂ z => wpAny_mono z (fun x s₃ z => wpAny_mono z.2 (fun _ s₄ z' => ?_) fun _ _ e => e) fun _ _ e => e) fun _ _ e => e
    refine ⟨n - (j + 1), by omega, j + 1, vs ++ [x], rfl, hlt, by simp [hl], fun i v hv => ?_, z'⟩
    rw [List.getElem?_append] at hv
    split at hv
    · exact hF i v hv
    · rename_i hge
      have : i = j := by
        have := (List.getElem?_eq_some_iff.mp hv).1
        simp at this; omega
      subst this
      rw [← hl, Nat.sub_self] at hv
      simp at hv
      rw [← hv]; exact z.1
  · have : j = n := by omega
    subst this
    exact wpAny_mono (fin _ vs s' hl hF hI) (fun r s₁ z => by obtain ⟨rfl, z⟩ := z; exact z) fun _ _ e => e
/-- a comprehension's loop with one test -/
theorem comp_runF {elt target iter c : Expr} {scope : Scope} {pos : Pos} {it acc : Value} {cenv : Env} {R : Result → Shared → Prop} (n : Nat) (Inv : Nat → List Value → Shared → Prop) (h0 : Inv 0 [] s)
    (turn : ∀ E' j vs s, j < n → Inv j vs s → wpAny (model prog w) A (pyNext it) (fun r s₁ => ∃ v, r = some v ∧ wpAny (model prog w) A (assign target cenv v) (fun _ s₂ => wpAny (model prog w) A (isTrue c cenv (eval c cenv)) (fun ok s₃ =>
      if ok = true then wpAny (model prog w) A (eval elt cenv) (fun x s₄ => wpAny (model prog w) A (call (.builtin "list.append") [acc, x]) (fun _ s₅ => Inv (j + 1) (vs ++ [x]) s₅) E' s₄) E' s₃ else Inv (j + 1) vs s₃) E' s₂) E' s₁) E' s)
    (fin : ∀ E' vs s, Inv n vs s → wpAny (model prog w) A (pyNext it) (fun r s₁ => r = none ∧ R (.ok .next) s₁) E' s)
    (ht : ∀ v, letOwnedTupleGo target it v = pure () := by intro _; rfl) :
    codeAny (model prog w) A (.compLoop (.ListComp elt [⟨target, iter, [c], 0⟩] scope pos) 0 it acc cenv) R s := by
  refine codeAny_compLoop_tests (fun k s' => ∃ j vs, k = n - j ∧ j ≤ n ∧ Inv j vs s') (fun k s' ⟨j, vs, ek, hj, hI⟩ => ?_) n ⟨0, [], rfl, Nat.zero_le _, h0⟩ ht
  by_cases hlt : j < n
  · refine wpAny_mono (turn _ j vs s' hlt hI) (fun r s₁ z => ?_) fun _ _ e => e
    obtain ⟨v, rfl, z⟩ := z
    refine wpAny_mono z (fun _ s₂ z => wpAny_tests_one (wpAny_mono z (fun ok s₃ z => ?_) fun _ _ e => e)) fun _ _ e => e
    cases ok with
    | false => exact ⟨n - (j + 1), by omega, j + 1, vs, rfl, hlt, by simpa using z⟩
    | true =>
      rw [if_pos rfl] at z ⊢
      exact wpAny_mono z (fun x s₄ z => wpAny_mono z (fun _ s₅ z => ⟨n - (j + 1), by omega, j + 1, vs ++ [x], rfl, hlt, z⟩) fun _ _ e => e) fun _ _ e => e
  · have : j = n := by omega
    subst this
    exact wpAny_mono (fin _ vs s' hI) (fun r s₁ z => by obtain ⟨rfl, z⟩ := z; exact z) fun _ _ e => e
/-- y = [comprehension]: the name is bound ahead of the letting go -/
theorem r_compA {elt target iter : Expr} {ifs : List Expr} {scope : Scope} {pos spos py : Pos} {y : Str} {cl : List (Str × Addr)} {Q : Flow → Shared → Prop}
    (h : wpAny (model prog w) A (eval iter env) (fun xv s₁ => wpAny (model prog w) A (pyIter xv) (fun it s₂ => ∃ g f bs L, env.locals = f ∧ St O w g f (fun z => bs.lookup z) L s₂.heap s₂.os s₂.gens ∧
      ∀ g' C D s', (∀ b o, g.get? b = some o → g'.get? b = some o) → St O w g' C (fun y => ([] : List (Str × Value)).lookup y) ((D, lstO []) :: L) s'.heap s'.os s'.gens →
        CompLoop O w A env scope cl elt target iter ifs pos it g f (fun z => ((y, .ref D) :: bs).lookup z) g' C D (fun _ s3 => Q .next s3) s') E s₁) E s)
    (hsw : swapsWith (.ListComp elt [⟨target, iter, ifs, 0⟩] scope pos) (some (.Name y py)) spos.line env = pure true := by rfl)
    (hclos : closureFor scope env = pure cl := by rfl) (hp : ∀ h, pushCells h scope.names = h := by intro _; rfl) (hc : ∀ n, cellsFrom n scope.names cl = cl := by intro _; rfl) (hkind : scope.kind = .function := by rfl)
    (hnames : ∀ x ∈ scope.names, x.2 = .local → scope.names.lookup x.1 = some .local := by decide) (hs : ∀ x, foldedSetIterable iter env x = pure x := by intro _; rfl)
    (hy : env.kindOf y = some .local := by rfl) (hk : env.scope.kind = .function := by rfl) :
    wpAny (model prog w) A (exec (.Assign [.Name y py] (.ListComp elt [⟨target, iter, ifs, 0⟩] scope pos) spos) env) Q E s := by
  rw [exec_Assign_Name_used _ _ _ _ hsw]
  refine wpAny_bind (wpAny_standAt (wpAny_bind ?_))
  show wpAny _ A (do let _ ← comprehension (.ListComp elt [⟨target, iter, ifs, 0⟩] scope pos) scope env _ (newList []) false (eval iter env) (some (assign (.Name y py) env))) _ _ s
  refine wpAny_bind (wpAny_mono (wpAny_comprehension_free (use := some (assign (.Name y py) env)) (Q := fun _ s' => Q .next s') rfl hs hclos hkind hnames
    (wpAny_mono h (fun xv s₁ h₁ => wpAny_mono h₁ (fun it s₂ h₂ => ?_) fun _ _ e => e) fun _ _ e => e)) (fun _ s' hq => wpAny_pure (wpAny_pure hq)) fun _ _ e => e)
  obtain ⟨g, f, bs, L, he, S, h₂⟩ := h₂
  refine wpAny_newObj_type ?_
  have S1 := S.push (lstO []) rfl
  refine comp_env (s := { s₂ with heap := s₂.heap.push (lstO []) }) hp hc ?_
  obtain ⟨g', S2, le, back⟩ := S1.frame (h₁ := (s₂.heap.push (lstO [])).push cdO) (Heap.Ns.new _ (.type "dict")) fun b o e => Heap.get?_push_of_some _ e
  obtain ⟨self, lp⟩ := h₂ g' _ s₂.heap.objs.size { s₂ with heap := (s₂.heap.push (lstO [])).push cdO } le S2
  have lp' := codeAny_mono (R' := compPost (model prog w) A E (some (assign (.Name y py) env)) (fun _ s' => Q .next s') (.ref s₂.heap.objs.size) (s₂.heap.push (lstO [])).objs.size) lp fun r s'' z => by
    obtain ⟨rfl, m'', L'', S'', z⟩ := z
    have S3 := back _ _ _ _ S'' (Heap.SameBut.refl _ _)
    show wpAny _ A (assign (.Name y py) env (.ref s₂.heap.objs.size)) _ _ _
    have fC : (s₂.heap.push (lstO [])).objs.size ≠ f := fun q => by
      have z := S1.fsz
      rw [q] at z; exact Nat.lt_irrefl _ z
    refine wpAny_assign_Name (wpAny_storeName_local hy (m := fun z => bs.lookup z) (he ▸ S3.ns) (fun h₂ hn₂ hs₂ => ?_) (by rw [hk]; rfl))
    rw [he] at hs₂ hn₂
    rw [lookup_upd] at hn₂
    have S4 := S3.store hn₂ hs₂
    refine ⟨m'', S''.ns.sameBut hs₂ fC, fun h₃ hs₃ => z _ ?_⟩
    refine S4.moved (wr := [(s₂.heap.push (lstO [])).objs.size]) (fun b o hb e => hs₃.extBut b o (fun q => hb (by rw [q]; exact .head _)) e) fun b hb => ?_
    rw [List.mem_singleton.mp hb]
    exact ⟨S1.gnone (get_size _), S''.fb, fC, fun p hp => (S''.has p hp).2.2.2⟩
  exact codeAny_compStart_list lp' (self _ _ lp')
end
end Mine
namespace Mine
section
variable {O : OsState} {w : World} {A : Around} {E : Value → Shared → Prop} {s : Shared} {g : Heap} {f : Addr} {m : Str → Option Value} {L : List (Addr × Obj)} {env : Env}
/-- y = [comprehension]: the name is bound ahead of the letting go -/
theorem r_compA1 {x : Str} {elt target iter : Expr} {ifs : List Expr} {scope : Scope} {pos spos py : Pos} {y : Str} {cl : List (Str × Addr)} {Q : Flow → Shared → Prop}
    (h : wpAny (model prog w) A (eval iter env) (fun xv s₁ => wpAny (model prog w) A (pyIter xv) (fun it s₂ => ∃ g f bs L, env.locals = f ∧ St O w g f (fun z => bs.lookup z) L s₂.heap s₂.os s₂.gens ∧
      ∀ g' C D c s', (∀ b o, g.get? b = some o → g'.get? b = some o) → St O w g' C (fun y => ([] : List (Str × Value)).lookup y) ((c, cellO none) :: (D, lstO []) :: L) s'.heap s'.os s'.gens →
        CompLoop O w A env scope ((x, c) :: cl) elt target iter ifs pos it g f (fun z => ((y, .ref D) :: bs).lookup z) g' C D (fun _ s3 => Q .next s3) s') E s₁) E s)
    (hsw : swapsWith (.ListComp elt [⟨target, iter, ifs, 0⟩] scope pos) (some (.Name y py)) spos.line env = pure true := by rfl)
    (hclos : closureFor scope env = pure cl := by rfl) (hp : ∀ h, pushCells h scope.names = h.push (cellO none) := by intro _; rfl) (hc : ∀ n, cellsFrom n scope.names cl = (x, n) :: cl := by intro _; rfl) (hkind : scope.kind = .function := by rfl)
    (hnames : ∀ x ∈ scope.names, x.2 = .local → scope.names.lookup x.1 = some .local := by decide) (hs : ∀ x, foldedSetIterable iter env x = pure x := by intro _; rfl)
    (hy : env.kindOf y = some .local := by rfl) (hk : env.scope.kind = .function := by rfl) :
    wpAny (model prog w) A (exec (.Assign [.Name y py] (.ListComp elt [⟨target, iter, ifs, 0⟩] scope pos) spos) env) Q E s := by
  rw [exec_Assign_Name_used _ _ _ _ hsw]
  refine wpAny_bind (wpAny_standAt (wpAny_bind ?_))
  show wpAny _ A (do let _ ← comprehension (.ListComp elt [⟨target, iter, ifs, 0⟩] scope pos) scope env _ (newList []) false (eval iter env) (some (assign (.Name y py) env))) _ _ s
  refine wpAny_bind (wpAny_mono (wpAny_comprehension_free (use := some (assign (.Name y py) env)) (Q := fun _ s' => Q .next s') rfl hs hclos hkind hnames
    (wpAny_mono h (fun xv s₁ h₁ => wpAny_mono h₁ (fun it s₂ h₂ => ?_) fun _ _ e => e) fun _ _ e => e)) (fun _ s' hq => wpAny_pure (wpAny_pure hq)) fun _ _ e => e)
  obtain ⟨g, f, bs, L, he, S, h₂⟩ := h₂
  refine wpAny_newObj_type ?_
  have S1 := S.push (lstO []) rfl
  refine comp_env1 (s := { s₂ with heap := s₂.heap.push (lstO []) }) hp hc ?_
  obtain ⟨g', S2, le, back⟩ := S1.frame (h₁ := (s₂.heap.push (lstO [])).push cdO) (Heap.Ns.new _ (.type "dict")) fun b o e => Heap.get?_push_of_some _ e
  have S3' := S2.push (cellO none) rfl
  rw [show ((s₂.heap.push (lstO [])).push cdO).objs.size = (s₂.heap.push (lstO [])).objs.size + 1 from Heap.size_push ..] at S3'
  obtain ⟨self, lp⟩ := h₂ g' _ s₂.heap.objs.size _ { s₂ with heap := ((s₂.heap.push (lstO [])).push cdO).push (cellO none) } le S3'
  have lp' := codeAny_mono (R' := compPost (model prog w) A E (some (assign (.Name y py) env)) (fun _ s' => Q .next s') (.ref s₂.heap.objs.size) (s₂.heap.push (lstO [])).objs.size) lp fun r s'' z => by
    obtain ⟨rfl, m'', L'', S'', z⟩ := z
    have S3 := back _ _ _ _ S'' (Heap.SameBut.refl _ _)
    show wpAny _ A (assign (.Name y py) env (.ref s₂.heap.objs.size)) _ _ _
    have fC : (s₂.heap.push (lstO [])).objs.size ≠ f := fun q => by
      have z := S1.fsz
      rw [q] at z; exact Nat.lt_irrefl _ z
    refine wpAny_assign_Name (wpAny_storeName_local hy (m := fun z => bs.lookup z) (he ▸ S3.ns) (fun h₂ hn₂ hs₂ => ?_) (by rw [hk]; rfl))
    rw [he] at hs₂ hn₂
    rw [lookup_upd] at hn₂
    have S4 := S3.store hn₂ hs₂
    refine ⟨m'', S''.ns.sameBut hs₂ fC, fun h₃ hs₃ => z _ ?_⟩
    refine S4.moved (wr := [(s₂.heap.push (lstO [])).objs.size]) (fun b o hb e => hs₃.extBut b o (fun q => hb (by rw [q]; exact .head _)) e) fun b hb => ?_
    rw [List.mem_singleton.mp hb]
    exact ⟨S1.gnone (get_size _), S''.fb, fC, fun p hp => (S''.has p hp).2.2.2⟩
  exact codeAny_compStart_list lp' (self _ _ lp')
def cellL : Nat → List (Str × NameKind) → List (Addr × Obj) → List (Addr × Obj)
  | _, [], L => L
  | n, (_, k) :: r, L => if k == .cell then cellL (n + 1) r ((n, cellO none) :: L) else cellL n r L
theorem St.pushCells : ∀ (names : List (Str × NameKind)) {h : Heap} {L : List (Addr × Obj)}, St O w g f m L h so sg → St O w g f m (cellL h.objs.size names L) (PySem.pushCells h names) so sg
  | [], h, L, S => S
  | (x, k) :: r, h, L, S => by
    unfold PySem.pushCells cellL
    split
    · have := St.pushCells r (S.push (cellO none) rfl)
      rwa [Heap.size_push] at this
    · exact St.pushCells r S
/-- into a def that has cells -/
theorem enterC {R : Result → Shared → Prop} {n : Nat} {fa : Addr} {oc : Value} {od : Option Addr} {osl : Array (Option Value)} {fd : FuncData} {body : List Stmt} {args : Args} (binds : List (Str × Value))
    (S : St O w g f m L s.heap s.os s.gens) (r : Rm (n + 1) A) (ho : s.heap.get? fa = some ⟨oc, od, .func fd, osl⟩) (hcd : s.heap.CodeRec fd.code fd.qualname) (hbody : fd.body = .stmts body) (hbind : bindArgs fd args = pure binds) (hclo : fd.closure = [])
    (h : ∀ g' C s' A', Rm n A' → (∀ b o, g.get? b = some o → g'.get? b = some o) → St O w g' C (fun x => ([] : List (Str × Value)).lookup x) (cellL (C + 1) fd.scope.names L) s'.heap s'.os s'.gens → (∀ m'' L'' h'' {so'' sg''}, St O w g' C m'' L'' h'' so'' sg'' → St O w g f m L'' h'' so'' sg'') →
      ∀ A2 E', wpAny (model prog w) A2 (forIn binds PUnit.unit fun x _ => (do storeName (callEnvC fd C fa) x.1 x.2; pure (ForInStep.yield PUnit.unit) : Sem (ForInStep PUnit))) (fun _ s'' => (∃ g f m L, St O w g f m L s''.heap s''.os s''.gens) ∧
        wpAny (model prog w) A' (execs body (callEnvC fd C fa)) (fun fl s3 => R (.ok (.ret (match fl with | .ret v => v | _ => .none))) s3) (fun _ _ => False) s'') E' s')
    (hco : fd.scope.isCoroutine = false := by rfl) (hgen : fd.scope.isGenerator = false := by rfl) (hk : fd.scope.kind = .function := by rfl) :
    codeAny (model prog w) A (.call (.ref fa) args) R s := by
  refine codeAny_call_function r.room ho rfl hco hgen hbody hcd ?_
  rw [hbind, hclo]
  refine wpAny_pure ?_
  simp only [newFunctionEnv, Option.isSome_none, Bool.false_eq_true, if_false]
  refine wpAny_bind (wpAny_alloc ?_)
  refine wpAny_bind (wpAny_layCells _ (fun name kind cells => by cases hkc : kind == NameKind.cell <;> simp [hkc]) _ _ _ _ ?_)
  obtain ⟨g', S2, le, back⟩ := S.frame (h₁ := s.heap.push { cls := .type "frame", data := .dict #[] }) (Heap.Ns.new _ (.type "frame")) fun b o e => Heap.get?_push_of_some _ e
  have S3 := S2.pushCells fd.scope.names
  have z := h g' s.heap.objs.size { s with heap := pushCells (s.heap.push { cls := .type "frame", data := .dict #[] }) fd.scope.names } (A.deeper (callEnvC fd s.heap.objs.size fa)) r.deeper le (by rw [Heap.size_push] at S3; exact S3) fun m'' L'' h'' {so'' sg''} S'' => back _ _ _ _ S'' (Heap.SameBut.refl _ _)
  rw [show ({ s with heap := s.heap.push { cls := .type "frame", data := .dict #[] } } : Shared).heap.objs.size = s.heap.objs.size + 1 from Heap.size_push ..]
  refine wpAny_bind (wpAny_mono (z _ _) (fun _ s'' q => wpAny_pure ?_) fun _ _ e => e)
  obtain ⟨⟨_, _, _, _, S4⟩, q⟩ := q
  refine ⟨S4.lim, codeAny_func (wpAny_mono q (fun _ _ q => q) fun _ _ q => q.elim)⟩

end
end Mine
namespace Mine
theorem app_c_inj {c : Nat} : ∀ {x y t u : List Nat}, c ∉ x → c ∉ y → x ++ c :: t = y ++ c :: u → x = y ∧ t = u
  | [], [], t, u, _, _, h => by simpa using h
  | [], b :: y, t, u, _, hy, h => by
    simp only [List.nil_append, List.cons_append, List.cons.injEq] at h
    exact absurd (h.1 ▸ List.mem_cons_self) hy
  | a :: x, [], t, u, hx, _, h => by
    simp only [List.nil_append, List.cons_append, List.cons.injEq] at h
    exact absurd (h.1 ▸ List.mem_cons_self) hx
  | a :: x, b :: y, t, u, hx, hy, h => by
    simp only [List.cons_append, List.cons.injEq] at h
    obtain ⟨e1, e2⟩ := app_c_inj (fun q => hx (.tail _ q)) (fun q => hy (.tail _ q)) h.2
    exact ⟨by rw [h.1, e1], e2⟩
theorem jn_inj {c : Nat} : ∀ {a b : List (List Nat)}, a ≠ [] → b ≠ [] → (∀ x ∈ a, c ∉ x) → (∀ x ∈ b, c ∉ x) → jn [c] a = jn [c] b → a = b
  | [], _, h, _, _, _, _ => absurd rfl h
  | _, [], _, h, _, _, _ => absurd rfl h
  | [x], [y], _, _, _, _, h => by simpa [jn] using h
  | [x], y :: z :: r, _, _, ha, _, h => by
    have e : x = y ++ [c] ++ jn [c] (z :: r) := h
    exact absurd (by rw [e]; simp) (ha x (.head _))
  | x :: z :: r, [y], _, _, _, hb, h => by
    have e : x ++ [c] ++ jn [c] (z :: r) = y := h
    exact absurd (by rw [← e]; simp) (hb y (.head _))
  | x :: z :: r, y :: z' :: r', _, _, ha, hb, h => by
    have e : x ++ [c] ++ jn [c] (z :: r) = y ++ [c] ++ jn [c] (z' :: r') := h
    simp only [List.append_assoc, List.singleton_append] at e
    obtain ⟨e1, e2⟩ := app_c_inj (ha x (.head _)) (hb y (.head _)) e
    have := jn_inj (by simp) (by simp) (fun q hq => ha q (.tail _ hq)) (fun q hq => hb q (.tail _ hq)) e2
    rw [e1, this]
theorem split_ne (x y : Str) : Txt.split x y ≠ [] := by
  unfold Txt.split
  split
  · simp
  · split
    · simp
    · rw [StrLaws.partsBetween_eq]
      obtain ⟨p, r, e⟩ := StrLaws.partsFrom_ne x y.length 0 (Builtin.Str.occurrences x y 0 x.length (x.length + 1))
      rw [e]; simp
theorem split_list {x : Str} {c : Nat} {l : List (List Nat)} (hx : x.cps.toList = jn [c] l) (hl : l ≠ []) (hf : ∀ u ∈ l, c ∉ u) : (Txt.split x ⟨#[c]⟩).map (fun z => z.cps.toList) = l := by
  have h1 := StrLaws.join_split x ⟨#[c]⟩
  have h2 := sjoin_list ⟨#[c]⟩ (Txt.split x ⟨#[c]⟩)
  rw [h1, hx] at h2
  refine (jn_inj (c := c) hl (by simpa using split_ne x ⟨#[c]⟩) hf (fun u hu => ?_) h2).symm
  obtain ⟨p, hp, rfl⟩ := List.mem_map.mp hu
  exact StrLaws.split_free x c p hp
theorem replace_list {x z : Str} {c : Nat} {l : List (List Nat)} (hx : x.cps.toList = jn [c] l) (hl : l ≠ []) (hf : ∀ u ∈ l, c ∉ u) : (Txt.replace x ⟨#[c]⟩ z).cps.toList = jn z.cps.toList l := by
  rw [StrLaws.replace_one, sjoin_list, split_list hx hl hf]
def na (a b : Nat) : List Nat → Prop
  | [] => True
  | [_] => True
  | x :: y :: r => ¬ (x = a ∧ y = b) ∧ na a b (y :: r)
theorem na_not {a b : Nat} : ∀ {l : List Nat}, ¬ (a ∈ l ∧ b ∈ l) → na a b l
  | [], _ => trivial
  | [_], _ => trivial
  | x :: y :: r, h => ⟨fun q => h ⟨by simp [q.1], by simp [q.2]⟩, na_not fun q => h ⟨.tail _ q.1, .tail _ q.2⟩⟩
theorem na_app {a b : Nat} : ∀ {p q : List Nat}, na a b p → na a b q → (∀ x ∈ p.getLast?, ∀ y ∈ q.head?, ¬ (x = a ∧ y = b)) → na a b (p ++ q)
  | [], q, _, h, _ => h
  | [x], [], _, _, _ => trivial
  | [x], y :: r, _, h, k => ⟨k x (by simp) y (by simp), h⟩
  | x :: y :: r, q, hp, hq, k => ⟨hp.1, na_app (p := y :: r) hp.2 hq fun z hz => k z (by simpa using hz)⟩
theorem na_mid {a b : Nat} : ∀ {p q : List Nat}, ¬ na a b (p ++ a :: b :: q)
  | [], q, h => h.1 ⟨rfl, rfl⟩
  | [x], q, h => na_mid (p := []) h.2
  | x :: y :: r, q, h => na_mid (p := y :: r) h.2
theorem na_jn {a b c : Nat} : ∀ {l : List (List Nat)}, (∀ x ∈ l, x ≠ [] ∧ na a b x ∧ (∀ y ∈ x.getLast?, ¬ (y = a ∧ c = b)) ∧ ∀ y ∈ x.head?, ¬ (c = a ∧ y = b)) → na a b (jn [c] l)
  | [], _ => trivial
  | [x], h => (h x (.head _)).2.1
  | x :: y :: r, h => by
    show na a b (x ++ [c] ++ jn [c] (y :: r))
    have hy := h y (.tail _ (.head _))
    have hd : (jn [c] (y :: r)).head? = y.head? := by
      obtain ⟨d, t, e⟩ := List.exists_cons_of_ne_nil hy.1
      cases r <;> simp [jn, e]
    refine na_app (na_app (h x (.head _)).2.1 trivial fun z hz u hu => ?_) (na_jn fun z hz => h z (.tail _ hz)) fun z hz u hu => ?_
    · simp at hu; subst hu; exact (h x (.head _)).2.2.1 z hz
    · simp at hz; subst hz; rw [hd] at hu; exact hy.2.2.2 u hu
theorem occ_nil {x y : Str} {a b : Nat} {p q : List Nat} {lim : Nat} (hy : y.cps.toList = p ++ a :: b :: q) (hx : na a b x.cps.toList) : Builtin.Str.occurrences x y 0 x.length lim = [] := by
  obtain ⟨f, h⟩ := StrLaws.occ_chain x y lim
  cases ho : Builtin.Str.occurrences x y 0 x.length lim with
  | nil => rfl
  | cons i r =>
    rw [ho] at h
    have hA := h.2.1.2
    rw [StrLaws.subAt_eq] at hA
    have e := eq_of_beq hA
    have e2 : x.cps.toList = x.cps.toList.take i ++ ((x.cps.toList.drop i).take y.length ++ (x.cps.toList.drop i).drop y.length) := by
      rw [List.take_append_drop, List.take_append_drop]
    rw [e, hy] at e2
    rw [e2] at hx
    refine absurd hx ?_
    have : List.take i x.cps.toList ++ (p ++ a :: b :: q ++ List.drop y.length (List.drop i x.cps.toList)) = (List.take i x.cps.toList ++ p) ++ a :: b :: (q ++ List.drop y.length (List.drop i x.cps.toList)) := by simp
    rw [this]
    exact na_mid
theorem replace_same {x y z : Str} (h : Builtin.Str.occurrences x y 0 x.length (x.length + 1) = []) : Txt.replace x y z = x := by
  unfold Txt.replace
  rw [h]; rfl
theorem str_of_list {x : Str} {l : List Nat} (h : x.cps.toList = l) : x = ⟨l.toArray⟩ := StrLaws.mk_of_toList h
theorem tw_nil {p : Nat → Bool} {l : List Nat} (h : ∀ y ∈ l.head?, p y = false) : l.takeWhile p = [] := by
  cases l with
  | nil => rfl
  | cons y r => simp [h y (by simp)]
theorem strip_list {x : Str} {pre mid : List Nat} (hx : x.cps.toList = pre ++ mid) (hp : ∀ c ∈ pre, Unicode.isSpace c = true) (h1 : ∀ y ∈ mid.head?, Unicode.isSpace y = false) (h2 : ∀ y ∈ mid.getLast?, Unicode.isSpace y = false) (hm : mid ≠ []) : (Txt.strip x).cps.toList = mid := by
  have hlen : x.length = pre.length + mid.length := by
    show x.cps.size = _
    rw [← Array.length_toList, hx, List.length_append]
  have hlo : PySem.stripLo Unicode.isSpace true x = pre.length := by
    unfold PySem.stripLo
    rw [if_pos rfl, hx]
    have : ∀ (q : List Nat), (∀ c ∈ q, Unicode.isSpace c = true) → (List.takeWhile Unicode.isSpace (q ++ mid)).length = q.length := by
      intro q
      induction q with
      | nil => intro _; rw [List.nil_append, tw_nil h1]
      | cons c q ih => intro hq; rw [List.cons_append, List.takeWhile_cons, hq c (.head _)]; simp [ih fun d hd => hq d (.tail _ hd)]
    exact this pre hp
  have hhi : PySem.stripHi Unicode.isSpace true x pre.length = x.length := by
    unfold PySem.stripHi
    rw [if_pos rfl, hx, List.drop_left]
    rw [tw_nil (l := mid.reverse) (by rw [List.head?_reverse]; exact h2)]
    rfl
  unfold Txt.strip Txt.stripBy
  split
  · rename_i hs
    unfold PySem.stripSame at hs
    rw [hlo, hhi] at hs
    have : pre.length = 0 := by simp at hs; simp [hs]
    rw [hx, List.length_eq_zero_iff.mp this]; rfl
  · unfold PySem.stripped
    rw [hlo, hhi, StrLaws.strSub_toList, hx, List.drop_left]
    exact List.take_of_length_le (by omega)
end Mine
namespace Mine
section
variable {O : OsState} {w : World} {A : Around} {E : Value → Shared → Prop} {s : Shared} {g : Heap} {f : Addr} {m : Str → Option Value} {L : List (Addr × Obj)} {env : Env}
theorem g_filter (w : World) : nsLook (Str.ofString "filter") (o3 w) = pure none ∧ nsLook (Str.ofString "filter") (o0 w) = pure (some (.type "filter")) := ⟨by kernel_rfl, by kernel_rfl⟩
theorem g_len' (w : World) : nsLook (Str.ofString "len") (o3 w) = pure none ∧ nsLook (Str.ofString "len") (o0 w) = pure (some (.builtin "len")) := ⟨by kernel_rfl, by kernel_rfl⟩
theorem strip_elt {x : Str} {t : Tok} {p1 p2 p3 : Pos} (hn : s.heap.Ns env.locals m) (hv : m (Str.ofString "x") = some (.str x t)) (hx : x.length < 1000000) (hk : env.scope.kind = .function) (hl : env.kindOf (Str.ofString "x") = some .local) (hline : (p2.endLine == p3.line) = true) :
    wpAny (model prog w) A (eval (.Call (.Attribute (.Name (Str.ofString "x") p1) (Str.ofString "strip") p2) [] [] p3) env) (fun v s' => (∃ tk, v = .str (Txt.strip x) tk) ∧ Keeps s s') E s := by
  refine r_CallM (wpAny_Name (wpAny_loadName_local hk hl hn hv ?_)) rfl rfl hline
  with_reducible refine gm_strip ?_
  refine Calls.callWith_builtin rfl (r_args0 ?_)
  exact SC.strip (fun t' k => ⟨⟨_, rfl⟩, ⟨_, _, rfl, fun _ _ e => e⟩⟩) (by unfold sizeLine; omega)
/-- the generator over the arguments that are not empty -/
theorem gen_filt {T : Addr} {items : List (Str × Tok)} {p1 p2 p3 p4 p5 p6 p7 p8 pos : Pos} {scope : Scope} {Q : Value → Shared → Prop} {bs : List (Str × Value)}
    (S : St O w g f (fun y => bs.lookup y) ((T, tupO (strValues items)) :: L) s.heap s.os s.gens) (r : Rm 3 A) (hit : ∀ x ∈ items, x.1.length ≠ 0 ∧ x.1.length < 1000000) (hv : bs.lookup (Str.ofString "args") = some (.ref T))
    (he : env.locals = f) (hk : env.scope.kind = .function) (hl : env.kindOf (Str.ofString "args") = some .local) (hl1 : env.kindOf (Str.ofString "filter") = some .globalImplicit) (hl2 : env.kindOf (Str.ofString "len") = some .globalImplicit) (hg : env.globals = 3) (hb : env.builtins = 0) (hc : env.code = .ref 210)
    (hco : scope.isCoroutine = false) (hclos : closureFor scope env = pure []) (hcell : ∀ y ∈ scope.names, y.2 ≠ .cell) (h0 : scope.names.lookup (Str.ofString ".0") = some NameKind.local)
    (hxa : scope.names.lookup (Str.ofString "x") = some .local) (hkind : scope.kind = .function) (hline : (p2.endLine == p3.line) = true)
    (hgo : ∀ a s₂ wr fp G Z, WalksS prog w A.in4 a fp wr G items.length (fun k y => ∃ tk x, items[k]? = some x ∧ y = .str (Txt.strip x.1) tk) Z → Z 0 s₂ → (∀ b ∈ fp, b < s₂.heap.objs.size) → a ∈ fp → (∀ k s', Z k s' → s'.TypeIs (.ref a) "generator") →
      (∀ s' : Shared, (∀ b o, b ∉ wr → s₂.heap.get? b = some o → s'.heap.get? b = some o) → s'.os = s₂.os → G s₂.gens s'.gens → St O w g f (fun y => bs.lookup y) ((T, tupO (strValues items)) :: L) s'.heap s'.os s'.gens) → Q (.ref a) s₂) :
    wpAny (model prog w) A (eval (.GeneratorExp (.Call (.Attribute (.Name (Str.ofString "x") p1) (Str.ofString "strip") p2) [] [] p3) [⟨.Name (Str.ofString "x") p4, .Call (.Name (Str.ofString "filter") p5) [.Name (Str.ofString "len") p6, .Name (Str.ofString "args") p7] [] p8, [], 0⟩] scope pos) env) Q E s := by
  refine wpAny_GeneratorExp_walksQ r.hd hco hclos hcell h0 hxa hkind r.room ?_ (fun _ => rfl)
  refine wpAny_Call_NameR (r_builtin S (g_filter w).1 (g_filter w).2 ?_ hg hb hk hl1)
  refine r_callT rfl (r_args1 (r_builtin S (g_len' w).1 (g_len' w).2 ?_ hg hb hk hl2))
  refine r_item (r_local S hv ?_ he hk hl)
  refine r_item0 ?_
  refine f_new S (S.get 0 rfl) fun I J s2 S2 => ?_
  have hI := S2.has _ (.head _)
  have hJ := S2.has _ (.tail _ (.head _))
  have hT := S2.has _ (.tail _ (.tail _ (.head _)))
  have hIJ : I ≠ J := fun q => S2.head_off _ (.head _) q.symm
  have hTJ : T ≠ J := S2.tail.head_off _ (.head _)
  have hsz : (strValues items).toArray.size = items.length := by simp [strValues]
  have W0 : ∀ A' : Around, A'.handled = none → Walks prog w A' I [I, J, T] [J] (strValues items).toArray.size (fun i v => (strValues items).toArray[i]? = some v) (fun i h => h.get? I = some (fiO J) ∧ h.IsTupleIter J T i ∧ h.IsTuple T (strValues items).toArray) := fun A' hA =>
    walk_filter hA I J T hIJ hTJ (strValues items).toArray fun i hi => by
      have hi' : i < items.length := hsz ▸ hi
      exact ⟨items[i].1, items[i].2, by simp [strValues, hi'], hit _ (List.getElem_mem hi')⟩
  have hst : ∀ h : Heap, (∀ b o, s2.heap.get? b = some o → h.get? b = some o) → h.get? I = some (fiO J) ∧ h.IsTupleIter J T 0 ∧ h.IsTuple T (strValues items).toArray := fun h k => ⟨k _ _ hI.1, ⟨_, k _ _ hJ.1, rfl, rfl⟩, ⟨_, k _ _ hT.1, rfl, _, rfl⟩⟩
  refine (W0 A r.hd).self 0 s2 _ _ (hst _ fun _ _ e => e) ?_
  refine ⟨S2.lim, ?_⟩
  obtain ⟨psT, hok, htab⟩ := S2.tb.t3
  refine gen_code hc hok htab fun code h3 tk psT' he' hok' htab' => ?_
  have S3 := S2.code he' hok' htab' (.inr (.inr ⟨rfl, rfl⟩))
  rw [hg, hb]
  refine bi_for (s := { s2 with heap := h3, toks := tk }) S3 ?_
  have hI3 := S3.has _ (.head _)
  have hJ3 := S3.has _ (.tail _ (.head _))
  have hT3 := S3.has _ (.tail _ (.tail _ (.head _)))
  refine ⟨I, _, _, _, _, _, fun _ => true, (fun k y => ∃ tk x, items[k]? = some x ∧ y = .str (Txt.strip x.1) tk), rfl, W0, ⟨hI3.1, ⟨_, hJ3.1, rfl, rfl⟩, ⟨_, hT3.1, rfl, _, rfl⟩⟩, ?hfp, S3.lim, ?hcs, ?hq, ?hgo⟩
  case hfp =>
    intro b hb
    simp at hb
    rcases hb with rfl | rfl | rfl
    · exact Heap.lt_size hI3.1
    · exact Heap.lt_size hJ3.1
    · exact Heap.lt_size hT3.1
  case hcs =>
    intro q
    have z : 245 < J := hJ3.2.2.1
    rw [← List.mem_singleton.mp q] at z
    exact absurd z (by decide)
  case hq =>
    intro href hk'
    refine ⟨fun A'' E' k v s5 m5 _ _ _ _ _ => wpAny_pure ⟨rfl, ⟨_, _, rfl, fun _ _ e => e⟩⟩, fun A'' E' k v s5 m5 _ hP _ hn ha hkeep => ?_⟩
    have hk1 : k < items.length := by
      have := (Array.getElem?_eq_some_iff.mp hP).1
      rwa [hsz] at this
    have ev : v = .str items[k].1 items[k].2 := by
      have e : (strValues items).toArray[k]? = some (.str items[k].1 items[k].2) := by simp [strValues, hk1]
      exact Option.some.inj (hP.symm.trans e)
    subst ev
    refine wpAny_mono (strip_elt hn ha (hit _ (List.getElem_mem hk1)).2 hkind hxa hline) (fun v s' z => ⟨?_, z.2⟩) fun _ _ e => e
    obtain ⟨⟨tk, e⟩, _⟩ := z
    exact ⟨tk, items[k], by simp [hk1], e⟩
  case hgo =>
    intro a h5 tk5 gs hgb hlt hsz5 hk5 W G0
    have S5 : St O w g f (fun y => bs.lookup y) _ h5 s2.os (s2.gens.push gs) := (S3.keeps hk5).regen rfl (AllBare.push S3.tb.bare hgb)
    refine hgo a { s2 with heap := h5, toks := tk5, gens := s2.gens.push gs } _ _ _ _ (walk_cast W (by rw [passing_all, List.length_range, hsz]) ?_) G0 ?_ (.head _) ?_ fun s' hk' ho' hG' => ?_
    · rintro q v ⟨k, e, ev⟩
      rw [passing_all] at e
      have this := range_at e
      subst this
      exact ev
    · intro b hb
      show b < h5.objs.size
      rw [hsz5]
      rcases List.mem_cons.mp hb with rfl | hb
      · exact Nat.lt_succ_self _
      rcases List.mem_cons.mp hb with rfl | hb
      · exact Nat.lt_succ_of_lt hlt
      · exact Nat.lt_succ_of_lt (Nat.lt_trans (List.mem_range.mp hb) hlt)
    · intro k s' hT'
      obtain ⟨o, x, y, ho, hc, _⟩ := hT'.1
      exact ⟨o, ho, hc⟩
    · refine St.regen (S5.tail.tail.moved hk' fun b hb => ?_) ho' (AllBare.moved (AllBare.push S3.tb.bare hgb) hG')
      rcases List.mem_cons.mp hb with rfl | hb
      · refine ⟨S3.gnone (get_size h3), Nat.lt_trans S3.fbig S3.fsz, Nat.ne_of_gt S3.fsz, fun p hp => Nat.ne_of_lt (Heap.lt_size (S3.has p (.tail _ (.tail _ hp))).1)⟩
      · rw [List.mem_singleton.mp hb]
        exact ⟨hJ3.2.1, hJ3.2.2.1, hJ3.2.2.2, fun p hp => S3.tail.head_off p hp⟩
end
end Mine
namespace Mine
theorem jn_mem {sep : List Nat} {c : Nat} : ∀ {l : List (List Nat)}, c ∈ jn sep l → c ∈ sep ∨ ∃ u ∈ l, c ∈ u
  | [], h => nomatch h
  | [x], h => .inr ⟨x, .head _, h⟩
  | x :: y :: r, h => by
    have h' : c ∈ x ++ sep ++ jn sep (y :: r) := h
    rcases List.mem_append.mp h' with h' | h'
    · rcases List.mem_append.mp h' with h' | h'
      · exact .inr ⟨x, .head _, h'⟩
      · exact .inl h'
    · rcases jn_mem h' with h' | ⟨u, hu, h'⟩
      · exact .inl h'
      · exact .inr ⟨u, .tail _ hu, h'⟩
theorem jn_head {sep : List Nat} : ∀ {l : List (List Nat)}, (∀ u ∈ l, u ≠ []) → ∀ y ∈ (jn sep l).head?, ∃ u ∈ l, y ∈ u.head?
  | [], _, y, h => by simp [jn] at h
  | [x], _, y, h => ⟨x, .head _, h⟩
  | x :: z :: r, hne, y, h => by
    obtain ⟨d, t, e⟩ := List.exists_cons_of_ne_nil (hne x (.head _))
    refine ⟨x, .head _, ?_⟩
    subst e
    simpa [jn] using h
theorem jn_ne {sep : List Nat} : ∀ {l : List (List Nat)}, l ≠ [] → (∀ u ∈ l, u ≠ []) → jn sep l ≠ []
  | [], h, _ => absurd rfl h
  | [x], _, h => h x (.head _)
  | x :: z :: r, _, h => by
    intro e
    have e' : x ++ sep ++ jn sep (z :: r) = [] := e
    simp at e'
    exact h x (.head _) e'.1
theorem jn_last {sep : List Nat} : ∀ {l : List (List Nat)}, (∀ u ∈ l, u ≠ []) → ∀ y ∈ (jn sep l).getLast?, ∃ u ∈ l, y ∈ u.getLast?
  | [], _, y, h => by simp [jn] at h
  | [x], _, y, h => ⟨x, .head _, h⟩
  | x :: z :: r, hne, y, h => by
    have h' : y ∈ (x ++ sep ++ jn sep (z :: r)).getLast? := h
    have hn : jn sep (z :: r) ≠ [] := jn_ne (by simp) fun u hu => hne u (.tail _ hu)
    have e : (x ++ sep ++ jn sep (z :: r)).getLast? = (jn sep (z :: r)).getLast? := by
      rw [List.getLast?_append]
      cases q : (jn sep (z :: r)).getLast? with
      | none => exact absurd (List.getLast?_eq_none_iff.mp q) hn
      | some v => rfl
    rw [e] at h'
    obtain ⟨u, hu, e⟩ := jn_last (fun u hu => hne u (.tail _ hu)) y h'
    exact ⟨u, .tail _ hu, e⟩
theorem map_jn (f : Nat → Nat) {sep : List Nat} : ∀ {l : List (List Nat)}, (jn sep l).map f = jn (sep.map f) (l.map (List.map f))
  | [] => rfl
  | [x] => rfl
  | x :: y :: r => by
    show (x ++ sep ++ jn sep (y :: r)).map f = x.map f ++ sep.map f ++ jn (sep.map f) ((y :: r).map (List.map f))
    rw [List.map_append, List.map_append, map_jn f]
def sw (c d k : Nat) : Nat := if k = c then d else k
theorem sw_free {c d : Nat} {u : List Nat} (h : c ∉ u) : u.map (sw c d) = u := by
  conv => rhs; rw [← List.map_id u]
  apply List.map_congr_left
  intro k hk
  unfold sw
  rw [if_neg]
  · rfl
  · rintro rfl; exact h hk
theorem rep_map (x : Str) (c d : Nat) : (Txt.replace x ⟨#[c]⟩ ⟨#[d]⟩).cps.toList = x.cps.toList.map (sw c d) := by
  have h1 := StrLaws.join_split x ⟨#[c]⟩
  have h2 := sjoin_list ⟨#[c]⟩ (Txt.split x ⟨#[c]⟩)
  rw [h1] at h2
  rw [StrLaws.replace_one, sjoin_list, h2, map_jn]
  have e : List.map (List.map (sw c d)) (List.map (fun z : Str => z.cps.toList) (Txt.split x ⟨#[c]⟩)) = List.map (fun z : Str => z.cps.toList) (Txt.split x ⟨#[c]⟩) := by
    rw [List.map_map]
    apply List.map_congr_left
    intro p hp
    exact sw_free (StrLaws.split_free x c p hp)
  rw [e]
  congr 1
  simp [sw]
theorem occ_one {x : Str} {c lim : Nat} (h : c ∉ x.cps.toList) : Builtin.Str.occurrences x ⟨#[c]⟩ 0 x.length lim = [] := by
  obtain ⟨f, hc⟩ := StrLaws.occ_chain x ⟨#[c]⟩ lim
  cases ho : Builtin.Str.occurrences x ⟨#[c]⟩ 0 x.length lim with
  | nil => rfl
  | cons i r =>
    rw [ho] at hc
    exact absurd (List.mem_of_getElem? ((StrLaws.subAt_one x c i).mp hc.2.1)) h
def okU (u : List Nat) : Prop := okL u ∧ ¬ (117 ∈ u ∧ 110 ∈ u)
def okG (gs : List (List (List Nat))) : Prop := gs ≠ [] ∧ ∀ g ∈ gs, g ≠ [] ∧ ∀ u ∈ g, okU u
/-- the name that is made of the lines -/
def pname (gs : List (List (List Nat))) : List Nat := jn [45] (gs.map (jn [95]))
theorem okG.part {gs : List (List (List Nat))} (h : okG gs) {sep : List Nat} : ∀ x ∈ gs.map (jn sep), x ≠ [] ∧ (∀ c ∈ x, c ∈ sep ∨ (97 ≤ c ∧ c ≤ 122)) ∧ (∀ y ∈ x.head?, 97 ≤ y ∧ y ≤ 122) ∧ ∀ y ∈ x.getLast?, 97 ≤ y ∧ y ≤ 122 := by
  intro x hx
  obtain ⟨g, hg, rfl⟩ := List.mem_map.mp hx
  have z := h.2 g hg
  have ne : ∀ u ∈ g, u ≠ [] := fun u hu => (z.2 u hu).1.1
  refine ⟨jn_ne z.1 ne, fun c hc => ?_, fun y hy => ?_, fun y hy => ?_⟩
  · rcases jn_mem hc with hc | ⟨u, hu, hc⟩
    · exact .inl hc
    · exact .inr ((z.2 u hu).1.2 c hc)
  · obtain ⟨u, hu, e⟩ := jn_head ne y hy
    exact (z.2 u hu).1.2 y (List.mem_of_mem_head? e)
  · obtain ⟨u, hu, e⟩ := jn_last ne y hy
    exact (z.2 u hu).1.2 y (List.mem_of_mem_getLast? e)
theorem pname_mem {gs : List (List (List Nat))} (h : okG gs) {c : Nat} (hc : c ∈ pname gs) : c = 45 ∨ c = 95 ∨ (97 ≤ c ∧ c ≤ 122) := by
  rcases jn_mem hc with hc | ⟨x, hx, hc⟩
  · simp at hc; exact .inl hc
  · rcases (h.part x hx).2.1 c hc with hc | hc
    · simp at hc; exact .inr (.inl hc)
    · exact .inr (.inr hc)
theorem pname_ne {gs : List (List (List Nat))} (h : okG gs) : pname gs ≠ [] := jn_ne (by simpa using h.1) fun x hx => (h.part x hx).1
theorem pname_last {gs : List (List (List Nat))} (h : okG gs) : ∀ y ∈ (pname gs).getLast?, 97 ≤ y ∧ y ≤ 122 := fun y hy => by
  obtain ⟨x, hx, e⟩ := jn_last (fun x hx => (h.part x hx).1) y hy
  exact (h.part x hx).2.2.2 y e
theorem pname_dash {gs : List (List (List Nat))} (h : okG gs) : na 45 45 (pname gs) := by
  refine na_jn fun x hx => ?_
  have z := h.part x hx
  refine ⟨z.1, na_not fun q => ?_, fun y hy q => ?_, fun y hy q => ?_⟩
  · rcases z.2.1 45 q.1 with q | q
    · simp at q
    · omega
  · have := z.2.2.2 y hy; omega
  · have := z.2.2.1 y hy; omega
theorem pname_un {gs : List (List (List Nat))} (h : okG gs) : na 117 110 (pname gs) := by
  refine na_jn fun x hx => ?_
  have z := h.part x hx
  refine ⟨z.1, ?_, fun y hy q => by omega, fun y hy q => by omega⟩
  obtain ⟨g, hg, rfl⟩ := List.mem_map.mp hx
  refine na_jn fun u hu => ?_
  have y := (h.2 g hg).2 u hu
  exact ⟨y.1.1, na_not y.2, fun y hy q => by omega, fun y hy q => by omega⟩
/-- the blanks become underscores -/
theorem pname_sw {gs : List (List (List Nat))} (h : okG gs) : (jn [45] (gs.map (jn [32]))).map (sw 32 95) = pname gs := by
  rw [map_jn, List.map_map]
  unfold pname
  have e1 : List.map (sw 32 95) [45] = [45] := by decide
  rw [e1]
  congr 1
  apply List.map_congr_left
  intro g hg
  show (jn [32] g).map (sw 32 95) = _
  rw [map_jn]
  have e2 : List.map (sw 32 95) [32] = [95] := by decide
  rw [e2]
  congr 1
  conv => rhs; rw [← List.map_id g]
  apply List.map_congr_left
  intro u hu
  refine sw_free fun q => ?_
  have := ((h.2 g hg).2 u hu).1.2 32 q
  omega
end Mine
namespace Mine
section
variable {O : OsState} {w : World} {A : Around} {E : Value → Shared → Prop} {s : Shared} {g : Heap} {f : Addr} {m : Str → Option Value} {L : List (Addr × Obj)} {env : Env}
/-- x.replace(y, z) where y does not occur -/
theorem c_repno {x y z : Str} {t u v : Tok} {Q : Value → Shared → Prop} (hx : Builtin.Str.occurrences x y 0 x.length (x.length + 1) = []) (h : Q (.str x t) s) : wpAny (model prog w) A (call (.builtin "str.replace") [.str x t, .str y u, .str z v]) Q E s := by
  refine call_gives F.slot_str_replace (typeIs_str _ _ _) F.entry_str_replace (F.args_str_replace_3 _ _ _) (gives_str_replace x y z t u v fun q => ?_) ?_
  · rw [hx] at q; exact absurd q (by simp)
  · rw [hx]; exact h
theorem r_repno {nm x y z : Str} {t : Tok} {p1 p2 p3 p4 p5 p6 p7 : Pos} {k1 k2 : Nat} {bs : List (Str × Value)} {Q : Flow → Shared → Prop} (S : St O w g f (fun z => bs.lookup z) L s.heap s.os s.gens) (hv : bs.lookup (Str.ofString "platform") = some (.str x t))
    (hx : Builtin.Str.occurrences x y 0 x.length (x.length + 1) = []) (h : ∀ s', St O w g f (fun z => ((nm, .str x t) :: bs).lookup z) L s'.heap s'.os s'.gens → Q .next s')
    (he : env.locals = f := by rfl) (hk : env.scope.kind = .function := by rfl) (hl : env.kindOf (Str.ofString "platform") = some .local := by rfl) (hl' : env.kindOf nm = some .local := by rfl) (hline : (p2.endLine == p5.line) = true := by rfl) :
    wpAny (model prog w) A (exec (.Assign [.Name nm p6] (.Call (.Attribute (.Name (Str.ofString "platform") p1) (Str.ofString "replace") p2) [.Constant (.str y) k1 p3, .Constant (.str z) k2 p4] [] p5) p7) env) Q E s := by
  refine wpAny_Assign_Name ?_
  refine r_CallM (r_local S hv ?_ he hk hl) rfl rfl hline
  with_reducible refine gm_replace ?_
  refine Calls.callWith_builtin rfl (r_args1 (s_str S fun t1 s1 S1 => r_item (s_str S1 fun t2 s2 S2 => r_item0 ?_)))
  refine c_repno hx ?_
  exact r_store S2 (fun s3 S3 => h _ S3) he hk hl'
theorem strip_items {l : List (Str × Tok)} {items : List (Str × Tok)} (h : ItemsOf (fun k y => ∃ tk x, items[k]? = some x ∧ y = Value.str (Txt.strip x.1) tk) (strValues l).toArray items.length) : l.map (·.1) = items.map fun z => Txt.strip z.1 := by
  have hl : l.length = items.length := by have := h.1; simpa [strValues] using this
  apply List.ext_getElem?
  intro k
  by_cases hk : k < items.length
  · have hk' : k < l.length := by omega
    obtain ⟨tk, x, ex, e⟩ := h.2 k (.str l[k].1 l[k].2) (by simp [strValues, hk'])
    injection e with e _
    simp only [List.getElem?_map, List.getElem?_eq_getElem hk, List.getElem?_eq_getElem hk', Option.map_some]
    rw [List.getElem?_eq_getElem hk] at ex
    injection ex with ex
    rw [e, ex]
  · rw [List.getElem?_eq_none (by rw [List.length_map]; omega), List.getElem?_eq_none (by rw [List.length_map]; omega)]
def lineL (k : Nat) (g : List (List Nat)) : List Nat := if k = 0 then jn [32] g else 32 :: jn [32] g
/-- what the lines are -/
structure LinesAre (lns : List (Str × Tok)) (gs : List (List (List Nat))) : Prop where
  ok : okG gs
  len : lns.length = gs.length
  at' : ∀ k (x : Str × Tok) g, lns[k]? = some x → gs[k]? = some g → x.1.cps.toList = lineL k g
  sz : (lns.map fun x => x.1.length + 1).sum < 100000
theorem LinesAre.strip {lns : List (Str × Tok)} {gs : List (List (List Nat))} (h : LinesAre lns gs) : (lns.map fun z => Txt.strip z.1).map (fun z => z.cps.toList) = gs.map (jn [32]) := by
  apply List.ext_getElem?
  intro k
  by_cases hk : k < gs.length
  · have hk' : k < lns.length := by rw [h.len]; exact hk
    simp only [List.getElem?_map, List.getElem?_eq_getElem hk, List.getElem?_eq_getElem hk', Option.map_some, Option.some.injEq]
    have e := h.at' k lns[k] gs[k] (by simp [hk']) (by simp [hk])
    have z := h.ok.part (sep := [32]) (jn [32] gs[k]) (List.mem_map_of_mem (List.getElem_mem hk))
    refine strip_list (pre := if k = 0 then [] else [32]) ?_ ?_ ?_ ?_ z.1
    · rw [e]; unfold lineL; split <;> rfl
    · intro c hc
      split at hc
      · exact nomatch hc
      · simp at hc; subst hc; decide +kernel
    · intro y hy; exact space_no (z.2.2.1 y hy).1 (z.2.2.1 y hy).2
    · intro y hy; exact space_no (z.2.2.2 y hy).1 (z.2.2.2 y hy).2
  · rw [List.getElem?_eq_none (by simp; rw [h.len]; omega), List.getElem?_eq_none (by simp; omega)]
theorem strip_len (x : Str) : (Txt.strip x).length ≤ x.length := by
  unfold Txt.strip Txt.stripBy
  split
  · exact Nat.le_refl _
  · show (Builtin.Str.strSub x _ _).cps.size ≤ x.cps.size
    rw [← Array.length_toList, StrLaws.strSub_toList, List.length_take, List.length_drop, Array.length_toList]
    omega
theorem sum_strip : ∀ l : List (Str × Tok), ((l.map fun z => Txt.strip z.1).map (·.length)).sum + (l.map fun z => Txt.strip z.1).length * 1 ≤ (l.map fun x => x.1.length + 1).sum
  | [] => by simp
  | a :: l => by
    have := sum_strip l
    have := strip_len a.1
    simp only [List.map_cons, List.sum_cons, List.length_cons] at *
    omega
end
end Mine
namespace Mine
def lmin : List Int → Int
  | [] => 0
  | [x] => x
  | x :: y :: r => min x (lmin (y :: r))
def lmax : List Int → Int
  | [] => 0
  | [x] => x
  | x :: y :: r => max x (lmax (y :: r))
theorem lmin_mem : ∀ {l : List Int}, l ≠ [] → lmin l ∈ l
  | [], h => absurd rfl h
  | [x], _ => by simp [lmin]
  | x :: y :: r, _ => by
    have ih := lmin_mem (l := y :: r) (by simp)
    show min x (lmin (y :: r)) ∈ _
    rcases Int.le_total x (lmin (y :: r)) with h | h
    · rw [Int.min_eq_left h]; exact .head _
    · rw [Int.min_eq_right h]; exact .tail _ ih
theorem lmin_le : ∀ {l : List Int} {a : Int}, a ∈ l → lmin l ≤ a
  | [x], a, h => by simp at h; subst h; exact Int.le_refl _
  | x :: y :: r, a, h => by
    show min x (lmin (y :: r)) ≤ a
    rcases List.mem_cons.mp h with rfl | h
    · exact Int.min_le_left _ _
    · exact Int.le_trans (Int.min_le_right _ _) (lmin_le h)
theorem lmin_eq {l : List Int} {m : Int} (h : m ∈ l) (h' : ∀ a, a ∈ l → m ≤ a) : m = lmin l :=
  Int.le_antisymm (h' _ (lmin_mem (List.ne_nil_of_mem h))) (lmin_le h)
theorem lmax_mem : ∀ {l : List Int}, l ≠ [] → lmax l ∈ l
  | [], h => absurd rfl h
  | [x], _ => by simp [lmax]
  | x :: y :: r, _ => by
    have ih := lmax_mem (l := y :: r) (by simp)
    show max x (lmax (y :: r)) ∈ _
    rcases Int.le_total x (lmax (y :: r)) with h | h
    · rw [Int.max_eq_right h]; exact .tail _ ih
    · rw [Int.max_eq_left h]; exact .head _
theorem le_lmax : ∀ {l : List Int} {a : Int}, a ∈ l → a ≤ lmax l
  | [x], a, h => by simp at h; subst h; exact Int.le_refl _
  | x :: y :: r, a, h => by
    show a ≤ max x (lmax (y :: r))
    rcases List.mem_cons.mp h with rfl | h
    · exact Int.le_max_left _ _
    · exact Int.le_trans (le_lmax h) (Int.le_max_right _ _)
theorem lmax_eq {l : List Int} {m : Int} (h : m ∈ l) (h' : ∀ a, a ∈ l → a ≤ m) : m = lmax l :=
  Int.le_antisymm (le_lmax h) (h' _ (lmax_mem (List.ne_nil_of_mem h)))
def cands (e b : List Int) (j : Nat) : List Int := (List.range j).map (fun i => max (b.getD i 0) (e.getD j 0 - e.getD i 0)) ++ [b.getD j 0]
def nxt (e b : List Int) : List Int := (List.range e.length).map fun j => lmin (cands e b j)
def rowAt (e : List Int) : Nat → List Int
  | 0 => 0 :: List.replicate (e.length - 1) 1000000
  | k + 1 => nxt e (rowAt e k)
def tabs (e : List Int) : List (List Int) := (List.range (e.length - 1)).map fun k => rowAt e (k + 1)
def fidx (b : List Int) (W : Int) : List Int := ((List.range b.length).filter fun j => decide (b.getD j 0 ≤ W)).map Int.ofNat
def fl (e : List Int) (W : Int) : List Int := (tabs e).map fun b => lmax (fidx b W)
def far (e : List Int) (W : Int) : List Int := (fl e W).take ((fl e W).idxOf ((fl e W).getLastD 0) + 1)
theorem cands_ne (e b : List Int) (j : Nat) : cands e b j ≠ [] := by simp [cands]
theorem nxt_len (e b : List Int) : (nxt e b).length = e.length := by simp [nxt]
theorem rowAt_len {e : List Int} (h : e ≠ []) : ∀ k, (rowAt e k).length = e.length
  | 0 => by
    have := List.length_pos_iff.mpr h
    simp [rowAt]; omega
  | k + 1 => nxt_len _ _
theorem nxt_at {e b : List Int} {j : Nat} (h : j < e.length) : (nxt e b).getD j 0 = lmin (cands e b j) := by
  simp [nxt, List.getD_eq_getElem?_getD, h]
theorem nxt_le {e b : List Int} {j : Nat} {W : Int} (h : j < e.length) : (nxt e b).getD j 0 ≤ W ↔ b.getD j 0 ≤ W ∨ ∃ i, i < j ∧ b.getD i 0 ≤ W ∧ e.getD j 0 - e.getD i 0 ≤ W := by
  rw [nxt_at h]
  constructor
  · intro q
    have := lmin_mem (cands_ne e b j)
    unfold cands at this
    rcases List.mem_append.mp this with z | z
    · obtain ⟨i, hi, ei⟩ := List.mem_map.mp z
      refine .inr ⟨i, List.mem_range.mp hi, ?_⟩
      rw [show lmin (List.map (fun i => max (b.getD i 0) (e.getD j 0 - e.getD i 0)) (List.range j) ++ [b.getD j 0]) = lmin (cands e b j) from rfl] at ei
      rw [← ei] at q
      exact ⟨Int.le_trans (Int.le_max_left _ _) q, Int.le_trans (Int.le_max_right _ _) q⟩
    · rw [List.mem_singleton] at z
      rw [show lmin (List.map (fun i => max (b.getD i 0) (e.getD j 0 - e.getD i 0)) (List.range j) ++ [b.getD j 0]) = lmin (cands e b j) from rfl] at z
      rw [z] at q
      exact .inl q
  · rintro (q | ⟨i, hi, q1, q2⟩)
    · exact Int.le_trans (lmin_le (by simp [cands])) q
    · refine Int.le_trans (lmin_le (a := max (b.getD i 0) (e.getD j 0 - e.getD i 0)) ?_) (Int.max_le.mpr ⟨q1, q2⟩)
      unfold cands
      exact List.mem_append_left _ (List.mem_map.mpr ⟨i, List.mem_range.mpr hi, rfl⟩)
structure Ends (e : List Int) (n : Nat) : Prop where
  len : e.length = n + 1
  up : ∀ j, j < n → e.getD j 0 < e.getD (j + 1) 0
theorem Ends.mono {e : List Int} {n : Nat} (h : Ends e n) {i : Nat} : ∀ {j : Nat}, i ≤ j → j ≤ n → e.getD i 0 ≤ e.getD j 0
  | 0, hij, _ => by
    have : i = 0 := by omega
    subst this; exact Int.le_refl _
  | j + 1, hij, hj => by
    by_cases q : i = j + 1
    · rw [q]; exact Int.le_refl _
    · have := h.mono (i := i) (j := j) (by omega) (by omega)
      have := h.up j (by omega)
      omega
/-- the greedy ends -/
structure IsG (e : List Int) (n : Nat) (W : Int) (G : Nat → Nat) : Prop where
  zero : G 0 = 0
  le : ∀ k, G k ≤ n
  fit : ∀ k, e.getD (G (k + 1)) 0 - e.getD (G k) 0 ≤ W
  far : ∀ k j, j ≤ n → e.getD j 0 - e.getD (G k) 0 ≤ W → j ≤ G (k + 1)
theorem row0_at {e : List Int} {n : Nat} (h : Ends e n) {W : Int} (h0 : 0 ≤ W) (h1 : W < 1000000) {j : Nat} (hj : j ≤ n) : (rowAt e 0).getD j 0 ≤ W ↔ j = 0 := by
  cases j with
  | zero => simp [rowAt, h0]
  | succ j =>
    have : j < e.length - 1 := by rw [h.len]; omega
    simp only [rowAt, List.getD_cons_succ]
    rw [List.getD_eq_getElem?_getD, List.getElem?_replicate, if_pos this]
    simp; omega
theorem fit_of_row {e : List Int} {n : Nat} (h : Ends e n) {W : Int} (h0 : 0 ≤ W) (h1 : W < 1000000) : ∀ k j, j ≤ n → (rowAt e k).getD j 0 ≤ W → ∀ i, i < j → e.getD (i + 1) 0 - e.getD i 0 ≤ W
  | 0, j, hj, hr, i, hi => by
    have := (row0_at h h0 h1 hj).mp hr
    omega
  | k + 1, j, hj, hr, i, hi => by
    rcases (nxt_le (by rw [h.len]; omega)).mp hr with q | ⟨l, hl, q1, q2⟩
    · exact fit_of_row h h0 h1 k j hj q i hi
    · by_cases hil : i < l
      · exact fit_of_row h h0 h1 k l (by omega) q1 i hil
      · have a := h.mono (i := l) (j := i) (by omega) (by omega)
        have b := h.mono (i := i + 1) (j := j) (by omega) hj
        omega
/-- the greedy ends, made -/
def gmax (e : List Int) (W : Int) (s : Nat) : Nat → Nat
  | 0 => s
  | d + 1 => if e.getD (s + d + 1) 0 - e.getD s 0 ≤ W then s + d + 1 else gmax e W s d
theorem gmax_spec (e : List Int) {W : Int} (h0 : 0 ≤ W) (s : Nat) : ∀ d, s ≤ gmax e W s d ∧ gmax e W s d ≤ s + d ∧ e.getD (gmax e W s d) 0 - e.getD s 0 ≤ W ∧ ∀ j, s ≤ j → j ≤ s + d → e.getD j 0 - e.getD s 0 ≤ W → j ≤ gmax e W s d
  | 0 => ⟨Nat.le_refl _, Nat.le_refl _, by simp [gmax, h0], fun j h1 h2 _ => h2⟩
  | d + 1 => by
    have ih := gmax_spec e h0 s d
    unfold gmax
    split
    · rename_i q
      exact ⟨by omega, by omega, q, fun j _ h2 _ => h2⟩
    · rename_i q
      refine ⟨ih.1, by omega, ih.2.2.1, fun j h1 h2 h3 => ?_⟩
      by_cases e' : j = s + d + 1
      · subst e'; exact absurd h3 q
      · exact ih.2.2.2 j h1 (by omega) h3
def gr (e : List Int) (n : Nat) (W : Int) : Nat → Nat
  | 0 => 0
  | k + 1 => gmax e W (gr e n W k) (n - gr e n W k)
theorem gr_le (e : List Int) (n : Nat) {W : Int} (h0 : 0 ≤ W) : ∀ k, gr e n W k ≤ n
  | 0 => Nat.zero_le _
  | k + 1 => by
    have ih := gr_le e n h0 k
    have := (gmax_spec e h0 (gr e n W k) (n - gr e n W k)).2.1
    show gmax _ _ _ _ ≤ n
    omega
theorem gr_isG {e : List Int} {n : Nat} {W : Int} (h0 : 0 ≤ W) : IsG e n W (gr e n W) where
  zero := rfl
  le := gr_le e n h0
  fit := fun k => (gmax_spec e h0 (gr e n W k) (n - gr e n W k)).2.2.1
  far := fun k j hj q => by
    have z := gmax_spec e h0 (gr e n W k) (n - gr e n W k)
    by_cases hs : gr e n W k ≤ j
    · exact z.2.2.2 j hs (by omega) q
    · exact Nat.le_trans (by omega) z.1
theorem IsG.mono {e : List Int} {n : Nat} {W : Int} {G : Nat → Nat} (g : IsG e n W G) (h0 : 0 ≤ W) (k : Nat) : G k ≤ G (k + 1) := g.far k _ (g.le k) (by omega)
theorem IsG.monos {e : List Int} {n : Nat} {W : Int} {G : Nat → Nat} (g : IsG e n W G) (h0 : 0 ≤ W) {i : Nat} : ∀ {j : Nat}, i ≤ j → G i ≤ G j
  | 0, h => by
    have : i = 0 := by omega
    subst this; exact Nat.le_refl _
  | j + 1, h => by
    by_cases q : i = j + 1
    · rw [q]; exact Nat.le_refl _
    · exact Nat.le_trans (g.monos h0 (by omega)) (g.mono h0 j)
theorem row_iff {e : List Int} {n : Nat} (h : Ends e n) {W : Int} (h0 : 0 ≤ W) (h1 : W < 1000000) {G : Nat → Nat} (g : IsG e n W G) : ∀ k j, j ≤ n → ((rowAt e k).getD j 0 ≤ W ↔ j ≤ G k)
  | 0, j, hj => by rw [row0_at h h0 h1 hj, g.zero]; omega
  | k + 1, j, hj => by
    show (nxt e (rowAt e k)).getD j 0 ≤ W ↔ _
    rw [nxt_le (by rw [h.len]; omega), row_iff h h0 h1 g k j hj]
    constructor
    · rintro (q | ⟨i, hi, q1, q2⟩)
      · exact Nat.le_trans q (g.mono h0 k)
      · rw [row_iff h h0 h1 g k i (by omega)] at q1
        refine g.far k j hj ?_
        have := h.mono (i := i) (j := G k) q1 (g.le k)
        omega
    · intro q
      by_cases hk : j ≤ G k
      · exact .inl hk
      · refine .inr ⟨G k, by omega, ?_, ?_⟩
        · rw [row_iff h h0 h1 g k _ (g.le k)]; exact Nat.le_refl _
        · have := h.mono (i := j) (j := G (k + 1)) q (g.le _)
          have := g.fit k
          omega
theorem lmax_fidx {e : List Int} {n : Nat} (h : Ends e n) {W : Int} (h0 : 0 ≤ W) (h1 : W < 1000000) {G : Nat → Nat} (g : IsG e n W G) (k : Nat) : lmax (fidx (rowAt e k) W) = (G k : Int) := by
  have hl : (rowAt e k).length = n + 1 := by rw [rowAt_len (by intro q; have := h.len; rw [q] at this; simp at this), h.len]
  symm
  apply lmax_eq
  · unfold fidx
    refine List.mem_map.mpr ⟨G k, List.mem_filter.mpr ⟨List.mem_range.mpr ?_, ?_⟩, rfl⟩
    · rw [hl]; have := g.le k; omega
    · exact decide_eq_true ((row_iff h h0 h1 g k _ (g.le k)).mpr (Nat.le_refl _))
  · intro a ha
    obtain ⟨j, hj, rfl⟩ := List.mem_map.mp ha
    obtain ⟨hj1, hj2⟩ := List.mem_filter.mp hj
    have hj3 := List.mem_range.mp hj1
    rw [hl] at hj3
    have := (row_iff h h0 h1 g k j (by omega)).mp (of_decide_eq_true hj2)
    show (j : Int) ≤ _
    omega
theorem fl_eq {e : List Int} {n : Nat} (h : Ends e n) {W : Int} (h0 : 0 ≤ W) (h1 : W < 1000000) {G : Nat → Nat} (g : IsG e n W G) : fl e W = (List.range n).map fun k => (G (k + 1) : Int) := by
  unfold fl tabs
  rw [List.map_map, h.len]
  apply List.map_congr_left
  intro k _
  exact lmax_fidx h h0 h1 g (k + 1)
theorem G_grows {e : List Int} {n : Nat} {W : Int} (h0 : 0 ≤ W) {G : Nat → Nat} (g : IsG e n W G) (hf : ∀ i, i < n → e.getD (i + 1) 0 - e.getD i 0 ≤ W) : ∀ k, k ≤ n → k ≤ G k
  | 0, _ => Nat.zero_le _
  | k + 1, hk => by
    have ih := G_grows h0 g hf k (by omega)
    by_cases q : G k < n
    · have := g.far k (G k + 1) q (hf _ q)
      omega
    · have := g.mono h0 k
      omega
theorem far_eq {e : List Int} {n : Nat} (h : Ends e n) {W : Int} (h0 : 0 ≤ W) (h1 : W < 1000000) {G : Nat → Nat} (g : IsG e n W G) (hf : ∀ i, i < n → e.getD (i + 1) 0 - e.getD i 0 ≤ W) {m : Nat} (hm : m < n) (hlt : G m < n) (hend : G (m + 1) = n) :
    far e W = (List.range (m + 1)).map fun k => (G (k + 1) : Int) := by
  have hn : n ≤ G n := G_grows h0 g hf n (Nat.le_refl _)
  have hGn : G n = n := Nat.le_antisymm (g.le n) hn
  have hlast : (fl e W).getLastD 0 = (n : Int) := by
    rw [fl_eq h h0 h1 g]
    obtain ⟨n', rfl⟩ : ∃ n', n = n' + 1 := ⟨n - 1, by omega⟩
    rw [List.range_succ, List.map_append]
    simp [hGn]
  have hidx : (fl e W).idxOf (n : Int) = m := by
    rw [fl_eq h h0 h1 g]
    have sp : List.range n = List.range m ++ (List.range (n - m)).map (m + ·) := by
      have := List.range_add (n := m) (m := n - m)
      rw [show m + (n - m) = n by omega] at this
      simpa using this
    rw [sp, List.map_append, List.idxOf_append]
    rw [if_neg]
    · obtain ⟨d, hd⟩ : ∃ d, n - m = d + 1 := ⟨n - m - 1, by omega⟩
      rw [hd, List.range_succ_eq_map]
      simp [hend]
    · intro q
      obtain ⟨k, hk, ek⟩ := List.mem_map.mp q
      have hk := List.mem_range.mp hk
      have := g.monos h0 (i := k + 1) (j := m) (by omega)
      have : G (k + 1) = n := by omega
      omega
  unfold far
  rw [hlast, hidx, fl_eq h h0 h1 g, ← List.map_take, List.take_range, Nat.min_eq_left (by omega)]
def epl : Int → List Nat → List Int
  | _, [] => []
  | p, l :: r => (p + 1 + l) :: epl (p + 1 + l) r
def endsL (head : Int) (ls : List Nat) : List Int := -head :: epl (-1) ls
theorem epl_len : ∀ (p : Int) (ls : List Nat), (epl p ls).length = ls.length
  | _, [] => rfl
  | p, l :: r => by simp [epl, epl_len]
def sumN : List Nat → Nat
  | [] => 0
  | l :: r => l + sumN r
theorem epl_at : ∀ (p : Int) (ls : List Nat) (j : Nat), j < ls.length → (epl p ls).getD j 0 = p + (j + 1 : Nat) + sumN (ls.take (j + 1))
  | p, l :: r, 0, _ => by simp [epl, sumN]
  | p, l :: r, j + 1, h => by
    have ih := epl_at (p + 1 + l) r j (by simpa using h)
    simp only [epl, List.getD_cons_succ, ih, List.take_succ_cons, sumN]
    omega
theorem sumN_take_succ : ∀ (ls : List Nat) (j : Nat), j < ls.length → sumN (ls.take (j + 1)) = sumN (ls.take j) + ls.getD j 0
  | l :: r, 0, _ => by simp [sumN]
  | l :: r, j + 1, h => by
    have ih := sumN_take_succ r j (by simpa using h)
    simp only [List.take_succ_cons, sumN, ih, List.getD_cons_succ]
    omega
theorem ends_zero (head : Int) (ls : List Nat) : (endsL head ls).getD 0 0 = -head := rfl
theorem ends_succ (head : Int) (ls : List Nat) (j : Nat) (h : j < ls.length) : (endsL head ls).getD (j + 1) 0 = j + sumN (ls.take (j + 1)) := by
  show (epl (-1) ls).getD j 0 = _
  rw [epl_at _ _ _ h]; omega
/-- the step from one end to the next -/
theorem ends_step (head : Int) (ls : List Nat) (j : Nat) (h : j < ls.length) : (endsL head ls).getD (j + 1) 0 = (if j = 0 then 0 else (endsL head ls).getD j 0 + 1) + ls.getD j 0 := by
  rw [ends_succ head ls j h, sumN_take_succ ls j h]
  cases j with
  | zero => simp [sumN]
  | succ j =>
    rw [ends_succ head ls j (by omega), if_neg (by omega)]
    omega
theorem ends_Ends {head : Int} {ls : List Nat} (h0 : 0 ≤ head) (hl : ∀ l, l ∈ ls → 0 < l) : Ends (endsL head ls) ls.length where
  len := by simp [endsL, epl_len]
  up := fun j hj => by
    rw [ends_step head ls j hj]
    have : 0 < ls.getD j 0 := by
      rw [List.getD_eq_getElem?_getD, List.getElem?_eq_getElem hj]
      exact hl _ (List.getElem_mem hj)
    split
    · rename_i q
      subst q
      rw [ends_zero]; omega
    · omega
theorem row_nn {e : List Int} : ∀ k j, 0 ≤ (rowAt e k).getD j 0
  | 0, 0 => by simp [rowAt]
  | 0, j + 1 => by
    simp only [rowAt, List.getD_cons_succ]
    rw [List.getD_eq_getElem?_getD, List.getElem?_replicate]
    split <;> simp
  | k + 1, j => by
    by_cases h : j < e.length
    · show 0 ≤ (nxt e (rowAt e k)).getD j 0
      rw [nxt_at h]
      have := lmin_mem (cands_ne e (rowAt e k) j)
      rcases List.mem_append.mp (show lmin (cands e (rowAt e k) j) ∈ _ ++ _ from this) with z | z
      · obtain ⟨i, _, ei⟩ := List.mem_map.mp z
        rw [← ei]
        exact Int.le_trans (row_nn k i) (Int.le_max_left _ _)
      · rw [List.mem_singleton.mp z]; exact row_nn k j
    · rw [List.getD_eq_getElem?_getD, List.getElem?_eq_none]
      · simp
      · show (nxt e _).length ≤ j
        rw [nxt_len]; omega
theorem least_first {e : List Int} {n : Nat} (h : Ends e n) (hn : 0 < n) : (rowAt e 1).getD n 0 ≤ e.getD n 0 - e.getD 0 0 := by
  show (nxt e (rowAt e 0)).getD n 0 ≤ _
  rw [nxt_le (by rw [h.len]; omega)]
  refine .inr ⟨0, hn, ?_, Int.le_refl _⟩
  have := h.mono (i := 0) (j := n) (by omega) (Nat.le_refl _)
  show (0 : Int) ≤ _
  omega
end Mine
namespace Mine
def linesL : List (List (List Nat)) → List (List Nat)
  | [] => []
  | g :: r => jn [32] g :: r.map fun g => 32 :: jn [32] g
theorem jn_shift : ∀ (r : List (List Nat)) (a : List Nat), jn [10] (a :: r.map (32 :: ·)) = jn [10, 32] (a :: r)
  | [], a => rfl
  | b :: r, a => by
    have ih := jn_shift r (32 :: b)
    have e : jn [10, 32] ((32 :: b) :: r) = 32 :: jn [10, 32] (b :: r) := by cases r <;> rfl
    rw [e] at ih
    show a ++ [10] ++ jn [10] ((32 :: b) :: r.map (32 :: ·)) = a ++ [10, 32] ++ jn [10, 32] (b :: r)
    rw [ih]
    simp
theorem jn_lines : ∀ gs : List (List (List Nat)), jn [10] (linesL gs) = jn [10, 32] (gs.map (jn [32]))
  | [] => rfl
  | g :: r => by
    have := jn_shift (r.map (jn [32])) (jn [32] g)
    rw [List.map_map] at this
    exact this
theorem jn_app {s : List Nat} : ∀ {a b : List (List Nat)}, a ≠ [] → b ≠ [] → jn s (a ++ b) = jn s a ++ s ++ jn s b
  | [], _, h, _ => absurd rfl h
  | [x], b, _, hb => by
    obtain ⟨y, r, rfl⟩ := List.exists_cons_of_ne_nil hb
    rfl
  | x :: y :: r, b, _, hb => by
    have ih := jn_app (s := s) (a := y :: r) (b := b) (by simp) hb
    show x ++ s ++ jn s ((y :: r) ++ b) = (x ++ s ++ jn s (y :: r)) ++ s ++ jn s b
    rw [ih]; simp
theorem jn_flat {s : List Nat} : ∀ {gs : List (List (List Nat))}, (∀ g ∈ gs, g ≠ []) → jn s (gs.map (jn s)) = jn s gs.flatten
  | [], _ => rfl
  | [g], _ => by simp [jn]
  | g :: g' :: r, h => by
    have ih := jn_flat (s := s) (gs := g' :: r) fun x hx => h x (.tail _ hx)
    have hne : (g' :: r).flatten ≠ [] := by
      have := h g' (.tail _ (.head _))
      simp [this]
    rw [List.flatten_cons, jn_app (h g (.head _)) hne, ← ih]
    rfl
def cumG {α : Type} : Nat → List (List α) → List Int
  | _, [] => []
  | n, g :: r => ((n + g.length : Nat) : Int) :: cumG (n + g.length) r
theorem cumG_len {α : Type} : ∀ (n : Nat) (gs : List (List α)), (cumG n gs).length = gs.length
  | _, [] => rfl
  | n, g :: r => by simp [cumG, cumG_len]
theorem linesL_at : ∀ {gs : List (List (List Nat))} {k : Nat} {g : List (List Nat)}, gs[k]? = some g → (linesL gs)[k]? = some (lineL k g)
  | g :: r, 0, g', h => by simp at h; subst h; rfl
  | g :: r, k + 1, g', h => by
    have : r[k]? = some g' := by simpa using h
    simp [linesL, this, lineL]
theorem linesL_len (gs : List (List (List Nat))) : (linesL gs).length = gs.length := by cases gs <;> simp [linesL]
theorem jn_len {s : List Nat} : ∀ l : List (List Nat), l ≠ [] → (jn s l).length + s.length = (l.map fun x => x.length + s.length).sum
  | [], h => absurd rfl h
  | [x], _ => by simp [jn]
  | x :: y :: r, _ => by
    have ih := jn_len (s := s) (y :: r) (by simp)
    show (x ++ s ++ jn s (y :: r)).length + s.length = _
    simp only [List.length_append, List.map_cons, List.sum_cons] at ih ⊢
    omega
theorem linesAre_of {lns : List (Str × Tok)} {gs : List (List (List Nat))} (hok : okG gs) (h : lns.map (fun z => z.1.cps.toList) = linesL gs) (hsz : (jn [10] (linesL gs)).length < 90000) : LinesAre lns gs where
  ok := hok
  len := by have := congrArg List.length h; rw [List.length_map, linesL_len] at this; exact this
  at' := fun k x g hx hg => by
    have e := congrArg (fun l => l[k]?) h
    simp only [List.getElem?_map, hx, Option.map_some, linesL_at hg, Option.some.injEq] at e
    exact e
  sz := by
    have hne : linesL gs ≠ [] := by
      intro q
      have := linesL_len gs
      rw [q] at this
      exact hok.1 (List.length_eq_zero_iff.mp this.symm)
    have z := jn_len (s := [10]) (linesL gs) hne
    rw [← h, List.map_map] at z
    have e : (lns.map fun x => x.1.length + 1) = List.map ((fun x : List Nat => x.length + [10].length) ∘ fun z => z.1.cps.toList) lns := by
      apply List.map_congr_left
      intro x _
      simp [Str.length]
    rw [e, ← z, h]
    simp; omega
theorem lineL_ne {k : Nat} {g : List (List Nat)} (h : jn [32] g ≠ []) : lineL k g ≠ [] := by
  unfold lineL; split
  · exact h
  · simp
theorem jn_mem_len {s x : List Nat} : ∀ {l : List (List Nat)}, x ∈ l → x.length ≤ (jn s l).length
  | [y], h => by simp at h; subst h; exact Nat.le_refl _
  | y :: z :: r, h => by
    show x.length ≤ (y ++ s ++ jn s (z :: r)).length
    rcases List.mem_cons.mp h with rfl | h
    · simp
    · have := jn_mem_len (s := s) h
      simp; omega
theorem str_list_inj {a b : List Str} (h : a.map (fun z => z.cps.toList) = b.map (fun z => z.cps.toList)) : a = b := by
  have : ∀ {a b : List Str}, a.map (fun z => z.cps.toList) = b.map (fun z => z.cps.toList) → a = b := by
    intro a
    induction a with
    | nil => intro b h; cases b with | nil => rfl | cons y r => simp at h
    | cons x r ih =>
      intro b h
      cases b with
      | nil => simp at h
      | cons y t =>
        simp only [List.map_cons, List.cons.injEq] at h
        rw [ih h.2]
        congr 1
        cases x; cases y
        congr 1
        exact Array.ext' h.1
  exact this h
end Mine
namespace Mine
theorem linesL_app : ∀ (gs : List (List (List Nat))) (g : List (List Nat)), linesL (gs ++ [g]) = linesL gs ++ [lineL gs.length g]
  | [], g => rfl
  | x :: gs, g => by simp [linesL, lineL]
theorem cumG_app {α : Type} : ∀ (n : Nat) (gs : List (List α)) (g : List α), cumG n (gs ++ [g]) = cumG n gs ++ [((n + gs.flatten.length + g.length : Nat) : Int)]
  | n, [], g => by simp [cumG]
  | n, x :: gs, g => by
    simp only [List.cons_append, cumG, cumG_app (n + x.length) gs g, List.flatten_cons, List.length_append]
    congr 3
    omega
theorem layL_app : ∀ (ps : List (Str × Str)) (x : Str × Str), layL (ps ++ [x]) = layL ps + x.1.length + x.2.length
  | [], x => by simp [layL]
  | p :: ps, x => by
    have := layL_app ps x
    show (p.1.length : Int) + p.2.length + layL (ps ++ [x]) = (p.1.length : Int) + p.2.length + layL ps + _ + _
    omega
theorem lineL_app {k : Nat} {g : List (List Nat)} {u : List Nat} (h : g ≠ []) : lineL k (g ++ [u]) = lineL k g ++ 32 :: u := by
  have e : jn [32] (g ++ [u]) = jn [32] g ++ 32 :: u := by
    rw [jn_app h (by simp)]
    simp [jn]
  unfold lineL
  split
  · exact e
  · rw [e]; rfl
/-- between the words: the lines closed, the line open -/
structure LInv (e : List Int) (W : Int) (G : Nat → Nat) (ws : List (List Nat)) (j : Nat) (c : Int) (cur : List (Str × Str)) (dn : List Str) (gs : List (List (List Nat))) (g : List (List Nat)) : Prop where
  all : gs.flatten ++ g = ws.take j
  gne : g ≠ []
  ne : ∀ x ∈ gs, x ≠ []
  dn : dn.map (fun z => z.cps.toList) = linesL gs
  curL : (cur.map fun p => p.1.cps.toList ++ p.2.cps.toList).flatten = lineL gs.length g
  len : c + layL cur = e.getD j 0 - e.getD gs.flatten.length 0
  fit : e.getD j 0 - e.getD gs.flatten.length 0 ≤ W
  cum : cumG 0 gs = (List.range gs.length).map fun k => (G (k + 1) : Int)
  start : gs.flatten.length = G gs.length
def sp : Str := ⟨#[32]⟩
theorem sp_len : sp.length = 1 := rfl
theorem lay_fold {e : List Int} {n : Nat} (hE : Ends e n) {W : Int} (h0 : 0 ≤ W) {G : Nat → Nat} (hG : IsG e n W G) {ws : List (List Nat)} (hn : ws.length = n)
    (hstep : ∀ j (h : j < ws.length), j ≠ 0 → e.getD (j + 1) 0 = e.getD j 0 + 1 + ws[j].length) (hf : ∀ i, i < n → e.getD (i + 1) 0 - e.getD i 0 ≤ W) :
    ∀ (rest : List (List Nat)) (j : Nat) (c : Int) (cur : List (Str × Str)) (dn : List Str) (gs : List (List (List Nat))) (g : List (List Nat)), ws.drop j = rest → j ≠ 0 → j ≤ n → LInv e W G ws j c cur dn gs g →
      ∃ c' cur' dn' gs' g', (rest.map fun u => (sp, (⟨u.toArray⟩ : Str))).foldl (layStep W) (c, cur, dn) = (c', cur', dn') ∧ LInv e W G ws n c' cur' dn' gs' g'
  | [], j, c, cur, dn, gs, g, hd, hj, hjn, I => by
    refine ⟨c, cur, dn, gs, g, rfl, ?_⟩
    have hjn' : n ≤ j := by
      have := congrArg List.length hd
      simp at this; omega
    have : j = n := by omega
    rw [← this]; exact I
  | u :: rest, j, c, cur, dn, gs, g, hd, hj, hjn, I => by
    have hjl : j < ws.length := by
      have := congrArg List.length hd
      simp at this; omega
    have hu : ws[j] = u := by
      rw [List.drop_eq_getElem_cons hjl] at hd
      injection hd
    have hd' : ws.drop (j + 1) = rest := by
      rw [List.drop_eq_getElem_cons hjl] at hd
      injection hd
    have htk : ws.take (j + 1) = ws.take j ++ [u] := by
      rw [List.take_add_one, List.getElem?_eq_getElem hjl, hu]; rfl
    have hst := hstep j hjl hj
    rw [hu] at hst
    have hul : (⟨u.toArray⟩ : Str).length = u.length := by show u.toArray.size = _; simp
    have hcond : c + layL cur + sp.length + (⟨u.toArray⟩ : Str).length = e.getD (j + 1) 0 - e.getD gs.flatten.length 0 := by
      rw [I.len, hst, sp_len, hul]; omega
    show ∃ c' cur' dn' gs' g', (rest.map fun u => (sp, (⟨u.toArray⟩ : Str))).foldl (layStep W) (layStep W (c, cur, dn) (sp, ⟨u.toArray⟩)) = (c', cur', dn') ∧ _
    unfold layStep
    by_cases hw : e.getD (j + 1) 0 - e.getD gs.flatten.length 0 ≤ W
    · rw [if_pos (by show c + layL cur + sp.length + (⟨u.toArray⟩ : Str).length ≤ W; rw [hcond]; exact hw)]
      refine lay_fold hE h0 hG hn hstep hf rest (j + 1) c (cur ++ [(sp, ⟨u.toArray⟩)]) dn gs (g ++ [u]) hd' (by omega) (by omega) ⟨?_, by simp, I.ne, I.dn, ?_, ?_, hw, I.cum, I.start⟩
      · rw [htk, ← I.all, List.append_assoc]
      · rw [List.map_append, List.flatten_append, I.curL, lineL_app I.gne]
        simp [sp]
      · rw [layL_app]
        have := hcond
        show c + (layL cur + sp.length + (⟨u.toArray⟩ : Str).length) = _
        omega
    · rw [if_neg (by show ¬ c + layL cur + sp.length + (⟨u.toArray⟩ : Str).length ≤ W; rw [hcond]; exact hw)]
      have hGj : G (gs.length + 1) = j := by
        have h1 := hG.far gs.length j hjn (by rw [← I.start]; exact I.fit)
        have h2 : ¬ j + 1 ≤ G (gs.length + 1) := fun q => by
          have := hE.mono q (hG.le _)
          have := hG.fit gs.length
          rw [← I.start] at this
          omega
        omega
      have hfl : (gs ++ [g]).flatten.length = j := by
        have := congrArg List.length I.all
        rw [List.length_take, Nat.min_eq_left (by omega)] at this
        simpa using this
      refine lay_fold hE h0 hG hn hstep hf rest (j + 1) 0 [(sp, ⟨u.toArray⟩)] (dn ++ [layT cur]) (gs ++ [g]) [u] hd' (by omega) (by omega) ⟨?_, by simp, ?_, ?_, ?_, ?_, ?_, ?_, ?_⟩
      · rw [htk, ← I.all]; simp
      · intro x hx
        rcases List.mem_append.mp hx with hx | hx
        · exact I.ne x hx
        · rw [List.mem_singleton.mp hx]; exact I.gne
      · rw [List.map_append, I.dn, linesL_app]
        simp only [List.map_cons, List.map_nil, layT_list, I.curL]
      · simp [sp, lineL, jn]
      · rw [hfl, hst]
        show (0 : Int) + ((sp.length : Int) + (⟨u.toArray⟩ : Str).length + 0) = _
        rw [sp_len, hul]; omega
      · rw [hfl]; exact hf j (by omega)
      · rw [cumG_app, I.cum, List.length_append, List.length_singleton, List.range_succ, List.map_append]
        congr 1
        have : gs.flatten.length + g.length = j := by
          rw [← hfl, List.flatten_append, List.length_append, List.flatten_cons, List.flatten_nil, List.append_nil]
        rw [List.map_cons, List.map_nil, hGj, Nat.zero_add, this]
      · rw [hfl, List.length_append, List.length_singleton, hGj]
theorem lay_greedy {head W : Int} {v : List Nat} {r : List (List Nat)} (hh : 0 ≤ head) (h0 : 0 ≤ W) (h1 : W < 1000000) (hok : ∀ u ∈ v :: r, u ≠ [])
    (hf : ∀ i, i < r.length + 1 → (endsL head ((v :: r).map List.length)).getD (i + 1) 0 - (endsL head ((v :: r).map List.length)).getD i 0 ≤ W) :
    ∃ gs : List (List (List Nat)), gs ≠ [] ∧ (∀ g ∈ gs, g ≠ []) ∧ gs.flatten = v :: r ∧ (linesOf W head v r).map (fun z => z.cps.toList) = linesL gs ∧ cumG 0 gs = far (endsL head ((v :: r).map List.length)) W := by
  generalize he : endsL head ((v :: r).map List.length) = e at hf ⊢
  have hE : Ends e (r.length + 1) := by
    have := ends_Ends (head := head) (ls := (v :: r).map List.length) hh (fun l hl => by
      obtain ⟨u, hu, rfl⟩ := List.mem_map.mp hl
      exact List.length_pos_iff.mpr (hok u hu))
    rw [he] at this
    simpa using this
  have hG := gr_isG (e := e) (n := r.length + 1) h0
  generalize gr e (r.length + 1) W = G at hG
  have hstep : ∀ j (h : j < (v :: r).length), j ≠ 0 → e.getD (j + 1) 0 = e.getD j 0 + 1 + (v :: r)[j].length := by
    intro j h hj
    rw [← he, ends_step head ((v :: r).map List.length) j (by simpa using h), if_neg hj]
    congr 1
    rw [List.getD_eq_getElem?_getD, List.getElem?_map, List.getElem?_eq_getElem h]
    rfl
  have e1 : e.getD 1 0 = v.length := by
    rw [← he, ends_step head ((v :: r).map List.length) 0 (by simp)]
    simp
  have e0 : e.getD 0 0 = -head := by rw [← he]; rfl
  have hfit : head + (v.length : Int) ≤ W := by
    have this : e.getD 1 0 - e.getD 0 0 ≤ W := hf 0 (by omega)
    rw [e1, e0] at this
    omega
  have hvl : (⟨v.toArray⟩ : Str).length = v.length := by show v.toArray.size = _; simp
  have first : layStep W (head, [], []) (⟨#[]⟩, ⟨v.toArray⟩) = (head, [((⟨#[]⟩ : Str), (⟨v.toArray⟩ : Str))], []) := by
    unfold layStep
    rw [if_pos]
    · rfl
    · show head + 0 + (((⟨#[]⟩ : Str).length : Nat) : Int) + (⟨v.toArray⟩ : Str).length ≤ W
      rw [hvl]
      have : ((⟨#[]⟩ : Str).length : Int) = 0 := rfl
      omega
  obtain ⟨c, cur, dn, gs, g, hfold, I⟩ := lay_fold hE h0 hG (ws := v :: r) (by simp) hstep hf r 1 head [((⟨#[]⟩ : Str), (⟨v.toArray⟩ : Str))] [] [] [v] rfl (by omega) (by omega)
    ⟨by simp, by simp, by simp, rfl, by simp [lineL, jn], by
      show head + ((((⟨#[]⟩ : Str).length : Nat) : Int) + (⟨v.toArray⟩ : Str).length + 0) = e.getD 1 0 - e.getD 0 0
      rw [e1, e0, hvl]
      have : ((⟨#[]⟩ : Str).length : Int) = 0 := rfl
      omega, by
      show e.getD 1 0 - e.getD 0 0 ≤ W
      rw [e1, e0]; omega, rfl, hG.zero.symm⟩
  have hall : gs.flatten ++ g = v :: r := by rw [I.all, List.take_of_length_le (by simp)]
  have hlen : gs.flatten.length + g.length = r.length + 1 := by
    have := congrArg List.length hall
    rw [List.length_append] at this
    exact this
  have hgl := List.length_pos_iff.mpr I.gne
  have hm : gs.length ≤ gs.flatten.length := by
    have : ∀ l : List (List (List Nat)), (∀ x ∈ l, x ≠ []) → l.length ≤ l.flatten.length := by
      intro l
      induction l with
      | nil => intro _; simp
      | cons x l ih =>
        intro h
        have h1 := List.length_pos_iff.mpr (h x (.head _))
        have h2 := ih fun y hy => h y (.tail _ hy)
        rw [List.flatten_cons, List.length_append, List.length_cons]
        omega
    exact this gs I.ne
  have hend : G (gs.length + 1) = r.length + 1 := by
    have h1 := hG.far gs.length (r.length + 1) (Nat.le_refl _) (by rw [← I.start]; exact I.fit)
    have h2 := hG.le (gs.length + 1)
    omega
  have hfar := far_eq hE h0 h1 hG hf (m := gs.length) (by omega) (by rw [← I.start]; omega) hend
  refine ⟨gs ++ [g], by simp, fun x hx => ?_, by simpa using hall, ?_, ?_⟩
  · rcases List.mem_append.mp hx with hx | hx
    · exact I.ne x hx
    · rw [List.mem_singleton.mp hx]; exact I.gne
  · unfold linesOf prs
    rw [List.foldl_cons, first]
    have : (r.map fun u => ((⟨#[32]⟩ : Str), (⟨u.toArray⟩ : Str))) = r.map fun u => (sp, (⟨u.toArray⟩ : Str)) := rfl
    rw [this, hfold, List.map_append, I.dn, linesL_app]
    simp only [List.map_cons, List.map_nil, layT_list, I.curL]
  · rw [hfar, cumG_app, I.cum, List.range_succ, List.map_append]
    congr 1
    rw [List.map_cons, List.map_nil, hend, Nat.zero_add, hlen]
end Mine
namespace Mine
def runLen (x : Int) : Nat := (1 + (x.fdiv 26).fmod 9).toNat
def runChr (x : Int) : Nat := (97 + x.fmod 26).toNat
def runL (x : Int) : List Nat := List.replicate (runLen x) (runChr x)
theorem fmod26 (x : Int) : 0 ≤ x.fmod 26 ∧ x.fmod 26 < 26 := ⟨Int.fmod_nonneg_of_pos _ (by decide), Int.fmod_lt_of_pos _ (by decide)⟩
theorem fmod9 (x : Int) : 0 ≤ x.fmod 9 ∧ x.fmod 9 < 9 := ⟨Int.fmod_nonneg_of_pos _ (by decide), Int.fmod_lt_of_pos _ (by decide)⟩
theorem fmod8 (x : Int) : 0 ≤ x.fmod 8 ∧ x.fmod 8 < 8 := ⟨Int.fmod_nonneg_of_pos _ (by decide), Int.fmod_lt_of_pos _ (by decide)⟩
theorem runLen_le (x : Int) : 1 ≤ runLen x ∧ runLen x ≤ 9 := by
  have := fmod9 (x.fdiv 26)
  unfold runLen; omega
theorem runChr_le (x : Int) : 97 ≤ runChr x ∧ runChr x ≤ 122 := by
  have := fmod26 x
  unfold runChr; omega
theorem okU_run (x : Int) : okU (runL x) := by
  have h1 := runLen_le x
  have h2 := runChr_le x
  refine ⟨⟨?_, fun c hc => ?_⟩, fun q => ?_⟩
  · intro e
    have := congrArg List.length e
    simp [runL] at this; omega
  · rw [List.eq_of_mem_replicate hc]; exact h2
  · have e1 := List.eq_of_mem_replicate q.1
    have e2 := List.eq_of_mem_replicate q.2
    omega
theorem mul_run {c : Nat} : ∀ (n : Nat) (acc : Array Nat), (List.replicate n (#[c] : Array Nat)).foldl (· ++ ·) acc = acc ++ (List.replicate n c).toArray
  | 0, acc => by simp
  | n + 1, acc => by
    rw [List.replicate_succ, List.foldl_cons, mul_run n]
    apply Array.ext'
    simp [List.replicate_succ]
theorem mul_list {c : Nat} {n : Int} (h : 1 ≤ n) : (Txt.mul ⟨#[c]⟩ n).cps.toList = List.replicate n.toNat c := by
  unfold Txt.mul
  rw [if_neg (by omega)]
  split
  · rename_i q
    have : n = 1 := by
      have : (⟨#[c]⟩ : Str).length = 1 := rfl
      simpa [this] using q
    subst this; rfl
  · show ((List.replicate n.toNat (#[c] : Array Nat)).foldl (· ++ ·) #[]).toList = _
    rw [mul_run]; simp
def wSystem : List Nat := [115, 121, 115, 116, 101, 109]
def wRest (xs : List Int) : List (List Nat) := [[111, 102], [97], [110, 111, 100, 101]] ++ (xs.take 4).map runL
theorem okU_all (xs : List Int) : ∀ u ∈ wSystem :: wRest xs, okU u := by
  intro u hu
  rcases List.mem_cons.mp hu with rfl | hu
  · unfold wSystem okU okL; decide
  · unfold wRest at hu
    rcases List.mem_append.mp hu with hu | hu
    · simp only [List.mem_cons, List.not_mem_nil, or_false] at hu
      rcases hu with rfl | rfl | rfl <;> (unfold okU okL; decide)
    · obtain ⟨x, _, rfl⟩ := List.mem_map.mp hu
      exact okU_run x
theorem wlen_all (xs : List Int) : ∀ u ∈ wSystem :: wRest xs, u.length ≤ 9 := by
  intro u hu
  rcases List.mem_cons.mp hu with rfl | hu
  · decide
  · unfold wRest at hu
    rcases List.mem_append.mp hu with hu | hu
    · simp only [List.mem_cons, List.not_mem_nil, or_false] at hu
      rcases hu with rfl | rfl | rfl <;> decide
    · obtain ⟨x, _, rfl⟩ := List.mem_map.mp hu
      simp [runL]; exact (runLen_le x).2
theorem wRest_len (xs : List Int) : (wRest xs).length ≤ 7 := by simp [wRest]; omega
theorem interLen : ∀ (l : List (List Nat)), (∀ u ∈ l, u.length ≤ 9) → (inter l).length ≤ 10 * l.length
  | [], _ => by simp [inter]
  | [x], h => by have := h x (.head _); simp [inter]; omega
  | x :: y :: r, h => by
    have h1 := h x (.head _)
    have h2 := interLen (y :: r) fun u hu => h u (.tail _ hu)
    show (x ++ 32 :: inter (y :: r)).length ≤ _
    simp at h2 ⊢; omega
theorem sumN_le : ∀ (ls : List Nat), (∀ x ∈ ls, x ≤ 9) → sumN ls ≤ 9 * ls.length
  | [], _ => by simp [sumN]
  | x :: r, h => by
    have h1 := h x (.head _)
    have h2 := sumN_le r fun y hy => h y (.tail _ hy)
    simp only [sumN, List.length_cons]; omega
theorem ends_last_le {head : Int} {ls : List Nat} (h : ∀ x ∈ ls, x ≤ 9) (hne : ls ≠ []) : (endsL head ls).getD ls.length 0 ≤ 10 * ls.length := by
  have hp := List.length_pos_iff.mpr hne
  have e : ls.length = (ls.length - 1) + 1 := by omega
  rw [e, ends_succ head ls _ (by omega), List.take_of_length_le (by omega)]
  have := sumN_le ls h
  omega
theorem rsz_gen {a b : Int} : Builtin.Range.rangeSize a b 1 = ((b - a).toNat : Int) := by
  unfold Builtin.Range.rangeSize
  rw [if_pos (by decide), Int.ediv_one]
  split <;> omega
theorem rsm_gen {a b : Int} (h1 : -1000000 < a) (h2 : a < 1000000) (h3 : -1000000 < b) (h4 : b < 1000000) : Builtin.Range.small a b 1 = true := by
  unfold Builtin.Range.small
  rw [rsz_gen]
  unfold Builtin.Range.rangeFitsLong
  simp
  omega
theorem row_anti {e : List Int} {j : Nat} (hj : j < e.length) : ∀ k, (rowAt e (k + 1)).getD j 0 ≤ (rowAt e 1).getD j 0
  | 0 => Int.le_refl _
  | k + 1 => Int.le_trans ((nxt_le (e := e) (b := rowAt e (k + 1)) hj).mpr (.inl (Int.le_refl _))) (row_anti hj k)
end Mine
namespace Mine
def intVals (l : List (Int × Tok)) : List Value := l.map fun p => .int p.1 p.2
section
variable {O : OsState} {w : World} {A : Around} {E : Value → Shared → Prop} {s : Shared} {g : Heap} {f : Addr} {m : Str → Option Value} {L : List (Addr × Obj)} {env : Env}
theorem intVals_len (l : List (Int × Tok)) : (intVals l).length = l.length := by simp [intVals]
theorem intVals_at {l : List (Int × Tok)} {xs : List Int} (h : l.map (·.1) = xs) {j : Nat} (hj : j < xs.length) : ∃ t, (intVals l)[j]? = some (.int (xs.getD j 0) t) := by
  subst h
  have hj' : j < l.length := by simpa using hj
  exact ⟨l[j].2, by simp [intVals, hj', List.getD_eq_getElem?_getD]⟩
/-- a for loop by its turns' numbers -/
theorem for_idx {R : Result → Shared → Prop} {target : Expr} {it : Value} {body orelse : List Stmt} (n : Nat) (Inv : Nat → Shared → Prop) (h0 : Inv 0 s)
    (turn : ∀ E' j s, j < n → Inv j s → wpAny (model prog w) A (pyNext it) (fun r s₁ => ∃ v, r = some v ∧ wpAny (model prog w) A (assign target env v) (fun _ s₂ => wpAny (model prog w) A (execs body env) (fun fl s₃ => match fl with
      | .next | .cont => Inv (j + 1) s₃
      | .brk => R (.ok .next) s₃
      | .ret v => R (.ok (.ret v)) s₃) E' s₂) E' s₁) E' s)
    (fin : ∀ E' s, Inv n s → wpAny (model prog w) A (pyNext it) (fun r s₁ => r = none ∧ wpAny (model prog w) A (execs orelse env) (fun fl s₃ => R (.ok fl) s₃) E' s₁) E' s)
    (ht : ∀ v, letOwnedTupleGo target it v = pure () := by intro _; rfl) : codeAny (model prog w) A (.forLoop target it body orelse env) R s := by
  refine codeAny_forLoop (fun k s' => ∃ j, k = n - j ∧ j ≤ n ∧ Inv j s') (fun k s' ⟨j, ek, hj, hI⟩ => ?_) n ⟨0, rfl, Nat.zero_le _, h0⟩ ht
  by_cases hlt : j < n
  · refine wpAny_mono (turn _ j s' hlt hI) (fun r s₁ z => ?_) fun _ _ e => e
    obtain ⟨v, rfl, z⟩ := z
    refine wpAny_mono z (fun _ s₂ z => wpAny_mono z (fun fl s₃ z => ?_) fun _ _ e => e) fun _ _ e => e
    cases fl with
    | next => exact ⟨n - (j + 1), by omega, j + 1, rfl, hlt, z⟩
    | cont => exact ⟨n - (j + 1), by omega, j + 1, rfl, hlt, z⟩
    | brk => exact z
    | ret v => exact z
  · have : j = n := by omega
    subst this
    refine wpAny_mono (fin _ s' hI) (fun r s₁ z => ?_) fun _ _ e => e
    obtain ⟨rfl, z⟩ := z
    exact z
/-- x, y = (a, b) where the stores are swapped -/
theorem s_swap2 {k : Nat} {T : Addr} {v1 v2 : Value} {x y : Str} {bs : List (Str × Value)} {Q : Unit → Shared → Prop} (S : St O w g f (fun z => bs.lookup z) L s.heap s.os s.gens) (r : Rm k A) (hT : s.heap.get? T = some (tupO [v1, v2]))
    (h : ∀ s', St O w g f (fun z => ((x, v1) :: (y, v2) :: bs).lookup z) L s'.heap s'.os s'.gens → Q () s')
    (he : env.locals = f := by rfl) (hk : env.scope.kind = .function := by rfl) (hl : env.kindOf x = some .local := by rfl) (hl' : env.kindOf y = some .local := by rfl) :
    wpAny (model prog w) A (unpackItems (.ref T) 2 none) (fun items s₂ => wpAny (model prog w) A (assignInOrder (([x, y] : List Str).reverse.map fun n => bindName env n) items.reverse) Q E s₂) E s := by
  refine wpAny_unpackItems_tuple r.hd (items := #[v1, v2]) ⟨_, hT, rfl, _, rfl⟩ fun h' hx => ?_
  have S1 : St O w g f (fun z => bs.lookup z) L ({ s with heap := h' } : Shared).heap ({ s with heap := h' } : Shared).os ({ s with heap := h' } : Shared).gens := S.keeps fun b o e => hx b o (fun q => by rw [q, get_size] at e; cases e) e
  show wpAny _ _ (assignInOrder [bindName env y, bindName env x] [v2, v1]) _ _ _
  unfold assignInOrder
  refine wpAny_bind (wpAny_holding (wpAny_bindName (r_store S1 (fun s2 S2 => ?_) he hk hl')))
  unfold assignInOrder
  refine wpAny_bind (wpAny_holding (wpAny_bindName (r_store S2 (fun s3 S3 => ?_) he hk hl)))
  unfold assignInOrder
  exact wpAny_pure (h _ S3)
theorem g_len2 (w : World) : nsLook (Str.ofString "len") (o3 w) = pure none ∧ nsLook (Str.ofString "len") (o0 w) = pure (some (.builtin "len")) := ⟨by kernel_rfl, by kernel_rfl⟩
theorem ends_spec {wl : Addr} {nw : Nat} {wds : List (Str × Tok)} {head : Int} {th : Tok} {Rz : Result → Shared → Prop} (S : St O w g f m L s.heap s.os s.gens) (rm : Rm 20 A)
    (hwl : g.get? wl = some (lstO (strValues wds) nw)) (hn : wds.length < 1000) (hsz : ∀ z ∈ wds, z.1.length < 1000)
    (h : ∀ el es n' s', es.map (·.1) = endsL head (wds.map (·.1.length)) → St O w g f m ((el, lstO (intVals es) n') :: L) s'.heap s'.os s'.gens → Rz (.ok (.ret (.ref el))) s') :
    codeAny (model prog w) A (.call (.ref 218) ⟨[.ref wl, .int head th], []⟩) Rz s := by
  refine call_at [(Str.ofString "words", .ref wl), (Str.ofString "head", .int head th)] S rm (by rfl) (by rfl) (by rfl) (by rfl) (by rfl) (by rfl) (by rfl) (by rfl) (by kernel_rfl) (by kernel_rfl) (by kernel_rfl) (by rfl) (by rfl) (by rfl) ?_
  intro g' f' s1 A' rm' le S1 back
  walk_at "env"
  have hwl' := le _ _ hwl
  refine r_execs_cons (Assign_Tuple_swapped (names := [Str.ofString "ends", Str.ofString "place"]) ?_)
  refine r_tuple (O := O) (r_item (r_list (O := O) (r_item (wpAny_UnaryOp (r_local S1 rfl (s_neg S1 fun t2 s2 S2 => r_item0 ⟨by simp [sizeLine], _, _, _, _, S2, fun el s3 S3 => ?_⟩))))))
  refine r_item (wpAny_UnaryOp (s_int S3 fun t4 s4 S4 => s_neg S4 fun t5 s5 S5 => r_item0 ⟨by simp [sizeLine], _, _, _, _, S5, fun T s6 S6 => ?_⟩))
  refine s_swap2 (bs := [(Str.ofString "head", .int head th), (Str.ofString "words", .ref wl)]) S6 rm' (S6.get 0 rfl) fun s7 S7 => ?_
  have S7 := S7.tail
  refine r_execs_cons (wpAny_For ?_)
  refine r_local S7 rfl ?_
  refine s_listIter S7 (S7.keep _ _ hwl') fun it o s8 ho S8 => ?_
  have hsv : (strValues wds).length = wds.length := by simp [strValues]
  refine for_idx wds.length (fun j s => ∃ bs place t es n' o, St O w g' f' (fun z => List.lookup z bs) ((it, o) :: (el, lstO (intVals es) n') :: L) s.heap s.os s.gens ∧ IsIt o wl j ∧ bs.lookup (Str.ofString "ends") = some (.ref el) ∧ bs.lookup (Str.ofString "place") = some (.int place t) ∧
    es.map (·.1) ++ epl place ((wds.drop j).map (·.1.length)) = endsL head (wds.map (·.1.length)) ∧ es.length = j + 1)
    ⟨_, -1, t5, [(-head, t2)], 0, o, S8, ho, rfl, rfl, rfl, rfl⟩ (fun E' j s hj I => ?_) fun E' s I => ?_
  · obtain ⟨bs, place, t, es, n', o, Sj, hoj, he, hp, heq, hl⟩ := I
    have hx : (strValues wds)[j]? = some (.str wds[j].1 wds[j].2) := by simp [strValues, hj]
    refine s_listNext (i := 0) Sj rfl hoj (Sj.keep _ _ hwl') hx fun o' s9 ho' S9 => ⟨_, rfl, ?_⟩
    refine wpAny_assign_Name (r_store S9 fun s10 S10 => ?_)
    refine r_execs_cons (wpAny_Assign_Name ?_)
    refine wpAny_BinOp (wpAny_BinOp (r_local S10 hp (s_int S10 fun t11 s11 S11 => s_add S11 fun t12 s12 S12 => ?_)))
    refine wpAny_Call_NameR (r_builtin S12 (g_len2 w).1 (g_len2 w).2 ?_)
    refine Calls.callWith_builtin rfl (r_args1 (r_local S12 rfl (r_item0 ?_)))
    have hw := hsz wds[j] (List.getElem_mem hj)
    refine s_len S12 (by omega) fun t13 s13 S13 => s_add S13 fun t14 s14 S14 => ?_
    refine r_store S14 fun s15 S15 => ?_
    refine r_execs_cons (wpAny_Expr_any ?_)
    refine r_CallM (r_local S15 he (lst_append (S15.get 1 rfl) ?_))
    refine r_callB rfl (r_args1 (r_local S15 rfl (r_item0 ?_)))
    refine b_appendL (i := 1) S15 rfl (by rw [intVals_len]; omega) fun n2 s16 S16 => ?_
    refine wpAny_execs_nil ?_
    refine ⟨_, place + 1 + wds[j].1.length, t14, es ++ [(place + 1 + wds[j].1.length, t14)], n2, o', S16.cast ?_, ho', he, rfl, ?_, by simp [hl]⟩
    · simp [intVals]
    · rw [List.drop_eq_getElem_cons hj] at heq
      rw [← heq]
      simp only [List.map_append, List.map_cons, List.map_nil, epl, List.append_assoc, List.cons_append, List.nil_append]
  · obtain ⟨bs, place, t, es, n', o, Sj, hoj, he, hp, heq, hl⟩ := I
    refine s_listEnd (i := 0) Sj rfl hoj (Sj.keep _ _ hwl') (by omega) rm' fun s9 S9 => ⟨rfl, ?_⟩
    refine wpAny_execs_nil ?_
    refine r_execs_cons (wpAny_Return_some ?_)
    refine r_local S9 he ?_
    exact h el es n' s9 (by rw [← heq]; simp [epl]) (back _ _ _ S9)
end
end Mine
namespace Mine
theorem intVals_items (l : List (Int × Tok)) : (intVals l).toArray = intItems l.toArray := by simp [intVals, intItems]
section
variable {O : OsState} {w : World} {A : Around} {E : Value → Shared → Prop} {s : Shared} {g : Heap} {f : Addr} {m : Str → Option Value} {L : List (Addr × Obj)} {env : Env}
theorem r_free {x : Str} {pos : Pos} {c : Addr} {v : Value} {Q : Value → Shared → Prop} (hc : s.heap.get? c = some (cellO (some v))) (h : Q v s) (hcl : env.cells.lookup x = some c := by rfl) (hk : env.scope.kind = .function := by rfl)
    (hl : env.kindOf x = some .free := by rfl) (hd : (x == ("__debug__" : Str)) = false := by rfl) (hn : (x == ("__classdict__" : Str)) = false := by decide) : wpAny (model prog w) A (eval (.Name x pos) env) Q E s :=
  wpAny_Name (wpAny_loadName_free hk hl hcl ⟨_, hc, rfl⟩ h hn) hd
theorem isL {h : Heap} {a : Addr} {vs : List Value} {n : Nat} (e : h.get? a = some (lstO vs n)) : h.IsList a vs.toArray := ⟨_, e, rfl, _, rfl⟩
theorem s_lenL {a : Addr} {vs : List Value} {n : Nat} {Q : Value → Shared → Prop} (S : St O w g f m L s.heap s.os s.gens) (hl : s.heap.get? a = some (lstO vs n)) (hs : vs.length < 100000) (h : ∀ t s', St O w g f m L s'.heap s'.os s'.gens → Q (.int vs.length t) s') :
    wpAny (model prog w) A (call (.builtin "len") [.ref a]) Q E s := by
  refine Calls.call_len_list (isL hl) (by simp; omega) ?_
  have := h (s.toks + 1) { s with toks := s.toks + 1 + 1 } S
  simpa using this
theorem s_itemL {a : Addr} {vs : List Value} {n : Nat} {k : Int} {t : Tok} {x : Value} {Q : Value → Shared → Prop} (hl : s.heap.get? a = some (lstO vs n)) (h0 : 0 ≤ k) (hk : k < 100000) (hx : vs[k.toNat]? = some x) (h : Q x s) :
    wpAny (model prog w) A (getItem (.ref a) (.int k t)) Q E s := wpAny_getItem_list (isL hl) h0 (by omega) (by simpa using hx) h
theorem s_itemLast {a : Addr} {vs : List Value} {n : Nat} {t : Tok} {x : Value} {Q : Value → Shared → Prop} (hl : s.heap.get? a = some (lstO vs n)) (hne : vs ≠ []) (hx : vs.getLast? = some x) (h : Q x s) :
    wpAny (model prog w) A (getItem (.ref a) (.int (-1) t)) Q E s := by
  have hp := List.length_pos_iff.mpr hne
  refine wpAny_getItem_list_neg (isL hl) (by decide) (by simp; omega) (by decide) ?_ h
  rw [List.getLast?_eq_getElem?] at hx
  rw [← hx]
  simp only [List.size_toArray, List.getElem?_toArray]
  congr 1
  omega
theorem s_addL {a b : Addr} {vs us : List Value} {n k : Nat} {Q : Value → Shared → Prop} (S : St O w g f m L s.heap s.os s.gens) (ha : s.heap.get? a = some (lstO vs n)) (hb : s.heap.get? b = some (lstO us k)) (hs : vs.length + us.length < 100000)
    (h : ∀ c s', St O w g f m ((c, lstO (vs ++ us)) :: L) s'.heap s'.os s'.gens → Q (.ref c) s') : wpAny (model prog w) A (binaryOp .Add (.ref a) (.ref b)) Q E s := by
  refine P.add_list (items := vs.toArray) (items2 := us.toArray) ha hb ?_ (by simp [sizeLine]; omega)
  have e : vs.toArray ++ us.toArray = (vs ++ us).toArray := by simp
  rw [e]
  exact h _ _ (S.push (lstO (vs ++ us)) rfl)
theorem s_max2 {n : Nat} {a b : Int} {t u : Tok} {Q : Value → Shared → Prop} (S : St O w g f m L s.heap s.os s.gens) (r : Rm n A) (h : ∀ t' s', St O w g f m L s'.heap s'.os s'.gens → Q (.int (max a b) t') s') :
    wpAny (model prog w) A (call (.builtin "max") [.int a t, .int b u]) Q E s := by
  refine max_two_ints r.hd fun h' tk hk => ?_
  by_cases hc : b > a
  · rw [if_pos hc]
    have := h u { s with heap := h', toks := tk } (S.keeps hk)
    rwa [Int.max_eq_right (by omega)] at this
  · rw [if_neg hc]
    have := h t { s with heap := h', toks := tk } (S.keeps hk)
    rwa [Int.max_eq_left (by omega)] at this
theorem s_maxL {n k : Nat} {a : Addr} {l : List (Int × Tok)} {xs : List Int} {Q : Value → Shared → Prop} (S : St O w g f m L s.heap s.os s.gens) (r : Rm n A) (hl : s.heap.get? a = some (lstO (intVals l) k)) (e : l.map (·.1) = xs) (hne : xs ≠ [])
    (h : ∀ t' s', St O w g f m L s'.heap s'.os s'.gens → Q (.int (lmax xs) t') s') : wpAny (model prog w) A (call (.builtin "max") [.ref a]) Q E s := by
  subst e
  have hI : s.heap.IsList a (intItems l.toArray) := by rw [← intVals_items]; exact isL hl
  have hsz : 0 < l.toArray.size := by
    have := List.length_pos_iff.mpr hne
    simpa using this
  refine max_intList r.hd hI hsz fun v h' tk hv hk => ?_
  obtain ⟨t, rfl⟩ := intItems_at hv
  obtain ⟨h1, h2⟩ := argBest_gt (numAt l.toArray) (l.toArray.size - 1)
  have hm := lmax_eq (l := l.map (·.1)) (m := numAt l.toArray (argBest (fun i j => decide (numAt l.toArray i > numAt l.toArray j)) (l.toArray.size - 1))) (by
    rw [numAt_eq]; exact getD_mem (by simp at *; omega)) (fun a ha => by
    obtain ⟨j, hj, rfl⟩ := mem_getD ha
    have z := h2 j (by simp at *; omega)
    rw [numAt_eq] at z
    simpa using z)
  rw [hm]
  exact h _ _ (S.keeps hk)
theorem s_minL {n k : Nat} {a : Addr} {l : List (Int × Tok)} {xs : List Int} {Q : Value → Shared → Prop} (S : St O w g f m L s.heap s.os s.gens) (r : Rm n A) (hl : s.heap.get? a = some (lstO (intVals l) k)) (e : l.map (·.1) = xs) (hne : xs ≠ [])
    (h : ∀ t' s', St O w g f m L s'.heap s'.os s'.gens → Q (.int (lmin xs) t') s') : wpAny (model prog w) A (call (.builtin "min") [.ref a]) Q E s := by
  subst e
  have hI : s.heap.IsList a (intItems l.toArray) := by rw [← intVals_items]; exact isL hl
  have hsz : 0 < l.toArray.size := by
    have := List.length_pos_iff.mpr hne
    simpa using this
  refine min_intList r.hd hI hsz fun v h' tk hv hk => ?_
  obtain ⟨t, rfl⟩ := intItems_at hv
  obtain ⟨h1, h2⟩ := argBest_lt (numAt l.toArray) (l.toArray.size - 1)
  have hm := lmin_eq (l := l.map (·.1)) (m := numAt l.toArray (argBest (fun i j => decide (numAt l.toArray i < numAt l.toArray j)) (l.toArray.size - 1))) (by
    rw [numAt_eq]; exact getD_mem (by simp at *; omega)) (fun a ha => by
    obtain ⟨j, hj, rfl⟩ := mem_getD ha
    have z := h2 j (by simp at *; omega)
    rw [numAt_eq (j := j)] at z
    simpa using z)
  rw [hm]
  exact h _ _ (S.keeps hk)
theorem g_min (w : World) : nsLook (Str.ofString "min") (o3 w) = pure none ∧ nsLook (Str.ofString "min") (o0 w) = pure (some (.builtin "min")) := ⟨by kernel_rfl, by kernel_rfl⟩
theorem g_max (w : World) : nsLook (Str.ofString "max") (o3 w) = pure none ∧ nsLook (Str.ofString "max") (o0 w) = pure (some (.builtin "max")) := ⟨by kernel_rfl, by kernel_rfl⟩
/-- a list of values that are ints -/
theorem ints_of {F : Nat → Int} : ∀ {vs : List Value} {k : Nat}, (∀ i v, vs[i]? = some v → ∃ t, v = Value.int (F (k + i)) t) → ∃ l, vs = intVals l ∧ l.map (·.1) = (List.range vs.length).map fun i => F (k + i)
  | [], _, _ => ⟨[], rfl, rfl⟩
  | v :: vs, k, h => by
    obtain ⟨t, rfl⟩ := h 0 v rfl
    obtain ⟨l, rfl, e⟩ := ints_of (F := F) (vs := vs) (k := k + 1) fun i v hv => by
      obtain ⟨t, e⟩ := h (i + 1) v (by simpa using hv)
      exact ⟨t, by rw [e]; congr 2; omega⟩
    refine ⟨(F k, t) :: l, rfl, ?_⟩
    rw [List.length_cons, List.range_succ_eq_map, List.map_cons, List.map_cons, e, List.map_map]
    congr 1
    apply List.map_congr_left
    intro i _
    show F (k + 1 + i) = F (k + (i + 1))
    congr 1; omega
theorem ints_of0 {F : Nat → Int} {vs : List Value} (h : ∀ i v, vs[i]? = some v → ∃ t, v = Value.int (F i) t) : ∃ l, vs = intVals l ∧ l.map (·.1) = (List.range vs.length).map F := by
  obtain ⟨l, e1, e2⟩ := ints_of (F := F) (vs := vs) (k := 0) (by simpa using h)
  exact ⟨l, e1, by simpa using e2⟩
end
end Mine
namespace Mine
theorem sws_tuple {e : List Expr} {k : Nat} {p : Pos} {vs : List Expr} {k2 : Nat} {p2 : Pos} {line : Nat} {env : Env} : swapsWithSole [.Tuple e k p] (.Tuple vs k2 p2) line env = pure false := rfl
theorem sw_none {a b : Str} {p q pos pos2 : Pos} {k k2 : Nat} {v1 v2 : Expr} {env : Env} (h : (env.kindOf a == some .local) = false) :
    swappedStores [.Tuple [.Name a p, .Name b q] k pos] (.Tuple [v1, v2] k2 pos2) env = pure none := by
  unfold swappedStores
  dsimp only
  split
  · rfl
  · split
    · rfl
    · rw [if_pos]
      simp only [List.filterMap, h, Bool.false_and, Bool.false_eq_true, if_false]
      split <;> simp
section
variable {O : OsState} {w : World} {A : Around} {E : Value → Shared → Prop} {s : Shared} {g : Heap} {f : Addr} {m : Str → Option Value} {L : List (Addr × Obj)} {env : Env}
theorem s_pow6 {t u : Tok} {Q : Value → Shared → Prop} (S : St O w g f m L s.heap s.os s.gens) (h : ∀ t s', St O w g f m L s'.heap s'.os s'.gens → Q (.int 1000000 t) s') : wpAny (model prog w) A (binaryOp .Pow (.int 10 t) (.int 6 u)) Q E s := by
  refine pow_int (by decide) (by decide +kernel) ?_
  have e : (10 : Int) ^ (6 : Int).toNat = 1000000 := by decide
  rw [e]
  exact h _ _ S
/-- x, y = a pair, x a cell -/
theorem s_unpackC {k i : Nat} {T c : Addr} {v1 v2 : Value} {v0 : Option Value} {x y : Str} {p1 p2 pos : Pos} {x1 : Nat} {bs : List (Str × Value)} {Q : Unit → Shared → Prop} (S : St O w g f (fun z => bs.lookup z) L s.heap s.os s.gens) (r : Rm k A) (hT : s.heap.get? T = some (tupO [v1, v2]))
    (hi : L[i]? = some (c, cellO v0)) (h : ∀ s', St O w g f (fun z => ((y, v2) :: bs).lookup z) (L.set i (c, cellO (some v1))) s'.heap s'.os s'.gens → Q () s')
    (he : env.locals = f := by rfl) (hk : env.scope.kind = .function := by rfl) (hcl : env.cells.lookup x = some c := by rfl) (hl : env.kindOf x = some .cell := by rfl) (hl' : env.kindOf y = some .local := by rfl)
    (hn : (assignEach [.Name x p1, .Name y p2] env).length = 2 := by rfl) (hst : (assignEach [.Name x p1, .Name y p2] env).findIdx? (·.1) = none := by rfl)
    (hm : (assignEach [.Name x p1, .Name y p2] env).map (·.2) = [fun v => assign (.Name x p1) env v, fun v => assign (.Name y p2) env v] := by rfl) :
    wpAny (model prog w) A (assign (.Tuple [.Name x p1, .Name y p2] x1 pos) env (.ref T)) Q E s := by
  refine wpAny_assign_Tuple r.hd (items := #[v1, v2]) ⟨_, hT, rfl, _, rfl⟩ hn hst fun h' hx => ?_
  have S1 : St O w g f (fun z => bs.lookup z) L ({ s with heap := h' } : Shared).heap ({ s with heap := h' } : Shared).os ({ s with heap := h' } : Shared).gens := S.keeps fun b o e => hx b o (fun q => by rw [q, get_size] at e; cases e) e
  rw [hm]
  show wpAny _ _ (assignInOrder _ [v1, v2]) _ _ _
  unfold assignInOrder
  refine wpAny_bind (wpAny_holding (wpAny_assign_Name (r_storeCell S1 hi (fun s2 S2 => ?_) hcl hk hl)))
  unfold assignInOrder
  refine wpAny_bind (wpAny_holding (wpAny_assign_Name (r_store S2 (fun s3 S3 => ?_) he hk hl')))
  unfold assignInOrder
  exact wpAny_pure (h _ S3)
theorem rsz1 {x n : Int} (h : 0 ≤ n) : Builtin.Range.rangeSize 0 n 1 = n := rsz_up h
theorem ints_last {l : List (Int × Tok)} {xs : List Int} (e : l.map (·.1) = xs) : l.length = xs.length := by rw [← e]; simp
theorem call_atC {R : Result → Shared → Prop} {n : Nat} {fa : Addr} {body : List Stmt} {args : Args} (binds : List (Str × Value)) (S : St O w g f m L s.heap s.os s.gens) (r : Rm (n + 1) A)
    (ho : (KF w).lookup fa = some ⟨.type "function", none, .func (fdAt w fa), #[]⟩) (ht : isTab fa = false) {c : Addr} {oc : Obj} {vs : Array Value} {t : Tok} (hc : (fdAt w fa).code = .ref c) (htc : isTab c = false) (hoc : (KF w).lookup c = some oc) (hvs : oc.data = .fields vs) (hq : vs[1]? = some (.str (fdAt w fa).qualname t))
    (hbody : (fdAt w fa).body = .stmts body) (hbind : bindArgs (fdAt w fa) args = pure binds) (hclo : (fdAt w fa).closure = [])
    (hco : (fdAt w fa).scope.isCoroutine = false) (hgen : (fdAt w fa).scope.isGenerator = false) (hk : (fdAt w fa).scope.kind = .function)
    (h : ∀ g' C s' A', Rm n A' → (∀ b o, g.get? b = some o → g'.get? b = some o) → St O w g' C (fun x => ([] : List (Str × Value)).lookup x) (cellL (C + 1) (fdAt w fa).scope.names L) s'.heap s'.os s'.gens → (∀ m'' L'' h'' {so'' sg''}, St O w g' C m'' L'' h'' so'' sg'' → St O w g f m L'' h'' so'' sg'') →
      ∀ A2 E', wpAny (model prog w) A2 (forIn binds PUnit.unit fun x _ => (do storeName (callEnvC (fdAt w fa) C fa) x.1 x.2; pure (ForInStep.yield PUnit.unit) : Sem (ForInStep PUnit))) (fun _ s'' => (∃ g f m L, St O w g f m L s''.heap s''.os s''.gens) ∧
        wpAny (model prog w) A' (execs body (callEnvC (fdAt w fa) C fa)) (fun fl s3 => R (.ok (.ret (match fl with | .ret v => v | _ => .none))) s3) (fun _ _ => False) s'') E' s') :
    codeAny (model prog w) A (.call (.ref fa) args) R s :=
  enterC binds S r (S.k ho ht) ⟨c, oc, vs, t, hc, S.k hoc htc, hvs, hq⟩ hbody hbind hclo h hco hgen hk
theorem riO_succ (j i : Nat) : riO ((i : Int) + 1) ((j : Int) - i - 1) 1 = riO ((i + 1 : Nat) : Int) ((j : Int) - ((i + 1 : Nat) : Int)) 1 := by
  congr 1 <;> omega
/-- the changeable objects of _law_tables between its turns -/
def LTb (C itk tl bl el : Addr) (k lf : Int) (trs : List Addr) (nt : Nat) (L : List (Addr × Obj)) : List (Addr × Obj) :=
  (itk, riO k lf 1) :: (tl, lstO (trs.map Value.ref) nt) :: (C + 1 + 1, cellO (some (.ref bl))) :: (C + 1, cellO (some (.ref el))) :: L
/-- the row next to best -/
theorem tables_spec {el : Addr} {ne n : Nat} {es : List (Int × Tok)} {e : List Int} {Rz : Result → Shared → Prop} (S : St O w g f m L s.heap s.os s.gens) (rm : Rm 30 A)
    (hel : g.get? el = some (lstO (intVals es) ne)) (he : es.map (·.1) = e) (hE : e.length = n + 1) (hn : n < 1000)
    (h : ∀ gk tl (trs : List Addr) n' s', (∀ b o, g.get? b = some o → gk.get? b = some o) → St O w gk f m ((tl, lstO (trs.map Value.ref) n') :: L) s'.heap s'.os s'.gens → trs.length = n →
      (∀ k a, trs[k]? = some a → ∃ l nn, gk.get? a = some (lstO (intVals l) nn) ∧ l.map (·.1) = rowAt e (k + 1)) → Rz (.ok (.ret (.ref tl))) s') :
    codeAny (model prog w) A (.call (.ref 223) ⟨[.ref el], []⟩) Rz s := by
  have hne : e ≠ [] := by intro q; rw [q] at hE; cases hE
  have hesl : es.length = n + 1 := by rw [ints_last he, hE]
  refine call_atC [(Str.ofString "ends", .ref el)] S rm (by rfl) (by rfl) (by rfl) (by rfl) (by rfl) (by rfl) (by rfl) (by rfl) (by kernel_rfl) (by rfl) (by rfl) (by rfl) (by rfl) ?_
  intro g' C s1 A' rm' le S1 back A2 E'
  have hel' := le _ _ hel
  have S1 := S1.cast (L' := (C + 1 + 1, cellO none) :: (C + 1, cellO none) :: L) (by rfl)
  rw [List.forIn_cons]
  refine wpAny_bind (wpAny_bind (r_storeCell (i := 1) S1 rfl fun s2 S2 => wpAny_pure ?_))
  dsimp only
  rw [List.forIn_nil]
  refine wpAny_pure ⟨⟨_, _, _, _, S2⟩, ?_⟩
  walk_at "env7"
  have hcells : cellsFrom (C + 1) (fdAt w 223).scope.names [] = [(Str.ofString "best", C + 1 + 1), (Str.ofString "ends", C + 1)] := by kernel_rfl
  rw [hcells]
  refine r_execs_cons ?_
  refine Assign_Tuple ?_ ?_ ?_
  rotate_left
  refine sws_tuple
  refine sw_none ?_
  rfl
  refine r_tuple (O := O) ?_
  refine r_item ?_
  refine wpAny_BinOp ?_
  refine r_list (O := O) ?_
  refine r_item ?_
  refine s_int S2 fun t3 s3 S3 => ?_
  refine r_item0 ?_
  refine ⟨by simp [sizeLine], _, _, _, _, S3, fun z s4 S4 => ?_⟩
  refine wpAny_BinOp (r_list (O := O) (r_item (wpAny_BinOp (s_int S4 fun t5 s5 S5 => s_int S5 fun t6 s6 S6 => s_pow6 S6 fun t7 s7 S7 => r_item0 ⟨by simp [sizeLine], _, _, _, _, S7, fun y s8 S8 => ?_⟩))))
  refine wpAny_BinOp (wpAny_Call_NameR (r_builtin S8 (g_len2 w).1 (g_len2 w).2 ?_))
  refine Calls.callWith_builtin rfl (r_args1 (r_cell (S8.get 3 rfl) (r_item0 ?_)))
  refine s_lenL S8 (S8.keep _ _ hel') (by rw [intVals_len]; omega) fun t9 s9 S9 => ?_
  refine s_int S9 fun t10 s10 S10 => s_sub S10 fun t11 s11 S11 => ?_
  have en : ((intVals es).length : Int) - 1 = n := by rw [intVals_len, hesl]; omega
  rw [en]
  refine s_mulList S11 (S11.get 0 rfl) (by omega) (by omega) fun r s12 S12 => ?_
  rw [Int.toNat_natCast] at S12
  refine s_addL S12 (S12.get 2 rfl) (S12.get 0 rfl) (by simp; omega) fun b0 s13 S13 => ?_
  refine r_item (r_list (O := O) (r_item0 ⟨by simp [sizeLine], _, _, _, _, S13, fun tl s14 S14 => ?_⟩))
  refine r_item0 ⟨by simp [sizeLine], _, _, _, _, S14, fun T s15 S15 => ?_⟩
  refine s_unpackC (bs := []) (i := 6) S15 rm' (S15.get 0 rfl) rfl fun s16 S16 => ?_
  have nd := S16.nd
  obtain ⟨g3, S17, le3, hin3, back3⟩ := S16.commit ((tl, lstO []) :: (C + 1 + 1, cellO (some (.ref b0))) :: (C + 1, cellO (some (.ref el))) :: L) (fun p hp => by
    simp only [List.mem_cons, List.set] at hp ⊢
    rcases hp with h | h | h | h <;> simp [h]) (by
    simp only [List.set, List.map_cons, List.nodup_cons] at nd ⊢
    grind)
  have hb0 := hin3 (b0, _) (.tail _ (.tail _ (.head _))) (by
    simp only [List.set, List.map_cons, List.nodup_cons] at nd ⊢
    grind)
  have hel3 := le3 _ _ hel'
  refine r_execs_cons (wpAny_For ?_)
  refine wpAny_Call_NameR (r_builtin S17 (g_range w).1 (g_range w).2 ?_)
  refine r_callT rfl (r_args1 (wpAny_BinOp (wpAny_Call_NameR (r_builtin S17 (g_len2 w).1 (g_len2 w).2 ?_))))
  refine Calls.callWith_builtin rfl (r_args1 (r_cell (S17.get 2 rfl) (r_item0 ?_)))
  refine s_lenL S17 (S17.keep _ _ hel3) (by rw [intVals_len]; omega) fun t18 s18 S18 => s_int S18 fun t19 s19 S19 => s_sub S19 fun t20 s20 S20 => r_item0 ?_
  rw [en]
  refine s_range1 S20 fun rg u v s21 S21 => s_rangeIter S21 (rsm_up (by omega) (by omega)) fun itk s22 S22 => ?_
  rw [rsz_up (by omega)] at S22
  have trow : (([(0, t3)] ++ List.replicate n (1000000, t7)) : List (Int × Tok)).map (·.1) = rowAt e 0 := by simp [rowAt, hE]
  refine for_idx n (fun k s => ∃ gk bs bl, ∃ lb : List (Int × Tok), ∃ nb, ∃ trs : List Addr, ∃ nt, (∀ b o, g3.get? b = some o → gk.get? b = some o) ∧ (∀ m'' L'' h'' {so'' sg''}, St O w gk C m'' L'' h'' so'' sg'' → St O w g3 C m'' L'' h'' so'' sg'') ∧
    St O w gk C (fun y => List.lookup y bs) (LTb C itk tl bl el k ((n : Int) - k) trs nt L) s.heap s.os s.gens ∧ bs.lookup (Str.ofString "tables") = some (.ref tl) ∧ gk.get? bl = some (lstO (intVals lb) nb) ∧ lb.map (·.1) = rowAt e k ∧ trs.length = k ∧
    ∀ i a, trs[i]? = some a → ∃ l nn, gk.get? a = some (lstO (intVals l) nn) ∧ l.map (·.1) = rowAt e (i + 1))
    ⟨g3, _, b0, [(0, t3)] ++ List.replicate n (1000000, t7), _, [], _, fun _ _ e => e, fun _ _ _ {_ _} e => e, S22.cast (by simp [LTb]; rfl), rfl, (by rw [hb0]; simp [intVals]; rfl), trow, rfl, fun i a q => by simp at q⟩ (fun E' k s hk I => ?_) fun E' s I => ?_
  · obtain ⟨gk, bs, bl, lb, nb, trs, nt, lek, backk, Sk, hbt, hbl, elb, etl, hrows⟩ := I
    have helk := lek _ _ hel3
    have hlb : lb.length = n + 1 := by rw [ints_last elb, rowAt_len hne, hE]
    refine s_rangeNextI (i := 0) Sk rfl (by omega) fun t s1 S1 => ⟨_, rfl, ?_⟩
    refine wpAny_assign_Name (r_store S1 fun s2 S2 => ?_)
    refine r_execs_cons (wpAny_Assign_Name ?_)
    refine r_comp1 (O := O) (cl := [(Str.ofString "ends", C + 1), (Str.ofString "best", C + 1 + 1)]) (x := Str.ofString "j") ?_
    refine wpAny_Call_NameR (r_builtin S2 (g_range w).1 (g_range w).2 ?_)
    refine r_callT rfl (r_args1 (wpAny_Call_NameR (r_builtin S2 (g_len2 w).1 (g_len2 w).2 ?_)))
    refine Calls.callWith_builtin rfl (r_args1 (r_cell (S2.get 3 rfl) (r_item0 ?_)))
    refine s_lenL S2 (S2.keep _ _ helk) (by rw [intVals_len]; omega) fun t3 s3 S3 => r_item0 ?_
    have en1 : ((intVals es).length : Int) = (n + 1 : Nat) := by rw [intVals_len, hesl]
    rw [en1]
    refine s_range1 S3 fun rg u v s4 S4 => s_rangeIter S4 (rsm_up (by omega) (by omega)) fun itj s5 S5 => ?_
    rw [rsz_up (by omega)] at S5
    refine ⟨_, _, _, _, S5, fun g6 C6 D c s6 le6 S6 => ⟨fun Q' E' q => s_rangeSelf (i := 2) S6 rfl q, ?_⟩⟩
    refine comp_run (n + 1) (fun j x => ∃ t, x = Value.int (lmin (cands e (rowAt e k) j)) t) (fun j vs s => ∃ cv nD, St O w g6 C6 (fun y => ([] : List (Str × Value)).lookup y) ((c, cellO cv) :: (D, lstO vs nD) :: (itj, riO j ((n + 1 : Nat) - j) 1) :: LTb C itk tl bl el ((k : Int) + 1) ((n : Int) - k - 1) trs nt L) s.heap s.os s.gens) ⟨none, 0, S6.cast (by simp [LTb])⟩ (fun E' j vs' s hj hl I => ?_) (fun E' vs' s hl hF I => ?_)
    · obtain ⟨cv, nD, S7⟩ := I
      refine s_rangeNextI (i := 2) S7 rfl (by omega) fun t8 s8 S8 => ⟨_, rfl, ?_⟩
      refine wpAny_assign_Name (r_storeCell (i := 0) S8 rfl fun s9 S9 => ?_)
      refine wpAny_Call_NameR (r_builtin S9 (g_min w).1 (g_min w).2 ?_)
      refine Calls.callWith_builtin rfl (r_args1 (wpAny_BinOp (r_comp (O := O) (cl := [(Str.ofString "j", c), (Str.ofString "ends", C + 1), (Str.ofString "best", C + 1 + 1)]) ?_)))
      refine wpAny_Call_NameR (r_builtin S9 (g_range w).1 (g_range w).2 ?_)
      refine r_callT rfl (r_args1 (r_cell (S9.get 0 rfl) (r_item0 ?_)))
      refine s_range1 S9 fun rg u v s10 S10 => s_rangeIter S10 (rsm_up (by omega) (by omega)) fun iti s11 S11 => ?_
      rw [rsz_up (by omega)] at S11
      refine ⟨_, _, _, _, S11, fun g12 C12 D12 s12 le12 S12 => ⟨fun Q' E' q => s_rangeSelf (i := 1) S12 rfl q, ?_⟩⟩
      have helx := le12 _ _ (le6 _ _ helk)
      have hblx := le12 _ _ (le6 _ _ hbl)
      refine comp_run j (fun i x => ∃ t, x = Value.int (max ((rowAt e k).getD i 0) (e.getD j 0 - e.getD i 0)) t) (fun i vs s => ∃ bs nD', St O w g12 C12 (fun y => List.lookup y bs) ((D12, lstO vs nD') :: (iti, riO i ((j : Int) - i) 1) :: (c, cellO (some (.int j t8))) :: (D, lstO vs' nD) :: (itj, riO ((j : Int) + 1) ((n + 1 : Nat) - j - 1) 1) :: LTb C itk tl bl el ((k : Int) + 1) ((n : Int) - k - 1) trs nt L) s.heap s.os s.gens) ⟨[], 0, S12.cast (by simp)⟩ (fun E' i ws s hi hli I => ?_) (fun E' ws s hli hFi I => ?_)
      · obtain ⟨bs2, nD2, S13⟩ := I
        refine s_rangeNextI (i := 1) S13 rfl (by omega) fun t14 s14 S14 => ⟨_, rfl, ?_⟩
        refine wpAny_assign_Name (r_store S14 fun s15 S15 => ?_)
        refine wpAny_Call_NameR (r_builtin S15 (g_max w).1 (g_max w).2 ?_)
        refine Calls.callWith_builtin rfl (r_args1 (r_Sub (r_cell (S15.get 7 rfl) (r_local S15 rfl ?_))))
        have gb : s15.heap.get? bl = some (lstO (intVals lb) nb) := S15.keep _ _ hblx
        have ge : s15.heap.get? el = some (lstO (intVals es) ne) := S15.keep _ _ helx
        obtain ⟨u1, hu1⟩ := intVals_at elb (j := i) (by rw [rowAt_len hne, hE]; omega)
        obtain ⟨u2, hu2⟩ := intVals_at he (j := j) (by rw [hE]; omega)
        obtain ⟨u3, hu3⟩ := intVals_at he (j := i) (by rw [hE]; omega)
        refine gip_list gb ⟨rfl, s_itemL (x := Value.int ((rowAt e k).getD i 0) u1) gb (by omega) (by omega) (by simpa using hu1) ?_⟩
        refine r_item (wpAny_BinOp (r_Sub (r_cell (S15.get 8 rfl) (r_cell (S15.get 2 rfl) ?_))))
        refine gip_list ge ⟨rfl, s_itemL (x := Value.int (e.getD j 0) u2) ge (by omega) (by omega) (by simpa using hu2) ?_⟩
        refine r_Sub (r_cell (S15.get 8 rfl) (r_local S15 rfl ?_))
        refine gip_list ge ⟨rfl, s_itemL (x := Value.int (e.getD i 0) u3) ge (by omega) (by omega) (by simpa using hu3) ?_⟩
        refine s_sub S15 fun t16 s16 S16 => r_item0 ?_
        refine s_max2 S16 rm' fun t17 s17 S17 => ⟨⟨_, rfl⟩, ?_⟩
        refine s_appendV (i := 0) S17 rfl (by omega) fun n18 s18 S18 => ?_
        exact ⟨_, _, S18.cast (by rw [← riO_succ j i]; rfl)⟩
      · obtain ⟨bs2, nD2, S13⟩ := I
        refine s_rangeEndI (i := 1) S13 rfl rm' (by omega) fun s14 S14 => ⟨rfl, rfl, _, _, S14, fun s15 S15 => ?_⟩
        obtain ⟨l1, rfl, el1⟩ := ints_of0 (F := fun i => max ((rowAt e k).getD i 0) (e.getD j 0 - e.getD i 0)) hFi
        have S15 := S15.cast (L' := (D12, lstO (intVals l1) nD2) :: (c, cellO (some (.int j t8))) :: (D, lstO vs' nD) :: (itj, riO ((j : Int) + 1) ((n + 1 : Nat) - j - 1) 1) :: LTb C itk tl bl el ((k : Int) + 1) ((n : Int) - k - 1) trs nt L) rfl
        have gb : s15.heap.get? bl = some (lstO (intVals lb) nb) := S15.keep _ _ (le6 _ _ hbl)
        obtain ⟨u1, hu1⟩ := intVals_at elb (j := j) (by rw [rowAt_len hne, hE]; omega)
        refine r_list (O := O) (r_item (r_Sub (r_cell (S15.get 6 rfl) (r_cell (S15.get 1 rfl) ?_))))
        refine gip_list gb ⟨rfl, s_itemL (x := Value.int ((rowAt e k).getD j 0) u1) gb (by omega) (by omega) (by simpa using hu1) ?_⟩
        refine r_item0 ⟨by simp [sizeLine], _, _, _, _, S15, fun z2 s16 S16 => ?_⟩
        refine s_addL S16 (S16.get 1 rfl) (S16.get 0 rfl) (by rw [intVals_len] at hli; simp [intVals_len]; omega) fun cd s17 S17 => ?_
        refine r_item0 ?_
        have ecd : intVals l1 ++ [Value.int ((rowAt e k).getD j 0) u1] = intVals (l1 ++ [((rowAt e k).getD j 0, u1)]) := by simp [intVals]
        rw [ecd] at S17
        have ecl : (l1 ++ [((rowAt e k).getD j 0, u1)]).map (·.1) = cands e (rowAt e k) j := by
          rw [List.map_append, el1, hli]
          rfl
        refine s_minL S17 rm' (S17.get 0 rfl) ecl (cands_ne _ _ _) fun t18 s18 S18 => ⟨⟨_, rfl⟩, ?_⟩
        refine s_appendV (i := 4) S18 rfl (by omega) fun n19 s19 S19 => ?_
        exact ⟨_, _, S19.tail.tail.tail.cast (by rw [← riO_succ (n + 1) j]; rfl)⟩
    · obtain ⟨cv, nD, S7⟩ := I
      refine s_rangeEndI (i := 2) S7 rfl rm' (by omega) fun s8 S8 => ⟨rfl, rfl, _, _, S8, fun s9 S9 => ?_⟩
      obtain ⟨l1, rfl, el1⟩ := ints_of0 (F := fun j => lmin (cands e (rowAt e k) j)) hF
      have erow : l1.map (·.1) = rowAt e (k + 1) := by
        rw [el1, hl]
        show _ = nxt e (rowAt e k)
        unfold nxt
        rw [hE]
      have S9 := S9.tail.cast (L' := (D, lstO (intVals l1) nD) :: LTb C itk tl bl el ((k : Int) + 1) ((n : Int) - k - 1) trs nt L) rfl
      refine r_storeCell (i := 3) S9 rfl fun s10 S10 => ?_
      have S10 := S10.cast (L' := (D, lstO (intVals l1) nD) :: LTb C itk tl D el ((k : Int) + 1) ((n : Int) - k - 1) trs nt L) rfl
      obtain ⟨gk2, S11, le11, hD, back11⟩ := S10.commit1
      refine r_execs_cons (wpAny_Expr_any ?_)
      refine r_CallM (r_local S11 hbt (lst_append (S11.get 1 rfl) ?_))
      refine r_callB rfl (r_args1 (r_cell (S11.get 2 rfl) (r_item0 ?_)))
      refine b_appendL (i := 1) S11 rfl (by simp; omega) fun n12 s12 S12 => ?_
      refine wpAny_execs_nil ?_
      refine ⟨gk2, _, D, l1, nD, trs ++ [D], n12, fun b o q => le11 _ _ (lek _ _ q), fun m'' L'' h'' {so'' sg''} q => backk _ _ _ (back11 _ _ _ q), S12.cast ?_, hbt, hD, erow, by simp [etl], fun i a q => ?_⟩
      · show _ = (itk, riO ((k + 1 : Nat) : Int) ((n : Int) - ((k + 1 : Nat) : Int)) 1) :: _
        rw [← riO_succ n k]
        simp [LTb]
      · rw [List.getElem?_append] at q
        split at q
        · obtain ⟨l, nn, q1, q2⟩ := hrows i a q
          exact ⟨l, nn, le11 _ _ q1, q2⟩
        · rename_i hge
          have hi0 : i = k := by
            have := (List.getElem?_eq_some_iff.mp q).1
            simp at this; omega
          subst hi0
          rw [etl, Nat.sub_self] at q
          simp at q
          subst q
          exact ⟨l1, nD, hD, erow⟩
  · obtain ⟨gk, bs, bl, lb, nb, trs, nt, lek, backk, Sk, hbt, hbl, elb, etl, hrows⟩ := I
    refine s_rangeEndI (i := 0) Sk rfl rm' (by omega) fun s9 S9 => ⟨rfl, ?_⟩
    refine wpAny_execs_nil ?_
    refine r_execs_cons (wpAny_Return_some ?_)
    refine r_local S9 hbt ?_
    have S10 := S9.sub (L' := (tl, lstO (trs.map Value.ref) nt) :: L) (by simp [LTb])
    have Sb := back _ _ _ (back3 _ _ _ (backk _ _ _ S10))
    obtain ⟨gk2, S11, le11, keep11⟩ := Sb.leave S10 fun b o q => lek _ _ (le3 _ _ (le _ _ q))
    refine h gk2 tl trs nt s9 le11 S11 etl fun i a q => ?_
    obtain ⟨l, nn, q1, q2⟩ := hrows i a q
    exact ⟨l, nn, keep11 _ _ q1 (fun es ep => by simp [lstO]), q2⟩
end
end Mine
namespace Mine
theorem intsAre : ∀ l : List (Int × Tok), IntsAre (intVals l) (l.map (·.1))
  | [] => .nil
  | p :: r => .cons p.1 p.2 (intsAre r)
section
variable {O : OsState} {w : World} {A : Around} {E : Value → Shared → Prop} {s : Shared} {g : Heap} {f : Addr} {m : Str → Option Value} {L : List (Addr × Obj)} {env : Env}
theorem lst_index {a : Addr} {vs : List Value} {n : Nat} {pl : Sem Bool} {Q : Value × List Value → Shared → Prop} (ho : s.heap.get? a = some (lstO vs n))
    (h : Q (.builtin "list.index", [.ref a]) s) : wpAny (model prog w) A (getMethod (.ref a) (Str.ofString "index") pl) Q E s := by
  have hT : s.TypeIs (.ref a) "list" := ⟨_, ho, rfl⟩
  have hd : ∀ b, Value.ref a = .ref b → ∃ o, s.heap.get? b = some o ∧ o.dict = none := fun b e => by cases e; exact ⟨_, ho, rfl⟩
  with_reducible exact PySem.getMethod_builtin hT PySem.F.plainAttrs_list PySem.F.slot_list_index PySem.F.type_list_index hd h
theorem s_index {a : Addr} {l : List (Int × Tok)} {xs : List Int} {n : Nat} {k : Int} {t : Tok} {Q : Value → Shared → Prop} (S : St O w g f m L s.heap s.os s.gens) (ho : s.heap.get? a = some (lstO (intVals l) n)) (e : l.map (·.1) = xs) (hl : l.length < 100000) (hk : k ∈ xs)
    (h : ∀ t s', St O w g f m L s'.heap s'.os s'.gens → Q (.int (xs.idxOf k : Nat) t) s') : wpAny (model prog w) A (call (.builtin "list.index") [.ref a, .int k t]) Q E s := by
  subst e
  have hi := intsAre l
  have hlen := hi.length
  have hj : (l.map (·.1)).idxOf k < (l.map (·.1)).length := List.idxOf_lt_length_iff.mpr hk
  have hj2 : (l.map (·.1)).idxOf k < l.length := by simpa using hj
  refine call_meets PySem.F.slot_list_index ⟨_, ho, rfl⟩ PySem.F.entry_list_index (PySem.F.args_list_index_2 _ _)
    (SeqAt.list_indexAt a (intVals l).toArray n none #[] (.int k t) (isInt k) ((l.map (·.1)).idxOf k) (by simpa [hlen] using hj) (by omega) ?_ ?_) ⟨ho, fun y hy => (eq_isInt k t hi y (by simpa using hy)).at _ _, h s.toks { s with toks := s.toks + 1 } S⟩
  · show isInt k (intVals l)[(l.map (·.1)).idxOf k] = true
    rw [isInt_at k hi _ (by omega) hj]
    simpa using List.getElem_idxOf hj
  · intro j hjs hlt
    show isInt k (intVals l)[j] = false
    rw [isInt_at k hi j (by simpa using hjs) (by omega)]
    exact ne_of_lt_idxOf hlt _
theorem s_in {a : Addr} {l : List (Int × Tok)} {xs : List Int} {n : Nat} {k : Int} {t : Tok} {Q : Value → Shared → Prop} (ho : s.heap.get? a = some (lstO (intVals l) n)) (e : l.map (·.1) = xs)
    (h : Q (.bool (xs.any (· == k))) s) : wpAny (model prog w) A (compareOp .In (.int k t) (.ref a)) Q E s := by
  subst e
  exact in_list_ints (isL ho) (intsAre l) h
/-- two lists of the same ints are equal -/
theorem s_eqL {r a b : Nat} {la lb : List (Int × Tok)} {n k : Nat} {Q : Value → Shared → Prop} (ra : Rm r A) (ha : s.heap.get? a = some (lstO (intVals la) n)) (hb : s.heap.get? b = some (lstO (intVals lb) k)) (e : la.map (·.1) = lb.map (·.1))
    (h : Q (.bool true) s) : wpAny (model prog w) A (compareOp .Eq (.ref a) (.ref b)) Q E s := by
  have hlen : la.length = lb.length := by simpa using congrArg List.length e
  refine SeqAt.eq_listAt (e := fun _ => true) (isL ha) (isL hb) (by simp [intVals_len, hlen]) (by have := ra.units; unfold cLine; omega) (fun j h1 h2 => ?_) ?_
  · have h1' : j < la.length := by simpa [intVals_len] using h1
    have h2' : j < lb.length := by simpa [intVals_len] using h2
    have e1 : (intVals la).toArray[j] = .int la[j].1 la[j].2 := by simp [intVals]
    have e2 : (intVals lb).toArray[j] = .int lb[j].1 lb[j].2 := by simp [intVals]
    have e3 : la[j].1 = lb[j].1 := by
      have := congrArg (fun z : List Int => z[j]?) e
      simpa [h1', h2'] using this
    rw [e1, e2, e3]
    have := (MeetsSeq.EqGives.int lb[j].1 lb[j].1 la[j].2 lb[j].2).at A.in1 s
    simpa using this
  · have : (List.range (intVals la).toArray.size).all (fun _ => true) = true := by simp
    rw [this]; exact h
/-- a[:k] -/
theorem r_upto {value upper : Expr} {p pos : Pos} {Q : Value → Shared → Prop}
    (h : wpAny (model prog w) A (eval value env) (fun o s₁ => wpAny (model prog w) A (eval upper env) (fun vu s₃ => ∃ g f m L a vs n b t, St O w g f m L s₃.heap s₃.os s₃.gens ∧ o = .ref a ∧ s₃.heap.get? a = some (lstO vs n) ∧ vs.length < 100000 ∧ vu = .int ((b : Nat) : Int) t ∧
      ∀ c s', St O w g f m ((c, lstO (vs.take b)) :: L) s'.heap s'.os s'.gens → Q (.ref c) s') E s₁) E s)
    (ht : ∀ o r, letTemporaryGo value o r = pure () := by intro _ _; rfl) :
    wpAny (model prog w) A (eval (.Subscript value (.Slice none (some upper) none p) pos) env) Q E s := by
  refine wpAny_Subscript_list_slice (wpAny_mono h (fun o s₁ h₁ => wpAny_evalPart_none (wpAny_evalPart_some (wpAny_mono h₁ (fun vu s₃ h₃ => ?_) fun _ _ e => e))) fun _ _ e => e) ht
  obtain ⟨g, f, m, L, a, vs, n, b, t, S, rfl, hl, hz, rfl, h⟩ := h₃
  refine ⟨a, vs.toArray, none, some b, rfl, isL hl, by simp [sizeLine]; omega, .none, .int _ _, ?_⟩
  rw [slicePick_upto']
  have S1 := (S.push { cls := .type "slice", data := .fields #[.none, .int (b : Int) t, .none] } rfl).push (lstO (vs.take b)) rfl
  rw [Heap.size_push] at S1
  have S2 := S1.sub (L' := (s₃.heap.objs.size + 1, lstO (vs.take b)) :: L) (.cons_cons _ (.cons _ (List.Sublist.refl _)))
  exact h _ _ S2
/-- a[k:] -/
theorem r_from {value lower : Expr} {p pos : Pos} {Q : Value → Shared → Prop}
    (h : wpAny (model prog w) A (eval value env) (fun o s₁ => wpAny (model prog w) A (eval lower env) (fun vu s₃ => ∃ g f m L a vs n b t, St O w g f m L s₃.heap s₃.os s₃.gens ∧ o = .ref a ∧ s₃.heap.get? a = some (lstO vs n) ∧ vs.length < 100000 ∧ vu = .int ((b : Nat) : Int) t ∧
      ∀ c s', St O w g f m ((c, lstO (vs.drop b)) :: L) s'.heap s'.os s'.gens → Q (.ref c) s') E s₁) E s)
    (ht : ∀ o r, letTemporaryGo value o r = pure () := by intro _ _; rfl) :
    wpAny (model prog w) A (eval (.Subscript value (.Slice (some lower) none none p) pos) env) Q E s := by
  refine wpAny_Subscript_list_slice (wpAny_mono h (fun o s₁ h₁ => wpAny_evalPart_some (wpAny_mono h₁ (fun vu s₃ h₃ => wpAny_evalPart_none ?_) fun _ _ e => e)) fun _ _ e => e) ht
  obtain ⟨g, f, m, L, a, vs, n, b, t, S, rfl, hl, hz, rfl, h⟩ := h₃
  refine ⟨a, vs.toArray, some b, none, rfl, isL hl, by simp [sizeLine]; omega, .int _ _, .none, ?_⟩
  rw [slicePick_from']
  have S1 := (S.push { cls := .type "slice", data := .fields #[.int (b : Int) t, .none, .none] } rfl).push (lstO (vs.drop b)) rfl
  rw [Heap.size_push] at S1
  have S2 := S1.sub (L' := (s₃.heap.objs.size + 1, lstO (vs.drop b)) :: L) (.cons_cons _ (.cons _ (List.Sublist.refl _)))
  exact h _ _ S2
end
end Mine
namespace Mine
section
variable {O : OsState} {w : World} {A : Around} {E : Value → Shared → Prop} {s : Shared} {g : Heap} {f : Addr} {m : Str → Option Value} {L : List (Addr × Obj)} {env : Env}
theorem call_atV {s0 : Shared} {R : Result → Shared → Prop} {n : Nat} {fa : Addr} {body : List Stmt} {args : Args} (binds : List (Str × Value)) {m0 : Str → Option Value} {L0 : List (Addr × Obj)} (S0 : St O w g f m0 L0 s0.heap s0.os s0.gens) (S : St O w g f m L s.heap s.os s.gens) (r : Rm (n + 1) A)
    (ho : (KF w).lookup fa = some ⟨.type "function", none, .func (fdAt w fa), #[]⟩) (ht : isTab fa = false) {c : Addr} {oc : Obj} {vs : Array Value} {t : Tok} (hc : (fdAt w fa).code = .ref c) (htc : isTab c = false) (hoc : (KF w).lookup c = some oc) (hvs : oc.data = .fields vs) (hq : vs[1]? = some (.str (fdAt w fa).qualname t))
    (hbody : (fdAt w fa).body = .stmts body) (hbind : ∀ (M : Model) (A : Around) (E : Value → Shared → Prop) (Q : List (Str × Value) → Shared → Prop), Q binds s → wpAny M A (bindArgs (fdAt w fa) args) Q E s0)
    (hcell : ((fdAt w fa).scope.names.all fun x => decide (x.2 ≠ .cell)) = true) (hloc : (binds.all fun x => decide ((fdAt w fa).scope.names.lookup x.1 = some .local)) = true)
    (hco : (fdAt w fa).scope.isCoroutine = false) (hgen : (fdAt w fa).scope.isGenerator = false) (hk : (fdAt w fa).scope.kind = .function)
    (h : ∀ g' f' s' A', binds.length ≤ s'.toks → Rm n A' → (∀ b o, g.get? b = some o → g'.get? b = some o) → St O w g' f' (fun x => binds.reverse.lookup x) L s'.heap s'.os s'.gens → (∀ m'' L'' h'' {so'' sg''}, St O w g' f' m'' L'' h'' so'' sg'' → St O w g f m L'' h'' so'' sg'') →
      wpAny (model prog w) A' (execs body (callEnv (fdAt w fa) f' fa)) (fun fl s'' => R (.ok (.ret (match fl with | .ret v => v | _ => .none))) s'') (fun _ _ => False) s') :
    codeAny (model prog w) A (.call (.ref fa) args) R s0 :=
  enterV binds S r (S0.k ho ht) ⟨c, oc, vs, t, hc, S0.k hoc htc, hvs, hq⟩ hbody hbind (fun x hx => of_decide_eq_true (List.all_eq_true.mp hcell x hx)) (fun x hx => of_decide_eq_true (List.all_eq_true.mp hloc x hx)) h hco hgen hk
theorem okG.nodash {gs : List (List (List Nat))} (h : okG gs) {c : Nat} (h1 : c ≠ 45) (h2 : c ≠ 95) (h3 : ¬ (97 ≤ c ∧ c ≤ 122)) : c ∉ pname gs := fun q => by
  rcases pname_mem h q with q | q | q
  · exact h1 q
  · exact h2 q
  · exact h3 q
theorem bind211s {p : Str × Tok} {lr : List (Str × Tok)} (M : Model) (Q : List (Str × Value) → Shared → Prop) (h : Q [(Str.ofString "args", .ref s.heap.objs.size)] { s with heap := s.heap.push (tupO (strValues (p :: lr))) }) (hz : lr.length < 999) :
    wpAny M A (bindArgs (fdAt w 211) ⟨strValues (p :: lr), []⟩) Q E s := by
  have z := @bind211 w A E s (.str p.1 p.2) (strValues lr) M Q h (by simp [strValues]; omega)
  have e : strValues (p :: lr) = .str p.1 p.2 :: strValues lr := rfl
  rw [e]
  with_reducible exact z
theorem platform_spec {lns : List (Str × Tok)} {gs : List (List (List Nat))} {Rz : Result → Shared → Prop} (S : St O w g f m L s.heap s.os s.gens) (rm : Rm 20 A) (hl : LinesAre lns gs) (hlen : lns.length < 1000)
    (hit : ∀ x ∈ lns, x.1.length ≠ 0 ∧ x.1.length < 1000000)
    (h : ∀ x t s', x.cps.toList = pname gs → St O w g f m L s'.heap s'.os s'.gens → Rz (.ok (.ret (.str x t))) s') :
    codeAny (model prog w) A (.call (.ref 211) ⟨strValues lns, []⟩) Rz s := by
  obtain ⟨p, lr, rfl⟩ : ∃ p lr, lns = p :: lr := by
    cases lns with
    | nil => exact absurd (List.length_eq_zero_iff.mp hl.len.symm) hl.ok.1
    | cons p lr => exact ⟨p, lr, rfl⟩
  have S1 := S.push (tupO (strValues (p :: lr))) rfl
  refine call_atV (s := { s with heap := s.heap.push (tupO (strValues (p :: lr))) }) [(Str.ofString "args", .ref s.heap.objs.size)] S S1 rm (by rfl) (by rfl) (by rfl) (by rfl) (by rfl) (by rfl) (by rfl) (by rfl) ?_ (by kernel_rfl) (by kernel_rfl) (by rfl) (by rfl) (by rfl) ?_
  · intro M A E Q q
    have hz : lr.length < 999 := by simp at hlen; omega
    have z := @bind211s w A E s p lr M Q q hz
    with_reducible exact z
  generalize s.heap.objs.size = T at S1
  intro g' f' s2 A' htk rm' le S2 back
  walk_at "env"
  have htk1 : 1 ≤ s2.toks := htk
  with_reducible refine r_execs_cons ?_
  with_reducible refine wpAny_Assign_Name (hs := ?hs) ?_
  case hs => rfl
  with_reducible refine wpAny_with_toks htk1 ?_
  refine r_CallM ?_
  with_reducible refine s_str S2 ?_
  intro t3 s3 S3
  with_reducible refine gm_join ?_
  refine Calls.callWith_builtin rfl ?_
  refine r_args1 ?_
  refine gen_filt (items := p :: lr) S3 (rm'.le (by decide)) hit rfl rfl rfl rfl rfl rfl rfl rfl rfl rfl ?_ ?_ ?_ ?_ ?_ ?_ ?_
  · rfl
  · decide
  · rfl
  · rfl
  · rfl
  · rfl
  intro a s4 wr fp G Z W Z0 hfp ha hTy hback
  refine r_item0 ?_
  refine SC.joinGen (WalksS.in4_2 W) hTy Z0 hfp ha (fun k v ⟨tk, x, _, e⟩ => ⟨_, _, e⟩) (fun s5 l hm hl5 => ?_) (by simp [sizeLine] at hlen ⊢; omega)
  have hl6 := strip_items hl5
  have hlist : (Txt.join (Str.ofString "-") (l.map (·.1))).cps.toList = jn [45] (gs.map (jn [32])) := by
    rw [join_list, hl6, hl.strip]
    rfl
  have hsum := sum_strip (p :: lr)
  have hsz := hl.sz
  refine ⟨join_ok ?_, fun t' k => ?_⟩
  · rw [hl6]
    have : (Str.ofString "-").length = 1 := by decide +kernel
    rw [this]
    refine Nat.le_trans hsum (Nat.le_trans (Nat.le_of_lt hsz) (by decide))
  intro ht
  have S6 := hback s5 hm.heap hm.os hm.gens
  have hXlen : (Txt.join (Str.ofString "-") (l.map (·.1))).length ≤ 100000 := by
    have e : Txt.join (Str.ofString "-") (l.map (·.1)) = Str.join (Str.ofString "-") (l.map (·.1)) := StrLaws.glued_eq_join _ _
    have z := StrLaws.join_length_le (Str.ofString "-") (l.map (·.1))
    have : (Str.ofString "-").length = 1 := by decide +kernel
    rw [this, hl6] at z
    rw [e, hl6]
    omega
  revert hlist hXlen S6
  generalize Txt.join (Str.ofString "-") (l.map (·.1)) = X
  intro hlist S6 hXlen
  refine wpAny_with_toks (n := 1) ht (r_store (s := { s5 with toks := k }) (bs := [(Str.ofString "args", .ref T)]) S6 fun s6 S6 ht6 => ?_)
  refine r_execs_cons (wpAny_Assign_Name ?_)
  refine r_CallM (r_local S6 rfl ?_)
  with_reducible refine gm_replace ?_
  refine Calls.callWith_builtin rfl (r_args1 (wpAny_Constant_str ?_))
  refine r_item (wpAny_Constant_str ?_)
  refine r_item0 ?_
  refine SC.replace ?_ ?_ ?_ ?_ ?_ fun t7 k7 => ?_
  · show s6.toks ≠ 0; omega
  · show s6.toks + 1 ≠ 0; omega
  · show s6.toks ≠ s6.toks + 1; omega
  · decide +kernel
  · have : (Str.ofString "_").length = 1 := by decide +kernel
    rw [this]; omega
  have hP : (Txt.replace X (Str.ofString " ") (Str.ofString "_")).cps.toList = pname gs := by
    have e1 : Str.ofString " " = ⟨#[32]⟩ := by decide +kernel
    have e2 : Str.ofString "_" = ⟨#[95]⟩ := by decide +kernel
    rw [e1, e2, rep_map, hlist, pname_sw hl.ok]
  revert hP
  generalize Txt.replace X (Str.ofString " ") (Str.ofString "_") = Y
  intro hP
  have no : ∀ (c : Nat) (y : Str), y = ⟨#[c]⟩ → c ≠ 45 → c ≠ 95 → ¬ (97 ≤ c ∧ c ≤ 122) → Builtin.Str.occurrences Y y 0 Y.length (Y.length + 1) = [] := by
    rintro c y rfl h1 h2 h3
    exact occ_one (by rw [hP]; exact hl.ok.nodash h1 h2 h3)
  refine r_store (s := { s6 with toks := k7 }) S6 fun s7 S7 => ?_
  refine r_execs_cons (r_repno S7 rfl (no 47 _ (by decide +kernel) (by decide) (by decide) (by decide)) fun s8 S8 => ?_)
  refine r_execs_cons (r_repno S8 rfl (no 92 _ (by decide +kernel) (by decide) (by decide) (by decide)) fun s9 S9 => ?_)
  refine r_execs_cons (r_repno S9 rfl (no 58 _ (by decide +kernel) (by decide) (by decide) (by decide)) fun s10 S10 => ?_)
  refine r_execs_cons (r_repno S10 rfl (no 59 _ (by decide +kernel) (by decide) (by decide) (by decide)) fun s11 S11 => ?_)
  refine r_execs_cons (r_repno S11 rfl (no 34 _ (by decide +kernel) (by decide) (by decide) (by decide)) fun s12 S12 => ?_)
  refine r_execs_cons (r_repno S12 rfl (no 40 _ (by decide +kernel) (by decide) (by decide) (by decide)) fun s13 S13 => ?_)
  refine r_execs_cons (r_repno S13 rfl (no 41 _ (by decide +kernel) (by decide) (by decide) (by decide)) fun s14 S14 => ?_)
  refine r_execs_cons (r_repno S14 rfl (occ_nil (p := []) (a := 117) (b := 110) (q := [107, 110, 111, 119, 110]) (by decide +kernel) (by rw [hP]; exact pname_un hl.ok)) fun s15 S15 => ?_)
  refine r_execs_cons (wpAny_While ?_)
  refine codeAny_whileLoop (fun _ s' => s' = s15) (fun n s16 e16 => ?_) 0 rfl
  subst e16
  have S16 := S15
  refine isTrue_plain (wpAny_pure (wpAny_truthy_bool ?_))
  rw [if_pos rfl]
  refine r_execs_cons (r_repno (nm := Str.ofString "cleaned") S16 rfl (occ_nil (p := []) (a := 45) (b := 45) (q := []) (by decide +kernel) (by rw [hP]; exact pname_dash hl.ok)) fun s17 S17 => ?_)
  refine r_execs_cons (wpAny_If (wpAny_isTrue_Compare1 (r_local S17 rfl (r_local S17 rfl (P.eq_str (wpAny_truthy_bool ?_))))))
  rw [if_pos (by simp)]
  refine r_execs_cons (wpAny_Break ?_)
  refine r_execs_cons (wpAny_While ?_)
  refine codeAny_whileLoop (fun _ s' => s' = s17) (fun n s18 e18 => ?_) 0 rfl
  subst e18
  have S18 := S17
  refine isTrue_and (isTrue_plain (r_local S18 rfl ?_))
  have hYne : Y.cps.toList ≠ [] := by rw [hP]; exact pname_ne hl.ok
  have hYl : Y.length = Y.cps.toList.length := by simp [Str.length]
  have hYlen : Y.length < 1000000 := by
    have e1 : (pname gs).length = (jn [45] (gs.map (jn [32]))).length := by rw [← pname_sw hl.ok, List.length_map]
    have e2 : X.length = X.cps.toList.length := by simp [Str.length]
    rw [hYl, hP, e1, ← hlist, ← e2]
    omega
  refine s_truthStr S18 hYlen fun s19 S19 => ?_
  have hYpos : 0 < Y.length := by rw [hYl]; exact List.length_pos_iff.mpr hYne
  rw [if_pos (by simp; omega)]
  refine isTrue_and (wpAny_isTrue_Compare1 ?_)
  refine r_Sub (r_local S19 rfl ?_)
  refine wpAny_UnaryOp (s_int S19 fun t20 s20 S20 => s_neg S20 fun t21 s21 S21 => ?_)
  refine gip_str ⟨rfl, ?_⟩
  obtain ⟨c, hc⟩ : ∃ c, Y.cps.toList.getLast? = some c := ⟨_, List.getLast?_eq_some_getLast hYne⟩
  have hcr := pname_last hl.ok c (by rw [← hP]; exact hc)
  refine P.getItem_str (c := c) (by decide) ?_ ?_
  · rw [seqIndex_neg (by decide) (by omega)]
    rw [List.getLast?_eq_getElem?, ← hYl] at hc
    have e3 : ((-1 : Int) + (Y.length : Int)).toNat = Y.length - 1 := by omega
    rw [e3]
    show Y.cps[Y.length - 1]? = some c
    rw [← hc]
    simp
  refine s_str (s := { s21 with toks := s21.toks + 1 }) S21 fun t22 s22 S22 => ?_
  refine P.eq_str (wpAny_truthy_bool ?_)
  rw [if_neg]
  · rw [if_neg (by decide)]
    refine wpAny_execs_nil ?_
    refine r_execs_cons (wpAny_Return_some ?_)
    refine r_local S22 rfl ?_
    exact h Y t7 s22 hP (back _ _ _ S22.tail)
  · intro q
    have e1 : Str.ofString "-" = ⟨#[45]⟩ := by decide +kernel
    rw [e1] at q
    have q2 : (⟨#[c]⟩ : Str) = ⟨#[45]⟩ := by simpa using q
    injection q2 with q2
    have : c = 45 := by simpa using q2
    omega
end
end Mine
namespace Mine
theorem filt_yes {p : Nat → Bool} {j : Nat} (h : p j = true) : [j].filter p = [j] := by simp [h]
theorem filt_no {p : Nat → Bool} {j : Nat} (h : p j = false) : [j].filter p = [] := by simp [h]
section
variable {O : OsState} {w : World} {A : Around} {E : Value → Shared → Prop} {s : Shared} {g : Heap} {f : Addr} {m : Str → Option Value} {L : List (Addr × Obj)} {env : Env}
theorem fidx_ne {e : List Int} {n : Nat} (hE : Ends e n) {W : Int} (h0 : 0 ≤ W) (h1 : W < 1000000) (k : Nat) : fidx (rowAt e k) W ≠ [] := by
  have hl : (rowAt e k).length = n + 1 := by rw [rowAt_len (by intro q; have := hE.len; rw [q] at this; simp at this), hE.len]
  have hz := (row_iff hE h0 h1 (gr_isG h0) k 0 (Nat.zero_le _)).mpr (Nat.zero_le _)
  have : (0 : Int) ∈ fidx (rowAt e k) W := List.mem_map.mpr ⟨0, List.mem_filter.mpr ⟨List.mem_range.mpr (by rw [hl]; omega), decide_eq_true hz⟩, rfl⟩
  exact List.ne_nil_of_mem this
theorem far_spec {tl : Addr} {nt n : Nat} {trs : List Addr} {e : List Int} {W : Int} {tw : Tok} {Rz : Result → Shared → Prop} (S : St O w g f m L s.heap s.os s.gens) (rm : Rm 30 A)
    (htl : g.get? tl = some (lstO (trs.map Value.ref) nt)) (hE : Ends e n) (hn : n < 1000) (hn0 : 0 < n) (h0 : 0 ≤ W) (h1 : W < 1000000) (etl : trs.length = n)
    (hrows : ∀ (k : Nat) (a : Addr), trs[k]? = some a → ∃ l nn, g.get? a = some (lstO (intVals l) nn) ∧ l.map (·.1) = rowAt e (k + 1))
    (h : ∀ fa ls n' s', ls.map (·.1) = far e W → St O w g f m ((fa, lstO (intVals ls) n') :: L) s'.heap s'.os s'.gens → Rz (.ok (.ret (.ref fa))) s') :
    codeAny (model prog w) A (.call (.ref 228) ⟨[.ref tl, .int W tw], []⟩) Rz s := by
  refine call_atC [(Str.ofString "tables", .ref tl), (Str.ofString "width", .int W tw)] S rm (by rfl) (by rfl) (by rfl) (by rfl) (by rfl) (by rfl) (by rfl) (by rfl) (by kernel_rfl) (by rfl) (by rfl) (by rfl) (by rfl) ?_
  intro g' C s1 A' rm' le S1 back A2 E'
  have htl' := le _ _ htl
  have S1 := S1.cast (L' := (C + 1, cellO none) :: L) (by rfl)
  rw [List.forIn_cons]
  refine wpAny_bind (wpAny_bind (r_store (bs := []) S1 fun s2 S2 => wpAny_pure ?_))
  dsimp only
  rw [List.forIn_cons]
  refine wpAny_bind (wpAny_bind (r_storeCell (i := 0) S2 rfl fun s3 S3 => wpAny_pure ?_))
  dsimp only
  rw [List.forIn_nil]
  refine wpAny_pure ⟨⟨_, _, _, _, S3⟩, ?_⟩
  walk_at "env7"
  have hcells : cellsFrom (C + 1) (fdAt w 228).scope.names [] = [(Str.ofString "width", C + 1)] := by kernel_rfl
  rw [hcells]
  refine r_execs_cons ?_
  refine r_compA1 (O := O) (cl := [(Str.ofString "width", C + 1)]) (x := Str.ofString "best") ?_
  refine r_local S3 rfl ?_
  refine s_listIter S3 (S3.keep _ _ htl') fun it o s4 ho S4 => ?_
  refine ⟨_, _, _, _, rfl, S4, fun g5 C5 D c s5 le5 S5 => ⟨fun Q' E' q => s_listSelf (i := 2) S5 rfl ho q, ?_⟩⟩
  have htl5 := le5 _ _ htl'
  refine comp_run n (fun k x => ∃ t, x = Value.int (lmax (fidx (rowAt e (k + 1)) W)) t) (fun k vs s => ∃ cv nD o, IsIt o tl k ∧ St O w g5 C5 (fun y => ([] : List (Str × Value)).lookup y) ((c, cellO cv) :: (D, lstO vs nD) :: (it, o) :: (C + 1, cellO (some (.int W tw))) :: L) s.heap s.os s.gens) ⟨none, 0, o, ho, S5⟩ (fun E' k vs s hk hl I => ?_) (fun E' vs s hl hF I => ?_)
  · obtain ⟨cv, nD, o, ho, S6⟩ := I
    obtain ⟨lb, nb, hlb, elb⟩ := hrows k trs[k] (by simp [etl, hk])
    have hlen : lb.length = n + 1 := by rw [ints_last elb, rowAt_len (by intro q; have := hE.len; rw [q] at this; simp at this), hE.len]
    refine s_listNext (i := 2) (x := .ref trs[k]) S6 rfl ho (S6.keep _ _ htl5) (by simp [etl, hk]) fun o' s7 ho' S7 => ⟨_, rfl, ?_⟩
    refine wpAny_assign_Name (r_storeCell (i := 0) S7 rfl fun s8 S8 => ?_)
    refine wpAny_Call_NameR (r_builtin S8 (g_max w).1 (g_max w).2 ?_)
    refine Calls.callWith_builtin rfl (r_args1 (r_comp (O := O) (cl := [(Str.ofString "width", C + 1), (Str.ofString "best", c)]) ?_))
    refine wpAny_Call_NameR (r_builtin S8 (g_range w).1 (g_range w).2 ?_)
    refine r_callT rfl (r_args1 (wpAny_Call_NameR (r_builtin S8 (g_len2 w).1 (g_len2 w).2 ?_)))
    refine Calls.callWith_builtin rfl (r_args1 (r_cell (S8.get 0 rfl) (r_item0 ?_)))
    have hlb8 := le5 _ _ (le _ _ hlb)
    refine s_lenL S8 (S8.keep _ _ hlb8) (by rw [intVals_len]; omega) fun t9 s9 S9 => r_item0 ?_
    have en1 : ((intVals lb).length : Int) = (n + 1 : Nat) := by rw [intVals_len, hlen]
    rw [en1]
    refine s_range1 S9 fun rg u v s10 S10 => s_rangeIter S10 (rsm_up (by omega) (by omega)) fun itj s11 S11 => ?_
    rw [rsz_up (by omega)] at S11
    refine ⟨_, _, _, _, S11, fun g12 C12 D12 s12 le12 S12 => ⟨fun Q' E' q => s_rangeSelf (i := 1) S12 rfl q, ?_⟩⟩
    have hlb12 := le12 _ _ hlb8
    refine comp_runF (n + 1) (fun j ws s => ∃ bs nD' l, ws = intVals l ∧ l.map (·.1) = ((List.range j).filter fun i => decide ((rowAt e (k + 1)).getD i 0 ≤ W)).map Int.ofNat ∧
      St O w g12 C12 (fun y => List.lookup y bs) ((D12, lstO ws nD') :: (itj, riO j ((n + 1 : Nat) - (j : Int)) 1) :: (c, cellO (some (.ref trs[k]))) :: (D, lstO vs nD) :: (it, o') :: (C + 1, cellO (some (.int W tw))) :: L) s.heap s.os s.gens)
      ⟨[], 0, [], rfl, rfl, S12.cast (by simp)⟩ (fun E' j ws s hj I => ?_) (fun E' ws s I => ?_)
    · obtain ⟨bs, nD', l, rfl, el, S13⟩ := I
      have hll : l.length ≤ j := by
        have := ints_last el
        rw [this, List.length_map]
        exact Nat.le_trans (List.length_filter_le _ _) (by simp)
      refine s_rangeNextI (i := 1) S13 rfl (by omega) fun t14 s14 S14 => ⟨_, rfl, ?_⟩
      refine wpAny_assign_Name (r_store S14 fun s15 S15 => ?_)
      have gb : s15.heap.get? trs[k] = some (lstO (intVals lb) nb) := S15.keep _ _ hlb12
      obtain ⟨u1, hu1⟩ := intVals_at elb (j := j) (by rw [← ints_last elb]; omega)
      refine wpAny_isTrue_Compare1 (r_Sub (r_cell (S15.get 2 rfl) (r_local S15 rfl ?_)))
      refine gip_list gb ⟨rfl, s_itemL (x := Value.int ((rowAt e (k + 1)).getD j 0) u1) gb (by omega) (by omega) (by simpa using hu1) ?_⟩
      refine r_cell (S15.get 5 rfl) ?_
      refine P.le_int (wpAny_truthy_bool ?_)
      by_cases hc : (rowAt e (k + 1)).getD j 0 ≤ W
      · rw [if_pos (decide_eq_true hc)]
        refine r_local S15 rfl ?_
        refine s_appendV (i := 0) S15 rfl (by rw [intVals_len]; omega) fun n16 s16 S16 => ?_
        refine ⟨_, n16, l ++ [((j : Int), t14)], by simp [intVals], ?_, S16.cast (by rw [← riO_succ (n + 1) j]; rfl)⟩
        rw [List.map_append, el, List.range_succ, List.filter_append, List.map_append, filt_yes (p := fun i => decide ((rowAt e (k + 1)).getD i 0 ≤ W)) (decide_eq_true hc)]
        rfl
      · rw [if_neg (by simpa using hc)]
        refine ⟨_, nD', l, rfl, ?_, S15.cast (by rw [← riO_succ (n + 1) j]; rfl)⟩
        rw [el, List.range_succ, List.filter_append, List.map_append, filt_no (p := fun i => decide ((rowAt e (k + 1)).getD i 0 ≤ W)) (decide_eq_false hc)]
        simp
    · obtain ⟨bs, nD', l, rfl, el, S13⟩ := I
      refine s_rangeEndI (i := 1) S13 rfl rm' (by omega) fun s14 S14 => ⟨rfl, rfl, _, _, S14, fun s15 S15 => ?_⟩
      refine r_item0 ?_
      have el' : l.map (·.1) = fidx (rowAt e (k + 1)) W := by
        rw [el]; unfold fidx; rw [← ints_last elb, hlen]
      refine s_maxL S15 rm' (S15.get 0 rfl) el' (fidx_ne hE h0 h1 _) fun t16 s16 S16 => ⟨⟨_, rfl⟩, ?_⟩
      refine s_appendV (i := 2) S16 rfl (by omega) fun n17 s17 S17 => ?_
      exact ⟨_, _, _, ho', S17.tail⟩
  · obtain ⟨cv, nD, o, ho, S6⟩ := I
    refine s_listEnd (i := 2) S6 rfl ho (S6.keep _ _ htl5) (by simp [etl]) rm' fun s7 S7 => ⟨rfl, rfl, _, _, S7, fun s8 S8 => ?_⟩
    obtain ⟨l, rfl, el⟩ := ints_of0 (F := fun k => lmax (fidx (rowAt e (k + 1)) W)) hF
    have efl : l.map (·.1) = fl e W := by
      rw [el, hl]; unfold fl tabs; rw [List.map_map, hE.len]; rfl
    have hll : l.length = n := by rw [intVals_len] at hl; exact hl
    have S8 := S8.tail.cast (L' := (D, lstO (intVals l) nD) :: (C + 1, cellO (some (.int W tw))) :: L) rfl
    refine r_execs_cons (wpAny_Return_some ?_)
    refine r_upto (O := O) (r_local S8 rfl (wpAny_BinOp ?_))
    refine r_CallM (r_local S8 rfl (lst_index (S8.get 0 rfl) ?_))
    refine Calls.callWith_builtin rfl (r_args1 (r_Sub (r_local S8 rfl ?_)))
    refine wpAny_UnaryOp (s_int S8 fun t9 s9 S9 => s_neg S9 fun t10 s10 S10 => ?_)
    have hne : l ≠ [] := by intro q; rw [q] at hll; simp at hll; omega
    have hlast : (intVals l).getLast? = some (.int ((fl e W).getLastD 0) (l.getLast hne).2) := by
      rw [← efl]
      obtain ⟨l', z, rfl⟩ : ∃ l' z, l = l' ++ [z] := ⟨l.dropLast, l.getLast hne, (List.dropLast_concat_getLast hne).symm⟩
      simp [intVals]
    refine gip_list (S10.get 0 rfl) ⟨rfl, s_itemLast (S10.get 0 rfl) (by intro q; exact hne (by simpa [intVals] using q)) hlast ?_⟩
    refine r_item0 ?_
    have hmem : (fl e W).getLastD 0 ∈ fl e W := by
      rw [← efl]
      obtain ⟨l', z, rfl⟩ : ∃ l' z, l = l' ++ [z] := ⟨l.dropLast, l.getLast hne, (List.dropLast_concat_getLast hne).symm⟩
      simp
    refine s_index S10 (S10.get 0 rfl) efl (by omega) hmem fun t11 s11 S11 => ?_
    refine s_int S11 fun t12 s12 S12 => s_add S12 fun t13 s13 S13 => ?_
    refine ⟨_, _, _, _, D, _, _, (fl e W).idxOf ((fl e W).getLastD 0) + 1, t13, S13, rfl, S13.get 0 rfl, by rw [intVals_len]; omega, rfl, fun fa s14 S14 => ?_⟩
    have S15 := back _ _ _ (S14.sub (L' := (fa, lstO ((intVals l).take ((fl e W).idxOf ((fl e W).getLastD 0) + 1))) :: L) (.cons_cons _ (.cons _ (.cons _ (List.Sublist.refl _)))))
    refine h fa (l.take ((fl e W).idxOf ((fl e W).getLastD 0) + 1)) 0 s14 ?_ (S15.cast ?_)
    · rw [List.map_take, efl]; rfl
    · simp [intVals, List.map_take]
end
end Mine
namespace Mine
section
variable {O : OsState} {w : World} {A : Around} {E : Value → Shared → Prop} {s : Shared} {g : Heap} {f : Addr} {m : Str → Option Value} {L : List (Addr × Obj)} {env : Env}
theorem r_callKS {fa : Addr} {pos p : Pos} {e : Expr} {Q : Value → Shared → Prop}
    (h : wpAny (model prog w) A (eval e env) (fun v s₁ => StarOf (model prog w) A E v (fun vs s₂ => (∃ g f m L, St O w g f m L s₂.heap s₂.os s₂.gens) ∧
      codeAny (model prog w) A (.call (.ref fa) ⟨vs, []⟩) (fun r s' => match r with | .ok (.ret v) => Q v s' | .ok _ => False | .error e => E e s') s₂) s₁) E s)
    (hk : (KF w).lookup fa = some ⟨.type "function", none, .func (fdAt w fa), #[]⟩ := by rfl) (ht : isTab fa = false := by rfl) (he : starEach [.Starred e p] env = [(true, eval e env)] := by rfl) :
    wpAny (model prog w) A (callWith pos (.ref fa) [] (backTo pos (starEach [.Starred e p] env)) []) Q E s := by
  rw [he]
  refine r_callK (O := O) ?_ hk ht
  show wpAny (model prog w) A (evalArgs (.ref fa) true [(true, (do let v ← eval e env; standAt pos; pure v))] []) _ _ _
  exact ks_lone h
theorem s_split {x y : Str} {t u : Tok} {Q : Value → Shared → Prop} (S : St O w g f m L s.heap s.os s.gens) (hy : (y.length == 0) = false) (hx : x.length < 1000000)
    (h : ∀ D l n s', l.map (·.1) = Txt.split x y → St O w g f m ((D, lstO (strValues l) n) :: L) s'.heap s'.os s'.gens → Q (.ref D) s') : wpAny (model prog w) A (call (.builtin "str.split") [.str x t, .str y u]) Q E s := by
  cases h1 : (decide (x.length < y.length) || decide (Builtin.Str.strKind x < Builtin.Str.strKind y))
  · cases hf : (Builtin.Str.occurrences x y 0 x.length (x.length + 1)).isEmpty
    · refine call_meets F.slot_str_split (typeIs_str _ _ _) F.entry_str_split (F.args_str_split_2 _ _) (meets_str_split_sep x y t u h1 hy hf (by simp [sizeLine]; omega) (by rw [length_partsBetween]; have := StrLaws.occ_length_le x y 0 x.length (x.length + 1); simp [sizeLine]; omega)) ?_
      show wants Q E _ { s with toks := _, heap := s.heap.push { cls := .type "list", data := .seq (strsFrom s.toks (Builtin.Str.partsBetween x (Builtin.Str.occurrences x y 0 x.length (x.length + 1)) y.length)).toArray } }
      rw [strsFrom_eq]
      exact h _ (numbered s.toks _) 0 _ ((numbered_texts _ _).trans ((if_neg (ne_true_of_eq_false h1)).trans (if_neg (ne_true_of_eq_false hf))).symm) (S.push (lstO (strValues (numbered s.toks _))) rfl)
    · exact call_meets F.slot_str_split (typeIs_str _ _ _) F.entry_str_split (F.args_str_split_2 _ _) (meets_str_split_not_found x y t u h1 hy hf)
        (h _ [(x, t)] 0 _ ((if_neg (ne_true_of_eq_false h1)).trans (if_pos hf)).symm (S.push (lstO (strValues [(x, t)])) rfl))
  · exact call_meets F.slot_str_split (typeIs_str _ _ _) F.entry_str_split (F.args_str_split_2 _ _) (meets_str_split_cannot_occur x y t u h1)
      (h _ [(x, t)] 0 _ (if_pos h1).symm (S.push (lstO (strValues [(x, t)])) rfl))
end
end Mine
namespace Mine
theorem sum_of {l : List (Str × Tok)} {ls : List (List Nat)} (h : l.map (fun z => z.1.cps.toList) = ls) (hne : ls ≠ []) (s : List Nat) : ((l.map (·.1)).map (·.length)).sum + (l.map (·.1)).length * s.length = (jn s ls).length + s.length := by
  rw [jn_len ls hne, ← h]
  clear h hne
  induction l with
  | nil => simp
  | cons x r ih =>
    have e : x.1.length = x.1.cps.toList.length := Array.length_toList.symm
    show x.1.length + ((r.map (·.1)).map (·.length)).sum + ((r.map (·.1)).length + 1) * s.length = x.1.cps.toList.length + s.length + ((r.map fun z => z.1.cps.toList).map fun x => x.length + s.length).sum
    rw [Nat.add_mul]
    omega
theorem jn_len_eq {a b : Nat} {ls : List (List Nat)} : (jn [a] ls).length = (jn [b] ls).length := by
  cases ls with
  | nil => rfl
  | cons x r =>
    have h1 := jn_len (s := [a]) (x :: r) (by simp)
    have h2 := jn_len (s := [b]) (x :: r) (by simp)
    simp at h1 h2; omega
theorem toks_map {l : List (Str × Tok)} {xs : List Str} {ls : List (List Nat)} (h : l.map (·.1) = xs) (h2 : xs.map (fun z => z.cps.toList) = ls) : l.map (fun z => z.1.cps.toList) = ls := by
  rw [← h2, ← h, List.map_map]; rfl
theorem strs_of {F : Nat → List Nat} : ∀ {vs : List Value} {k : Nat}, (∀ i v, vs[i]? = some v → ∃ z t, v = Value.str z t ∧ z.cps.toList = F (k + i)) → ∃ l, vs = strValues l ∧ l.map (fun z => z.1.cps.toList) = (List.range vs.length).map fun i => F (k + i)
  | [], _, _ => ⟨[], rfl, rfl⟩
  | v :: vs, k, h => by
    obtain ⟨z, t, rfl, e0⟩ := h 0 v rfl
    obtain ⟨l, rfl, e⟩ := strs_of (F := F) (vs := vs) (k := k + 1) fun i v hv => by
      obtain ⟨z, t, e, e'⟩ := h (i + 1) v (by simpa using hv)
      exact ⟨z, t, e, by rw [e']; congr 1; omega⟩
    refine ⟨(z, t) :: l, rfl, ?_⟩
    rw [List.length_cons, List.range_succ_eq_map, List.map_cons, List.map_cons, e, List.map_map]
    congr 1
    apply List.map_congr_left
    intro i _
    show F (k + 1 + i) = F (k + (i + 1))
    congr 1; omega
theorem range_get {gs : List (List (List Nat))} : (List.range gs.length).map (fun i => jn [32] (gs.getD i [])) = gs.map (jn [32]) := by
  apply List.ext_getElem?
  intro k
  by_cases h : k < gs.length
  · simp [h]
  · rw [List.getElem?_eq_none (by simp; omega), List.getElem?_eq_none (by simp; omega)]
section
variable {O : OsState} {w : World} {A : Around} {E : Value → Shared → Prop} {s : Shared} {g : Heap} {f : Addr} {m : Str → Option Value} {L : List (Addr × Obj)} {env : Env}
theorem g_lo (w : World) : nsLook (Str.ofString "_law_laid_out") (o3 w) = pure (some (.ref 235)) := by kernel_rfl
theorem g_pf (w : World) : nsLook (Str.ofString "_platform") (o3 w) = pure (some (.ref 211)) := by kernel_rfl
theorem holds_spec {wl dl : Addr} {nw nd : Nat} {wds : List (Str × Tok)} {ds : List (Int × Tok)} {v : List Nat} {r : List (List Nat)} {gs : List (List (List Nat))} {head W : Int} {th tw : Tok} {Rz : Result → Shared → Prop} (S : St O w g f m L s.heap s.os s.gens) (rm : Rm 90 A)
    (hwl : g.get? wl = some (lstO (strValues wds) nw)) (hdl : g.get? dl = some (lstO (intVals ds) nd)) (hw : wds.map (fun z => z.1.cps.toList) = v :: r) (hok : okG gs) (hfl : gs.flatten = v :: r) (hsz : (inter (v :: r)).length < 900) (hr : r.length < 400)
    (hh0 : 0 ≤ head) (hh1 : head < 1000) (hfit : head + v.length ≤ W) (hlin : (linesOf W head v r).map (fun z => z.cps.toList) = linesL gs) (hJ : (jn [10] (linesL gs)).length < 5000) (hgl : gs.length < 500)
    (hdue : ds.map (·.1) = cumG 0 gs) (h : ∀ s', St O w g f m L s'.heap s'.os s'.gens → Rz (.ok (.ret (.bool true))) s') :
    codeAny (model prog w) A (.call (.ref 240) ⟨[.ref wl, .int head th, .int W tw, .ref dl], []⟩) Rz s := by
  have hL : ∀ u ∈ v :: r, okL u := fun u hu => by
    rw [← hfl] at hu
    obtain ⟨g, hg, hu⟩ := List.mem_flatten.mp hu
    exact ((hok.2 g hg).2 u hu).1
  have hGne : ∀ g ∈ gs, g ≠ [] := fun g hg => (hok.2 g hg).1
  have hlL : linesL gs ≠ [] := by
    intro q
    have := linesL_len gs
    rw [q] at this
    exact hok.1 (List.length_eq_zero_iff.mp this.symm)
  have hjw := sum_of hw (by simp) [32]
  rw [← inter_jn] at hjw
  have hjl : ((linesOf W head v r).map (·.length)).sum + (linesOf W head v r).length * 1 ≤ 1000000 := by
    have z := sum_of (l := (linesOf W head v r).map fun x => (x, 0)) (ls := linesL gs) (by rw [List.map_map]; exact hlin) hlL [10]
    simp only [List.map_map, List.length_map, List.length_singleton] at z
    have e : ((linesOf W head v r).map ((fun x : Str => x.length) ∘ (fun x : Str × Tok => x.1) ∘ fun x => (x, 0))) = (linesOf W head v r).map (·.length) := rfl
    have e2 : ((linesOf W head v r).map ((fun x : Str × Tok => x.1.length) ∘ fun x => (x, 0))) = (linesOf W head v r).map (·.length) := rfl
    first
      | rw [e] at z; omega
      | rw [e2] at z; omega
  refine call_at [(Str.ofString "words", .ref wl), (Str.ofString "head", .int head th), (Str.ofString "width", .int W tw), (Str.ofString "due", .ref dl)] S rm (by rfl) (by rfl) (by rfl) (by rfl) (by rfl) (by rfl) (by rfl) (by rfl) (by kernel_rfl) (by kernel_rfl) (by kernel_rfl) (by rfl) (by rfl) (by rfl) ?_
  intro g' f' s1 A' rm' le S1 back
  walk_at "env"
  refine r_execs_cons (wpAny_Assign_Name ?_)
  refine wpAny_Call_NameR (r_global S1 (g_lo w) ?_)
  refine r_callK (O := O) (r_args1 (r_local S1 rfl ?_))
  refine r_item (r_local S1 rfl ?_)
  refine r_item (r_local S1 rfl ?_)
  refine r_item0 ⟨⟨_, _, _, _, S1⟩, ?_⟩
  refine laid_spec S1 (rm'.le (by decide)) (le _ _ hwl) hw hL hsz hr hh0 hh1 hfit hjl (by simp only [List.length_singleton] at hjw; omega) fun t2 s2 S2 => ?_
  have hWR : (Txt.join (Str.ofString "\n") (linesOf W head v r)).cps.toList = jn [10] (linesL gs) := by
    rw [join_list, hlin]
    rfl
  revert hWR
  generalize Txt.join (Str.ofString "\n") (linesOf W head v r) = WR
  intro hWR
  have hWlen : WR.length < 5000 := by
    have : WR.length = WR.cps.toList.length := Array.length_toList.symm
    rw [this, hWR]; exact hJ
  have hGs : gs ≠ [] := hok.1
  have hlf : ∀ u ∈ linesL gs, 10 ∉ u := fun u hu q => by
    obtain ⟨k, hk⟩ := List.getElem?_of_mem hu
    have hk' : k < gs.length := by rw [← linesL_len gs]; exact (List.getElem?_eq_some_iff.mp hk).1
    have e := linesL_at (gs := gs) (k := k) (g := gs[k]) (by simp [hk'])
    rw [e] at hk
    injection hk with hk
    rw [← hk] at q
    have z := hok.part (sep := [32]) (jn [32] gs[k]) (List.mem_map_of_mem (List.getElem_mem hk'))
    unfold lineL at q
    split at q
    · rcases z.2.1 10 q with q | q
      · simp at q
      · omega
    · rcases List.mem_cons.mp q with q | q
      · omega
      · rcases z.2.1 10 q with q | q
        · simp at q
        · omega
  refine r_store (bs := [(Str.ofString "due", .ref dl), (Str.ofString "width", .int W tw), (Str.ofString "head", .int head th), (Str.ofString "words", .ref wl)]) S2 fun s3 S3 => ?_
  refine r_execs_cons (wpAny_Assign_Name ?_)
  refine r_CallM (wpAny_Call_NameR (r_global S3 (g_pf w) (r_callKS (O := O) ?_)))
  refine r_CallM (r_local S3 rfl ?_)
  with_reducible refine gm_split ?_
  refine Calls.callWith_builtin rfl (r_args1 (s_str S3 fun t4 s4 S4 => r_item0 ?_))
  refine s_split S4 (by decide +kernel) (by omega) fun D l n5 s5 hl5 S5 => ?_
  have hll : l.map (fun z => z.1.cps.toList) = linesL gs := toks_map hl5 (split_list (c := 10) hWR hlL hlf)
  have hllen : l.length = gs.length := by
    have := congrArg List.length hll
    rw [List.length_map, linesL_len] at this
    exact this
  have hLA := linesAre_of hok hll (by omega)
  refine s_star S5 (S5.get 0 rfl) rfl rfl (.inl rfl) (by simp [strValues]; omega) fun s6 S6 => ⟨⟨_, _, _, _, S6⟩, ?_⟩
  refine platform_spec S6 (rm'.le (by decide)) hLA (by omega) (fun x hx => ?_) fun Y t7 s7 hY S7 => ?_
  · have hm : x.1.cps.toList ∈ linesL gs := by rw [← hll]; exact List.mem_map_of_mem hx
    have e : x.1.length = x.1.cps.toList.length := Array.length_toList.symm
    have hle := jn_mem_len (s := [10]) hm
    obtain ⟨k, hk⟩ := List.getElem?_of_mem hm
    have hk' : k < gs.length := by rw [← linesL_len gs]; exact (List.getElem?_eq_some_iff.mp hk).1
    have e2 := linesL_at (gs := gs) (k := k) (g := gs[k]) (by simp [hk'])
    rw [e2] at hk
    injection hk with hk
    have z := hok.part (sep := [32]) (jn [32] gs[k]) (List.mem_map_of_mem (List.getElem_mem hk'))
    have := List.length_pos_iff.mpr (lineL_ne (k := k) z.1)
    rw [hk] at this
    omega
  have S7 := S7.tail
  have hYn : (gs.map (jn [95])) ≠ [] := by simpa using hGs
  have hYlen : Y.length < 1000 := by
    have e : Y.length = Y.cps.toList.length := Array.length_toList.symm
    have e2 : (pname gs).length = (inter (v :: r)).length := by
      unfold pname
      rw [jn_len_eq (b := 95), jn_flat hGne, hfl, inter_jn, jn_len_eq (b := 32)]
    rw [e, hY, e2]; omega
  have hpf : ∀ u ∈ gs.map (jn [95]), 45 ∉ u := fun u hu q => by
    rcases (hok.part u hu).2.1 45 q with q | q
    · simp at q
    · omega
  with_reducible refine gm_split ?_
  refine Calls.callWith_builtin rfl (r_args1 (s_str S7 fun t8 s8 S8 => r_item0 ?_))
  refine s_split S8 (by decide +kernel) (by omega) fun pl lp n9 s9 hl9 S9 => ?_
  have hlp : lp.map (fun z => z.1.cps.toList) = gs.map (jn [95]) := toks_map hl9 (split_list (c := 45) hY hYn hpf)
  have hlpl : lp.length = gs.length := by simpa using congrArg List.length hlp
  refine r_store (bs := [(Str.ofString "written", .str WR t2), (Str.ofString "due", .ref dl), (Str.ofString "width", .int W tw), (Str.ofString "head", .int head th), (Str.ofString "words", .ref wl)]) S9 fun s10 S10 => ?_
  obtain ⟨g11, S11, le11, hpl, back11⟩ := S10.commit1
  have piece : ∀ k (hk : k < lp.length) (hk' : k < gs.length), lp[k].1.cps.toList = jn [95] gs[k] := fun k hk hk' => by
    have := congrArg (fun z => z[k]?) hlp
    simpa [hk, hk'] using this
  have plen' : ∀ k (hk : k < lp.length), lp[k].1.length < 1000 := fun k hk => by
    have hm : lp[k].1.cps.toList ∈ gs.map (jn [95]) := by rw [← hlp]; exact List.mem_map_of_mem (f := fun z : Str × Tok => z.1.cps.toList) (List.getElem_mem hk)
    have hle := jn_mem_len (s := [45]) hm
    have e : lp[k].1.length = lp[k].1.cps.toList.length := Array.length_toList.symm
    have e2 : Y.length = Y.cps.toList.length := Array.length_toList.symm
    rw [hY] at e2
    unfold pname at e2
    omega
  have uf : ∀ k (hk' : k < gs.length), ∀ u ∈ gs[k], 95 ∉ u := fun k hk' u hu q => by
    have := ((hok.2 _ (List.getElem_mem hk')).2 u hu).1.2 95 q
    omega
  with_reducible refine r_execs_cons ?_
  with_reducible refine wpAny_If ?_
  with_reducible refine wpAny_isTrue_Compare1 ?_
  refine r_CallM ?_
  with_reducible refine s_str S11 ?_
  intro t12 s12 S12
  with_reducible refine gm_join ?_
  refine Calls.callWith_builtin rfl (r_args1 (r_comp (O := O) (cl := []) ?_))
  refine r_local S12 rfl ?_
  refine s_listIter S12 (S12.keep _ _ hpl) fun it o s13 ho S13 => ?_
  refine ⟨_, _, _, _, S13, fun g14 C D14 s14 le14 S14 => ⟨fun Q' E' q => s_listSelf (i := 1) S14 rfl ho q, ?_⟩⟩
  have hpl14 := le14 _ _ hpl
  refine comp_run lp.length (fun k x => ∃ z t, x = Value.str z t ∧ z.cps.toList = jn [32] (gs.getD k [])) (fun k vs s => ∃ bs nD o, IsIt o pl k ∧ St O w g14 C (fun y => List.lookup y bs) ((D14, lstO vs nD) :: (it, o) :: L) s.heap s.os s.gens) ⟨[], 0, o, ho, S14⟩ (fun E' k vs s hk hl I => ?_) (fun E' vs s hl hF I => ?_)
  · obtain ⟨bs, nD, o, ho, Sk⟩ := I
    have hk' : k < gs.length := by omega
    refine s_listNext (i := 1) (x := .str lp[k].1 lp[k].2) Sk rfl ho (Sk.keep _ _ hpl14) (by simp [strValues, hk]) fun o' s1 ho' S1 => ⟨_, rfl, ?_⟩
    refine wpAny_assign_Name (r_store S1 fun s2 S2 => ?_)
    refine r_CallM ?_
    with_reducible refine s_str S2 ?_
    intro t3 s3 S3
    with_reducible refine gm_join ?_
    refine Calls.callWith_builtin rfl (r_args1 (r_CallM (r_local S3 rfl ?_)))
    with_reducible refine gm_split ?_
    refine Calls.callWith_builtin rfl (r_args1 (s_str S3 fun t4 s4 S4 => r_item0 ?_))
    refine s_split S4 (by decide +kernel) (Nat.lt_trans (plen' k hk) (by decide)) fun sl l5 n5 s5 hl5 S5 => ?_
    have h5 : l5.map (fun z => z.1.cps.toList) = gs[k] := toks_map hl5 (split_list (c := 95) (piece k hk hk') (hGne _ (List.getElem_mem hk')) (uf k hk'))
    refine r_item0 ?_
    have hs5 := sum_of h5 (hGne _ (List.getElem_mem hk')) [95]
    have hp5 := piece k hk hk'
    have e5 : lp[k].1.length = lp[k].1.cps.toList.length := Array.length_toList.symm
    have hp6 := plen' k hk
    refine s_join S5 (S5.get 0 rfl) ?_ fun t6 s6 S6 => ⟨⟨_, _, rfl, ?_⟩, ?_⟩
    · have : (Str.ofString " ").length = [95].length := by decide +kernel
      rw [this, hs5, ← hp5, ← e5]
      simp; omega
    · rw [join_list, List.map_map]
      have : (fun x : Str => x.cps.toList) ∘ (fun x : Str × Tok => x.1) = fun z => z.1.cps.toList := rfl
      rw [this, h5]
      simp [hk']
      rfl
    · refine s_appendV (i := 1) S6 rfl (by omega) fun n7 s7 S7 => ?_
      exact ⟨_, _, _, ho', S7.tail⟩
  · obtain ⟨bs, nD, o, ho, Sk⟩ := I
    refine s_listEnd (i := 1) Sk rfl ho (Sk.keep _ _ hpl14) (by simp [strValues]) rm' fun s1 S1 => ⟨rfl, rfl, _, _, S1, fun s2 S2 => ?_⟩
    obtain ⟨lj, rfl, elj⟩ := strs_of (F := fun k => jn [32] (gs.getD k [])) (k := 0) (by simpa using hF)
    have elj2 : lj.map (fun z => z.1.cps.toList) = gs.map (jn [32]) := by
      rw [elj, hl, hlpl]
      simpa using range_get
    refine r_item0 ?_
    have hsj := sum_of elj2 (by simpa using hGs) [10, 32]
    rw [← jn_lines] at hsj
    refine s_join S2 (S2.get 0 rfl) ?_ fun t3 s3 S3 => ?_
    · have : (Str.ofString "\n ").length = [10, 32].length := by decide +kernel
      rw [this, hsj]
      simp; omega
    refine r_local S3 rfl ?_
    refine P.ne_str (wpAny_truthy_bool ?_)
    rw [if_neg]
    rotate_left
    · have e : (Txt.join (Str.ofString "\n ") (lj.map (·.1))).cps.toList = WR.cps.toList := by
        rw [join_list, List.map_map]
        have : (fun x : Str => x.cps.toList) ∘ (fun x : Str × Tok => x.1) = fun z => z.1.cps.toList := rfl
        rw [this, elj2, hWR, jn_lines]
        rfl
      rw [e]; simp
    refine wpAny_execs_nil ?_
    have S4 := S3.tail
    refine r_execs_cons (wpAny_Assign_Name (r_list (O := O) (r_item (s_int S4 fun t5 s5 S5 => r_item0 ⟨by simp [sizeLine], _, _, _, _, S5, fun td s6 S6 => ?_⟩))))
    refine r_store S6 fun s7 S7 => ?_
    refine r_execs_cons (wpAny_For ?_)
    refine r_local S7 rfl ?_
    refine s_listIter S7 (S7.keep _ _ hpl) fun it2 o2 s8 ho2 S8 => ?_
    refine for_idx lp.length (fun k s => ∃ bs o, ∃ lt : List (Int × Tok), ∃ nt, ∃ c : Nat, ∃ tc, IsIt o pl k ∧ St O w g11 f' (fun y => List.lookup y bs) ((it2, o) :: (td, lstO (intVals lt) nt) :: L) s.heap s.os s.gens ∧ bs.lookup (Str.ofString "told") = some (.ref td) ∧ bs.lookup (Str.ofString "pieces") = some (.ref pl) ∧ bs.lookup (Str.ofString "words") = some (.ref wl) ∧ bs.lookup (Str.ofString "due") = some (.ref dl) ∧
      (∃ pre, lt.map (·.1) = 0 :: pre ∧ pre ++ cumG c (gs.drop k) = cumG 0 gs) ∧ (intVals lt).getLast? = some (.int (c : Nat) tc) ∧ lt.length = k + 1)
      ⟨_, o2, [(0, t5)], 0, 0, t5, ho2, S8, rfl, rfl, rfl, rfl, ⟨[], rfl, rfl⟩, rfl, rfl⟩ (fun E' k s hk I => ?_) fun E' s I => ?_
    · obtain ⟨bs, o, lt, nt, c, tc, ho, Sk, b1, b2, b3, b4, ⟨pre, hp1, hp2⟩, hlast, hltl⟩ := I
      have hk' : k < gs.length := by omega
      refine s_listNext (i := 0) (x := .str lp[k].1 lp[k].2) Sk rfl ho (Sk.keep _ _ hpl) (by simp [strValues, hk]) fun o' s1 ho' S1 => ⟨_, rfl, ?_⟩
      refine wpAny_assign_Name (r_store S1 fun s2 S2 => ?_)
      refine r_execs_cons (wpAny_Expr_any ?_)
      refine r_CallM (r_local S2 b1 (lst_append (S2.get 1 rfl) ?_))
      refine r_callB rfl (r_args1 (wpAny_BinOp (r_Sub (r_local S2 b1 ?_))))
      refine wpAny_UnaryOp (s_int S2 fun t3 s3 S3 => s_neg S3 fun t4 s4 S4 => ?_)
      refine gip_list (S4.get 1 rfl) ⟨rfl, s_itemLast (S4.get 1 rfl) (by intro q; rw [q] at hlast; simp at hlast) hlast ?_⟩
      refine wpAny_Call_NameR (r_builtin S4 (g_len2 w).1 (g_len2 w).2 ?_)
      refine Calls.callWith_builtin rfl (r_args1 (r_CallM (r_local S4 rfl ?_)))
      with_reducible refine gm_split ?_
      refine Calls.callWith_builtin rfl (r_args1 (s_str S4 fun t5 s5 S5 => r_item0 ?_))
      refine s_split S5 (by decide +kernel) (Nat.lt_trans (plen' k hk) (by decide)) fun sl l6 n6 s6 hl6 S6 => ?_
      have h6 : l6.map (fun z => z.1.cps.toList) = gs[k] := toks_map hl6 (split_list (c := 95) (piece k hk hk') (hGne _ (List.getElem_mem hk')) (uf k hk'))
      have h6l : l6.length = gs[k].length := by simpa using congrArg List.length h6
      have hgk : gs[k].length ≤ r.length + 1 := by
        have e1 : gs.flatten.length = r.length + 1 := by rw [hfl]; rfl
        have e2 : gs[k].length ≤ gs.flatten.length := (List.sublist_flatten_of_mem (List.getElem_mem hk')).length_le
        omega
      refine r_item0 ?_
      refine s_lenL S6 (S6.get 0 rfl) (by simp [strValues]; omega) fun t7 s7 S7 => s_add S7 fun t8 s8 S8 => r_item0 ?_
      refine b_appendL (i := 2) S8 rfl (by rw [intVals_len]; omega) fun n9 s9 S9 => ?_
      refine wpAny_execs_nil ?_
      have e9 : ((strValues l6).length : Int) = (gs[k].length : Nat) := by simp [strValues, h6l]
      rw [e9] at S9
      refine ⟨_, o', lt ++ [(((c + gs[k].length : Nat) : Int), t8)], n9, c + gs[k].length, t8, ho', S9.tail.cast ?_, b1, b2, b3, b4, ⟨pre ++ [((c + gs[k].length : Nat) : Int)], ?_, ?_⟩, by simp [intVals], by simp [hltl]⟩
      · simp [intVals]
      · rw [List.map_append, hp1]; rfl
      · rw [← hp2, List.drop_eq_getElem_cons hk']
        simp [cumG]
    · obtain ⟨bs, o, lt, nt, c, tc, ho, Sk, b1, b2, b3, b4, ⟨pre, hp1, hp2⟩, hlast, hltl⟩ := I
      refine s_listEnd (i := 0) Sk rfl ho (Sk.keep _ _ hpl) (by simp [strValues]) rm' fun s1 S1 => ⟨rfl, ?_⟩
      refine wpAny_execs_nil ?_
      have S1 := S1.cast (L' := (td, lstO (intVals lt) nt) :: L) rfl
      rw [hlpl, List.drop_length] at hp2
      have hp3 : pre = cumG 0 gs := by rw [← hp2]; simp [cumG]
      have hwl1 := le11 _ _ (le _ _ hwl)
      have hdl1 := le11 _ _ (le _ _ hdl)
      with_reducible refine r_execs_cons ?_
      with_reducible refine wpAny_Return_some ?_
      with_reducible refine BoolOp_and ?_
      with_reducible refine wpAny_Compare1 ?_
      refine r_CallM ?_
      with_reducible refine s_str S1 ?_
      intro t2 s2 S2
      with_reducible refine gm_join ?_
      refine Calls.callWith_builtin rfl (r_args1 (r_local S2 b2 (r_item0 ?_)))
      have hs1 := sum_of hlp (by simpa using hGs) [95]
      rw [jn_flat hGne, hfl, jn_len_eq (b := 32), ← inter_jn] at hs1
      have one : (Str.ofString "_").length = [95].length := by decide +kernel
      refine s_join S2 (S2.keep _ _ hpl) (by rw [one, hs1]; simp; omega) fun t3 s3 S3 => ?_
      refine r_CallM ?_
      with_reducible refine s_str S3 ?_
      intro t4 s4 S4
      with_reducible refine gm_join ?_
      refine Calls.callWith_builtin rfl (r_args1 (r_local S4 b3 (r_item0 ?_)))
      have hs2 := sum_of hw (by simp) [95]
      rw [jn_len_eq (b := 32), ← inter_jn] at hs2
      refine s_join S4 (S4.keep _ _ hwl1) (by rw [one, hs2]; simp; omega) fun t5 s5 S5 => ?_
      refine P.eq_str (wpAny_truthy_bool ?_)
      have comp : (fun x : Str => x.cps.toList) ∘ (fun x : Str × Tok => x.1) = fun z => z.1.cps.toList := rfl
      rw [if_pos]
      rotate_left
      · rw [join_list, join_list, List.map_map, List.map_map, comp, hlp, hw]
        have e95 : (Str.ofString "_").cps.toList = [95] := by decide +kernel
        rw [e95, jn_flat hGne, hfl]
        simp
      refine BoolOp_one (wpAny_Compare1 (r_from (O := O) (r_local S5 b1 (s_int S5 fun t6 s6 S6 => ?_))))
      refine ⟨_, _, _, _, td, _, _, 1, t6, S6, rfl, S6.get 0 rfl, by rw [intVals_len]; omega, rfl, fun c7 s7 S7 => ?_⟩
      refine r_local S7 b4 ?_
      have e7 : (intVals lt).drop 1 = intVals (lt.drop 1) := by simp [intVals, List.map_drop]
      rw [e7] at S7
      refine s_eqL rm' (S7.get 0 rfl) (S7.keep _ _ hdl1) ?_ ?_
      · rw [List.map_drop, hp1, hdue, ← hp3]; rfl
      · exact h s7 (back _ _ _ (back11 _ _ _ S7.tail.tail))
end
end Mine
namespace Mine
section
variable {O : OsState} {w : World} {A : Around} {E : Value → Shared → Prop} {s : Shared} {g : Heap} {f : Addr} {m : Str → Option Value} {L : List (Addr × Obj)} {env : Env}
theorem s_mod {a b : Int} {t u : Tok} {Q : Value → Shared → Prop} (S : St O w g f m L s.heap s.os s.gens) (hb : b ≠ 0) (h : ∀ t s', St O w g f m L s'.heap s'.os s'.gens → Q (.int (a.fmod b) t) s') : wpAny (model prog w) A (binaryOp .Mod (.int a t) (.int b u)) Q E s :=
  mod_int' hb (h _ _ S)
theorem s_div26 {a : Int} {t u : Tok} {Q : Value → Shared → Prop} (S : St O w g f m L s.heap s.os s.gens) (h : ∀ t s', St O w g f m L s'.heap s'.os s'.gens → Q (.int (a.fdiv 26) t) s') : wpAny (model prog w) A (binaryOp .FloorDiv (.int a t) (.int 26 u)) Q E s :=
  floordiv_int (by decide) (h _ _ S) (.inl (PyProof.noPylong_small (by decide)))
/-- a[:k] of a list that is not ours -/
theorem r_uptoI {value upper : Expr} {p pos : Pos} {Q : Value → Shared → Prop}
    (h : wpAny (model prog w) A (eval value env) (fun o s₁ => wpAny (model prog w) A (eval upper env) (fun vu s₃ => ∃ g f m L a vs b t, St O w g f m L s₃.heap s₃.os s₃.gens ∧ o = .ref a ∧ s₃.heap.IsList a (vs : List Value).toArray ∧ vs.length < 100000 ∧ vu = .int ((b : Nat) : Int) t ∧
      ∀ c s', St O w g f m ((c, lstO (vs.take b)) :: L) s'.heap s'.os s'.gens → Q (.ref c) s') E s₁) E s)
    (ht : ∀ o r, letTemporaryGo value o r = pure () := by intro _ _; rfl) :
    wpAny (model prog w) A (eval (.Subscript value (.Slice none (some upper) none p) pos) env) Q E s := by
  refine wpAny_Subscript_list_slice (wpAny_mono h (fun o s₁ h₁ => wpAny_evalPart_none (wpAny_evalPart_some (wpAny_mono h₁ (fun vu s₃ h₃ => ?_) fun _ _ e => e))) fun _ _ e => e) ht
  obtain ⟨g, f, m, L, a, vs, b, t, S, rfl, hl, hz, rfl, h⟩ := h₃
  refine ⟨a, vs.toArray, none, some b, rfl, hl, by simp [sizeLine]; omega, .none, .int _ _, ?_⟩
  rw [slicePick_upto']
  have S1 := (S.push { cls := .type "slice", data := .fields #[.none, .int (b : Int) t, .none] } rfl).push (lstO (vs.take b)) rfl
  rw [Heap.size_push] at S1
  have S2 := S1.sub (L' := (s₃.heap.objs.size + 1, lstO (vs.take b)) :: L) (.cons_cons _ (.cons _ (List.Sublist.refl _)))
  exact h _ { s₃ with heap := (s₃.heap.push { cls := .type "slice", data := .fields #[.none, .int (b : Int) t, .none] }).push (lstO (vs.take b)) } S2
theorem s_sumL {n k : Nat} {a : Addr} {l : List (Int × Tok)} {Q : Value → Shared → Prop} (S : St O w g f m L s.heap s.os s.gens) (r : Rm n A) (hl : s.heap.get? a = some (lstO (intVals l) k))
    (h : ∀ t' s', St O w g f m L s'.heap s'.os s'.gens → Q (.int (l.map (·.1)).sum t') s') : wpAny (model prog w) A (call (.builtin "sum") [.ref a]) Q E s := by
  have hI : s.heap.IsList a (intItems l.toArray) := by rw [← intVals_items]; exact isL hl
  refine sum_intListG r.hd hI fun h' tk t' hk => ?_
  have e : preSum (numAt l.toArray) l.toArray.size = (l.map (·.1)).sum := by
    rw [preSum_eq, List.take_of_length_le (by simp)]
  rw [e]
  exact h t' { s with heap := h', toks := tk } (S.keeps hk)
theorem g_chr (w : World) : nsLook (Str.ofString "chr") (o3 w) = pure none ∧ nsLook (Str.ofString "chr") (o0 w) = pure (some (.builtin "chr")) := ⟨by kernel_rfl, by kernel_rfl⟩
theorem g_sum2 (w : World) : nsLook (Str.ofString "sum") (o3 w) = pure none ∧ nsLook (Str.ofString "sum") (o0 w) = pure (some (.builtin "sum")) := ⟨by kernel_rfl, by kernel_rfl⟩
theorem g_ends (w : World) : nsLook (Str.ofString "_law_ends") (o3 w) = pure (some (.ref 218)) := by kernel_rfl
theorem g_tabs (w : World) : nsLook (Str.ofString "_law_tables") (o3 w) = pure (some (.ref 223)) := by kernel_rfl
theorem g_far (w : World) : nsLook (Str.ofString "_law_far") (o3 w) = pure (some (.ref 228)) := by kernel_rfl
theorem g_holds (w : World) : nsLook (Str.ofString "_law_holds") (o3 w) = pure (some (.ref 240)) := by kernel_rfl
theorem mulOk1 {c : Nat} {n : Int} (h0 : 1 ≤ n) (h1 : n ≤ 9) : MulOk ⟨#[c]⟩ n := by
  have hl : (⟨#[c]⟩ : Str).length = 1 := rfl
  refine ⟨by simp; omega, fun _ _ => ?_, fun _ _ => ?_⟩
  · rw [hl]
    have hd : (2 ^ 63 - 1 : Int) / n ≥ 1 := by
      rw [ge_iff_le, Int.le_ediv_iff_mul_le (by omega)]
      omega
    omega
  · rw [hl]
    unfold Builtin.Str.tooLong sizeLine
    simp; omega
theorem intVals_last {l : List (Int × Tok)} {xs : List Int} {n : Nat} (h : l.map (·.1) = xs) (hn : xs.length = n + 1) : ∃ t, (intVals l).getLast? = some (.int (xs.getD n 0) t) := by
  obtain ⟨u, hu⟩ := intVals_at h (j := n) (by omega)
  have hl : (intVals l).length = n + 1 := by rw [intVals_len, ints_last h, hn]
  exact ⟨u, by rw [List.getLast?_eq_getElem?, hl]; exact hu⟩
theorem sum_succ2 : ∀ ls : List (List Nat), (ls.map fun x => x.length + 2).sum = (ls.map fun x => x.length + 1).sum + ls.length
  | [] => rfl
  | x :: r => by
    have := sum_succ2 r
    simp only [List.map_cons, List.sum_cons, List.length_cons, this]; omega
theorem len_flat : ∀ {gs : List (List (List Nat))}, (∀ x ∈ gs, x ≠ []) → gs.length ≤ gs.flatten.length
  | [], _ => by simp
  | x :: l, h => by
    have h1 := List.length_pos_iff.mpr (h x (.head _))
    have h2 := len_flat (gs := l) fun y hy => h y (.tail _ hy)
    rw [List.flatten_cons, List.length_append, List.length_cons]
    omega
theorem linesL_short {gs : List (List (List Nat))} (h0 : gs ≠ []) (h : ∀ x ∈ gs, x ≠ []) : (jn [10] (linesL gs)).length + 1 ≤ (jn [32] gs.flatten).length + gs.length := by
  have hne : gs.map (jn [32]) ≠ [] := by simpa using h0
  have a : (jn [10, 32] (gs.map (jn [32]))).length + 2 = ((gs.map (jn [32])).map fun x => x.length + 2).sum := jn_len (s := [10, 32]) (gs.map (jn [32])) hne
  have b : (jn [32] (gs.map (jn [32]))).length + 1 = ((gs.map (jn [32])).map fun x => x.length + 1).sum := jn_len (s := [32]) (gs.map (jn [32])) hne
  have c := sum_succ2 (gs.map (jn [32]))
  rw [jn_flat h] at b
  rw [jn_lines]
  rw [List.length_map] at c
  omega
theorem len_of_list {wds : List (Str × Tok)} {ls : List (List Nat)} (h : wds.map (fun z => z.1.cps.toList) = ls) : wds.map (·.1.length) = ls.map List.length := by
  rw [← h, List.map_map]
  apply List.map_congr_left
  intro z _
  exact Array.length_toList.symm
noncomputable def bodyAt (w : World) (a : Addr) : List Stmt := match (fdAt w a).body with | .stmts b => b | _ => []
theorem law_spec {sl : Addr} {l : List (Int × Tok)} {Rz : Flow → Shared → Prop} (S : St O w g f (fun y => [(Str.ofString "script", Value.ref sl)].lookup y) L s.heap s.os s.gens) (rm : Rm 100 A) (hl : g.IsList sl (intVals l).toArray) (hlen : l.length < 1000)
    (h : ∀ s' m' L', St O w g f m' L' s'.heap s'.os s'.gens → Rz (.ret (.bool true)) s') :
    wpAny (model prog w) A (execs (bodyAt w 245) (callEnv (fdAt w 245) f 245)) Rz (fun _ _ => False) s := by
  conv => arg 3; arg 1; whnf
  walk_at "env"
  have hl' : ∀ s' : Shared, (∀ b o, g.get? b = some o → s'.heap.get? b = some o) → s'.heap.IsList sl (intVals l).toArray := fun s' k => hl.at fun o e => k _ _ e
  refine r_execs_cons (wpAny_Assign_Name ?_)
  refine wpAny_BinOp (r_list (O := O) (r_item (s_str S fun t1 s1 S1 => ?_)))
  refine r_item (s_str S1 fun t2 s2 S2 => r_item (s_str S2 fun t3 s3 S3 => r_item (s_str S3 fun t4 s4 S4 => r_item0 ⟨by simp [sizeLine], _, _, _, _, S4, fun c5 s5 S5 => ?_⟩)))
  refine r_comp (O := O) (cl := []) ?_
  refine r_uptoI (O := O) (r_local S5 rfl (s_int S5 fun t6 s6 S6 => ?_))
  refine ⟨_, _, _, _, sl, intVals l, 4, t6, S6, rfl, hl' _ S6.keep, by rw [intVals_len]; omega, rfl, fun c7 s7 S7 => ?_⟩
  refine s_listIter S7 (S7.get 0 rfl) fun it o s8 ho S8 => ?_
  refine ⟨_, _, _, _, S8, fun g9 C D s9 le9 S9 => ⟨fun Q' E' q => s_listSelf (i := 1) S9 rfl ho q, ?_⟩⟩
  have htk : (intVals l).take 4 = intVals (l.take 4) := by simp [intVals, List.map_take]
  rw [htk] at S9
  refine comp_run (l.take 4).length (fun j x => ∃ z t, x = Value.str z t ∧ z.cps.toList = runL (((l.take 4).map (·.1)).getD j 0)) (fun j vs s => ∃ bs nD o, IsIt o c7 j ∧ St O w g9 C (fun y => List.lookup y bs) ((D, lstO vs nD) :: (it, o) :: (c7, lstO (intVals (l.take 4))) :: (c5, lstO [.str (Str.ofString "system") t1, .str (Str.ofString "of") t2, .str (Str.ofString "a") t3, .str (Str.ofString "node") t4]) :: L) s.heap s.os s.gens) ⟨[], 0, o, ho, S9⟩ (fun E' j vs s hj hvl I => ?_) (fun E' vs s hvl hF I => ?_)
  · obtain ⟨bs, nD, o, ho, Sk⟩ := I
    have hj4 : j < 4 := by simp at hj; omega
    obtain ⟨tx, hx⟩ := intVals_at (l := l.take 4) rfl (j := j) (by simpa using hj)
    generalize ((l.take 4).map (·.1)).getD j 0 = x at hx ⊢
    have h26 := fmod26 x
    have h9 := fmod9 (x.fdiv 26)
    refine s_listNext (i := 1) Sk rfl ho (Sk.get 2 rfl) hx fun o' s1 ho' S1 => ⟨_, rfl, ?_⟩
    refine wpAny_assign_Name (r_store S1 fun s2 S2 => ?_)
    refine wpAny_BinOp (wpAny_Call_NameR (r_builtin S2 (g_chr w).1 (g_chr w).2 ?_))
    refine Calls.callWith_builtin rfl (r_args1 (wpAny_BinOp (s_int S2 fun t3 s3 S3 => wpAny_BinOp (r_local S3 rfl (s_int S3 fun t4 s4 S4 => s_mod S4 (by decide) fun t5 s5 S5 => s_add S5 fun t6 s6 S6 => r_item0 ?_)))))
    refine P.chr_of_int (by simp; omega) ?_
    refine wpAny_BinOp (s_int (s := { s6 with toks := s6.toks + 1 }) S6 fun t7 s7 S7 => ?_)
    refine wpAny_BinOp (wpAny_BinOp (r_local S7 rfl (s_int S7 fun t8 s8 S8 => s_div26 S8 fun t9 s9 S9 => s_int S9 fun t10 s10 S10 => s_mod S10 (by decide) fun t11 s11 S11 => s_add S11 fun t12 s12 S12 => ?_)))
    refine SB.mul (mulOk1 (by omega) (by omega)) fun t13 k13 => ⟨⟨_, _, rfl, ?_⟩, ?_⟩
    · rw [mul_list (by omega)]; rfl
    · refine s_appendV (s := { s12 with toks := k13 }) (i := 0) S12 rfl (by omega) fun n14 s14 S14 => ?_
      exact ⟨_, _, _, ho', S14⟩
  · obtain ⟨bs, nD, o, ho, Sk⟩ := I
    refine s_listEnd (i := 1) Sk rfl ho (Sk.get 2 rfl) (by rw [intVals_len]; omega) rm fun s1 S1 => ⟨rfl, rfl, _, _, S1, fun s2 S2 => ?_⟩
    obtain ⟨lw, rfl, elw⟩ := strs_of (F := fun k => runL (((l.take 4).map (·.1)).getD k 0)) (k := 0) (by simpa using hF)
    have hlw : lw.length = (l.take 4).length := by simpa [strValues] using hvl
    have elw2 : lw.map (fun z => z.1.cps.toList) = ((l.map (·.1)).take 4).map runL := by
      rw [elw, hvl, ← List.map_take]
      apply List.ext_getElem?
      intro k
      by_cases hk : k < (l.take 4).length
      · have hk2 : k < ((l.take 4).map (·.1)).length := by simpa using hk
        rw [List.getElem?_map, List.getElem?_range hk, List.getElem?_map, List.getElem?_eq_getElem hk2]
        show some (runL (((l.take 4).map (·.1)).getD (0 + k) 0)) = some (runL _)
        rw [Nat.zero_add, List.getD_eq_getElem?_getD, List.getElem?_eq_getElem hk2]
        rfl
      · rw [List.getElem?_eq_none (by simp at hk ⊢; omega), List.getElem?_eq_none (by simp at hk ⊢; omega)]
    obtain ⟨wds, hwds, hw⟩ : ∃ wds : List (Str × Tok), [Value.str (Str.ofString "system") t1, .str (Str.ofString "of") t2, .str (Str.ofString "a") t3, .str (Str.ofString "node") t4] ++ strValues lw = strValues wds ∧ wds.map (fun z => z.1.cps.toList) = wSystem :: wRest (l.map (·.1)) := by
      refine ⟨[(Str.ofString "system", t1), (Str.ofString "of", t2), (Str.ofString "a", t3), (Str.ofString "node", t4)] ++ lw, rfl, ?_⟩
      rw [List.map_append, elw2]
      rfl
    generalize hxs : l.map (·.1) = xs at hw elw2
    refine s_addL S2 (S2.get 2 rfl) (S2.get 0 rfl) (by rw [hvl]; simp; omega) fun wl s3 S3 => ?_
    rw [hwds] at S3
    have S3 := S3.sub (L' := (wl, lstO (strValues wds)) :: L) (.cons_cons _ (.cons _ (.cons _ (.cons _ (List.Sublist.refl _)))))
    refine r_store S3 fun s4 S4 => ?_
    obtain ⟨g4, S5, le5, hwl, back5⟩ := S4.commit1
    refine r_execs_cons (wpAny_Assign_Name ?_)
    refine wpAny_BinOp (wpAny_BinOp (s_int S5 fun t6 s6 S6 => ?_))
    refine wpAny_Call_NameR (r_builtin S6 (g_sum2 w).1 (g_sum2 w).2 ?_)
    refine Calls.callWith_builtin rfl (r_args1 (r_uptoI (O := O) (r_local S6 rfl (s_int S6 fun t7 s7 S7 => ?_))))
    refine ⟨_, _, _, _, sl, intVals l, 4, t7, S7, rfl, hl' _ (fun b o e => S7.keep b o (le5 _ _ e)), by rw [intVals_len]; omega, rfl, fun c8 s8 S8 => ?_⟩
    rw [htk] at S8
    refine r_item0 ?_
    refine s_sumL S8 rm (S8.get 0 rfl) fun t9 s9 S9 => s_add S9 fun t10 s10 S10 => s_int S10 fun t11 s11 S11 => s_mod S11 (by decide) fun t12 s12 S12 => ?_
    have h8 := fmod8 (3 + ((l.take 4).map (·.1)).sum)
    revert h8
    generalize (3 + ((l.take 4).map (·.1)).sum).fmod 8 = head
    intro h8
    refine r_store S12.tail fun s13 S13 => ?_
    have hlens := len_of_list hw
    have hwlen : wds.length = (wRest xs).length + 1 := by simpa using congrArg List.length hw
    have hr7 := wRest_len xs
    have hls9 : ∀ x ∈ wds.map (·.1.length), x ≤ 9 := by
      rw [hlens]
      intro x hx
      obtain ⟨u, hu, rfl⟩ := List.mem_map.mp hx
      exact wlen_all xs u hu
    have hls0 : ∀ x ∈ wds.map (·.1.length), 0 < x := by
      rw [hlens]
      intro x hx
      obtain ⟨u, hu, rfl⟩ := List.mem_map.mp hx
      exact List.length_pos_iff.mpr (okU_all xs u hu).1.1
    have hE := ends_Ends (head := head) (ls := wds.map (·.1.length)) h8.1 hls0
    rw [List.length_map] at hE
    have hElast := ends_last_le (head := head) hls9 (fun q => by
      have := congrArg List.length q
      rw [List.length_map, hwlen] at this
      exact absurd this (by simp))
    rw [List.length_map] at hElast
    have hE0 : (endsL head (wds.map (·.1.length))).getD 0 0 = -head := rfl
    have hn8 : wds.length ≤ 8 := by omega
    have hn0 : 0 < wds.length := by omega
    obtain ⟨n, hn⟩ : ∃ n, wds.length = n := ⟨_, rfl⟩
    rw [hn] at hE hElast hn8 hn0 hwlen
    refine r_execs_cons (wpAny_Assign_Name ?_)
    refine wpAny_Call_NameR (r_global S13 (g_tabs w) ?_)
    refine r_callK (O := O) (r_args1 (wpAny_Call_NameR (r_global S13 (g_ends w) ?_)))
    refine r_callK (O := O) (r_args1 (r_local S13 rfl ?_))
    refine r_item (r_local S13 rfl (r_item0 ⟨⟨_, _, _, _, S13⟩, ?_⟩))
    have hw1000 : wds.length < 1000 := by omega
    refine ends_spec S13 (rm.le (by decide)) hwl hw1000 (fun z hz => Nat.lt_of_le_of_lt (hls9 _ (List.mem_map_of_mem (f := fun z : Str × Tok => z.1.length) hz)) (by decide)) fun el es n14 s14 hes S14 => ?_
    obtain ⟨e, he⟩ : ∃ e, endsL head (wds.map (·.1.length)) = e := ⟨_, rfl⟩
    rw [he] at hes hE hElast hE0
    obtain ⟨g15, S15, le15, hel, back15⟩ := S14.commit1
    refine r_item0 ⟨⟨_, _, _, _, S15⟩, ?_⟩
    refine tables_spec S15 (rm.le (by decide)) hel hes hE.len (by omega) fun g16 tl trs n16 s16 le16 S16 etl hrows => ?_
    refine r_store S16 fun s17 S17 => ?_
    obtain ⟨g18, S18, le18, htl, back18⟩ := S17.commit1
    have hen : e ≠ [] := by intro q; have := hE.len; rw [q] at this; simp at this
    have rlen : ∀ k, (rowAt e k).length = n + 1 := fun k => by rw [rowAt_len hen, hE.len]
    refine r_execs_cons ?_
    refine r_compA (O := O) (cl := []) ?_
    refine r_local S18 rfl ?_
    refine s_listIter S18 (S18.keep _ _ htl) fun it o s19 ho S19 => ?_
    refine ⟨_, _, _, _, rfl, S19, fun g20 C D s20 le20 S20 => ⟨fun Q' E' q => s_listSelf (i := 1) S20 rfl ho q, ?_⟩⟩
    have htl20 := le20 _ _ htl
    refine comp_run n (fun k x => ∃ t, x = Value.int ((rowAt e (k + 1)).getD n 0) t) (fun k vs s => ∃ bs nD o, IsIt o tl k ∧ St O w g20 C (fun y => List.lookup y bs) ((D, lstO vs nD) :: (it, o) :: L) s.heap s.os s.gens) ⟨[], 0, o, ho, S20⟩ (fun E' k vs s hk hvl I => ?_) (fun E' vs s hvl hF I => ?_)
    · obtain ⟨bs, nD, o, ho, Sk⟩ := I
      obtain ⟨lb, nb, hlb, elb⟩ := hrows k trs[k] (by simp [etl, hk])
      obtain ⟨u, hu⟩ := intVals_last elb (rlen _)
      refine s_listNext (i := 1) (x := .ref trs[k]) Sk rfl ho (Sk.keep _ _ htl20) (by simp [etl, hk]) fun o' s1 ho' S1 => ⟨_, rfl, ?_⟩
      refine wpAny_assign_Name (r_store S1 fun s2 S2 => ?_)
      refine r_Sub (r_local S2 rfl (wpAny_UnaryOp (s_int S2 fun t3 s3 S3 => s_neg S3 fun t4 s4 S4 => ?_)))
      have gb : s4.heap.get? trs[k] = some (lstO (intVals lb) nb) := S4.keep _ _ (le20 _ _ (le18 _ _ hlb))
      refine gip_list gb ⟨rfl, s_itemLast gb (by intro q; rw [q] at hu; simp at hu) hu ⟨⟨_, rfl⟩, ?_⟩⟩
      refine s_appendV (i := 0) S4 rfl (by omega) fun n5 s5 S5 => ?_
      exact ⟨_, _, _, ho', S5⟩
    · obtain ⟨bs, nD, o, ho, Sk⟩ := I
      refine s_listEnd (i := 1) Sk rfl ho (Sk.keep _ _ htl20) (by simp [etl]) rm fun s1 S1 => ⟨rfl, rfl, _, _, S1, fun s2 S2 => ?_⟩
      obtain ⟨ll, rfl, ell⟩ := ints_of0 (F := fun k => (rowAt e (k + 1)).getD n 0) hF
      rw [hvl] at ell
      obtain ⟨g22, S22, le22, hD, back22⟩ := (S2.cast (L' := (D, lstO (intVals ll) nD) :: L) rfl).commit1
      have hlo0 : 0 ≤ (rowAt e n).getD n 0 := row_nn n n
      have hhi := least_first hE hn0
      have hhi0 : 0 ≤ (rowAt e 1).getD n 0 := row_nn 1 n
      have hlen : ((List.range n).map fun k => (rowAt e (k + 1)).getD n 0).length = (n - 1) + 1 := by simp; omega
      obtain ⟨ulo, hulo⟩ := intVals_last ell hlen
      obtain ⟨uhi, huhi⟩ := intVals_at ell (j := 0) (by simp; omega)
      have elo : ((List.range n).map fun k => (rowAt e (k + 1)).getD n 0).getD (n - 1) 0 = (rowAt e n).getD n 0 := by
        rw [List.getD_eq_getElem?_getD, List.getElem?_map, List.getElem?_range (by omega)]
        show (rowAt e (n - 1 + 1)).getD n 0 = _
        rw [Nat.sub_add_cancel hn0]
      have ehi : ((List.range n).map fun k => (rowAt e (k + 1)).getD n 0).getD 0 0 = (rowAt e 1).getD n 0 := by
        rw [List.getD_eq_getElem?_getD, List.getElem?_map, List.getElem?_range (by omega)]
        rfl
      rw [elo] at hulo
      rw [ehi] at huhi
      rw [hE0] at hhi
      have hfit0 : ∀ W, (rowAt e n).getD n 0 ≤ W → W ≤ (rowAt e 1).getD n 0 → 0 ≤ W ∧ W < 1000000 ∧ ∀ i, i < n → e.getD (i + 1) 0 - e.getD i 0 ≤ W := fun W h1 h2 =>
        by
        have a1 : 0 ≤ W := Int.le_trans hlo0 h1
        have a2 : W < 1000000 := by omega
        exact ⟨a1, a2, fit_of_row hE a1 a2 n n (Nat.le_refl _) h1⟩
      have hlohi : (rowAt e n).getD n 0 ≤ (rowAt e 1).getD n 0 := by
        have := row_anti (e := e) (j := n) (by rw [hE.len]; omega) (n - 1)
        rwa [Nat.sub_add_cancel hn0] at this
      generalize hlod : (rowAt e n).getD n 0 = lo at hulo hlo0 hfit0 hlohi
      generalize hhid : (rowAt e 1).getD n 0 = hi at huhi hhi hhi0 hfit0 hlohi
      have hwl22 : g22.get? wl = some (lstO (strValues wds)) := le22 _ _ (le18 _ _ (le16 _ _ (le15 _ _ hwl)))
      have htl22 := le22 _ _ htl
      have leall : ∀ b o, g.get? b = some o → g22.get? b = some o := fun b o q => le22 _ _ (le18 _ _ (le16 _ _ (le15 _ _ (le5 _ _ q))))
      refine r_execs_cons (wpAny_For ?_)
      refine wpAny_Call_NameR (r_builtin S22 (g_range w).1 (g_range w).2 ?_)
      refine r_callT rfl (r_args1 (r_Sub (r_local S22 rfl (wpAny_UnaryOp (s_int S22 fun t3 s3 S3 => s_neg S3 fun t4 s4 S4 => ?_)))))
      have gD : ∀ s' : Shared, (∀ b o, g22.get? b = some o → s'.heap.get? b = some o) → s'.heap.get? D = some (lstO (intVals ll) nD) := fun s' k => k _ _ hD
      refine gip_list (gD _ S4.keep) ⟨rfl, s_itemLast (gD _ S4.keep) (by intro q; rw [q] at hulo; simp at hulo) hulo ?_⟩
      refine r_item (wpAny_BinOp (r_Sub (r_local S4 rfl (s_int S4 fun t5 s5 S5 => ?_))))
      refine gip_list (gD _ S5.keep) ⟨rfl, s_itemL (gD _ S5.keep) (by decide) (by decide) huhi ?_⟩
      refine s_int S5 fun t6 s6 S6 => s_add S6 fun t7 s7 S7 => r_item0 ?_
      refine s_range2 S7 fun rg vv s8 S8 => s_rangeIter S8 (rsm_gen (by omega) (by omega) (by omega) (by omega)) fun itw s9 S9 => ?_
      rw [rsz_gen] at S9
      refine for_idx (hi + 1 - lo).toNat (fun j s => ∃ bs, St O w g22 f (fun y => List.lookup y bs) ((itw, riO (lo + j) (((hi + 1 - lo).toNat : Int) - j) 1) :: L) s.heap s.os s.gens ∧ bs.lookup (Str.ofString "words") = some (.ref wl) ∧ bs.lookup (Str.ofString "head") = some (.int head t12) ∧ bs.lookup (Str.ofString "tables") = some (.ref tl) ∧ bs.lookup (Str.ofString "least") = some (.ref D))
        ⟨_, S9.cast (by simp), rfl, rfl, rfl, rfl⟩ (fun E' j s hj I => ?_) fun E' s I => ?_
      · obtain ⟨bs, Sj, b1, b2, b3, b4⟩ := I
        refine s_rangeNextI (i := 0) Sj rfl (by omega) fun t1 s1 S1 => ⟨_, rfl, ?_⟩
        obtain ⟨W, hW⟩ : ∃ W, lo + (j : Int) = W := ⟨_, rfl⟩
        rw [hW] at S1 ⊢
        have hW1 : lo ≤ W := by omega
        have hW2 : W ≤ hi := by omega
        obtain ⟨w0, w1, wf⟩ := hfit0 W hW1 hW2
        have ecast : ((itw, riO (W + 1) (((hi + 1 - lo).toNat : Int) - j - 1) 1) :: L : List (Addr × Obj)) = (itw, riO (lo + ((j + 1 : Nat) : Int)) (((hi + 1 - lo).toNat : Int) - ((j + 1 : Nat) : Int)) 1) :: L := by
          congr 3 <;> omega
        refine wpAny_assign_Name (r_store S1 fun s2 S2 => ?_)
        refine r_execs_cons (wpAny_If (wpAny_mono (Q := fun (_ : Bool) s3 => St O w g22 f (fun y => List.lookup y ((Str.ofString "width", .int W t1) :: bs)) ((itw, riO (W + 1) (((hi + 1 - lo).toNat : Int) - j - 1) 1) :: L) s3.heap s3.os s3.gens) ?_ (fun b s3 S3 => ?_) fun _ _ e => e))
        · refine isTrue_or (wpAny_isTrue_Compare1 (r_local S2 rfl (r_local S2 b4 (s_in (gD _ S2.keep) ell (wpAny_truthy_bool ?_)))))
          split
          · exact S2
          · refine isTrue_or (wpAny_isTrue_Compare1 (wpAny_BinOp (r_local S2 rfl (s_int S2 fun t3 s3 S3 => s_add S3 fun t4 s4 S4 => ?_))))
            refine r_local S4 b4 (s_in (gD _ S4.keep) ell (wpAny_truthy_bool ?_))
            split
            · exact S4
            · exact isTrue_or_nil S4
        · cases b with
          | false =>
            rw [if_neg (by decide)]
            refine wpAny_execs_nil (wpAny_execs_nil ?_)
            exact ⟨_, S3.cast ecast, b1, b2, b3, b4⟩
          | true =>
            rw [if_pos rfl]
            obtain ⟨gs, q1, q2, q3, q4, q5⟩ := lay_greedy (head := head) (W := W) (v := wSystem) (r := wRest xs) h8.1 w0 w1 (fun u hu => (okU_all xs u hu).1.1) (by rw [← hlens, he, ← hwlen]; exact wf)
            rw [← hlens, he] at q5
            have hokG : okG gs := ⟨q1, fun g hg => ⟨q2 g hg, fun u hu => okU_all xs u (by rw [← q3]; exact List.mem_flatten.mpr ⟨g, hg, hu⟩)⟩⟩
            have hgl := len_flat q2
            rw [q3] at hgl
            have hsz := interLen (wSystem :: wRest xs) (wlen_all xs)
            have hJ := linesL_short q1 q2
            rw [q3, ← inter_jn] at hJ
            simp only [List.length_cons] at hgl hsz
            have hv : head + (wSystem.length : Int) ≤ W := by
              have h1 := wf 0 hn0
              have e1 : e.getD (0 + 1) 0 = wSystem.length := by
                rw [← he, hlens, ends_step head ((wSystem :: wRest xs).map List.length) 0 (by simp)]
                simp
              rw [e1, hE0] at h1
              omega
            refine r_execs_cons (wpAny_If (isTrue_not (isTrue_plain ?_)))
            refine wpAny_Call_NameR (r_global S3 (g_holds w) ?_)
            refine r_callK (O := O) (r_args1 (r_local S3 b1 ?_))
            refine r_item (r_local S3 b2 ?_)
            refine r_item (r_local S3 rfl ?_)
            refine r_item (wpAny_Call_NameR (r_global S3 (g_far w) ?_))
            refine r_callK (O := O) (r_args1 (r_local S3 b3 ?_))
            refine r_item (r_local S3 rfl (r_item0 ⟨⟨_, _, _, _, S3⟩, ?_⟩))
            refine far_spec S3 (rm.le (by decide)) htl22 hE (by omega) hn0 w0 w1 etl (fun k a hk => ?_) fun fa ls n4 s4 hls S4 => ?_
            · obtain ⟨l', nn, z1, z2⟩ := hrows k a hk
              exact ⟨l', nn, le22 _ _ (le18 _ _ z1), z2⟩
            obtain ⟨g5, S5, le5', hfa, back5'⟩ := S4.commit1
            refine r_item0 ⟨⟨_, _, _, _, S5⟩, ?_⟩
            refine holds_spec S5 (rm.le (by decide)) (le5' _ _ hwl22) hfa hw hokG q3 (by omega) (by omega) h8.1 (by omega) hv q4 (by omega) (by omega) (by rw [hls, q5]) fun s6 S6 => ?_
            refine wpAny_truthy_bool ?_
            rw [if_neg (by decide)]
            refine wpAny_execs_nil (wpAny_execs_nil (wpAny_execs_nil ?_))
            exact ⟨_, (back5' _ _ _ S6).cast ecast, b1, b2, b3, b4⟩
      · obtain ⟨bs, Sj, b1, b2, b3, b4⟩ := I
        refine s_rangeEndI (i := 0) Sj rfl rm (by omega) fun s1 S1 => ⟨rfl, ?_⟩
        refine wpAny_execs_nil ?_
        refine r_execs_cons (wpAny_Return_some (wpAny_pure ?_))
        exact h s1 _ _ (S1.weak S.kg leall)
end
end Mine
namespace Mine
theorem code_rec {h : Heap} {cv : Value} {q : Str} {c : Addr} {oc : Obj} {vs : Array Value} {t : Tok} (hc : cv = .ref c) (hoc : h.get? c = some oc) (hvs : oc.data = .fields vs) (hq : vs[1]? = some (.str q t)) : h.CodeRec cv q := ⟨c, oc, vs, t, hc, hoc, hvs, hq⟩
theorem body245 (w : World) : (fdAt w 245).body = .stmts (bodyAt w 245) := by rfl
theorem binds245 (w : World) (sl : Addr) (s : Shared) : BindsTo s (fdAt w 245) ⟨[.ref sl], []⟩ [(Str.ofString "script", .ref sl)] := by
  have h : bindArgs (fdAt w 245) ⟨[.ref sl], []⟩ = pure [(Str.ofString "script", .ref sl)] := by kernel_rfl
  with_reducible exact BindsTo.of_eq h
theorem holds_all : PySem.Challenge.rw_ny0214_01.Holds := by
  refine hx ?_
  k_fill
  intro w s₀ s₁ mg mb G Y fa o pm cd doc dV kV ho hd hcd hD hmg hg args vals as hpre hlay hrd hwl hlo
  have KX := kIn_of Y
  have X := (Ground.X G).1
  have V := (Ground.X G).2
  refine Ground.open G ?_
  intro T B D TE TW
  wrow_args hpre hlay hrd hwl hlo
  x_fa T KX hmg
  clear hD hmg hcd hd
  rename_i xs _ _ _ _ _ _ _ sl vs _ hL _ _ _ hI _ _ hcond
  have lim : s₁.heap.NoLimit := T.nolimit
  have hlen : xs.length ≤ 63 := by omega
  obtain ⟨l, rfl, rfl⟩ := ints_are hI
  have hne : ∀ P, s₁.heap.get? P = some { cls := .none, data := .fields #[] } → sl ≠ P := by
    rintro P hP rfl
    obtain ⟨o, e, c, _⟩ := hL
    rw [hP] at e
    injection e with e
    rw [← e] at c
    cases c
  have hsz : 245 < s₁.heap.objs.size := Heap.lt_size ho
  refine wpAny_call ?_
  have e : PySem.Challenge.rw_ny0214_01.row.prog = prog := by rfl
  rw [e]
  have hk245 := KX 245 ⟨.type "function", none, .func (fdAt w 245), #[]⟩ (by rfl)
  with_reducible refine enter0 (O := s₁.os) (n := 100) (fd := fdAt w 245) (oc := .type "function") (od := none) (osl := #[]) (body := bodyAt w 245) [(Str.ofString "script", .ref sl)] KX lim hsz (init_tabs KX hg) ?_ hk245 ?_ (body245 w) (binds245 w sl _) ?_ ?_ ?_ ?_ ?_ ?_
  · exact ⟨rfl, by decide, by decide⟩
  · exact code_rec (c := 244) (by rfl) (KX 244 _ (by rfl)) (by rfl) (by rfl)
  · exact fun x hx => of_decide_eq_true (List.all_eq_true.mp (show ((fdAt w 245).scope.names.all fun x => decide (x.2 ≠ .cell)) = true by kernel_rfl) x hx)
  · intro x hx
    rw [List.mem_singleton.mp hx]
    rfl
  · intro f' s' A' rm' S
    have hl0 : (hideAll s₁.heap [162, 169, 206]).IsList sl (intVals l).toArray := hL.at fun o e => hideAll_get _ e (by simp [hne 162 (KX 162 _ (by rfl)), hne 169 (KX 169 _ (by rfl)), hne 206 (KX 206 _ (by rfl))])
    have hlt : l.length < 1000 := by simpa using Nat.lt_of_le_of_lt hlen (by decide)
    with_reducible refine law_spec S rm' hl0 hlt ?_
    intro s2 m' L' S2
    refine ⟨.inl ⟨.bool true, .bool true, [], rfl, ?_, .bool true, ?_, unshared_nil⟩, end_old KX S2.keep S2.tb, S2.tb.os, S2.tb.bare⟩
    · intro cls
      rfl
    · wrow_post
  · rfl
  · rfl
  · rfl
end Mine
theorem PySem.Challenge.cw_ny0214_01_holds : PySem.Challenge.rw_ny0214_01.Holds := by
  exact Mine.holds_all
