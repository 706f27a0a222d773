import PyProof.Rows.All
import Wide.All
import OpenK.AllK
import Wide.FinOn
import PySem.Challenge.RW_pe0088_01
open PySem PySem.W PyProof.Rows
set_option Elab.async false
namespace Mine
set_option maxRecDepth 100000 in
set_option maxHeartbeats 8000000 in
open_top hd for PySem.Challenge.rw_pe0088_01
end Mine
set_option maxRecDepth 100000

section
namespace Mine
open PySem PySem.W PyProof.Rows PySem.Calls

/-- what a piece of code owns: addresses, each with what is known of the object there -/
abbrev Own := List (Addr × (Obj → Prop))

structure St (h₀ : Heap) (l : Own) (h : Heap) : Prop where
  keep : ∀ b o, h₀.get? b = some o → h.get? b = some o
  nodup : (l.map (·.1)).Nodup
  fresh : ∀ p ∈ l, h₀.get? p.1 = none
  has : ∀ p ∈ l, ∃ o, h.get? p.1 = some o ∧ p.2 o

def Loc (al : List (Str × Value)) (o : Obj) : Prop := ∃ es ep, o.data = .dict es ep ∧ StrKeys es ∧ ∀ x v, al.lookup x = some v → nsFind es x = some v
def CellP (v : Option Value) (o : Obj) : Prop := o.data = .cell v
def LstP (vs : List Value) (o : Obj) : Prop := ∃ n, o = { cls := .type "list", data := .seq vs.toArray n }

theorem Loc.mono {al al' : List (Str × Value)} {o : Obj} (H : Loc al o) (hs : ∀ p ∈ al', al.lookup p.1 = some p.2) : Loc al' o := by
  obtain ⟨es, ep, hd, hk, hf⟩ := H
  exact ⟨es, ep, hd, hk, fun x v e => hf x v (hs _ (mem_of_lookup e))⟩

namespace St
variable {h₀ h h' : Heap} {l : Own}

theorem get {i : Nat} {a : Addr} {φ : Obj → Prop} (H : St h₀ l h) (hi : l[i]? = some (a, φ)) : ∃ o, h.get? a = some o ∧ φ o := H.has _ (List.mem_of_getElem? hi)
theorem free {i : Nat} {a : Addr} {φ : Obj → Prop} (H : St h₀ l h) (hi : l[i]? = some (a, φ)) : h₀.get? a = none := H.fresh _ (List.mem_of_getElem? hi)

theorem set {i : Nat} {a : Addr} {φ φ' : Obj → Prop} (H : St h₀ l h) (hi : l[i]? = some (a, φ)) (hs : ∀ b o, b ≠ a → h.get? b = some o → h'.get? b = some o)
    (hn : ∃ o, h'.get? a = some o ∧ φ' o) : St h₀ (l.set i (a, φ')) h' := by
  have hmap : (l.set i (a, φ')).map (·.1) = l.map (·.1) := by
    apply List.ext_getElem?
    intro j
    rw [List.getElem?_map, List.getElem?_map, List.getElem?_set]
    by_cases hij : i = j
    · subst hij
      rw [if_pos rfl, hi]
      split
      · rfl
      · rename_i hlt
        rw [List.getElem?_eq_none (by omega)] at hi
        cases hi
    · rw [if_neg hij]
  have hmem : ∀ p ∈ l.set i (a, φ'), p = (a, φ') ∨ (p ∈ l ∧ p.1 ≠ a) := by
    intro p hp
    obtain ⟨j, hj⟩ := List.mem_iff_getElem?.mp hp
    rw [List.getElem?_set] at hj
    by_cases hij : i = j
    · rw [if_pos hij] at hj
      split at hj
      · exact .inl (Option.some.inj hj).symm
      · cases hj
    · rw [if_neg hij] at hj
      refine .inr ⟨List.mem_of_getElem? hj, fun e => ?_⟩
      have e1 : (l.map (·.1))[i]? = some a := by rw [List.getElem?_map, hi]; rfl
      have e2 : (l.map (·.1))[j]? = some a := by rw [List.getElem?_map, hj, ← e]; rfl
      have hlt : i < (l.map (·.1)).length := (List.getElem?_eq_some_iff.mp e1).1
      exact hij ((List.getElem?_inj hlt H.nodup).mp (e1.trans e2.symm))
  have hfa := H.free hi
  refine ⟨fun b o e => hs b o (fun q => ?_) (H.keep b o e), hmap ▸ H.nodup, fun p hp => ?_, fun p hp => ?_⟩
  · rw [q, hfa] at e; cases e
  · rcases hmem p hp with rfl | ⟨q, _⟩
    · exact hfa
    · exact H.fresh p q
  · rcases hmem p hp with rfl | ⟨q, hne⟩
    · exact hn
    · obtain ⟨o, ho, hφ⟩ := H.has p q
      exact ⟨o, hs _ _ hne ho, hφ⟩

theorem setS {i : Nat} {a : Addr} {φ φ' : Obj → Prop} (H : St h₀ l h) (hi : l[i]? = some (a, φ)) (hs : Heap.SameBut a h h') (hn : ∃ o, h'.get? a = some o ∧ φ' o) : St h₀ (l.set i (a, φ')) h' :=
  H.set hi (fun b o hb e => hs.extBut b o hb e) hn

theorem weak {i : Nat} {a : Addr} {φ φ' : Obj → Prop} (H : St h₀ l h) (hi : l[i]? = some (a, φ)) (hw : ∀ o, φ o → φ' o) : St h₀ (l.set i (a, φ')) h :=
  H.set hi (fun _ _ _ e => e) (let ⟨o, ho, hp⟩ := H.get hi; ⟨o, ho, hw o hp⟩)

theorem keeps (H : St h₀ l h) (hk : ∀ b o, h.get? b = some o → h'.get? b = some o) : St h₀ l h' :=
  ⟨fun b o e => hk b o (H.keep b o e), H.nodup, H.fresh, fun p hp => let ⟨o, ho, q⟩ := H.has p hp; ⟨o, hk _ _ ho, q⟩⟩

theorem lt (H : St h₀ l h) {p} (hp : p ∈ l) : p.1 < h.objs.size := let ⟨_, ho, _⟩ := H.has p hp; Heap.lt_size ho
theorem base_lt (H : St h₀ l h) {b o} (e : h₀.get? b = some o) : b < h.objs.size := Heap.lt_size (H.keep b o e)

theorem push (H : St h₀ l h) (o : Obj) {φ : Obj → Prop} (hφ : φ o) (hf : o.isFreed = false := by rfl) : St h₀ (l ++ [(h.objs.size, φ)]) (h.push o) := by
  have hn : h₀.get? h.objs.size = none := by
    cases e : h₀.get? h.objs.size with
    | none => rfl
    | some o' => exact absurd (H.base_lt e) (Nat.lt_irrefl _)
  refine ⟨fun b o' e => Heap.get?_push_of_some _ (H.keep b o' e), ?_, fun p hp => ?_, fun p hp => ?_⟩
  · rw [List.map_append, List.nodup_append]
    refine ⟨H.nodup, by simp, fun a ha b hb => ?_⟩
    obtain ⟨p, hp, rfl⟩ := List.mem_map.mp ha
    simp only [List.map_cons, List.map_nil, List.mem_singleton] at hb
    subst hb
    exact Nat.ne_of_lt (H.lt hp)
  · rcases List.mem_append.mp hp with hp | hp
    · exact H.fresh p hp
    · rw [List.mem_singleton.mp hp]; exact hn
  · rcases List.mem_append.mp hp with hp | hp
    · obtain ⟨o', ho, q⟩ := H.has p hp
      exact ⟨o', Heap.get?_push_of_some _ ho, q⟩
    · rw [List.mem_singleton.mp hp]; exact ⟨o, Heap.get?_push_size _ hf, hφ⟩

theorem sub (H : St h₀ l h) {l' : Own} (hs : l'.Sublist l) : St h₀ l' h :=
  ⟨H.keep, H.nodup.sublist (hs.map _), fun p hp => H.fresh p (hs.mem hp), fun p hp => H.has p (hs.mem hp)⟩

/-- all that is not owned becomes ground -/
theorem rebase (H : St h₀ l h) : ∃ h₁, St h₁ l h ∧ (∀ b o, h₀.get? b = some o → h₁.get? b = some o) ∧ (∀ b o, h.get? b = some o → (∀ p ∈ l, b ≠ p.1) → h₁.get? b = some o) := by
  refine ⟨hideAll h (l.map (·.1)), ⟨fun b o e => of_hideAll _ e, H.nodup, fun p hp => hideAll_none _ (List.mem_map_of_mem hp), H.has⟩, fun b o e => hideAll_get _ (H.keep b o e) fun q => ?_, fun b o e hne => hideAll_get _ e fun q => ?_⟩
  · obtain ⟨p, hp, rfl⟩ := List.mem_map.mp q
    rw [H.fresh p hp] at e; cases e
  · obtain ⟨p, hp, e'⟩ := List.mem_map.mp q
    exact hne p hp e'.symm
end St

/-- the text's own objects and the built-in names stand -/
structure Gr (w : World) (h : Heap) : Prop where
  X : (hd.heap_39 w.params).In h
  top : ∃ p loose mg mb, TopRead p loose mg mb h
  sys : ∃ o, h.get? sysModules = some o
  main : ∃ mg bm ob, h.Ns mainGlobals mg ∧ mg "__builtins__" = some (.ref bm) ∧ bm ≠ builtinsNs ∧ h.get? bm = some ob ∧ ob.cls = .type "module" ∧ ob.dict = some builtinsNs ∧ ob.data = .plain
  code : CodeHd h 65 63
theorem Gr.keeps {w : World} {h h' : Heap} (G : Gr w h) (hk : ∀ b o, h.get? b = some o → h'.get? b = some o) : Gr w h' :=
  ⟨G.X.keeps hk, let ⟨p, l, mg, mb, T⟩ := G.top; ⟨p, l, mg, mb, T.keeps hk⟩, let ⟨o, e⟩ := G.sys; ⟨o, hk _ _ e⟩,
   let ⟨mg, bm, ob, h1, h2, h3, h4, h5⟩ := G.main; ⟨mg, bm, ob, h1.keeps hk, h2, h3, hk _ _ h4, h5⟩, G.code.keeps hk⟩
theorem Gr.notSys {w : World} {h : Heap} {d : Addr} (G : Gr w h) (hd : h.get? d = none) : (d == sysModules) = false := by
  obtain ⟨o, e⟩ := G.sys
  exact beq_eq_false_iff_ne.mpr fun q => by rw [q, e] at hd; cases hd
theorem Gr.nolimit {w : World} {h : Heap} (G : Gr w h) : h.NoLimit := let ⟨_, _, _, _, T⟩ := G.top; T.nolimit

section
variable {M : Model} {A : Around} {E : Value → Shared → Prop} {s : Shared} {env : Env} {h₀ : Heap} {l : Own} {w : World} {x : Str} {pos : Pos} {v : Value}

theorem nm_glob {Q : Value → Shared → Prop} (G : Gr w s.heap) (e : nsIn (hd.heap_39 w.params) mainGlobals x = some (some v)) (h : Q v s) (hk : env.scope.kind = .function := by rfl)
    (hx : env.kindOf x = some .globalImplicit := by rfl) (hg : env.globals = mainGlobals := by rfl) (hd : (x == ("__debug__" : Str)) = false := by decide) : wpAny M A (eval (.Name x pos) env) Q E s := by
  obtain ⟨p, lo, mg, mb, T⟩ := G.top
  exact Name_function_global hk hx (loadGlobal_global (hg ▸ T.g) (mg_of G.X T.g e) h) hd

theorem nm_built {Q : Value → Shared → Prop} (G : Gr w s.heap) (e : nsIn (hd.heap_39 w.params) mainGlobals x = some none) (hv : bootBuiltins x = some v) (hn : x ≠ "__name__") (h : Q v s) (hk : env.scope.kind = .function := by rfl)
    (hx : env.kindOf x = some .globalImplicit := by rfl) (hg : env.globals = mainGlobals := by rfl) (hb : env.builtins = builtinsNs := by rfl) (hd : (x == ("__debug__" : Str)) = false := by decide) : wpAny M A (eval (.Name x pos) env) Q E s := by
  obtain ⟨p, lo, mg, mb, T⟩ := G.top
  exact Name_function_global hk hx (loadGlobal_builtin (hg ▸ T.g) (mg_none_of G.X T.g e) (hb ▸ T.b) ((T.builtins x hn).trans hv) h) hd

theorem ns_of {L : Addr} {al : List (Str × Value)} (H : St h₀ l s.heap) {i : Nat} (hi : l[i]? = some (L, Loc al)) : ∃ m, s.heap.Ns L m ∧ ∀ x v, al.lookup x = some v → m x = some v := by
  obtain ⟨o, ho, es, ep, hd, hk, hf⟩ := H.get hi
  exact ⟨nsFind es, ⟨o, es, ep, ho, hd, hk, fun _ => rfl⟩, hf⟩
theorem loc_of_ns {h : Heap} {L : Addr} {m : Str → Option Value} (hn : h.Ns L m) {al : List (Str × Value)} (ha : ∀ x v, al.lookup x = some v → m x = some v) : ∃ o, h.get? L = some o ∧ Loc al o := by
  obtain ⟨o, es, ep, ho, hd, hk, hf⟩ := hn
  exact ⟨o, ho, es, ep, hd, hk, fun x v e => (hf x).trans (ha x v e)⟩

theorem nm_loc {al : List (Str × Value)} {Q : Value → Shared → Prop} (H : St h₀ ((env.locals, Loc al) :: l) s.heap) (hv : al.lookup x = some v) (h : Q v s) (hk : env.scope.kind = .function := by rfl)
    (hx : env.kindOf x = some .local := by rfl) (hd : (x == ("__debug__" : Str)) = false := by decide) : wpAny M A (eval (.Name x pos) env) Q E s := by
  obtain ⟨m, hn, hf⟩ := ns_of H (i := 0) rfl
  exact wpAny_Name (wpAny_loadName_local hk hx hn (hf _ _ hv) h) hd

theorem lnm_loc {al : List (Str × Value)} {Q : Value → Shared → Prop} (H : St h₀ ((env.locals, Loc al) :: l) s.heap) (hv : al.lookup x = some v) (h : Q v s) (hk : env.scope.kind = .function := by rfl)
    (hx : env.kindOf x = some .local := by rfl) : wpAny M A (loadName env x) Q E s := by
  obtain ⟨m, hn, hf⟩ := ns_of H (i := 0) rfl
  exact wpAny_loadName_local hk hx hn (hf _ _ hv) h

theorem nm_cell {c : Addr} {i : Nat} {Q : Value → Shared → Prop} (H : St h₀ l s.heap) (hc : env.cells.lookup x = some c) (hi : l[i]? = some (c, CellP (some v))) (h : Q v s) (hk : env.scope.kind = .function := by rfl)
    (hx : env.kindOf x = some .cell := by rfl) (hd : (x == ("__debug__" : Str)) = false := by decide) : wpAny M A (eval (.Name x pos) env) Q E s := by
  obtain ⟨o, ho, hp⟩ := H.get hi
  exact wpAny_Name (wpAny_loadName_cell hk hx hc ⟨o, ho, hp⟩ h) hd

theorem st_loc {al : List (Str × Value)} {Q : Unit → Shared → Prop} (H : St h₀ ((env.locals, Loc al) :: l) s.heap)
    (h : ∀ h' tk, St h₀ ((env.locals, Loc ((x, v) :: al)) :: l) h' → Q () { s with heap := h', toks := tk })
    (hx : env.kindOf x = some .local := by rfl) (hp : (env.scope.kind == .class || (env.scope.kind == .module && env.locals != env.globals)) = false := by rfl) : wpAny M A (storeName env x v) Q E s := by
  obtain ⟨m, hn, hf⟩ := ns_of H (i := 0) rfl
  refine wpAny_storeName_local hx hn (fun h' hn' hs => h h' _ ?_) hp
  refine H.setS (i := 0) rfl hs (loc_of_ns hn' fun y u e => ?_)
  rw [List.lookup_cons] at e
  by_cases hy : y = x
  · subst hy; simpa using e
  · rw [if_neg hy]
    have : (y == x) = false := by simpa using hy
    rw [this] at e
    exact hf y u e

theorem st_cell {c : Addr} {i : Nat} {v₀ : Option Value} {Q : Unit → Shared → Prop} (H : St h₀ l s.heap) (hc : env.cells.lookup x = some c) (hi : l[i]? = some (c, CellP v₀))
    (h : ∀ h', St h₀ (l.set i (c, CellP (some v))) h' → Q () { s with heap := h' }) (hk : env.scope.kind = .function := by rfl) (hx : env.kindOf x = some .cell := by rfl) :
    wpAny M A (storeName env x v) Q E s := by
  obtain ⟨o, ho, hp⟩ := H.get hi
  refine wpAny_storeName_cell hk hx hc ⟨o, ho, hp⟩ fun h' hv hs => h h' (H.setS hi hs hv)
end

theorem cells_mem {L : Addr} {m cm : Str → Option Value} {cs : List (Str × Addr)} {s s₁ : Shared} (X : InCallC s L m cs cm s₁) (hnd : (cs.map (·.1)).Nodup) {al : List (Str × Value)}
    (ha : ∀ x v, al.lookup x = some v → m x = some v) : St s.heap ((L, Loc al) :: cs.map fun nc => (nc.2, CellP (cm nc.1))) s₁.heap := by
  have hfr : ∀ a, s.heap.objs.size ≤ a → s.heap.get? a = none := fun a h => by
    cases e : s.heap.get? a with
    | none => rfl
    | some o => exact absurd (Heap.lt_size e) (Nat.not_lt.mpr h)
  refine ⟨X.toInCall.keep, ?_, fun p hp => ?_, fun p hp => ?_⟩
  · simp only [List.map_cons, List.map_map]
    refine List.nodup_cons.mpr ⟨fun hm => ?_, ?_⟩
    · obtain ⟨nc, hnc, e⟩ := List.mem_map.mp hm
      have := X.above nc.1 nc.2 hnc
      have e' : nc.2 = L := e
      exact absurd this (e' ▸ Nat.lt_irrefl _)
    · exact List.Pairwise.map _ (fun a b hab => hab) X.apart
  · rcases List.mem_cons.mp hp with rfl | hp
    · exact hfr _ X.toInCall.fresh
    · obtain ⟨nc, hnc, rfl⟩ := List.mem_map.mp hp
      exact hfr _ (Nat.le_of_lt (Nat.lt_of_le_of_lt X.toInCall.fresh (X.above nc.1 nc.2 hnc)))
  · rcases List.mem_cons.mp hp with rfl | hp
    · exact loc_of_ns X.toInCall.ns ha
    · obtain ⟨nc, hnc, rfl⟩ := List.mem_map.mp hp
      exact X.cell nc.1 nc.2 (lookup_of_mem_nodup hnd hnc)

/-- a call of one of the text's own defs -/
theorem enter {prog : Program} {w : World} {A : Around} {E : Value → Shared → Prop} {s : Shared} {a : Addr} {o : Obj} {fd : FuncData} {body : List Stmt} {vals : List Value} {binds : List (Str × Value)} {Q : Value → Shared → Prop}
    {al : List (Str × Value)} (G : Gr w s.heap) (hroom : A.depth < recursionLimit) (ho : (hd.heap_39 w.params).lookup a = some o) (hdata : o.data = .func fd) (hcd : codeIn (hd.heap_39 w.params) fd.code fd.qualname = true)
    (hbody : fd.body = .stmts body) (hbind : bindArgs fd ⟨vals, []⟩ = pure binds) (hclo : fd.closure = [])
    (hkind : (binds.all fun y => fd.scope.names.lookup y.1 == some .local || fd.scope.names.lookup y.1 == some .cell) = true)
    (hnd : ((cellsFrom 0 fd.scope.names []).map (·.1)).Nodup)
    (ha : ∀ L, ∀ p ∈ al, bindL (callEnvC fd L a).kindOf binds (fun _ => none) p.1 = some p.2)
    (h : ∀ L h₁ tk, St s.heap ((L, Loc al) :: (cellsFrom (L + 1) fd.scope.names []).map fun nc => (nc.2, CellP (bindC (callEnvC fd L a).kindOf binds (fun _ => none) nc.1))) h₁ →
      wpAny (model prog w) (A.deeper (callEnvC fd L a)) (execs body (callEnvC fd L a)) (fun f s' => Q (match f with | .ret v => v | _ => .none) s') (fun _ _ => False) { s with heap := h₁, toks := tk })
    (hco : fd.scope.isCoroutine = false := by rfl) (hgen : fd.scope.isGenerator = false := by rfl) (hk : fd.scope.kind = .function := by rfl) :
    wpAny (model prog w) A (call (.ref a) vals) Q E s := by
  refine wpAny_call (codeAny_call_cells hroom (G.X _ _ ho) hdata G.nolimit (codeRec_of G.X hcd) hbody hbind hclo (kindsX hkind _) (fun s₁ X => ?_) hco hgen hk)
  obtain ⟨h₁, tk, rfl, _⟩ := X.done
  have H := cells_mem X (cellsFrom_names fd.scope.names 0 (s.heap.objs.size + 1) [] [] rfl ▸ hnd) (al := al) fun x v e => ha _ (x, v) (mem_of_lookup e)
  exact wpAny_mono (h s.heap.objs.size h₁ tk H) (fun f s' q => q) fun _ _ x => x.elim
end Mine
end

section
namespace Mine
open PySem PySem.W PyProof.Rows PySem.Calls

/-- the loop's iterator, owned by the loop, hidden from the turn but for its being there unchanged -/
def Is (oI : Obj) (o : Obj) : Prop := o = oI

section
variable {prog : Program} {w : World} {A : Around} {R : Result → Shared → Prop} {s : Shared} {env : Env} {h₀ : Heap} {target : Expr} {body : List Stmt}

theorem St.drop_last {h₀ h : Heap} {l : Own} {x} (H : St h₀ (l ++ [x]) h) : St h₀ l h := H.sub (List.sublist_append_left _ _)
theorem St.last {h₀ h : Heap} {l : Own} {x} (H : St h₀ (l ++ [x]) h) : ∃ o, h.get? x.1 = some o ∧ x.2 o := H.has x (by simp)

/-- after one step of the iterator -/
theorem St.stepped {h₀ h h' : Heap} {l : Own} {I : Addr} {φ : Obj → Prop} (H : St h₀ (l ++ [(I, φ)]) h) (hk : ∀ b o, b ∉ [I] → h.get? b = some o → h'.get? b = some o) {o : Obj} (ho : h'.get? I = some o) :
    St h₀ (l ++ [(I, Is o)]) h' := by
  have := H.set (i := l.length) (a := I) (φ := φ) (φ' := Is o) (by simp) (h' := h') (fun b o' hb e => hk b o' (by simpa using hb) e) ⟨o, ho, rfl⟩
  rwa [List.set_append_right _ _ (Nat.le_refl _), Nat.sub_self, List.set_cons_zero] at this

abbrev TurnPost (R : Result → Shared → Prop) (s : Shared) (h₁ : Heap) (I : Addr) (oI : Obj) (Nx : Own → Heap → Prop) (f : Flow) (s₃ : Shared) : Prop :=
  match f with
  | .next | .cont => ∃ l' h₂ h' tk, s₃ = { s with heap := h', toks := tk } ∧ St h₂ (l' ++ [(I, Is oI)]) h' ∧ (∀ b o, h₁.get? b = some o → h₂.get? b = some o) ∧ Nx l' h₂
  | .brk => R (.ok .next) s₃
  | .ret v => R (.ok (.ret v)) s₃

theorem loop_own {I : Addr} {fp : List Addr} {n : Nat} {P : Nat → Value → Prop} {Sw : Nat → Heap → Prop} (W : Walks prog w A I fp [I] n P Sw) (hsrc : ∀ b ∈ fp, b ≠ I → ∃ o, h₀.get? b = some o)
    (hlive : ∀ i h, Sw i h → ∃ o, h.get? I = some o) (Inv : Nat → Own → Heap → Prop) {l : Own} {φI : Obj → Prop} (hst : Sw 0 s.heap) (H : St h₀ (l ++ [(I, φI)]) s.heap) (h0 : Inv 0 l h₀)
    (turn : ∀ i v l h₁ h tk oI, i < n → P i v → (∀ b o, h₀.get? b = some o → h₁.get? b = some o) → Inv i l h₁ → St h₁ (l ++ [(I, Is oI)]) h →
      wpAny (model prog w) A (assign target env v) (fun _ s₂ => wpAny (model prog w) A (execs body env) (TurnPost R s h₁ I oI (Inv (i + 1))) (fun _ _ => False) s₂) (fun _ _ => False) { s with heap := h, toks := tk })
    (done : ∀ l h₁ h' tk, (∀ b o, h₀.get? b = some o → h₁.get? b = some o) → Inv n l h₁ → St h₁ l h' → R (.ok .next) { s with heap := h', toks := tk })
    (ht : ∀ v, letOwnedTupleGo target (.ref I) v = pure () := by intro _; rfl) : codeAny (model prog w) A (.forLoop target (.ref I) body [] env) R s := by
  refine codeAny_forLoop (fun k s' => ∃ i l h₁ h tk φ, s' = { s with heap := h, toks := tk } ∧ Sw i h ∧ i ≤ n ∧ k = n + 1 - i ∧ St h₁ (l ++ [(I, φ)]) h ∧ (∀ b o, h₀.get? b = some o → h₁.get? b = some o) ∧ Inv i l h₁) ?_ (n + 1)
    ⟨0, l, h₀, s.heap, s.toks, φI, rfl, hst, Nat.zero_le _, rfl, H, fun _ _ e => e, h0⟩ ht
  rintro k s' ⟨i, l, h₁, h, tk, φ, rfl, hst', hi, rfl, H', hk, hInv⟩
  by_cases hlt : i < n
  · refine W.item i _ _ _ hlt hst' fun v h' tk' hP hst₁ hk₁ => ?_
    obtain ⟨oI, hoI⟩ := hlive _ _ hst₁
    have H₁ := H'.stepped hk₁ hoI
    refine wpAny_mono (wpAny_mono (turn i v l h₁ h' tk' oI hlt hP hk hInv H₁) (fun _ s₂ h₂ => wpAny_mono h₂ (fun f s₃ h₃ => ?_) fun _ _ x => x.elim) fun _ _ x => x) (fun _ _ x => x) fun _ _ x => x.elim
    have fin : (∃ l' h₂ h'' tk, s₃ = { s with heap := h'', toks := tk } ∧ St h₂ (l' ++ [(I, Is oI)]) h'' ∧ (∀ b o, h₁.get? b = some o → h₂.get? b = some o) ∧ Inv (i + 1) l' h₂) →
        ∃ m, m < n + 1 - i ∧ ∃ i l h₁ h tk φ, s₃ = { s with heap := h, toks := tk } ∧ Sw i h ∧ i ≤ n ∧ m = n + 1 - i ∧ St h₁ (l ++ [(I, φ)]) h ∧ (∀ b o, h₀.get? b = some o → h₁.get? b = some o) ∧ Inv i l h₁ := by
      rintro ⟨l', h₂, h'', tk'', rfl, H₂, hk₂, hI₂⟩
      refine ⟨n + 1 - (i + 1), by omega, i + 1, l', h₂, h'', tk'', _, rfl, ?_, hlt, rfl, H₂, fun b o e => hk₂ b o (hk b o e), hI₂⟩
      refine W.frame _ _ _ hst₁ fun b hb o e => ?_
      by_cases hbI : b = I
      · subst hbI
        obtain ⟨o', ho', e'⟩ := H₂.last
        rw [hoI] at e; cases e
        rw [ho', e']
      · obtain ⟨o', ho'⟩ := hsrc b hb hbI
        have : h'.get? b = some o' := H₁.keep b o' (hk b o' ho')
        rw [this] at e; cases e
        exact H₂.keep b _ (hk₂ b _ (hk b _ ho'))
    cases f with
    | next => exact fin h₃
    | cont => exact fin h₃
    | brk => exact h₃
    | ret v => exact h₃
  · have hin : i = n := by omega
    subst hin
    refine W.done _ _ _ hst' fun h' tk' hk' => wpAny_execs_nil ?_
    refine done l h₁ h' tk' hk hInv ?_
    have hI : h₁.get? I = none := H'.fresh (I, φ) (by simp)
    refine ⟨fun b o e => hk' b o (fun hb => ?_) (H'.keep b o e), H'.drop_last.nodup, H'.drop_last.fresh, fun p hp => ?_⟩
    · rw [List.mem_singleton.mp hb, hI] at e; cases e
    · obtain ⟨o, ho, q⟩ := H'.drop_last.has p hp
      refine ⟨o, hk' _ _ (fun hb => ?_) ho, q⟩
      have hnd := H'.nodup
      rw [List.map_append, List.nodup_append] at hnd
      exact hnd.2.2 p.1 (List.mem_map_of_mem hp) I (by simp) (List.mem_singleton.mp hb)
end

section
variable {prog : Program} {w : World} {K : Type} [DecidableEq K] {knd : KeyKind prog w K} {A : Around} {R : Result → Shared → Prop} {s : Shared} {env : Env} {h₀ : Heap} {body : List Stmt}

theorem loop_items {xk xv : Str} {pk pv pt : Pos} {x1} {I d : Addr} {kvs : List (K × Value)} {ep : Nat}
    (hh : A.handled = none) (hm : h₀.DictAt knd d kvs ep) (Inv : Nat → List (Str × Value) → Own → Heap → Prop) {al : List (Str × Value)} {l : Own} {φI : Obj → Prop}
    (hit : IsItemIter s.heap I d 0 kvs.length ep .none .none) (H : St h₀ ((env.locals, Loc al) :: (l ++ [(I, φI)])) s.heap) (h0 : Inv 0 al l h₀)
    (turn : ∀ i k v key al l h₁ h tk oI, kvs[i]? = some (k, v) → knd.is k key = true → (∀ b o, h₀.get? b = some o → h₁.get? b = some o) → Inv i al l h₁ → St h₁ ((env.locals, Loc ((xv, v) :: (xk, key) :: al)) :: (l ++ [(I, Is oI)])) h →
      wpAny (model prog w) A (execs body env) (fun f s₃ => match f with
        | .next | .cont => ∃ al' l' h₂ h' tk, s₃ = { s with heap := h', toks := tk } ∧ St h₂ ((env.locals, Loc al') :: (l' ++ [(I, Is oI)])) h' ∧ (∀ b o, h₁.get? b = some o → h₂.get? b = some o) ∧ Inv (i + 1) al' l' h₂
        | .brk => R (.ok .next) s₃
        | .ret v => R (.ok (.ret v)) s₃) (fun _ _ => False) { s with heap := h, toks := tk })
    (done : ∀ al l h₁ h' tk, (∀ b o, h₀.get? b = some o → h₁.get? b = some o) → Inv kvs.length al l h₁ → St h₁ ((env.locals, Loc al) :: l) h' → R (.ok .next) { s with heap := h', toks := tk })
    (hxk : env.kindOf xk = some .local := by rfl) (hxv : env.kindOf xv = some .local := by rfl)
    (hp : (env.scope.kind == .class || (env.scope.kind == .module && env.locals != env.globals)) = false := by rfl) :
    codeAny (model prog w) A (.forLoop (.Tuple [.Name xk pk, .Name xv pv] x1 pt) (.ref I) body [] env) R s := by
  refine codeAny_forLoop_any (fun m s' => ∃ i al l h₁ h tk ok ov, s' = { s with heap := h, toks := tk } ∧ IsItemIter h I d i kvs.length ep ok ov ∧ i ≤ kvs.length ∧ m = kvs.length + 1 - i ∧
      (∃ φ, St h₁ (((env.locals, Loc al) :: l) ++ [(I, φ)]) h) ∧ (∀ b o, h₀.get? b = some o → h₁.get? b = some o) ∧ Inv i al l h₁) ?_ (kvs.length + 1)
    ⟨0, al, l, h₀, s.heap, s.toks, .none, .none, rfl, hit, Nat.zero_le _, rfl, ⟨φI, H⟩, fun _ _ e => e, h0⟩
  rintro m s' ⟨i, al, l, h₁, h, tk, ok, ov, rfl, hit', hi, rfl, ⟨φ, H'⟩, hk, hInv⟩
  have hmh : h.DictAt knd d kvs ep := (hm.keep hk).keep H'.keep
  have hI0 : h₁.get? I = none := H'.fresh (I, φ) (by simp)
  cases hv : kvs[i]? with
  | none =>
    have hsz : i = kvs.length := Nat.le_antisymm hi (by simpa using hv)
    refine wpAny_pyNext_items_end hh hit' hmh hv fun h' he' => wpAny_execs_nil ?_
    refine done al l h₁ h' tk hk (hsz ▸ hInv) ?_
    refine ⟨fun b o e => he' b o (fun hb => ?_) (H'.keep b o e), H'.drop_last.nodup, H'.drop_last.fresh, fun p hp => ?_⟩
    · rw [hb, hI0] at e; cases e
    · obtain ⟨o, ho, q⟩ := H'.drop_last.has p hp
      refine ⟨o, he' _ _ (fun hb => ?_) ho, q⟩
      have hnd := H'.nodup
      rw [List.map_append, List.nodup_append] at hnd
      exact hnd.2.2 p.1 (List.mem_map_of_mem hp) I (by simp) hb
  | some kv =>
    obtain ⟨k, v⟩ := kv
    have hlt : i < kvs.length := (List.getElem?_eq_some_iff.mp hv).1
    have hIh : I < h.objs.size := Heap.lt_size hit'
    have hne : ∀ p ∈ ((env.locals, Loc al) :: l : Own), p.1 ≠ I := fun p hp hb => by
      have hnd := H'.nodup
      rw [List.map_append, List.nodup_append] at hnd
      exact hnd.2.2 p.1 (List.mem_map_of_mem hp) I (by simp) hb
    refine wpAny_pyNext_items_item hit' hmh hv fun key g₁ hkey heo ht₁ hz₁ hk₁ => ?_
    refine wpAny_letOwnedTupleGo_items heo fun g₂ he₂ hs₂ => ?_
    replace hs₂ : Heap.SameBut I g₁ g₂ := hs₂
    have ht₂ : g₂.IsTuple h.objs.size #[key, v] := ⟨_, (hs₂.2 _ (Nat.ne_of_gt hIh)).trans ht₁, rfl, _, rfl⟩
    have hz₂ : g₂.objs.size = h.objs.size + 1 := hs₂.1.trans hz₁
    obtain ⟨oI, hoI, hback⟩ : ∃ oI, g₂.get? I = some oI ∧ ∀ h' : Heap, h'.get? I = some oI → IsItemIter h' I d (i + 1) kvs.length ep key v := ⟨_, he₂, fun _ e => e⟩
    have H₂ : St h₁ (((env.locals, Loc al) :: l) ++ [(I, Is oI)]) g₂ := H'.stepped (h' := g₂) (fun b o hb e => hs₂.extBut b o (by simpa using hb) (hk₁ b o (by simpa using hb) e)) hoI
    refine wpAny_assign_Tuple hh ht₂ rfl rfl fun g₃ hx₃ => ?_
    replace hx₃ : Heap.ExtBut g₂.objs.size g₂ g₃ := hx₃
    have H₃ : St h₁ ((env.locals, Loc al) :: (l ++ [(I, Is oI)])) g₃ := H₂.keeps fun b o e => hx₃ b o (Nat.ne_of_lt (Heap.lt_size e)) e
    show wpAny _ _ (do holding [v] (assign (.Name xk pk) env key); do holding [] (assign (.Name xv pv) env v); pure ()) _ _ _
    refine wpAny_bind (wpAny_holding (wpAny_assign_Name (st_loc H₃ (fun g₄ tk₄ H₄ => ?_) hxk hp)))
    refine wpAny_bind (wpAny_holding (wpAny_assign_Name (st_loc H₄ (fun g₅ tk₅ H₅ => wpAny_pure ?_) hxv hp)))
    have fin : ∀ s₃, (∃ al' l' h₂ h' tk, s₃ = { s with heap := h', toks := tk } ∧ St h₂ ((env.locals, Loc al') :: (l' ++ [(I, Is oI)])) h' ∧ (∀ b o, h₁.get? b = some o → h₂.get? b = some o) ∧ Inv (i + 1) al' l' h₂) →
        ∃ m, m < kvs.length + 1 - i ∧ ∃ i al l h₁ h tk ok ov, s₃ = { s with heap := h, toks := tk } ∧ IsItemIter h I d i kvs.length ep ok ov ∧ i ≤ kvs.length ∧ m = kvs.length + 1 - i ∧
          (∃ φ, St h₁ (((env.locals, Loc al) :: l) ++ [(I, φ)]) h) ∧ (∀ b o, h₀.get? b = some o → h₁.get? b = some o) ∧ Inv i al l h₁ := by
      rintro s₃ ⟨al', l', h₂, h', tk', rfl, H₆, hk₆, hI₆⟩
      refine ⟨kvs.length + 1 - (i + 1), by omega, i + 1, al', l', h₂, h', tk', key, v, rfl, ?_, hlt, rfl, ⟨_, H₆⟩, fun b o e => hk₆ b o (hk b o e), hI₆⟩
      obtain ⟨o', ho', e'⟩ := St.last (l := (env.locals, Loc al') :: l') H₆
      have e'' : o' = oI := e'
      rw [e''] at ho'
      exact hback _ ho'
    refine wpAny_mono (turn i k v key al l h₁ g₅ tk₅ _ hv hkey hk hInv H₅) (fun f s₃ h₃ => ?_) fun _ _ x => x.elim
    cases f with
    | next => exact fin _ h₃
    | cont => exact fin _ h₃
    | brk => exact h₃
    | ret v => exact h₃
end
end Mine
end

section
namespace Mine
open PySem PySem.W PyProof.Rows PySem.Calls

theorem Gr.st {w : World} {h₀ h : Heap} {l : Own} (G : Gr w h₀) (H : St h₀ l h) : Gr w h := G.keeps H.keep

/-- a text by its signs -/
abbrev Wd := List Nat
def W (x : Wd) : Str := ⟨x.toArray⟩
theorem W_inj {x y : Wd} (h : W x = W y) : x = y := by
  have := congrArg (fun s : Str => s.cps.toList) h
  simpa [W] using this
theorem W_eq {x y : Wd} : W x = W y ↔ x = y := ⟨W_inj, fun h => by rw [h]⟩
theorem W_append (x y : Wd) : W x ++ W y = W (x ++ y) := by
  show (⟨x.toArray ++ y.toArray⟩ : Str) = _
  simp [W]
theorem W_length (x : Wd) : (W x).length = x.length := by show x.toArray.size = _; simp
theorem W_toList (s : Str) : W s.cps.toList = s := by cases s; simp [W]

def unInt : Value → Option Int
  | .int i _ => some i
  | _ => none
theorem unInt_some {v : Value} {i : Int} (h : unInt v = some i) : ∃ t, v = .int i t := by
  cases v <;> simp [unInt] at h
  exact ⟨_, by rw [h]⟩

section
variable {V : Type}
def get (l : List (Wd × V)) (k : Wd) : Option V := (l.find? fun p => p.1 = k).map (·.2)
def put (l : List (Wd × V)) (k : Wd) (v : V) : List (Wd × V) := if l.any (fun p => p.1 = k) then l.map (fun p => if p.1 = k then (p.1, v) else p) else l ++ [(k, v)]
def addOne [Add V] (l : List (Wd × V)) (p : Wd × V) : List (Wd × V) := match get l p.1 with
  | some u => put l p.1 (u + p.2)
  | none => put l p.1 p.2
def addC [Add V] (t s : List (Wd × V)) : List (Wd × V) := s.foldl addOne t
end

/-- the dict's pairs, each value an int, against the plain ones -/
def Rel (kvs : List (Str × Value)) (l : List (Wd × Int)) : Prop := kvs.map (fun p => (p.1, unInt p.2)) = l.map fun p => (W p.1, some p.2)

namespace Rel
variable {kvs : List (Str × Value)} {l : List (Wd × Int)}
theorem length (R : Rel kvs l) : kvs.length = l.length := by have := congrArg List.length R; simpa using this
theorem nil : Rel [] [] := rfl
theorem cons_inv {p : Str × Value} (R : Rel (p :: kvs) l) : ∃ k i t r, l = (k, i) :: r ∧ p = (W k, .int i t) ∧ Rel kvs r := by
  cases l with
  | nil => cases R
  | cons q r =>
    obtain ⟨k, i⟩ := q
    obtain ⟨a, b⟩ := p
    simp only [Rel, List.map_cons, List.cons.injEq, Prod.mk.injEq] at R
    obtain ⟨⟨h1, h2⟩, h3⟩ := R
    obtain ⟨t, rfl⟩ := unInt_some h2
    exact ⟨k, i, t, r, rfl, by rw [h1], h3⟩
theorem cons {k : Wd} {i : Int} {t : Tok} (R : Rel kvs l) : Rel ((W k, .int i t) :: kvs) ((k, i) :: l) := by
  show (W k, some i) :: kvs.map (fun p => (p.1, unInt p.2)) = (W k, some i) :: l.map fun p => (W p.1, some p.2)
  rw [R]
theorem snoc {k : Wd} {i : Int} {t : Tok} (R : Rel kvs l) : Rel (kvs ++ [(W k, .int i t)]) (l ++ [(k, i)]) := by
  unfold Rel
  rw [List.map_append, List.map_append, R]; rfl
theorem at_ {j : Nat} {k : Str} {v : Value} (R : Rel kvs l) (hj : kvs[j]? = some (k, v)) : ∃ x i t, k = W x ∧ v = .int i t ∧ l[j]? = some (x, i) := by
  have e := congrArg (·[j]?) R
  simp only [List.getElem?_map, hj, Option.map_some] at e
  cases hl : l[j]? with
  | none => rw [hl] at e; cases e
  | some q =>
    obtain ⟨x, i⟩ := q
    rw [hl] at e
    simp only [Option.map_some, Option.some.injEq, Prod.mk.injEq] at e
    obtain ⟨t, rfl⟩ := unInt_some e.2
    exact ⟨x, i, t, e.1, rfl, rfl⟩
theorem any (R : Rel kvs l) (k : Wd) : (kvs.any fun kv => kv.1 = W k) = l.any fun p => p.1 = k := by
  induction kvs generalizing l with
  | nil => cases l with
    | nil => rfl
    | cons _ _ => cases R
  | cons p kvs ih =>
    obtain ⟨k', i, t, r, rfl, rfl, R'⟩ := R.cons_inv
    simp only [List.any_cons, ih R', W_eq]
theorem valueAt (R : Rel kvs l) (k : Wd) : (valueAt kvs (W k)).map unInt = (get l k).map some := by
  induction kvs generalizing l with
  | nil => cases l with
    | nil => rfl
    | cons _ _ => cases R
  | cons p kvs ih =>
    obtain ⟨k', i, t, r, rfl, rfl, R'⟩ := R.cons_inv
    have ih' := ih R'
    unfold PySem.valueAt get at ih' ⊢
    simp only [List.find?_cons, W_eq]
    by_cases h : k' = k
    · simp [h, unInt]
    · simp only [h, decide_false]; exact ih'
theorem valueAt_some (R : Rel kvs l) {k : Wd} {i : Int} (h : get l k = some i) : ∃ t, PySem.valueAt kvs (W k) = some (.int i t) := by
  have := R.valueAt k
  rw [h] at this
  cases hv : PySem.valueAt kvs (W k) with
  | none => rw [hv] at this; cases this
  | some v =>
    rw [hv] at this
    simp only [Option.map_some, Option.some.injEq] at this
    obtain ⟨t, rfl⟩ := unInt_some this
    exact ⟨t, rfl⟩
theorem valueAt_none (R : Rel kvs l) {k : Wd} (h : get l k = none) : PySem.valueAt kvs (W k) = none := by
  have := R.valueAt k
  rw [h] at this
  cases hv : PySem.valueAt kvs (W k) with
  | none => rfl
  | some v => rw [hv] at this; cases this
theorem isSome (R : Rel kvs l) (k : Wd) : (PySem.valueAt kvs (W k)).isSome = (get l k).isSome := by
  cases h : get l k with
  | none => rw [R.valueAt_none h]; rfl
  | some i => obtain ⟨t, e⟩ := R.valueAt_some h; rw [e]; rfl
theorem getD (R : Rel kvs l) (k : Wd) (d : Int) (t : Tok) : ∃ t', (PySem.valueAt kvs (W k)).getD (.int d t) = .int ((get l k).getD d) t' := by
  cases h : get l k with
  | none => exact ⟨t, by rw [R.valueAt_none h]; rfl⟩
  | some i => obtain ⟨t', e⟩ := R.valueAt_some h; exact ⟨t', by rw [e]; rfl⟩
theorem stored (R : Rel kvs l) (k : Wd) (i : Int) (t : Tok) : Rel (stored kvs (W k) (.int i t)) (put l k i) := by
  unfold PySem.stored put
  rw [R.any k]
  cases l.any fun p => decide (p.1 = k) with
  | false => simp only [Bool.false_eq_true, if_false]; exact R.snoc
  | true =>
    simp only [if_true]
    induction kvs generalizing l with
    | nil => cases l with
      | nil => rfl
      | cons _ _ => cases R
    | cons p kvs ih =>
      obtain ⟨k', j, t', r, rfl, rfl, R'⟩ := R.cons_inv
      simp only [List.map_cons, W_eq]
      by_cases h : k' = k
      · simp only [h, if_true]; exact (ih R').cons
      · simp only [h, if_false]; exact (ih R').cons
end Rel

/-- a dict from texts to ints -/
def DI (prog : Program) (w : World) (h : Heap) (d : Addr) (l : List (Wd × Int)) : Prop :=
  (d == sysModules) = false ∧ ∃ kvs, h.DictOf (strKind prog w) d kvs ∧ Rel kvs l
theorem DI.keep {prog : Program} {w : World} {h h' : Heap} {d : Addr} {l : List (Wd × Int)} (D : DI prog w h d l) (hk : ∀ b o, h.get? b = some o → h'.get? b = some o) : DI prog w h' d l :=
  ⟨D.1, let ⟨kvs, a, b⟩ := D.2; ⟨kvs, a.keep hk, b⟩⟩
theorem DI.at {prog : Program} {w : World} {h h' : Heap} {d : Addr} {l : List (Wd × Int)} (D : DI prog w h d l) (hk : ∀ o, h.get? d = some o → h'.get? d = some o) : DI prog w h' d l :=
  ⟨D.1, let ⟨kvs, a, b⟩ := D.2; ⟨kvs, a.at hk, b⟩⟩

/-- the frame holds v by the name x -/
abbrev Has (al : List (Str × Value)) (x : Str) (v : Value) : Prop := al.lookup x = some v
theorem lookup_hit {x : Str} {v : Value} {al : List (Str × Value)} : List.lookup x ((x, v) :: al) = some v := by simp
theorem lookup_skip {x y : Str} {v : Value} {al : List (Str × Value)} (h : (x == y) = false) : List.lookup x ((y, v) :: al) = List.lookup x al := by rw [List.lookup_cons, h]

theorem Gr.size {w : World} {h : Heap} (G : Gr w h) : 76 < h.objs.size := Heap.lt_size (G.X 76 _ rfl)
end Mine
end

section
namespace Mine
open PySem PySem.W PyProof.Rows PySem.Calls

abbrev NoE : Value → Shared → Prop := fun _ _ => False
abbrev Up (h h' : Heap) : Prop := ∀ b o, h.get? b = some o → h'.get? b = some o

/-- the end of a turn -/
abbrev Turn (Q : Flow → Shared → Prop) (s : Shared) (h₁ : Heap) (I : Addr) (oI : Obj) (Nx : Own → Heap → Prop) (f : Flow) (s₃ : Shared) : Prop :=
  match f with
  | .next | .cont => ∃ l' h₂ h' tk, s₃ = { s with heap := h', toks := tk } ∧ St h₂ (l' ++ [(I, Is oI)]) h' ∧ Up h₁ h₂ ∧ Nx l' h₂
  | .brk => Q .next s₃
  | .ret v => Q (.ret v) s₃

section
variable {prog : Program} {w : World} {A : Around} {E : Value → Shared → Prop} {s : Shared} {env : Env} {h₀ : Heap} {l : Own} {target iter : Expr} {body : List Stmt} {pos : Pos} {Q : Flow → Shared → Prop}

/-- behind the making of the iterator -/
theorem for_made {I : Addr} {fp : List Addr} {n : Nat} {P : Nat → Value → Prop} {Sw : Nat → Heap → Prop} (W : Walks prog w A I fp [I] n P Sw) (hsrc : ∀ b ∈ fp, b ≠ I → ∃ o, h₀.get? b = some o)
    (hlive : ∀ i h, Sw i h → ∃ o, h.get? I = some o) (Inv : Nat → Own → Heap → Prop) {φI : Obj → Prop} (hst : Sw 0 s.heap) (H : St h₀ (l ++ [(I, φI)]) s.heap) (h0 : Inv 0 l h₀)
    (turn : ∀ i v l h₁ h tk oI, i < n → P i v → Up h₀ h₁ → Inv i l h₁ → St h₁ (l ++ [(I, Is oI)]) h →
      wpAny (model prog w) A (assign target env v) (fun _ s₂ => wpAny (model prog w) A (execs body env) (Turn Q s h₁ I oI (Inv (i + 1))) NoE s₂) NoE { s with heap := h, toks := tk })
    (done : ∀ l h₁ h' tk, Up h₀ h₁ → Inv n l h₁ → St h₁ l h' → Q .next { s with heap := h', toks := tk })
    (ht : ∀ v, letOwnedTupleGo target (.ref I) v = pure () := by intro _; rfl) :
    codeAny (model prog w) A (.forLoop target (.ref I) body [] env) (fun r s' => match r with | .ok f => Q f s' | .error e => cameBackBy (model prog w) A env E e s') s :=
  loop_own (R := fun r s' => match r with | .ok f => Q f s' | .error e => cameBackBy (model prog w) A env E e s') W hsrc hlive Inv hst H h0
    (fun i v l h₁ h tk oI a b c d e => wpAny_mono (turn i v l h₁ h tk oI a b c d e) (fun _ _ x => wpAny_mono x (fun f s₃ y => by cases f <;> exact y) fun _ _ z => z) fun _ _ z => z) done ht

/-- a list that is ground -/
theorem for_list {ax : Addr} {items : List Value} (hh : A.handled = none) (hl : h₀.IsList ax items.toArray) (Inv : Nat → Own → Heap → Prop) (H : St h₀ l s.heap) (h0 : Inv 0 l h₀)
    (hi : ∀ Q', Q' (.ref ax) s → wpAny (model prog w) A (eval iter env) Q' E s)
    (turn : ∀ i v l h₁ I h tk oI, items[i]? = some v → Up h₀ h₁ → Inv i l h₁ → St h₁ (l ++ [(I, Is oI)]) h →
      wpAny (model prog w) A (assign target env v) (fun _ s₂ => wpAny (model prog w) A (execs body env) (Turn Q s h₁ I oI (Inv (i + 1))) NoE s₂) NoE { s with heap := h, toks := tk })
    (done : ∀ l h₁ h' tk, Up h₀ h₁ → Inv items.length l h₁ → St h₁ l h' → Q .next { s with heap := h', toks := tk })
    (ht : ∀ I v, letOwnedTupleGo target (.ref I) v = pure () := by intro _ _; rfl) (hs : ∀ x, foldedSetIterable iter env x = pure x := by intro _; rfl) :
    wpAny (model prog w) A (exec (.For target iter body [] pos) env) Q E s := by
  refine wpAny_For (hi _ ?_) hs
  have hl' : s.heap.IsList ax items.toArray := hl.at fun o e => H.keep _ _ e
  obtain ⟨o, ho, _⟩ := id hl
  refine wpAny_pyIter_list hl' ?_
  have hne : ax ≠ s.heap.objs.size := Nat.ne_of_lt (H.base_lt ho)
  have H' := H.push { cls := .type "list_iterator", data := .fields #[.ref ax, .int 0 0] } (φ := fun _ => True) trivial
  refine for_made (h₀ := h₀) (Walks.list (A := A) hh _ ax hne items.toArray) ?_ ?_ Inv ⟨⟨_, Heap.get?_push_size _ rfl, rfl, rfl⟩, hl'.at fun o e => Heap.get?_push_of_some _ e⟩ H' h0 ?_ ?_ (ht _)
  · intro b hb hbI
    simp only [List.mem_cons, List.not_mem_nil, or_false] at hb
    rcases hb with rfl | rfl
    · exact absurd rfl hbI
    · exact ⟨o, ho⟩
  · rintro i h ⟨⟨o, ho, _⟩, _⟩
    exact ⟨o, ho⟩
  · intro i v l h₁ h tk oI _ hP hk hI H₁
    exact turn i v l h₁ _ h tk oI (by simpa using hP) hk hI H₁
  · intro l h₁ h' tk hk hI H₁
    exact done l h₁ h' tk hk (by simpa using hI) H₁

/-- the signs of a text -/
theorem for_str {x : Wd} {t : Tok} (hh : A.handled = none) (hx : ∀ c ∈ x, c < 128) (Inv : Nat → Own → Heap → Prop) (H : St h₀ l s.heap) (h0 : Inv 0 l h₀)
    (hi : ∀ Q', Q' (.str (W x) t) s → wpAny (model prog w) A (eval iter env) Q' E s)
    (turn : ∀ i c t' l h₁ I h tk oI, x[i]? = some c → Up h₀ h₁ → Inv i l h₁ → St h₁ (l ++ [(I, Is oI)]) h →
      wpAny (model prog w) A (assign target env (.str (W [c]) t')) (fun _ s₂ => wpAny (model prog w) A (execs body env) (Turn Q s h₁ I oI (Inv (i + 1))) NoE s₂) NoE { s with heap := h, toks := tk })
    (done : ∀ l h₁ h' tk, Up h₀ h₁ → Inv x.length l h₁ → St h₁ l h' → Q .next { s with heap := h', toks := tk })
    (ht : ∀ I v, letOwnedTupleGo target (.ref I) v = pure () := by intro _ _; rfl) (hs : ∀ x, foldedSetIterable iter env x = pure x := by intro _; rfl) :
    wpAny (model prog w) A (exec (.For target iter body [] pos) env) Q E s := by
  refine wpAny_For (hi _ ?_) hs
  have ha : (W x).cps.all (· < 128) = true := by
    show x.toArray.all (· < 128) = true
    rw [List.all_toArray, List.all_eq_true]
    intro c hc
    exact decide_eq_true (hx c hc)
  refine wpAny_pyIter_ascii ha ?_
  have H' := H.push { cls := .type "str_ascii_iterator", data := .fields #[.str (W x) t, .int 0 0] } (φ := fun _ => True) trivial
  refine for_made (h₀ := h₀) (Walks.strAscii (A := A) hh _ (W x) t) ?_ ?_ Inv ⟨_, Heap.get?_push_size _ rfl, rfl, rfl⟩ H' h0 ?_ ?_ (ht _)
  · intro b hb hbI
    exact absurd (List.mem_singleton.mp hb) hbI
  · rintro i h ⟨o, ho, _⟩
    exact ⟨o, ho⟩
  · intro i v l h₁ h tk oI _ hP hk hI H₁
    obtain ⟨c, t', hc, rfl⟩ := hP
    exact turn i c t' l h₁ _ h tk oI (by simpa [W] using hc) hk hI H₁
  · intro l h₁ h' tk hk hI H₁
    have e : (W x).cps.size = x.length := W_length x
    exact done l h₁ h' tk hk (e ▸ hI) H₁

/-- a range from 0 by ones, made just now -/
theorem for_range {r : Addr} {n : Nat} {t u v : Tok} (hh : A.handled = none) (hn : n < 1000) (hr : IsRange s.heap r 0 n 1 t u v) (Inv : Nat → Own → Heap → Prop) (H : St h₀ l s.heap) (h0 : Inv 0 l h₀)
    (turn : ∀ i t' l h₁ I h tk oI, i < n → Up h₀ h₁ → Inv i l h₁ → St h₁ (l ++ [(I, Is oI)]) h →
      wpAny (model prog w) A (assign target env (.int i t')) (fun _ s₂ => wpAny (model prog w) A (execs body env) (Turn Q s h₁ I oI (Inv (i + 1))) NoE s₂) NoE { s with heap := h, toks := tk })
    (done : ∀ l h₁ h' tk, Up h₀ h₁ → Inv n l h₁ → St h₁ l h' → Q .next { s with heap := h', toks := tk })
    (ht : ∀ I v, letOwnedTupleGo target (.ref I) v = pure () := by intro _ _; rfl) :
    wpAny (model prog w) A (pyIter (.ref r)) (fun it s₂ => codeAny (model prog w) A (.forLoop target it body [] env) (fun r s' => match r with | .ok f => Q f s' | .error e => cameBackBy (model prog w) A env E e s') s₂) E s := by
  have hsz : Builtin.Range.rangeSize 0 (n : Int) 1 = (n : Int) := by
    unfold Builtin.Range.rangeSize
    rw [if_pos (by decide)]
    split <;> omega
  have hsm : Builtin.Range.small 0 (n : Int) 1 = true := by
    unfold Builtin.Range.small
    have e1 : Builtin.Range.rangeFitsLong 0 = true := by decide
    have e2 : Builtin.Range.rangeFitsLong 1 = true := by decide
    have e3 : Builtin.Range.rangeFitsLong (n : Int) = true := by
      unfold Builtin.Range.rangeFitsLong
      simp only [Bool.and_eq_true, decide_eq_true_eq]
      omega
    rw [hsz]
    simp [e1, e2, e3]
  refine wpAny_pyIter_range hr hsm ?_
  rw [hsz]
  have H' := H.push { cls := .type "range_iterator", data := .fields #[rawInt 0, rawInt (n : Int), rawInt 1] } (φ := fun _ => True) trivial
  refine for_made (h₀ := h₀) (Walks.range (A := A) hh _ 0 1 n) ?_ ?_ Inv (by simpa using Heap.get?_push_size _ rfl) H' h0 ?_ ?_ (ht _)
  · intro b hb hbI
    exact absurd (List.mem_singleton.mp hb) hbI
  · intro i h st
    exact ⟨_, st⟩
  · intro i v l h₁ h tk oI hi hP hk hI H₁
    obtain ⟨t', rfl⟩ := hP
    have e : (0 : Int) + (i : Int) * 1 = (i : Int) := by omega
    rw [e]
    exact turn i t' l h₁ _ h tk oI hi hk hI H₁
  · intro l h₁ h' tk hk hI H₁
    exact done l h₁ h' tk hk hI H₁

/-- the items of a dict that is ground -/
theorem for_items {o : Expr} {apos cpos : Pos} {xk xv : Str} {pk pv pt : Pos} {x1} {d : Addr} {kvs : List (Str × Value)} {ep : Nat} (hh : A.handled = none) (hdS : (d == sysModules) = false) (hm : h₀.DictAt (strKind prog w) d kvs ep)
    (Inv : Nat → List (Str × Value) → Own → Heap → Prop) {al : List (Str × Value)} (H : St h₀ ((env.locals, Loc al) :: l) s.heap) (h0 : Inv 0 al l h₀)
    (ho : ∀ Q', Q' (.ref d) s → wpAny (model prog w) A (eval o env) Q' E s)
    (turn : ∀ i k v u al l h₁ I h tk oI, kvs[i]? = some (k, v) → Up h₀ h₁ → Inv i al l h₁ → St h₁ ((env.locals, Loc ((xv, v) :: (xk, .str k u) :: al)) :: (l ++ [(I, Is oI)])) h →
      wpAny (model prog w) A (execs body env) (fun f s₃ => match f with
        | .next | .cont => ∃ al' l' h₂ h' tk, s₃ = { s with heap := h', toks := tk } ∧ St h₂ ((env.locals, Loc al') :: (l' ++ [(I, Is oI)])) h' ∧ Up h₁ h₂ ∧ Inv (i + 1) al' l' h₂
        | .brk => Q .next s₃
        | .ret v => Q (.ret v) s₃) NoE { s with heap := h, toks := tk })
    (done : ∀ al l h₁ h' tk, Up h₀ h₁ → Inv kvs.length al l h₁ → St h₁ ((env.locals, Loc al) :: l) h' → Q .next { s with heap := h', toks := tk })
    (hbase : attributeBase o "items" env (eval o env) = eval o env := by rfl) (hline : (apos.endLine == cpos.line) = true := by rfl)
    (hxk : env.kindOf xk = some .local := by rfl) (hxv : env.kindOf xv = some .local := by rfl)
    (hp : (env.scope.kind == .class || (env.scope.kind == .module && env.locals != env.globals)) = false := by rfl)
    (hs : ∀ x, foldedSetIterable (.Call (.Attribute o "items" apos) [] [] cpos) env x = pure x := by intro _; rfl) :
    wpAny (model prog w) A (exec (.For (.Tuple [.Name xk pk, .Name xv pv] x1 pt) (.Call (.Attribute o "items" apos) [] [] cpos) body [] pos) env) Q E s := by
  have hm' := hm.keep H.keep
  refine wpAny_For (wpAny_Call_items hdS hm'.dictOf hbase hline ho ?_) hs
  refine wpAny_pyIter_items (knd := strKind prog w) (d := d) (kvs := kvs) (ep := ep) ⟨_, Heap.get?_push_size _ rfl, rfl, rfl⟩ (hm'.push _) ?_
  have H' := (H.keeps (h' := s.heap.push { cls := .type "dict_items", data := .fields #[.ref d] }) (fun b o e => Heap.get?_push_of_some _ e)).push
    { cls := .type "dict_itemiterator", data := .fields #[.none, .bool false, .ref d, .int 0 0, .int kvs.length 0, .int ep 0, .none, .none] } (φ := fun _ => True) trivial
  refine loop_items (knd := strKind prog w) (R := fun r s' => match r with | .ok f => Q f s' | .error e => cameBackBy (model prog w) A env E e s') hh hm Inv (Heap.get?_push_size _ rfl) H' h0 ?_ done hxk hxv hp
  intro i k v key al l h₁ h tk oI hv hkey hk hI H₁
  obtain ⟨u, rfl⟩ := Value.isStrOf_shape hkey
  refine wpAny_mono (turn i k v u al l h₁ _ h tk oI hv hk hI H₁) (fun f s₃ y => by cases f <;> exact y) fun _ _ z => z
end
end Mine
end

section
namespace Mine
open PySem PySem.W PyProof.Rows PySem.Calls

abbrev DP (prog : Program) (w : World) (kvs : List (Str × Value)) : Obj → Prop := fun o => o.IsDictOf (strKind prog w) kvs
section
variable {prog : Program} {w : World} {A : Around} {E : Value → Shared → Prop} {s : Shared} {env : Env} {h₀ : Heap} {l : Own}

theorem dict_own {D : Addr} {i : Nat} {kvs : List (Str × Value)} {h : Heap} (H : St h₀ l h) (hi : l[i]? = some (D, DP prog w kvs)) : h.DictOf (strKind prog w) D kvs := Heap.dictOf_iff.mpr (H.get hi)

theorem setItem_own {D : Addr} {i : Nat} {kvs : List (Str × Value)} {k : Str} {key v : Value} {Q : Unit → Shared → Prop} (H : St h₀ l s.heap) (hi : l[i]? = some (D, DP prog w kvs)) (hkey : (strKind prog w).is k key = true)
    (hsz : kvs.length ≤ sizeLine) (h : ∀ h' tk, St h₀ (l.set i (D, DP prog w (stored kvs k v))) h' → Q () { s with heap := h', toks := tk }) : wpAny (model prog w) A (setItem (.ref D) key v) Q E s :=
  wpAny_setItem_pairs hkey (dict_own H hi) (fun h' hm hs => h h' _ (H.setS hi hs (Heap.dictOf_iff.mp hm))) hsz

theorem DP.nodup {kvs : List (Str × Value)} {o : Obj} (h : DP prog w kvs o) : (kvs.map (·.1)).Nodup := let ⟨_, _, _, _, _, _, q⟩ := h; q

/-- a new empty dict, owned -/
theorem dict_new {pos : Pos} {L : Addr} {al : List (Str × Value)} {Q : Value → Shared → Prop} (G : Gr w h₀) (H : St h₀ ((L, Loc al) :: l) s.heap)
    (h : ∀ D h', (D == sysModules) = false → h₀.get? D = none → St h₀ ((L, Loc al) :: (l ++ [(D, DP prog w [])])) h' → Q (.ref D) { s with heap := h' }) : wpAny (model prog w) A (eval (.Dict [] [] pos) env) Q E s := by
  refine wpAny_Dict_empty ?_
  have H₁ := H.push { cls := .type "dict", data := .dict #[] } (φ := DP prog w []) ⟨#[], 0, ⟨rfl, rfl, rfl⟩, rfl, fun _ he => by simp at he, .nil, List.nodup_nil⟩
  refine h _ _ ?_ (H₁.fresh (s.heap.objs.size, DP prog w []) (List.mem_append_right _ (.head _))) H₁
  have := (G.st H).size
  exact beq_eq_false_iff_ne.mpr (fun e => by rw [e] at this; exact absurd this (by decide))
end
end Mine
end

section
namespace Mine
open PySem PySem.W PyProof.Rows PySem.Calls

def unStr : Value → Option Wd
  | .str x _ => some x.cps.toList
  | _ => none
theorem unStr_some {v : Value} {x : Wd} (h : unStr v = some x) : ∃ t, v = .str (W x) t := by
  cases v <;> simp [unStr] at h
  subst h
  exact ⟨_, by rw [W_toList]⟩
theorem unStr_W (x : Wd) (t : Tok) : unStr (.str (W x) t) = some x := by simp [unStr, W]
/-- values that are texts -/
def SRel (vs : List Value) (ws : List Wd) : Prop := vs.map unStr = ws.map some
namespace SRel
variable {vs : List Value} {ws : List Wd}
theorem length (R : SRel vs ws) : vs.length = ws.length := by have := congrArg List.length R; simpa using this
theorem nil : SRel [] [] := rfl
theorem snoc {x : Wd} {t : Tok} (R : SRel vs ws) : SRel (vs ++ [.str (W x) t]) (ws ++ [x]) := by
  unfold SRel
  rw [List.map_append, List.map_append, R, List.map_cons, unStr_W]; rfl
theorem append {vs' : List Value} {ws' : List Wd} (R : SRel vs ws) (R' : SRel vs' ws') : SRel (vs ++ vs') (ws ++ ws') := by
  unfold SRel
  rw [List.map_append, List.map_append, R, R']
theorem at_ {j : Nat} {v : Value} (R : SRel vs ws) (hj : vs[j]? = some v) : ∃ x t, v = .str (W x) t ∧ ws[j]? = some x := by
  have e := congrArg (·[j]?) R
  simp only [List.getElem?_map, hj, Option.map_some] at e
  cases hl : ws[j]? with
  | none => rw [hl] at e; cases e
  | some x =>
    rw [hl] at e
    simp only [Option.map_some, Option.some.injEq] at e
    obtain ⟨t, rfl⟩ := unStr_some e
    exact ⟨x, t, rfl, rfl⟩
theorem to {j : Nat} {x : Wd} (R : SRel vs ws) (hj : ws[j]? = some x) : ∃ t, vs[j]? = some (.str (W x) t) := by
  have e := congrArg (·[j]?) R
  simp only [List.getElem?_map, hj, Option.map_some] at e
  cases hl : vs[j]? with
  | none => rw [hl] at e; cases e
  | some v =>
    rw [hl] at e
    simp only [Option.map_some, Option.some.injEq] at e
    obtain ⟨t, rfl⟩ := unStr_some e
    exact ⟨t, rfl⟩
theorem of_forall : ∀ {vs : List Value} {ws : List Wd}, vs.length = ws.length → (∀ (j : Nat) (v : Value) (x : Wd), vs[j]? = some v → ws[j]? = some x → ∃ t, v = .str (W x) t) → SRel vs ws
  | [], [], _, _ => rfl
  | v :: vs, x :: ws, hl, h => by
    obtain ⟨t, rfl⟩ := h 0 v x rfl rfl
    have := of_forall (vs := vs) (ws := ws) (by simpa using hl) fun j v x a b => h (j + 1) v x (by simpa using a) (by simpa using b)
    unfold SRel at this ⊢
    rw [List.map_cons, List.map_cons, this, unStr_W]
end SRel

/-- a list of texts -/
def LS (h : Heap) (a : Addr) (ws : List Wd) : Prop := ∃ vs, h.IsList a vs.toArray ∧ SRel vs ws
theorem LS.keep {h h' : Heap} {a : Addr} {ws : List Wd} (x : LS h a ws) (hk : Up h h') : LS h' a ws := let ⟨vs, p, q⟩ := x; ⟨vs, p.at fun o e => hk _ o e, q⟩
theorem LS.at {h h' : Heap} {a : Addr} {ws : List Wd} (x : LS h a ws) (hk : ∀ o, h.get? a = some o → h'.get? a = some o) : LS h' a ws := let ⟨vs, p, q⟩ := x; ⟨vs, p.at hk, q⟩
theorem LS.lt {h : Heap} {a : Addr} {ws : List Wd} (x : LS h a ws) : a < h.objs.size := let ⟨_, ⟨_, ho, _⟩, _⟩ := x; Heap.lt_size ho

section
variable {prog : Program} {w : World} {A : Around} {E : Value → Shared → Prop} {s : Shared} {env : Env} {h₀ : Heap} {l : Own} {pos : Pos}

theorem plain_own {D : Addr} {i : Nat} {vs : List Value} {h : Heap} (H : St h₀ l h) (hi : l[i]? = some (D, LstP vs)) : h.PlainList D vs.toArray := by
  obtain ⟨o, ho, n, rfl⟩ := H.get hi
  exact ⟨n, ho⟩
theorem list_own {D : Addr} {i : Nat} {vs : List Value} {h : Heap} (H : St h₀ l h) (hi : l[i]? = some (D, LstP vs)) : h.IsList D vs.toArray := (plain_own H hi).isList

theorem plainL_own {D : Addr} {i : Nat} {vs : List Value} {h : Heap} (H : St h₀ l h) (hi : l[i]? = some (D, LstP vs)) : PlainL h D vs.toArray := by
  obtain ⟨n, ho⟩ := plain_own H hi
  exact ⟨_, n, ho, rfl, rfl, rfl⟩

/-- a new list, owned -/
theorem newList_own {L : Addr} {al : List (Str × Value)} {vs : List Value} {Q : Value → Shared → Prop} (H : St h₀ ((L, Loc al) :: l) s.heap) (hsz : vs.length ≤ 1000)
    (h : ∀ D h', h₀.get? D = none → s.heap.get? D = none → St h₀ ((L, Loc al) :: (l ++ [(D, LstP vs)])) h' → Q (.ref D) { s with heap := h' }) : wpAny (model prog w) A (newList vs) Q E s := by
  have H₁ := H.push { cls := .type "list", data := .seq vs.toArray } (φ := LstP vs) ⟨_, rfl⟩
  refine wpAny_newList (h _ _ (H₁.fresh (s.heap.objs.size, LstP vs) (List.mem_append_right _ (.head _))) ?_ H₁) (by rw [sizeLine_eq]; omega)
  cases e : s.heap.get? s.heap.objs.size with
  | none => rfl
  | some o => exact absurd (Heap.lt_size e) (Nat.lt_irrefl _)

theorem append_own {D : Addr} {i : Nat} {vs : List Value} {v : Value} {Q : Value → Shared → Prop} (H : St h₀ l s.heap) (hi : l[i]? = some (D, LstP vs)) (hsz : vs.length ≤ 1000)
    (h : ∀ h', St h₀ (l.set i (D, LstP (vs ++ [v]))) h' → Q .none { s with heap := h' }) : wpAny (model prog w) A (call (.builtin "list.append") [.ref D, v]) Q E s := by
  refine wpAny_list_append_plain (plain_own H hi) (fun h' hp hs => h h' (H.setS hi hs ?_)) (by rw [sizeLine_eq, List.size_toArray]; omega)
  obtain ⟨n, ho⟩ := hp
  exact ⟨_, ho, n, by rw [List.push_toArray]⟩

/-- a call of a def by its address -/
theorem cw_fn {f : Addr} {e : Expr} {rest : List Expr} {Q : Value → Shared → Prop}
    (h : wpAny (model prog w) A (spliced (backTo pos (starEach (e :: rest) env))) (fun vs s₁ => (∃ o fd, s₁.heap.get? f = some o ∧ o.data = .func fd) ∧ wpAny (model prog w) A (call (.ref f) vs) Q E s₁) E s)
    (he : starEach (e :: rest) env = (false, eval e env) :: starEach rest env := by rfl) (hplain : (backTo pos (starEach rest env)).any (·.1) = false := by rfl) :
    wpAny (model prog w) A (callWith pos (.ref f) [] (backTo pos (starEach (e :: rest) env)) []) Q E s := by
  rw [he] at h ⊢
  refine callWith_of (P := fun h => ∃ o fd, h.get? f = some o ∧ o.data = .func fd) (by show ((false || (backTo pos (starEach rest env)).any (·.1)) || false) = false; rw [hplain]; rfl) ?_ (evalArgs_plain h)
  rintro h ⟨o, fd, ho, hd⟩
  refine ⟨.frame, .inl rfl, (Looks.ld (part := none) ho).andThen ?_⟩
  rw [hd]
  exact .now

theorem len_LS {D : Addr} {ws : List Wd} {Q : Value → Shared → Prop} (hl : LS s.heap D ws) (hn : ws.length ≤ 100000) (h : ∀ t tk, Q (.int ws.length t) { s with toks := tk }) :
    wpAny (model prog w) A (call (.builtin "len") [.ref D]) Q E s := by
  obtain ⟨vs, hv, R⟩ := hl
  refine PyProof.Rows.len_list hv (by rw [List.size_toArray, R.length]; omega) ?_
  rw [List.size_toArray, R.length]
  exact h _ _

theorem len_W {x : Wd} {t : Tok} {Q : Value → Shared → Prop} (hn : x.length ≤ 100000) (h : ∀ t tk, Q (.int x.length t) { s with toks := tk }) :
    wpAny (model prog w) A (call (.builtin "len") [.str (W x) t]) Q E s := by
  refine PySem.P.len_str (by rw [W_length]; omega) ?_
  rw [W_length]
  exact h _ _

theorem item_LS {value slice : Expr} {D : Addr} {ws : List Wd} {k : Int} {u : Tok} {x : Wd} {Q : Value → Shared → Prop} (hl : LS s.heap D ws) (h0 : 0 ≤ k) (hn : ws.length ≤ 100000) (hx : ws[k.toNat]? = some x) (h : ∀ t, Q (.str (W x) t) s)
    (hs : subscripted slice false (.ref D) (.int k u) = operate [.ref D, .int k u] (getItem (.ref D) (.int k u)) := by with_unfolding_all rfl) :
    wpAny (model prog w) A (subscriptTail value slice (.ref D) (.int k u)) Q E s := by
  obtain ⟨vs, hv, R⟩ := hl
  obtain ⟨t, ht⟩ := R.to hx
  have hlt := (List.getElem?_eq_some_iff.mp hx).1
  exact tail_any hv.typeIs slot_list_getitem.lookup (wpAny_getItem_list hv h0 (by omega) (by simpa using ht) (h t)) hs

theorem last_LS {value slice : Expr} {D : Addr} {ws : List Wd} {u : Tok} {x : Wd} {Q : Value → Shared → Prop} (hl : LS s.heap D (ws ++ [x])) (hn : ws.length ≤ 100000) (h : ∀ t, Q (.str (W x) t) s)
    (hs : subscripted slice false (.ref D) (.int (-1) u) = operate [.ref D, .int (-1) u] (getItem (.ref D) (.int (-1) u)) := by with_unfolding_all rfl) :
    wpAny (model prog w) A (subscriptTail value slice (.ref D) (.int (-1) u)) Q E s := by
  obtain ⟨vs, hv, R⟩ := hl
  obtain ⟨t, ht⟩ := R.to (j := ws.length) (x := x) (by simp)
  have hlen : vs.length = ws.length + 1 := by rw [R.length]; simp
  refine tail_any hv.typeIs slot_list_getitem.lookup (wpAny_getItem_list_neg hv (by decide) (by rw [List.size_toArray]; omega) (by decide) ?_ (h t)) hs
  rw [List.size_toArray, hlen]
  have e : ((-1 : Int) + ((ws.length + 1 : Nat) : Int)).toNat = ws.length := by omega
  rw [e]
  simpa using ht

theorem Gr.fn {h : Heap} {f : Addr} {o : Obj} {fd : FuncData} (G : Gr w h) (e : (hd.heap_39 w.params).lookup f = some o) (hd : o.data = .func fd) : ∃ o fd, h.get? f = some o ∧ o.data = .func fd := ⟨o, fd, G.X _ _ e, hd⟩
end
end Mine
end

section
namespace Mine
open PySem PySem.W PyProof.Rows PySem.Calls PySem.Builtin PySem.Builtin.Str

/-- all words of n of the three letters -/
def Lv : Nat → List Wd
  | 0 => [[]]
  | n + 1 => (Lv n).flatMap fun x => [97 :: x, 98 :: x, 99 :: x]
def allW : List Wd := Lv 0 ++ Lv 1 ++ Lv 2 ++ Lv 3 ++ Lv 4
def isLetter (c : Nat) : Bool := c == 97 || c == 98 || c == 99
def Ok (x : Wd) : Prop := x.length ≤ 4 ∧ ∀ c ∈ x, isLetter c = true
theorem mem_Lv : ∀ (x : Wd), (∀ c ∈ x, isLetter c = true) → x ∈ Lv x.length
  | [], _ => .head _
  | c :: x, h => by
    have ih := mem_Lv x fun d hd => h d (.tail _ hd)
    have hc := h c (.head _)
    simp only [isLetter, Bool.or_eq_true, beq_iff_eq] at hc
    show c :: x ∈ (Lv x.length).flatMap _
    refine List.mem_flatMap.mpr ⟨x, ih, ?_⟩
    rcases hc with (rfl | rfl) | rfl <;> simp
theorem Ok.mem {x : Wd} (h : Ok x) : x ∈ allW := by
  have := mem_Lv x h.2
  have hl := h.1
  unfold allW
  simp only [List.mem_append]
  generalize x.length = n at this hl
  match n, hl with
  | 0, _ => exact .inl (.inl (.inl (.inl this)))
  | 1, _ => exact .inl (.inl (.inl (.inr this)))
  | 2, _ => exact .inl (.inl (.inr this))
  | 3, _ => exact .inl (.inr this)
  | 4, _ => exact .inr this

def dots : Wd := [46, 46, 46]
/-- three dots about each letter -/
def pat (x : Wd) : Wd := dots ++ x.flatMap fun c => c :: dots
def pieces (x : Wd) : List Wd := [] :: (x.map fun c => [c]) ++ [[]]

theorem Lv_cons {n : Nat} {P : Wd → Bool} (ha : ((Lv n).all fun x => P (97 :: x)) = true) (hb : ((Lv n).all fun x => P (98 :: x)) = true) (hc : ((Lv n).all fun x => P (99 :: x)) = true) : (Lv (n + 1)).all P = true := by
  refine List.all_eq_true.mpr fun x hx => ?_
  obtain ⟨y, hy, hx⟩ := List.mem_flatMap.mp (show x ∈ (Lv n).flatMap _ from hx)
  simp only [List.mem_cons, List.not_mem_nil, or_false] at hx
  rcases hx with rfl | rfl | rfl
  · exact List.all_eq_true.mp ha y hy
  · exact List.all_eq_true.mp hb y hy
  · exact List.all_eq_true.mp hc y hy

set_option maxHeartbeats 4000000
def splitOk (x : Wd) : Bool := Txt.split (W (pat x)) (W dots) == (pieces x).map W
theorem split_2 : (Lv 0 ++ Lv 1 ++ Lv 2).all splitOk = true := by decide +kernel
theorem split_3_97 : ((Lv 2).all fun x => splitOk (97 :: x)) = true := by decide +kernel
theorem split_3_98 : ((Lv 2).all fun x => splitOk (98 :: x)) = true := by decide +kernel
theorem split_3_99 : ((Lv 2).all fun x => splitOk (99 :: x)) = true := by decide +kernel
theorem split_4_97_97 : ((Lv 2).all fun x => splitOk (97 :: 97 :: x)) = true := by decide +kernel
theorem split_4_97_98 : ((Lv 2).all fun x => splitOk (97 :: 98 :: x)) = true := by decide +kernel
theorem split_4_97_99 : ((Lv 2).all fun x => splitOk (97 :: 99 :: x)) = true := by decide +kernel
theorem split_4_98_97 : ((Lv 2).all fun x => splitOk (98 :: 97 :: x)) = true := by decide +kernel
theorem split_4_98_98 : ((Lv 2).all fun x => splitOk (98 :: 98 :: x)) = true := by decide +kernel
theorem split_4_98_99 : ((Lv 2).all fun x => splitOk (98 :: 99 :: x)) = true := by decide +kernel
theorem split_4_99_97 : ((Lv 2).all fun x => splitOk (99 :: 97 :: x)) = true := by decide +kernel
theorem split_4_99_98 : ((Lv 2).all fun x => splitOk (99 :: 98 :: x)) = true := by decide +kernel
theorem split_4_99_99 : ((Lv 2).all fun x => splitOk (99 :: 99 :: x)) = true := by decide +kernel
theorem split_3 : (Lv 3).all splitOk = true := Lv_cons split_3_97 split_3_98 split_3_99
theorem split_4 : (Lv 4).all splitOk = true := Lv_cons (Lv_cons (P := fun x => splitOk (97 :: x)) split_4_97_97 split_4_97_98 split_4_97_99) (Lv_cons (P := fun x => splitOk (98 :: x)) split_4_98_97 split_4_98_98 split_4_98_99) (Lv_cons (P := fun x => splitOk (99 :: x)) split_4_99_97 split_4_99_98 split_4_99_99)
theorem split_pat_all : allW.all splitOk = true := by
  unfold allW
  rw [List.all_append, List.all_append, split_2, split_3, split_4]; rfl
theorem in_pat_all : (allW.all fun x => !(occurrences (W (pat x)) (W dots) 0 (W (pat x)).length 1).isEmpty) = true := by decide +kernel
end Mine
end

section
namespace Mine
open PySem PySem.W PyProof.Rows PySem.Calls PySem.Builtin PySem.Builtin.Str

/-- each c becomes z -/
def swap1 (c : Nat) (z x : Wd) : Wd := x.flatMap fun a => if a = c then z else [a]
theorem swap1_append (c : Nat) (z x y : Wd) : swap1 c z (x ++ y) = swap1 c z x ++ swap1 c z y := List.flatMap_append
theorem swap1_free (c : Nat) (z : Wd) : ∀ x : Wd, c ∉ x → swap1 c z x = x
  | [], _ => rfl
  | a :: x, h => by
    have h1 : a ≠ c := fun e => h (e ▸ List.mem_cons_self ..)
    have ih := swap1_free c z x fun m => h (List.mem_cons_of_mem _ m)
    show (if a = c then z else [a]) ++ swap1 c z x = a :: x
    rw [if_neg h1, ih]; rfl
theorem swap1_one (c : Nat) (z : Wd) : swap1 c z [c] = z := by simp [swap1]
theorem join_swap (c : Nat) (z : Wd) : ∀ ps : List Str, (∀ p ∈ ps, c ∉ p.cps.toList) → swap1 c z (Str.join (W [c]) ps).cps.toList = (Str.join (W z) ps).cps.toList
  | [], _ => rfl
  | [p], h => swap1_free c z _ (h p (List.mem_singleton.mpr rfl))
  | p :: q :: r, h => by
    have ih := join_swap c z (q :: r) fun a ha => h a (List.mem_cons_of_mem _ ha)
    show swap1 c z (p ++ W [c] ++ Str.join (W [c]) (q :: r)).cps.toList = (p ++ W z ++ Str.join (W z) (q :: r)).cps.toList
    simp only [Str.cps_append, Array.toList_append]
    rw [swap1_append, swap1_append, ih, swap1_free c z _ (h p (List.mem_cons_self ..))]
    have e1 : (W [c]).cps.toList = [c] := by simp [W]
    have e2 : (W z).cps.toList = z := by simp [W]
    rw [e1, e2, swap1_one]
theorem split_join (x : Wd) (c : Nat) (z : Wd) : Txt.join (W z) (Txt.split (W x) (W [c])) = W (swap1 c z x) := by
  have h := join_swap c z (Txt.split (W x) (W [c])) (StrLaws.split_free (W x) c)
  rw [StrLaws.join_split] at h
  have e : (W x).cps.toList = x := by simp [W]
  rw [e] at h
  show glued (W z) _ = _
  rw [StrLaws.glued_eq_join, h, W_toList]
theorem join_len (c : Nat) : ∀ ps : List Str, (ps.map (·.length)).sum + ps.length ≤ (Str.join (W [c]) ps).length + 1
  | [] => by simp
  | [p] => by simp [Str.join]
  | p :: q :: r => by
    have ih := join_len c (q :: r)
    show _ ≤ (p ++ W [c] ++ Str.join (W [c]) (q :: r)).length + 1
    rw [Str.length_append, Str.length_append, W_length]
    simp only [List.map_cons, List.sum_cons, List.length_cons, List.length_nil] at ih ⊢
    omega
theorem split_len (x : Wd) (c : Nat) : ((Txt.split (W x) (W [c])).map (·.length)).sum + (Txt.split (W x) (W [c])).length ≤ x.length + 1 := by
  have := join_len c (Txt.split (W x) (W [c]))
  rw [StrLaws.join_split, W_length] at this
  exact this

def sp : Nat → Wd
  | 0 => [97]
  | 1 => [98]
  | _ => [99]
def jn : Nat → Wd
  | 0 => 97 :: dots
  | 1 => 98 :: dots
  | _ => 99 :: dots
theorem jn_len : ∀ j, (jn j).length = 4
  | 0 => rfl
  | 1 => rfl
  | _ + 2 => rfl
theorem sp_len : ∀ j, ((W (sp j)).length == 0) = false
  | 0 => rfl
  | 1 => rfl
  | _ + 2 => rfl
theorem split_len_sp (x : Wd) : ∀ j, ((Txt.split (W x) (W (sp j))).map (·.length)).sum + (Txt.split (W x) (W (sp j))).length ≤ x.length + 1
  | 0 => split_len x 97
  | 1 => split_len x 98
  | _ + 2 => split_len x 99
/-- what replace has made of x behind its j-th turn -/
def tx (x : Wd) : Nat → Wd
  | 0 => x
  | 1 => swap1 97 (97 :: dots) x
  | 2 => swap1 98 (98 :: dots) (swap1 97 (97 :: dots) x)
  | _ => swap1 99 (99 :: dots) (swap1 98 (98 :: dots) (swap1 97 (97 :: dots) x))
theorem tx_step (x : Wd) {j : Nat} (h : j < 3) : Txt.join (W (jn j)) (Txt.split (W (tx x j)) (W (sp j))) = W (tx x (j + 1)) := by
  match j, h with
  | 0, _ => exact split_join x 97 _
  | 1, _ => exact split_join (tx x 1) 98 _
  | 2, _ => exact split_join (tx x 2) 99 _
theorem tx_last {x : Wd} (h : ∀ c ∈ x, isLetter c = true) : tx x 3 = x.flatMap fun c => c :: dots := by
  show swap1 99 (99 :: dots) (swap1 98 (98 :: dots) (swap1 97 (97 :: dots) x)) = _
  induction x with
  | nil => rfl
  | cons c x ih =>
    have ih := ih fun d hd => h d (.tail _ hd)
    have hc := h c (.head _)
    simp only [isLetter, Bool.or_eq_true, beq_iff_eq] at hc
    have e : c :: x = [c] ++ x := rfl
    rw [e, swap1_append, swap1_append, swap1_append, ih, List.flatMap_append]
    rcases hc with (rfl | rfl) | rfl <;> rfl
theorem swap1_length (c : Nat) (z : Wd) (hz : 1 ≤ z.length) : ∀ x : Wd, (swap1 c z x).length ≤ z.length * x.length
  | [] => by simp [swap1]
  | a :: x => by
    have ih := swap1_length c z hz x
    show ((if a = c then z else [a]) ++ swap1 c z x).length ≤ _
    rw [List.length_append, List.length_cons, Nat.mul_succ]
    split
    · omega
    · show 1 + _ ≤ _; omega
theorem tx_length {x : Wd} (h : x.length ≤ 4) (j : Nat) : (tx x j).length ≤ 256 := by
  have h1 := swap1_length 97 (97 :: dots) (by decide) x
  have h2 := swap1_length 98 (98 :: dots) (by decide) (swap1 97 (97 :: dots) x)
  have h3 := swap1_length 99 (99 :: dots) (by decide) (swap1 98 (98 :: dots) (swap1 97 (97 :: dots) x))
  simp only [dots, List.length_cons, List.length_nil] at h1 h2 h3
  match j with
  | 0 => show x.length ≤ 256; omega
  | 1 => show (swap1 97 (97 :: dots) x).length ≤ 256; unfold dots; omega
  | 2 => show (swap1 98 (98 :: dots) (swap1 97 (97 :: dots) x)).length ≤ 256; unfold dots; omega
  | j + 3 => show (swap1 99 (99 :: dots) (swap1 98 (98 :: dots) (swap1 97 (97 :: dots) x))).length ≤ 256; unfold dots; omega
end Mine
end

section
namespace Mine
open PySem PySem.W PyProof.Rows PySem.Calls PySem.Builtin PySem.Builtin.Str

def firstOr : List Nat → Int
  | k :: _ => (k : Int)
  | [] => -1

theorem gives_find4 (x y : Str) (i j : Int) (t u v z : Tok) : Gives («str.find» ⟨[.str x t, .str y u, .int i v, .int j z], []⟩)
    (.int (firstOr (occurrences x y (fromIndex x.length i) (min (fromIndex x.length j) x.length) 1))) := by
  show Gives (match occurrences x y (fromIndex x.length i) (min (fromIndex x.length j) x.length) 1 with | k :: _ => retInt k | [] => (do rule "str.find.not-found"; retInt (-1))) _
  cases occurrences x y (fromIndex x.length i) (min (fromIndex x.length j) x.length) 1 with
  | nil => exact .rule (.of_eq rfl)
  | cons k _ => exact .of_eq rfl

section
variable {prog : Program} {w : World} {A : Around} {E : Value → Shared → Prop} {s : Shared}
theorem find4 {x y : Str} {i j : Int} {t u v z : Tok} {Q : Value → Shared → Prop}
    (h : Q (.int (firstOr (occurrences x y (fromIndex x.length i) (min (fromIndex x.length j) x.length) 1)) s.toks) { s with toks := s.toks + 1 }) :
    wpAny (model prog w) A (call (.builtin "str.find") [.str x t, .str y u, .int i v, .int j z]) Q E s :=
  call_gives F.slot_str_find (typeIs_str _ _ _) F.entry_str_find (F.args_str_find_4 _ _ _ _) (gives_find4 x y i j t u v z) h
end

theorem fromIndex_nat (n p : Nat) : fromIndex n (p : Int) = p := by
  unfold fromIndex
  rw [if_neg (by omega)]
  omega

/-- the first place of c at or behind p -/
theorem find_letter (y : Wd) (c p : Nat) :
    (firstOr (occurrences (W y) (W [c]) p (W y).length 1) = -1 ∧ ∀ j, p ≤ j → y[j]? ≠ some c) ∨
    ∃ k : Nat, firstOr (occurrences (W y) (W [c]) p (W y).length 1) = (k : Int) ∧ p ≤ k ∧ y[k]? = some c ∧ ∀ j, p ≤ j → j < k → y[j]? ≠ some c := by
  have hat : ∀ i, StrLaws.At (W y) (W [c]) (W y).length i ↔ y[i]? = some c := by
    intro i
    unfold StrLaws.At
    rw [StrLaws.subAt_eq, W_length, W_length]
    have e : (W y).cps.toList = y := by simp [W]
    have e' : (W [c]).cps.toList = [c] := by simp [W]
    rw [e, e']
    constructor
    · rintro ⟨h1, h2⟩
      have h2 := eq_of_beq h2
      have := congrArg (·[0]?) h2
      simpa using this
    · intro h
      have hlt : i < y.length := (List.getElem?_eq_some_iff.mp h).1
      refine ⟨by show i + 1 ≤ y.length; omega, ?_⟩
      rw [List.drop_eq_getElem_cons hlt]
      have : y[i] = c := by simpa using (List.getElem?_eq_some_iff.mp h).2
      simp [this]
  rcases StrLaws.occ_head_from (W y) (W [c]) p 1 (Nat.le_refl _) with ⟨h, hn⟩ | ⟨k, r, h, hk, ha, hn⟩
  · refine .inl ⟨by rw [h]; rfl, fun j hj e => hn j hj ((hat j).mpr e)⟩
  · refine .inr ⟨k, by rw [h]; rfl, hk, (hat k).mp ha, fun j h1 h2 e => hn j h1 h2 ((hat j).mpr e)⟩

theorem find_empty (y : Wd) (p : Nat) (hp : p ≤ y.length) : firstOr (occurrences (W y) (W []) p (W y).length 1) = (p : Int) := by
  have hat : ∀ i, i ≤ y.length → StrLaws.At (W y) (W []) (W y).length i := by
    intro i hi
    unfold StrLaws.At
    rw [StrLaws.subAt_eq, W_length, W_length]
    exact ⟨by simpa using hi, by simp [W]⟩
  rcases StrLaws.occ_head_from (W y) (W []) p 1 (Nat.le_refl _) with ⟨h, hn⟩ | ⟨k, r, h, hk, ha, hn⟩
  · exact absurd (hat p hp) (hn p (Nat.le_refl _))
  · rw [h]
    have : ¬ p < k := fun hlt => hn p (Nat.le_refl _) hlt (hat p hp)
    have : k = p := by omega
    rw [this]; rfl

/-- what is left when letters are left out -/
def sub : Wd → Wd → Bool
  | [], _ => true
  | _ :: _, [] => false
  | a :: x, b :: y => if a = b then sub x y else sub (a :: x) y

theorem sub_none (c : Nat) (x : Wd) : ∀ y : Wd, (∀ j : Nat, y[j]? ≠ some c) → sub (c :: x) y = false
  | [], _ => rfl
  | b :: y, h => by
    have hb : c ≠ b := fun e => h 0 (by simp [e])
    rw [sub, if_neg hb]
    exact sub_none c x y fun j => by have := h (j + 1); simpa using this
theorem sub_step (c : Nat) (x : Wd) : ∀ (y : Wd) (k : Nat), y[k]? = some c → (∀ j : Nat, j < k → y[j]? ≠ some c) → sub (c :: x) y = sub x (y.drop (k + 1))
  | [], _, h, _ => by simp at h
  | b :: y, 0, h, _ => by
    have hb : c = b := by simpa using h.symm
    rw [sub, if_pos hb]; rfl
  | b :: y, k + 1, h, hn => by
    have hb : c ≠ b := fun e => hn 0 (Nat.succ_pos _) (by simp [e])
    rw [sub, if_neg hb, sub_step c x y k (by simpa using h) fun j hj => by have := hn (j + 1) (by omega); simpa using this]
    rfl
theorem sub_from_none {c p : Nat} {x y : Wd} (h : ∀ j, p ≤ j → y[j]? ≠ some c) : sub (c :: x) (y.drop p) = false :=
  sub_none c x _ fun j => by rw [List.getElem?_drop]; exact h _ (by omega)
theorem sub_from_step {c p k : Nat} {x y : Wd} (hp : p ≤ k) (hk : y[k]? = some c) (hn : ∀ j, p ≤ j → j < k → y[j]? ≠ some c) : sub (c :: x) (y.drop p) = sub x (y.drop (k + 1)) := by
  have e : p + (k - p) = k := by omega
  have e' : p + (k - p + 1) = k + 1 := by omega
  have h1 : (y.drop p)[k - p]? = some c := by rw [List.getElem?_drop, e]; exact hk
  rw [sub_step c x (y.drop p) (k - p) h1 fun j hj => by rw [List.getElem?_drop]; exact hn _ (by omega) (by omega)]
  rw [List.drop_drop, e']

section
variable {prog : Program} {w : World} {A : Around} {E : Value → Shared → Prop} {s : Shared} {h₀ : Heap}
theorem srel_values : ∀ (l : List (Str × Tok)), SRel (strValues l) ((l.map (·.1)).map fun x => x.cps.toList)
  | [] => rfl
  | p :: r => by
    have := srel_values r
    unfold SRel at this ⊢
    show some p.1.cps.toList :: (strValues r).map unStr = some p.1.cps.toList :: _
    rw [this]

/-- all but the frame becomes ground, a list that is there too -/
theorem St.rebaseL {h : Heap} {L D : Addr} {al : List (Str × Value)} {ws : List Wd} (H : St h₀ [(L, Loc al)] h) (hl : LS h D ws) : ∃ h₁, St h₁ [(L, Loc al)] h ∧ Up h₀ h₁ ∧ LS h₁ D ws := by
  obtain ⟨h₁, H₁, hk, hg⟩ := H.rebase
  refine ⟨h₁, H₁, hk, ?_⟩
  refine hl.at fun o e => hg D o e fun p hp hDL => ?_
  rw [List.mem_singleton.mp hp] at hDL
  obtain ⟨o', ho', es, ep, hd, _⟩ := H.get (i := 0) rfl
  obtain ⟨vs, ⟨o'', ho'', _, n, hd''⟩, _⟩ := hl
  have hDL : D = L := hDL
  subst hDL
  rw [ho'] at ho''
  cases ho''
  rw [hd] at hd''; cases hd''

theorem split_rule {x y : Str} {t u : Tok} {L : Addr} {al : List (Str × Value)} {Q : Value → Shared → Prop} (H : St h₀ [(L, Loc al)] s.heap) (hy : (y.length == 0) = false) (hx : x.length ≤ 1000)
    (h : ∀ D h₁ h' tk, Up h₀ h₁ → LS h₁ D ((Txt.split x y).map fun x => x.cps.toList) → St h₁ [(L, Loc al)] h' → Q (.ref D) { s with heap := h', toks := tk }) :
    wpAny (model prog w) A (call (.builtin "str.split") [.str x t, .str y u]) Q E s := by
  have hn : (partsBetween x (occurrences x y 0 x.length (x.length + 1)) y.length).length ≤ sizeLine := by
    have e1 := StrLaws.occ_length_le x y 0 x.length (x.length + 1)
    rw [length_partsBetween, sizeLine_eq]; omega
  refine SCH.split1 (P := Up s.heap) (fun h ob e b o e' => Heap.get?_push_of_some _ (e b o e')) (fun b o e => e) hy ?_ (by rw [sizeLine_eq]; omega) hn
  intro D l h' tk hl hk hL
  obtain ⟨h₁, H₁, hk₁, hL₁⟩ := (H.keeps hk).rebaseL (D := D) (ws := (Txt.split x y).map fun x => x.cps.toList) ⟨_, hL, hl ▸ srel_values l⟩
  exact h D h₁ h' tk hk₁ hL₁ H₁
end
end Mine
end

section
namespace Mine
open PySem PySem.W PyProof.Rows PySem.Calls

/-- what a block of a comprehension can read -/
structure Rd (C : Addr) (cs : List (Str × Addr)) (h : Heap) (al cl : List (Str × Value)) : Prop where
  loc : ∃ m, h.Ns C m ∧ ∀ x v, al.lookup x = some v → m x = some v
  cell : ∀ p ∈ cl, ∃ c, cs.lookup p.1 = some c ∧ h.IsCell c (some p.2)
theorem Rd.keeps {C : Addr} {cs : List (Str × Addr)} {h h' : Heap} {al cl : List (Str × Value)} (R : Rd C cs h al cl) (hk : Up h h') : Rd C cs h' al cl :=
  ⟨let ⟨m, a, b⟩ := R.loc; ⟨m, a.keeps hk, b⟩, fun p hp => let ⟨c, a, b⟩ := R.cell p hp; ⟨c, a, b.keeps hk⟩⟩

section
variable {M : Model} {A : Around} {E : Value → Shared → Prop} {s : Shared} {env : Env} {al cl : List (Str × Value)} {x : Str} {pos : Pos} {v : Value} {Q : Value → Shared → Prop}
theorem nmr_loc (R : Rd env.locals env.cells s.heap al cl) (hv : al.lookup x = some v) (h : Q v s) (hk : env.scope.kind = .function := by rfl)
    (hx : env.kindOf x = some .local := by rfl) (hd : (x == ("__debug__" : Str)) = false := by decide) : wpAny M A (eval (.Name x pos) env) Q E s := by
  obtain ⟨m, hn, hf⟩ := R.loc
  exact wpAny_Name (wpAny_loadName_local hk hx hn (hf _ _ hv) h) hd
theorem nmr_cell (R : Rd env.locals env.cells s.heap al cl) (hv : cl.lookup x = some v) (h : Q v s) (hk : env.scope.kind = .function := by rfl)
    (hx : env.kindOf x = some .cell := by rfl) (hd : (x == ("__debug__" : Str)) = false := by decide) : wpAny M A (eval (.Name x pos) env) Q E s := by
  obtain ⟨c, hc, hi⟩ := R.cell _ (mem_of_lookup hv)
  exact wpAny_Name (wpAny_loadName_cell hk hx hc hi h) hd
theorem nmr_free (R : Rd env.locals env.cells s.heap al cl) (hv : cl.lookup x = some v) (h : Q v s) (hk : env.scope.kind = .function := by rfl)
    (hx : env.kindOf x = some .free := by rfl) (hb : (x == ("__debug__" : Str)) = false := by decide) (hn : (x == ("__classdict__" : Str)) = false := by decide) : wpAny M A (eval (.Name x pos) env) Q E s := by
  obtain ⟨c, hc, hi⟩ := R.cell _ (mem_of_lookup hv)
  exact wpAny_Name (wpAny_loadName_free hk hx hc hi h hn) hb
end

theorem comp_rd {h₀ : Heap} {l : Own} {clA : List (Str × Addr)} {C : Addr} {h h' : Heap} {x : Str} {v : Value} {m : Str → Option Value} {cl : List (Str × Value)} (H : St h₀ l h) (hn : h'.Ns C m) (hm : m x = some v) (hk : Up h h')
    (hc : ∀ p ∈ cl, ∃ (c : Addr) (i : Nat), clA.lookup p.1 = some c ∧ l[i]? = some (c, CellP (some p.2))) : Rd C clA h' [(x, v)] cl := by
  refine ⟨⟨m, hn, fun y u e => ?_⟩, fun p hp => ?_⟩
  · rw [List.lookup_cons] at e
    by_cases hy : y = x
    · subst hy
      simp at e
      rw [hm, e]
    · have : (y == x) = false := by simpa using hy
      rw [this] at e
      cases e
  · obtain ⟨c, i, h1, h2⟩ := hc p hp
    obtain ⟨o, ho, hd⟩ := H.get h2
    exact ⟨c, h1, o, hk _ _ ho, hd⟩

section
variable {prog : Program} {w : World} {K : Type} [DecidableEq K] {A : Around} {E : Value → Shared → Prop} {s : Shared} {env : Env}
/-- a comprehension's one test -/
theorem one_test {c : Expr} {p : Bool} (h : wpAny (model prog w) A (isTrue c env (eval c env)) (fun ok s₄ => ok = p ∧ Keeps s s₄) E s) :
    wpAny (model prog w) A (forIn [c] true fun c r => if r = true then do let ok ← isTrue c env (eval c env); pure (ForInStep.yield ok) else pure (ForInStep.yield r)) (fun ok s₄ => ok = p ∧ Keeps s s₄) E s := by
  rw [List.forIn_cons]
  refine wpAny_bind ?_
  rw [if_pos rfl]
  refine wpAny_bind (wpAny_mono h (fun ok s₄ h₄ => wpAny_pure ?_) fun _ _ e => e)
  show wpAny _ _ (forIn [] ok _) _ _ _
  rw [List.forIn_nil]
  exact wpAny_pure h₄
theorem no_test {p : Bool} (hp : p = true) : wpAny (model prog w) A (forIn [] true fun c r => if r = true then do let ok ← isTrue c env (eval c env); pure (ForInStep.yield ok) else pure (ForInStep.yield r)) (fun ok s₄ => ok = p ∧ Keeps s s₄) E s := by
  rw [List.forIn_nil]
  exact wpAny_pure ⟨hp.symm, s.heap, s.toks, rfl, fun _ _ e => e⟩

/-- y = {kx: vx for x in iter}, the name stored before the block's own is let go -/
theorem assign_dictComp {kx vx iter : Expr} {x y : Str} {px py : Pos} {ifs : List Expr} {scope : Scope} {cl : List (Str × Addr)} {pos spos : Pos} {Q : Flow → Shared → Prop} (knd : KeyKind prog w K)
    (p : Value → Bool) (FK : Value → K → Prop) (FV : Value → Value → Prop)
    (hsw : swapsWith (.DictComp kx vx [⟨.Name x px, iter, ifs, 0⟩] scope pos) (some (.Name y py)) spos.line env = pure true)
    (hclos : closureFor scope env = pure cl) (hcell : ∀ z ∈ scope.names, z.2 ≠ .cell) (hkind : scope.kind = .function)
    (hnames : ∀ z ∈ scope.names, z.2 = .local → scope.names.lookup z.1 = some .local) (hx : scope.names.lookup x = some .local)
    (hy : env.kindOf y = some .local) (hp : (env.scope.kind == .class || (env.scope.kind == .module && env.locals != env.globals)) = false)
    (h : wpAny (model prog w) A (eval iter env) (fun xv s₁ => wpAny (model prog w) A (pyIter xv) (fun it s₂ => ∃ I fp wr n P St m, it = .ref I ∧ Walks prog w A I fp wr n P St ∧ n ≤ sizeLine ∧ St 0 s₂.heap ∧ (∀ b ∈ fp, b < s₂.heap.objs.size) ∧
      env.locals ∉ wr ∧ s₂.heap.Ns env.locals m ∧ QuietOnCD knd A env scope cl x ifs kx vx wr P p FK FV s₂ ∧
      (∀ D h' tk kvs (vs : List Value), s₂.heap.get? D = none → h'.DictOf knd D kvs → vs.length = n → (∀ j v, vs[j]? = some v → P j v) → StoredAll FK FV (vs.filter p) kvs →
        h'.Ns env.locals (fun z => if z = y then some (.ref D) else m z) → (∀ b o, b ≠ env.locals → b ∉ wr → s₂.heap.get? b = some o → h'.get? b = some o) → Q .next { s₂ with heap := h', toks := tk })) E s₁) E s)
    (hs : ∀ x, foldedSetIterable iter env x = pure x := by intro _; rfl) :
    wpAny (model prog w) A (exec (.Assign [.Name y py] (.DictComp kx vx [⟨.Name x px, iter, ifs, 0⟩] scope pos) spos) env) Q E s := by
  rw [exec_Assign_Name_used _ _ _ _ hsw]
  refine wpAny_bind (wpAny_standAt (wpAny_bind ?_))
  show wpAny _ A (do let _ ← comprehension (.DictComp kx vx [⟨.Name x px, iter, ifs, 0⟩] scope pos) scope env _ newDict false (eval iter env) (some (assign (.Name y py) env))) _ _ s
  refine wpAny_bind (wpAny_mono (wpAny_comprehension_free (use := some (assign (.Name y py) env)) (Q := fun _ s' => Q .next s') rfl hs hclos hkind hnames
    (wpAny_mono h (fun xv s₁ h₁ => wpAny_mono h₁ (fun it s₂ h₂ => ?_) fun _ _ e => e) fun _ _ e => e)) (fun _ s' hq => wpAny_pure (wpAny_pure hq)) fun _ _ e => e)
  obtain ⟨I, fp, wr, n, P, St, m, rfl, W, hsz, hst, hfp, hLf, hn, hq, hQ⟩ := h₂
  refine comp_block_walkCD (knd := knd) (RR := fun acc C => compPost (model prog w) A E (some (assign (.Name y py) env)) (fun _ s' => Q .next s') acc C) W hsz p FK FV hcell hkind hx hst hfp hq ?_
  intro D C h' tk m' kvs vs hD hC hDC hnC hdD hlen hP hF hk
  have hLC : env.locals ≠ C := by rintro rfl; obtain ⟨o, _, _, ho, _⟩ := hn; rw [hC] at ho; cases ho
  have hLD : env.locals ≠ D := by rintro rfl; obtain ⟨o, _, _, ho, _⟩ := hn; rw [hD] at ho; cases ho
  show wpAny _ A (assign (.Name y py) env (.ref D)) _ _ _
  refine wpAny_assign_Name (wpAny_storeName_local hy (hn.at' fun o e => hk _ o hLf e) (fun h₂ hn₂ hs₂ => ?_) hp)
  refine ⟨m', hnC.sameBut hs₂ (Ne.symm hLC), fun h₃ hs₃ => ?_⟩
  exact hQ D h₃ _ kvs vs hD ((hdD.extBut hs₂.extBut (Ne.symm hLD)).extBut hs₃.extBut hDC) hlen hP hF (hn₂.sameBut hs₃ hLC) fun b o hbL hbf e =>
    hs₃.extBut b o (by rintro rfl; rw [hC] at e; cases e) (hs₂.extBut b o hbL (hk b o hbf e))
end
end Mine
end

section
namespace Mine
open PySem PySem.W PyProof.Rows PySem.Calls

/-- a plain list of texts -/
def PLS (h : Heap) (a : Addr) (ws : List Wd) : Prop := ∃ vs, h.PlainList a vs.toArray ∧ SRel vs ws
theorem PLS.ls {h : Heap} {a : Addr} {ws : List Wd} (x : PLS h a ws) : LS h a ws := let ⟨vs, p, q⟩ := x; ⟨vs, p.isList, q⟩
theorem PLS.keep {h h' : Heap} {a : Addr} {ws : List Wd} (x : PLS h a ws) (hk : Up h h') : PLS h' a ws := let ⟨vs, ⟨n, p⟩, q⟩ := x; ⟨vs, ⟨n, hk _ _ p⟩, q⟩
theorem PLS.at {h h' : Heap} {a : Addr} {ws : List Wd} (x : PLS h a ws) (hk : ∀ o, h.get? a = some o → h'.get? a = some o) : PLS h' a ws := let ⟨vs, ⟨n, p⟩, q⟩ := x; ⟨vs, ⟨n, hk _ p⟩, q⟩
theorem PLS.some {h : Heap} {a : Addr} {ws : List Wd} (x : PLS h a ws) : ∃ o, h.get? a = some o := let ⟨_, ⟨_, p⟩, _⟩ := x; ⟨_, p⟩

namespace St
variable {h₀ h h' : Heap} {l : Own}
/-- a new object becomes ground -/
theorem pushB (H : St h₀ l h) (o : Obj) (hf : o.isFreed = false := by rfl) : ∃ h₁, St h₁ l (h.push o) ∧ Up h₀ h₁ ∧ h₁.get? h.objs.size = some o := by
  have H' := H.keeps (h' := h.push o) (fun b o e => Heap.get?_push_of_some _ e)
  obtain ⟨h₁, H₁, hk, hg⟩ := H'.rebase
  refine ⟨h₁, H₁, hk, hg _ _ (Heap.get?_push_size _ hf) fun p hp e => ?_⟩
  have := H.lt hp
  rw [← e] at this
  exact Nat.lt_irrefl _ this
/-- behind a call: what it made becomes ground -/
theorem callB (H : St h₀ l h) (hk : Up h h') : ∃ h₁, St h₁ l h' ∧ Up h₀ h₁ ∧ ∀ D o, h.get? D = none → h'.get? D = some o → h₁.get? D = some o := by
  obtain ⟨h₁, H₁, hk₁, hg⟩ := (H.keeps hk).rebase
  refine ⟨h₁, H₁, hk₁, fun D o hD e => hg D o e fun p hp q => ?_⟩
  obtain ⟨o', ho', _⟩ := H.has p hp
  rw [← q, hD] at ho'; cases ho'
end St

theorem get?_size (h : Heap) : h.get? h.objs.size = none := by
  cases e : h.get? h.objs.size with
  | none => rfl
  | some o => exact absurd (Heap.lt_size e) (Nat.lt_irrefl _)

/-- a comprehension of texts from texts -/
theorem paired_srel (g : Wd → Wd) (q : Wd → Bool) : ∀ {vs : List Value} {ws : List Wd} {ys : List Value}, SRel vs ws →
    Paired (fun v y => ∃ x t, unStr v = some x ∧ y = .str (W (g x)) t) (vs.filter fun v => q ((unStr v).getD [])) ys → SRel ys ((ws.filter q).map g)
  | [], [], _, _, hP => by cases hP; rfl
  | [], _ :: _, _, R, _ => by cases R
  | _ :: _, [], _, R, _ => by cases R
  | v :: vs, x :: ws, ys, R, hP => by
    unfold SRel at R
    rw [List.map_cons, List.map_cons] at R
    injection R with h1 h2
    have hq : q ((unStr v).getD []) = q x := by rw [h1]; rfl
    rw [List.filter_cons] at hP ⊢
    rw [hq] at hP
    cases hqx : q x with
    | false =>
      rw [hqx] at hP
      simp only [Bool.false_eq_true, if_false] at hP ⊢
      exact paired_srel g q h2 hP
    | true =>
      rw [hqx] at hP
      simp only [if_true] at hP ⊢
      cases hP with
      | cons hF hP' =>
        obtain ⟨x', t, e, rfl⟩ := hF
        rw [h1] at e
        cases e
        have := paired_srel g q h2 hP'
        unfold SRel at this ⊢
        rw [List.map_cons, List.map_cons, List.map_cons, this, unStr_W]
theorem ext_list {vs' vd : List Value} (hlen : vs'.length = vd.toArray.size) (hP : ∀ (j : Nat) (v : Value), vs'[j]? = some v → vd.toArray[j]? = some v) : vs' = vd := by
  apply List.ext_getElem?
  intro j
  cases e : vs'[j]? with
  | none =>
    rw [List.getElem?_eq_none_iff] at e
    rw [List.size_toArray] at hlen
    exact (List.getElem?_eq_none (by omega)).symm
  | some v => have := hP j v e; simpa using this.symm

section
variable {prog : Program} {w : World} {A : Around} {E : Value → Shared → Prop} {s : Shared} {h₀ : Heap} {l : Own}

theorem add_PLS {a b : Addr} {ws ws' : List Wd} {Q : Value → Shared → Prop} (ha : PLS s.heap a ws) (hb : PLS s.heap b ws') (hsz : ws.length + ws'.length ≤ 100000)
    (h : ∀ vs, SRel vs (ws ++ ws') → Q (.ref s.heap.objs.size) { s with heap := s.heap.push { cls := .type "list", data := .seq vs.toArray } }) : wpAny (model prog w) A (binaryOp .Add (.ref a) (.ref b)) Q E s := by
  obtain ⟨va, ⟨na, pa⟩, Ra⟩ := ha
  obtain ⟨vb, ⟨nb, pb⟩, Rb⟩ := hb
  refine P.add_list pa pb ?_ (by rw [sizeLine_eq, List.size_toArray, List.size_toArray, Ra.length, Rb.length]; omega)
  rw [List.append_toArray]
  exact h _ (Ra.append Rb)

theorem srel_any {vs : List Value} {ws : List Wd} (R : SRel vs ws) (x : Wd) : (vs.any fun v => unStr v == some x) = ws.contains x := by
  have e : (vs.any fun v => unStr v == some x) = (vs.map unStr).any (· == some x) := by rw [List.any_map]; rfl
  rw [e, R, List.any_map, List.contains_eq_any_beq]
  congr 1
  funext y
  show (some y == some x) = (x == y)
  by_cases h : x = y
  · simp [h]
  · have h' : ¬ y = x := fun q => h q.symm
    show (y == x) = (x == y)
    exact (beq_eq_false_iff_ne.mpr h').trans (beq_eq_false_iff_ne.mpr h).symm

theorem notIn_LS {a : Addr} {ws : List Wd} {x : Wd} {t : Tok} {Q : Value → Shared → Prop} (ha : LS s.heap a ws) (h : Q (.bool (!ws.contains x)) s) : wpAny (model prog w) A (compareOp .NotIn (.str (W x) t) (.ref a)) Q E s := by
  obtain ⟨vs, hv, R⟩ := ha
  refine SeqInW.notIn_listW (fun v => unStr v == some x) (fun y hy => ?_) hv ?_
  · obtain ⟨j, hj⟩ := List.mem_iff_getElem?.mp (by simpa using hy : y ∈ vs)
    obtain ⟨z, u, rfl, _⟩ := R.at_ hj
    have := SeqRoads2.EqGives.str (W z) (W x) u t
    have e : (unStr (.str (W z) u) == some x) = ((W z).cps.toList == (W x).cps.toList) := by
      rw [unStr_W]
      have e1 : (W z).cps.toList = z := by simp [W]
      have e2 : (W x).cps.toList = x := by simp [W]
      rw [e1, e2]
      rfl
    rw [e]
    exact this
  · rw [List.any_toArray, srel_any R]
    exact h

theorem add_W {x y : Wd} {t u : Tok} {Q : Value → Shared → Prop} (hsz : x.length + y.length ≤ 100000) (h : ∀ t' tk, Q (.str (W (x ++ y)) t') { s with toks := tk }) : wpAny (model prog w) A (binaryOp .Add (.str (W x) t) (.str (W y) u)) Q E s :=
  PyProof.Rows.add_str (by rw [W_append]; exact h) (by rw [sizeLine_eq, W_length, W_length]; omega)
end
end Mine
end

section
namespace Mine
open PySem PySem.W PyProof.Rows PySem.Calls

theorem Rel.nodup {kvs : List (Str × Value)} {l : List (Wd × Int)} (R : Rel kvs l) (h : (kvs.map (·.1)).Nodup) : (l.map (·.1)).Nodup := by
  have e : kvs.map (·.1) = (l.map (·.1)).map W := by
    have := congrArg (List.map (·.1)) R
    rw [List.map_map, List.map_map] at this
    rw [List.map_map]
    exact this
  rw [e] at h
  exact List.Pairwise.imp_of_mem (fun _ _ hab q => hab (congrArg W q)) (List.pairwise_map.mp h)

theorem get_of_nodup {V : Type} : ∀ {l : List (Wd × V)} {j : Nat} {x : Wd} {i : V}, (l.map (·.1)).Nodup → l[j]? = some (x, i) → get l x = some i
  | [], _, _, _, _, h => by simp at h
  | (y, v) :: l, 0, x, i, _, h => by
    simp only [List.getElem?_cons_zero, Option.some.injEq, Prod.mk.injEq] at h
    obtain ⟨rfl, rfl⟩ := h
    simp [get]
  | (y, v) :: l, j + 1, x, i, hn, h => by
    rw [List.getElem?_cons_succ] at h
    rw [List.map_cons, List.nodup_cons] at hn
    have hne : y ≠ x := fun e => hn.1 (e ▸ List.mem_map_of_mem (f := (·.1)) (List.mem_of_getElem? h))
    have := get_of_nodup hn.2 h
    unfold get at this ⊢
    rw [List.find?_cons]
    simp only [hne, decide_false]
    exact this

theorem put_new {V : Type} {l : List (Wd × V)} {k : Wd} {v : V} (h : k ∉ l.map (·.1)) : put l k v = l ++ [(k, v)] := by
  unfold put
  rw [if_neg]
  intro e
  obtain ⟨p, hp, q⟩ := List.any_eq_true.mp e
  exact h (by simpa [of_decide_eq_true q] using List.mem_map_of_mem (f := (·.1)) hp)

/-- a dict comprehension whose keys differ -/
theorem stored_rel {FK : Value → Str → Prop} {FV : Value → Value → Prop} {l : List Value} {kvs : List (Str × Value)} (h : StoredAll FK FV l kvs) : ∀ {L : List (Wd × Int)}, l.length = L.length →
    (∀ (j : Nat) (v : Value) (p : Wd × Int), l[j]? = some v → L[j]? = some p → (∀ k, FK v k → k = W p.1) ∧ ∀ y, FV v y → ∃ t, y = .int p.2 t) → (L.map (·.1)).Nodup → Rel kvs L := by
  induction h with
  | nil => intro L hl _ _; rw [List.length_eq_zero_iff.mp hl.symm]; exact Rel.nil
  | @snoc l kvs v k y hS hk hy ih =>
    intro L hl hF hn
    rcases List.eq_nil_or_concat L with rfl | ⟨L', p, rfl⟩
    · simp at hl
    rw [List.concat_eq_append] at hl hF hn ⊢
    rw [List.length_append, List.length_append] at hl
    have hl' : l.length = L'.length := by simpa using hl
    rw [List.map_append, List.nodup_append] at hn
    have ih := ih hl' (fun j v q hv hq => hF j v q (by rw [List.getElem?_append_left (List.getElem?_eq_some_iff.mp hv).1]; exact hv) (by rw [List.getElem?_append_left (List.getElem?_eq_some_iff.mp hq).1]; exact hq)) hn.1
    have hlast := hF l.length v p (by simp) (by rw [hl']; simp)
    rw [hlast.1 k hk]
    obtain ⟨t, rfl⟩ := hlast.2 y hy
    have := ih.stored p.1 p.2 t
    rw [put_new (fun hm => hn.2.2 p.1 hm p.1 (by simp) rfl)] at this
    exact this

section
variable {prog : Program} {w : World} {A : Around} {E : Value → Shared → Prop} {s : Shared}

theorem item_W {value slice : Expr} {x : Wd} {t u : Tok} {k c : Nat} {Q : Value → Shared → Prop} (hx : x[k]? = some c) (hn : x.length ≤ 100000) (h : ∀ t' tk, Q (.str (W [c]) t') { s with toks := tk })
    (hs : subscripted slice false (.str (W x) t) (.int k u) = operate [.str (W x) t, .int k u] (getItem (.str (W x) t) (.int k u)) := by with_unfolding_all rfl) :
    wpAny (model prog w) A (subscriptTail value slice (.str (W x) t) (.int (k : Nat) u)) Q E s := by
  have hlt : k < x.length := (List.getElem?_eq_some_iff.mp hx).1
  refine tail_any (typeIs_str s _ t) F.slot_str_getitem.lookup (P.getItem_str ?_ ?_ (h _ _)) hs
  · simp only [Bool.or_eq_false_iff, decide_eq_false_iff_not]
    omega
  · have e : seqIndex? (k : Int) (W x).length = some k := by
      rw [W_length]
      unfold seqIndex?
      have h1 : ¬ (k : Int) < 0 := by omega
      simp only [h1, if_false]
      simp
      omega
    rw [e]
    show (W x).cps[k]? = some c
    simpa [W] using hx

theorem item_DI {value slice : Expr} {d : Addr} {l : List (Wd × Int)} {x : Wd} {t : Tok} {i : Int} {Q : Value → Shared → Prop} (D : DI prog w s.heap d l) (hg : get l x = some i) (h : ∀ t' tk, Q (.int i t') { s with toks := tk })
    (hs : subscripted slice false (.ref d) (.str (W x) t) = operate [.ref d, .str (W x) t] (getItem (.ref d) (.str (W x) t)) := by with_unfolding_all rfl) :
    wpAny (model prog w) A (subscriptTail value slice (.ref d) (.str (W x) t)) Q E s := by
  obtain ⟨_, kvs, hm, R⟩ := D
  obtain ⟨t', e⟩ := R.valueAt_some hg
  exact tail_any hm.typeIs slot_dict_getitem.lookup (wpAny_getItem_of (strKind_is prog w (W x) t) hm.mapOf e (h _ _)) hs

/-- {'': number} -/
theorem dict_one {env : Env} {k v : Expr} {pos : Pos} {x : Wd} {t u : Tok} {i : Int} {h₀ : Heap} {l : Own} {Q : Value → Shared → Prop} (G : Gr w h₀) (H : St h₀ l s.heap)
    (h : wpAny (model prog w) A (eval k env) (fun kv s₁ => ∃ tk, kv = .str (W x) t ∧ s₁ = { s with heap := s.heap.push { cls := .type "dict", data := .dict #[] }, toks := tk } ∧
      wpAny (model prog w) A (eval v env) (fun vv s₂ => ∃ tk, vv = .int i u ∧ s₂ = { s with heap := s.heap.push { cls := .type "dict", data := .dict #[] }, toks := tk } ∧
        ∀ h₁ h' tk, Up h₀ h₁ → DI prog w h₁ s.heap.objs.size [(x, i)] → St h₁ l h' → Q (.ref s.heap.objs.size) { s with heap := h', toks := tk }) E s₁) E { s with heap := s.heap.push { cls := .type "dict", data := .dict #[] } }) :
    wpAny (model prog w) A (eval (.Dict [some k] [v] pos) env) Q E s := by
  have hds : (s.heap.objs.size == sysModules) = false := by
    have := (G.st H).size
    exact beq_eq_false_iff_ne.mpr (fun e => by rw [e] at this; exact absurd this (by decide))
  refine wpAny_Dict_walk (knd := strKind prog w) rfl rfl (by simp) (Nat.le_of_ble_eq_true rfl) ?_
  refine pairTrees_cons_walk (wpAny_mono h (fun kv s₁ h₁ => ?_) fun _ _ e => e)
  obtain ⟨tk, rfl, rfl, h₁⟩ := h₁
  refine wpAny_mono h₁ (fun vv s₂ h₂ => ?_) fun _ _ e => e
  obtain ⟨tk', rfl, rfl, h₂⟩ := h₂
  refine wpAny_pure ⟨[(W x, .int i u)], ?_, Heap.DictOf.new s.heap, fun h' hd hs => ?_⟩
  · exact ⟨strKind_is prog w (W x) t, rfl, trivial⟩
  · have hD : DI prog w h' s.heap.objs.size [(x, i)] := ⟨hds, _, hd, by exact rfl⟩
    have hk : Up s.heap h' := fun b o e => hs.extBut b o (Nat.ne_of_lt (Heap.lt_size e)) (Heap.get?_push_of_some _ e)
    obtain ⟨h₁, H₁, hk₁, hg⟩ := H.callB hk
    refine h₂ h₁ h' _ hk₁ (hD.at fun o e => hg _ o (get?_size _) e) H₁
end
end Mine
end

section
namespace Mine
open PySem PySem.W PyProof.Rows PySem.Calls
local macro_rules | `(tactic| walk_at "lk") => `(tactic| ((repeat (first | exact lookup_hit | refine Eq.trans (lookup_skip (by decide)) ?_)); (try assumption)))
local macro_rules | `(tactic| walk_at "gr") => `(tactic| (refine' Gr.st ?a ?b; (case b => assumption); (case a => assumption)))
local macro_rules | `(tactic| walk_at "storeName") => `(tactic| first
  | (refine' st_loc ?H ?_; (case H => assumption); intro _ _ _; (try dsimp only))
  | (refine' st_cell (i := 1) ?H ?c ?e ?_; (case H => assumption); (case c => exact rfl); (case e => exact rfl); intro _ H9; (simp only [List.set_cons_zero, List.set_cons_succ] at H9); (try dsimp only))
  | (refine' st_cell (i := 2) ?H ?c ?e ?_; (case H => assumption); (case c => exact rfl); (case e => exact rfl); intro _ H9; (simp only [List.set_cons_zero, List.set_cons_succ] at H9); (try dsimp only))
  | (refine' st_cell (i := 3) ?H ?c ?e ?_; (case H => assumption); (case c => exact rfl); (case e => exact rfl); intro _ H9; (simp only [List.set_cons_zero, List.set_cons_succ] at H9); (try dsimp only))
  | (refine' st_cell (i := 4) ?H ?c ?e ?_; (case H => assumption); (case c => exact rfl); (case e => exact rfl); intro _ H9; (simp only [List.set_cons_zero, List.set_cons_succ] at H9); (try dsimp only)))
local macro_rules | `(tactic| walk_at "eval Name") => `(tactic| first
  | (refine' nm_loc ?H ?e ?_; (case H => assumption); (case e => walk_at "lk"); (try dsimp only))
  | (refine' nm_cell (i := 1) ?H ?c ?e ?_; (case H => assumption); (case c => exact rfl); (case e => exact rfl); (try dsimp only))
  | (refine' nm_cell (i := 2) ?H ?c ?e ?_; (case H => assumption); (case c => exact rfl); (case e => exact rfl); (try dsimp only))
  | (refine' nm_cell (i := 3) ?H ?c ?e ?_; (case H => assumption); (case c => exact rfl); (case e => exact rfl); (try dsimp only))
  | (refine' nm_cell (i := 4) ?H ?c ?e ?_; (case H => assumption); (case c => exact rfl); (case e => exact rfl); (try dsimp only))
  | (refine' nm_glob ?g ?e ?_; (case g => walk_at "gr"); (case e => exact rfl); (try dsimp only))
  | (refine' nm_built ?g ?e ?v ?n ?_; (case g => walk_at "gr"); (case e => exact rfl); (case v => exact rfl); (case n => decide); (try dsimp only)))
local macro_rules | `(tactic| walk_at "loadName") => `(tactic| (refine' lnm_loc ?H ?e ?_; (case H => assumption); (case e => walk_at "lk"); (try dsimp only)))
section
variable {prog : Program} {w : World} {A : Around} {E : Value → Shared → Prop} {s : Shared} {env : Env}

theorem call_values {o : Expr} {apos pos : Pos} {d : Addr} {kvs : List (Str × Value)} {Q : Value → Shared → Prop} (hdS : (d == sysModules) = false) (hm : s.heap.DictOf (strKind prog w) d kvs)
    (ho : ∀ Q', Q' (.ref d) s → wpAny (model prog w) A (eval o env) Q' E s)
    (hQ : Q (.ref s.heap.objs.size) { s with heap := s.heap.push { cls := .type "dict_values", data := .fields #[.ref d] } })
    (hbase : attributeBase o "values" env (eval o env) = eval o env := by rfl) (hline : (apos.endLine == pos.line) = true := by rfl) :
    wpAny (model prog w) A (eval (.Call (.Attribute o "values" apos) [] [] pos) env) Q E s := by
  refine wpAny_Call_method (T := "dict") (id := "dict.values") hbase rfl hline F.plainAttrs_dict F.slot_dict_values F.type_dict_values (ho _ ⟨hm.typeIs, hm.mapOf.noDict, ?_⟩)
  show wpAny _ _ (callWith pos (.builtin "dict.values") [.ref d] [] []) Q E s
  exact method_meetsIn F.slot_dict_values F.entry_dict_values rfl (PySem.evalArgs_none ⟨rfl, hm.typeIs, F.args_dict_values_1 _, _, meets_dict_values (strKind prog w) d hdS, ⟨kvs, hm⟩, hQ⟩)

set_option maxHeartbeats 1000000
theorem count_spec {d : Addr} {l : List (Wd × Int)} {Q : Value → Shared → Prop} (G : Gr w s.heap) (hd : DI prog w s.heap d l) (hh : A.handled = none) (hroom : A.depth < recursionLimit)
    (h : ∀ h' tk t, (∀ b o, s.heap.get? b = some o → h'.get? b = some o) → Q (.int (l.map (·.2)).sum t) { s with heap := h', toks := tk }) :
    wpAny (model prog w) A (call (.ref 35) [.ref d]) Q E s := by
  refine enter (al := [("callers", .ref d)]) G hroom rfl rfl rfl rfl rfl rfl rfl (by decide) ?_ ?_
  · intro L p hp
    rw [List.mem_singleton.mp hp]
    rfl
  · intro L h₁ tk H
    replace H : St s.heap [(L, Loc [("callers", .ref d)])] h₁ := H
    obtain ⟨hdS, kvs, hm, R⟩ := hd
    obtain ⟨ep, hm⟩ := hm.dictAt
    iterate 5 walk1
    rename_i h₂ tk₂ H₁
    refine wpAny_For ?_
    refine call_values hdS (hm.keep H₁.keep).dictOf (fun Q' hQ' => ?_) ?_
    · walk1
      exact hQ'
    have hd₂ := hm.keep H₁.keep
    refine wpAny_pyIter_values ⟨_, Heap.get?_push_size _ rfl, rfl, rfl⟩ (hd₂.push _) ?_
    have H₂ := (H₁.keeps (h' := h₂.push { cls := .type "dict_values", data := .fields #[.ref d] }) (fun b o e => Heap.get?_push_of_some _ e)).push { cls := .type "dict_valueiterator", data := .fields #[.ref d, .int 0 0, .int kvs.length 0, .int ep 0] } (φ := fun _ => True) trivial
    have hne : d ≠ (h₂.push { cls := .type "dict_values", data := .fields #[.ref d] }).objs.size := Nat.ne_of_lt (hd₂.push _).lt_size
    refine loop_own (h₀ := s.heap) (Walks.dictValues (knd := strKind prog w) (A := A.deeper _) hh _ d hne kvs ep) ?_ ?_
      (fun i l' _ => ∃ al t, l' = [(L, Loc al)] ∧ Has al "nc" (.int ((l.take i).map (·.2)).sum t)) ⟨⟨_, Heap.get?_push_size _ rfl, rfl, rfl⟩, (hd₂.push _).push _⟩ H₂ ⟨_, _, rfl, lookup_hit⟩ ?_ ?_
    · intro b hb hbI
      obtain ⟨o, _, ho, _⟩ := hm
      simp only [List.mem_cons, List.not_mem_nil, or_false] at hb
      rcases hb with rfl | rfl
      · exact absurd rfl hbI
      · exact ⟨o, ho⟩
    · rintro i h ⟨⟨o, ho, _⟩, _⟩
      exact ⟨o, ho⟩
    · rintro i v l' h₃ h tk oI hi ⟨k, hv⟩ hk ⟨al, t, rfl, hnc⟩ H₃
      obtain ⟨x, n, t', rfl, rfl, hl⟩ := R.at_ hv
      refine wpAny_assign_Name ?_
      replace H₃ : St h₃ [(L, Loc al), (_, Is oI)] h := H₃
      walk1
      iterate 6 walk1
      refine wpAny_execs_nil ?_
      have e : ((l.take (i + 1)).map (·.2)).sum = ((l.take i).map (·.2)).sum + n := by rw [List.take_add_one, hl]; simp
      refine' ⟨[(L, Loc _)], h₃, _, _, rfl, ?H, fun _ _ e => e, _, _, rfl, ?K⟩
      case H => assumption
      case K => rw [e]; exact lookup_hit
    · rintro l' h₃ h' tk hk ⟨al, t, rfl, hnc⟩ H₃
      have e : l.take kvs.length = l := by rw [R.length, List.take_length]
      rw [e] at hnc
      show wpAny _ _ (execs _ _) _ _ _
      iterate 3 walk1
      exact h _ _ _ fun b o e => H₃.keep b o (hk b o e)
end
end Mine
end

section
namespace Mine
open PySem PySem.W PyProof.Rows PySem.Calls
local macro_rules | `(tactic| walk_at "lk") => `(tactic| ((repeat (first | exact lookup_hit | refine Eq.trans (lookup_skip (by decide)) ?_)); (try assumption)))
local macro_rules | `(tactic| walk_at "gr") => `(tactic| (refine' Gr.st ?a ?b; (case b => assumption); (case a => assumption)))
local macro_rules | `(tactic| walk_at "storeName") => `(tactic| first
  | (refine' st_loc ?H ?_; (case H => assumption); intro _ _ _; (try dsimp only))
  | (refine' st_cell (i := 1) ?H ?c ?e ?_; (case H => assumption); (case c => exact rfl); (case e => exact rfl); intro _ H9; (simp only [List.set_cons_zero, List.set_cons_succ] at H9); (try dsimp only))
  | (refine' st_cell (i := 2) ?H ?c ?e ?_; (case H => assumption); (case c => exact rfl); (case e => exact rfl); intro _ H9; (simp only [List.set_cons_zero, List.set_cons_succ] at H9); (try dsimp only))
  | (refine' st_cell (i := 3) ?H ?c ?e ?_; (case H => assumption); (case c => exact rfl); (case e => exact rfl); intro _ H9; (simp only [List.set_cons_zero, List.set_cons_succ] at H9); (try dsimp only))
  | (refine' st_cell (i := 4) ?H ?c ?e ?_; (case H => assumption); (case c => exact rfl); (case e => exact rfl); intro _ H9; (simp only [List.set_cons_zero, List.set_cons_succ] at H9); (try dsimp only)))
local macro_rules | `(tactic| walk_at "eval Name") => `(tactic| first
  | (refine' nm_loc ?H ?e ?_; (case H => assumption); (case e => walk_at "lk"); (try dsimp only))
  | (refine' nm_cell (i := 1) ?H ?c ?e ?_; (case H => assumption); (case c => exact rfl); (case e => exact rfl); (try dsimp only))
  | (refine' nm_cell (i := 2) ?H ?c ?e ?_; (case H => assumption); (case c => exact rfl); (case e => exact rfl); (try dsimp only))
  | (refine' nm_cell (i := 3) ?H ?c ?e ?_; (case H => assumption); (case c => exact rfl); (case e => exact rfl); (try dsimp only))
  | (refine' nm_cell (i := 4) ?H ?c ?e ?_; (case H => assumption); (case c => exact rfl); (case e => exact rfl); (try dsimp only))
  | (refine' nm_glob ?g ?e ?_; (case g => walk_at "gr"); (case e => exact rfl); (try dsimp only))
  | (refine' nm_built ?g ?e ?v ?n ?_; (case g => walk_at "gr"); (case e => exact rfl); (case v => exact rfl); (case n => decide); (try dsimp only)))
local macro_rules | `(tactic| walk_at "loadName") => `(tactic| (refine' lnm_loc ?H ?e ?_; (case H => assumption); (case e => walk_at "lk"); (try dsimp only)))
section
variable {prog : Program} {w : World} {A : Around} {E : Value → Shared → Prop} {s : Shared} {env : Env} {h₀ : Heap} {l : Own}

theorem take_stored {kvs : List (Str × Value)} (hn : (kvs.map (·.1)).Nodup) {i : Nat} {k : Str} {v : Value} (hi : kvs[i]? = some (k, v)) : stored (kvs.take i) k v = kvs.take (i + 1) := by
  have hlt : i < kvs.length := (List.getElem?_eq_some_iff.mp hi).1
  have hno : ((kvs.take i).any fun kv => decide (kv.1 = k)) = false := by
    rw [List.any_eq_false]
    intro p hp
    simp only [decide_eq_true_eq]
    intro e
    obtain ⟨j, hj⟩ := List.mem_iff_getElem?.mp hp
    have hji : j < i := by
      have := (List.getElem?_eq_some_iff.mp hj).1
      rw [List.length_take] at this; omega
    rw [List.getElem?_take_of_lt hji] at hj
    have e1 : (kvs.map (·.1))[j]? = some k := by rw [List.getElem?_map, hj, ← e]; rfl
    have e2 : (kvs.map (·.1))[i]? = some k := by rw [List.getElem?_map, hi]; rfl
    have := (List.getElem?_inj (by rw [List.length_map]; omega) hn).mp (e1.trans e2.symm)
    omega
  unfold stored
  rw [hno, List.take_add_one, hi]
  simp

theorem isi_int {n : Int} {t : Tok} {Q : Value → Shared → Prop} (h : Q (.bool false) { s with toks := s.toks + 1 }) : wpAny (model prog w) A (call (.builtin "isinstance") [.int n t, .type "tuple"]) Q E s :=
  call_isinstance (isinstance_false_int (by decide) (by rfl) (by rw [isSubtype_type]; kernel_rfl)) h

set_option maxHeartbeats 1000000
theorem add_spec {a b : Addr} {lt ls : List (Wd × Int)} {Q : Value → Shared → Prop} (G : Gr w s.heap) (ha : DI prog w s.heap a lt) (hb : DI prog w s.heap b ls) (hsz : lt.length + ls.length ≤ 1000)
    (hh : A.handled = none) (hroom : A.depth < recursionLimit)
    (h : ∀ d h' tk, (∀ b o, s.heap.get? b = some o → h'.get? b = some o) → s.heap.get? d = none → DI prog w h' d (addC lt ls) → Q (.ref d) { s with heap := h', toks := tk }) :
    wpAny (model prog w) A (call (.ref 28) [.ref a, .ref b]) Q E s := by
  refine enter (al := [("target", .ref a), ("source", .ref b)]) G hroom rfl rfl rfl rfl rfl rfl rfl (by decide) ?_ ?_
  · intro L p hp
    simp only [List.mem_cons, List.not_mem_nil, or_false] at hp
    rcases hp with rfl | rfl <;> rfl
  · intro L h₁ tk H
    replace H : St s.heap [(L, Loc [("target", .ref a), ("source", .ref b)])] h₁ := H
    obtain ⟨haS, ka, hma, Ra⟩ := ha
    obtain ⟨ea, hma⟩ := hma.dictAt
    obtain ⟨hbS, kb, hmb, Rb⟩ := hb
    obtain ⟨eb, hmb⟩ := hmb.dictAt
    iterate 2 walk1
    refine wpAny_Dict_empty ?_
    have H₁ := H.push { cls := .type "dict", data := .dict #[] } (φ := DP prog w []) ⟨#[], 0, ⟨rfl, rfl, rfl⟩, rfl, fun _ he => by simp at he, .nil, List.nodup_nil⟩
    have hDs : (h₁.objs.size == sysModules) = false := by
      have := (G.st H).size
      exact beq_eq_false_iff_ne.mpr (fun e => by rw [e] at this; exact absurd this (by decide))
    have hD0 : s.heap.get? h₁.objs.size = none := H₁.free (i := 1) rfl
    generalize h₁.objs.size = D at H₁ hDs hD0
    replace H₁ : St s.heap [(L, Loc [("target", .ref a), ("source", .ref b)]), (D, DP prog w [])] (h₁.push { cls := .type "dict", data := .dict #[] }) := H₁
    dsimp only
    walk1
    walk1
    have hna : (ka.map (·.1)).Nodup := hma.nodup
    have hnb : (kb.map (·.1)).Nodup := hmb.nodup
    refine for_items (l := [(D, DP prog w [])]) (h₀ := s.heap) hh haS hma (fun i al l _ => Has al "new_callers" (.ref D) ∧ Has al "source" (.ref b) ∧ l = [(D, DP prog w (ka.take i))]) (by assumption) ⟨by walk_at "lk", by walk_at "lk", rfl⟩ (fun Q' hQ' => ?_) ?_ ?_
    · walk1
      exact hQ'
    · rintro i k v u al l h₃ I h tk oI hv hk ⟨hn1, hn2, rfl⟩ H₃
      replace H₃ : St h₃ [(L, Loc (("caller", v) :: ("func", .str k u) :: al)), (D, DP prog w (ka.take i)), (I, Is oI)] h := H₃
      iterate 5 walk1
      refine setItem_own (i := 1) (D := D) (kvs := ka.take i) H₃ rfl (strKind_is prog w k u) ?_ ?_
      · rw [List.length_take, sizeLine_eq, Ra.length]; omega
      intro h' tk' H₄
      refine wpAny_execs_nil ?_
      refine' ⟨_, [(D, DP prog w (ka.take (i + 1)))], h₃, _, _, rfl, ?H, fun _ _ e => e, ?K, ?M, rfl⟩
      case H =>
        rw [take_stored hna hv] at H₄
        exact H₄
      case K => walk_at "lk"
      case M => walk_at "lk"
    · rintro al l h₃ h' tk hk ⟨hn1, hn2, rfl⟩ H₃
      rw [List.take_length] at H₃
      show wpAny _ _ (execs _ _) _ _ _
      walk1
      have G₃ : Gr w h₃ := G.keeps hk
      refine for_items (l := [(D, DP prog w ka)]) (h₀ := h₃) hh hbS (hmb.keep hk) (fun i al l _ => Has al "new_callers" (.ref D) ∧ ∃ kvs, l = [(D, DP prog w kvs)] ∧ Rel kvs (addC lt (ls.take i)) ∧ kvs.length ≤ lt.length + i) H₃
        ⟨by walk_at "lk", ka, rfl, Ra, by rw [Ra.length]; omega⟩ (fun Q' hQ' => ?_) ?_ ?_
      · walk1
        exact hQ'
      · rintro i k v u al l h₄ I h tk oI hv hk₄ ⟨hn1, kvs, rfl, R, hlen⟩ H₄
        have hi : i < kb.length := (List.getElem?_eq_some_iff.mp hv).1
        have hib := Rb.length
        obtain ⟨x, n, t', rfl, rfl, hl⟩ := Rb.at_ hv
        have G₄ : Gr w h₄ := G₃.keeps hk₄
        replace H₄ : St h₄ [(L, Loc (("caller", .int n t') :: ("func", .str (W x) u) :: al)), (D, DP prog w kvs), (I, Is oI)] h := H₄
        have hstep : addC lt (ls.take (i + 1)) = addOne (addC lt (ls.take i)) (x, n) := by
          unfold addC
          rw [List.take_add_one, hl]; simp
        iterate 5 walk1
        refine wpAny_in_of (strKind_is prog w (W x) u) hDs (dict_own H₄ (i := 1) rfl).mapOf ?_
        rw [R.isSome]
        refine wpAny_truthy_bool ?_
        cases hg : get (addC lt (ls.take i)) x with
        | none =>
          rw [if_neg (by simp)]
          dsimp only
          iterate 5 walk1
          refine setItem_own (i := 1) (D := D) (kvs := kvs) H₄ rfl (strKind_is prog w (W x) u) (by rw [sizeLine_eq]; omega) ?_
          intro h' tk' H₅
          iterate 2 refine wpAny_execs_nil ?_
          refine' ⟨_, [(D, DP prog w _)], h₄, _, _, rfl, H₅, fun _ _ e => e, by walk_at "lk", _, rfl, ?R, ?Z⟩
          case R =>
            rw [hstep]
            unfold addOne
            rw [hg]
            exact R.stored x n t'
          case Z =>
            have := stored_length_le kvs (W x) (.int n t')
            omega
        | some m =>
          rw [if_pos (show (some m).isSome = true from rfl)]
          dsimp only
          iterate 7 walk1
          iterate 4 walk1
          show wpAny _ _ (call (.builtin "isinstance") [.int n t', .type "tuple"]) _ _ _
          refine isi_int ?_
          refine wpAny_truthy_bool ?_
          rw [if_neg (by decide)]
          dsimp only
          iterate 4 walk1
          obtain ⟨tm, hm⟩ := R.valueAt_some hg
          refine wpAny_getItem_of (strKind_is prog w (W x) u) (dict_own H₄ (i := 1) rfl).mapOf hm ?_
          dsimp only
          iterate 2 walk1
          dsimp only
          refine setItem_own (i := 1) (D := D) (kvs := kvs) H₄ rfl (strKind_is prog w (W x) u) (by rw [sizeLine_eq]; omega) ?_
          intro h' tk' H₅
          iterate 3 refine wpAny_execs_nil ?_
          refine' ⟨_, [(D, DP prog w _)], h₄, _, _, rfl, H₅, fun _ _ e => e, by walk_at "lk", _, rfl, ?R, ?Z⟩
          case R =>
            rw [hstep]
            unfold addOne
            rw [hg]
            exact R.stored x (m + n) _
          case Z =>
            have := stored_length_le kvs (W x) (.int (m + n) (tk + 1 + 1 + 1))
            have := stored_length_le kvs (W x)
            refine Nat.le_trans (this _) (by omega)
      · rintro al l h₄ h' tk hk₄ ⟨hn1, kvs, rfl, R, hlen⟩ H₄
        rw [Rb.length, List.take_length] at R
        show wpAny _ _ (execs _ _) _ _ _
        iterate 3 walk1
        exact h _ _ _ (fun b o e => H₄.keep b o (hk₄ b o (hk b o e))) hD0 ⟨hDs, kvs, dict_own H₄ (i := 1) rfl, R⟩
end
end Mine
end

section
namespace Mine
open PySem PySem.W PyProof.Rows PySem.Calls
local macro_rules | `(tactic| walk_at "lk") => `(tactic| ((repeat (first | exact lookup_hit | refine Eq.trans (lookup_skip (by decide)) ?_)); (try assumption)))
local macro_rules | `(tactic| walk_at "gr") => `(tactic| (refine' Gr.st ?a ?b; (case b => assumption); (case a => assumption)))
local macro_rules | `(tactic| walk_at "storeName") => `(tactic| first
  | (refine' st_loc ?H ?_; (case H => assumption); intro _ _ _; (try dsimp only))
  | (refine' st_cell (i := 1) ?H ?c ?e ?_; (case H => assumption); (case c => exact rfl); (case e => exact rfl); intro _ H9; (simp only [List.set_cons_zero, List.set_cons_succ] at H9); (try dsimp only))
  | (refine' st_cell (i := 2) ?H ?c ?e ?_; (case H => assumption); (case c => exact rfl); (case e => exact rfl); intro _ H9; (simp only [List.set_cons_zero, List.set_cons_succ] at H9); (try dsimp only))
  | (refine' st_cell (i := 3) ?H ?c ?e ?_; (case H => assumption); (case c => exact rfl); (case e => exact rfl); intro _ H9; (simp only [List.set_cons_zero, List.set_cons_succ] at H9); (try dsimp only))
  | (refine' st_cell (i := 4) ?H ?c ?e ?_; (case H => assumption); (case c => exact rfl); (case e => exact rfl); intro _ H9; (simp only [List.set_cons_zero, List.set_cons_succ] at H9); (try dsimp only)))
local macro_rules | `(tactic| walk_at "eval Name") => `(tactic| first
  | (refine' nm_loc ?H ?e ?_; (case H => assumption); (case e => walk_at "lk"); (try dsimp only))
  | (refine' nm_cell (i := 1) ?H ?c ?e ?_; (case H => assumption); (case c => exact rfl); (case e => exact rfl); (try dsimp only))
  | (refine' nm_cell (i := 2) ?H ?c ?e ?_; (case H => assumption); (case c => exact rfl); (case e => exact rfl); (try dsimp only))
  | (refine' nm_cell (i := 3) ?H ?c ?e ?_; (case H => assumption); (case c => exact rfl); (case e => exact rfl); (try dsimp only))
  | (refine' nm_cell (i := 4) ?H ?c ?e ?_; (case H => assumption); (case c => exact rfl); (case e => exact rfl); (try dsimp only))
  | (refine' nm_glob ?g ?e ?_; (case g => walk_at "gr"); (case e => exact rfl); (try dsimp only))
  | (refine' nm_built ?g ?e ?v ?n ?_; (case g => walk_at "gr"); (case e => exact rfl); (case v => exact rfl); (case n => decide); (try dsimp only)))
local macro_rules | `(tactic| walk_at "loadName") => `(tactic| (refine' lnm_loc ?H ?e ?_; (case H => assumption); (case e => walk_at "lk"); (try dsimp only)))

def hmStep (p : Int × List (Wd × Int)) (x : Nat) : Int × List (Wd × Int) := (2 * p.1 - (get p.2 [x]).getD 0, put p.2 [x] p.1)
def howMany (x : Wd) : Int := (x.foldl hmStep (1, [])).1

section
variable {prog : Program} {w : World} {A : Around} {E : Value → Shared → Prop} {s : Shared} {env : Env} {h₀ : Heap} {l : Own}

set_option maxHeartbeats 1000000
theorem how_spec {x : Wd} {u : Tok} {Q : Value → Shared → Prop} (G : Gr w s.heap) (hx : ∀ c ∈ x, c < 128) (hlen : x.length ≤ 1000)
    (hh : A.handled = none) (hroom : A.depth < recursionLimit)
    (h : ∀ h' tk t, Up s.heap h' → Q (.int (howMany x) t) { s with heap := h', toks := tk }) :
    wpAny (model prog w) A (call (.ref 61) [.str (W x) u]) Q E s := by
  refine enter (al := [("word", .str (W x) u)]) G hroom rfl rfl rfl rfl rfl rfl rfl (by decide) ?_ ?_
  · intro L p hp
    simp only [List.mem_cons, List.not_mem_nil, or_false] at hp
    rcases hp with rfl <;> rfl
  · intro L h₁ tk H
    replace H : St s.heap [(L, Loc [("word", .str (W x) u)])] h₁ := H
    iterate 6 walk1
    refine dict_new G (by assumption) ?_
    intro D h₂ hDs hD0 H₂
    replace H₂ : St s.heap [(L, Loc _), (D, DP prog w [])] h₂ := H₂
    dsimp only
    iterate 2 walk1
    refine for_str (t := u) (h₀ := s.heap) hh hx (fun i l _ => ∃ al kvs t, l = [(L, Loc al), (D, DP prog w kvs)] ∧ Has al "ahead" (.ref D) ∧ Has al "count" (.int ((x.take i).foldl hmStep (1, [])).1 t) ∧ Rel kvs ((x.take i).foldl hmStep (1, [])).2 ∧ kvs.length ≤ i)
      (by assumption) ⟨_, _, _, rfl, by walk_at "lk", by walk_at "lk", Rel.nil, Nat.zero_le _⟩ (fun Q' hQ' => ?_) ?_ ?_
    · walk1
      exact hQ'
    · rintro i c t' l h₃ I h tk oI hc hk ⟨al, kvs, t, rfl, ha, hcn, R, hl⟩ H₃
      replace H₃ : St h₃ [(L, Loc al), (D, DP prog w kvs), (I, Is oI)] h := H₃
      have hi : i < x.length := (List.getElem?_eq_some_iff.mp hc).1
      have hstep : (x.take (i + 1)).foldl hmStep (1, []) = hmStep ((x.take i).foldl hmStep (1, [])) c := by rw [List.take_add_one, hc]; simp
      generalize (x.take i).foldl hmStep (1, []) = p at hcn R hstep
      refine wpAny_assign_Name ?_
      iterate 5 walk1
      iterate 4 walk1
      iterate 2 walk1
      refine mul_int ?_ (IntMulOk.of_left (by decide))
      dsimp only
      rename_i h9 tk9 H₄
      refine wpAny_Call_method2_late rfl rfl rfl ?_
      walk1
      refine ⟨"dict", "dict.get", F.plainAttrs_dict, F.slot_dict_get, F.type_dict_get, (dict_own H₄ (i := 1) rfl).typeIs, (dict_own H₄ (i := 1) rfl).mapOf.noDict, wpAny_dict_get2 (knd := strKind prog w) hDs ?_⟩
      iterate 2 walk1
      refine ⟨W [c], _, strKind_is prog w _ _, (dict_own H₄ (i := 1) rfl).mapOf, ?_⟩
      dsimp only
      obtain ⟨t9, e9⟩ := R.getD [c] 0 (tk9 + 1 + 1)
      rw [e9]
      iterate 2 walk1
      iterate 5 walk1
      rename_i h8 tk8 H₅
      refine setItem_own (i := 1) (D := D) (kvs := kvs) H₅ rfl (strKind_is prog w (W [c]) _) (by rw [sizeLine_eq]; omega) ?_
      intro h' tk' H₆
      refine wpAny_execs_nil ?_
      refine' ⟨[(L, Loc _), (D, DP prog w _)], h₃, _, _, rfl, H₆, fun _ _ e => e, _, _, _, rfl, ?a, ?c, ?R, ?Z⟩
      case a => walk_at "lk"
      case c =>
        rw [hstep]
        walk_at "lk"
      case R =>
        rw [hstep]
        exact R.stored [c] p.1 _
      case Z =>
        refine Nat.le_trans (stored_length_le kvs _ _) (by omega)
    · rintro l h₃ h' tk hk ⟨al, kvs, t, rfl, ha, hcn, R, hl⟩ H₃
      rw [List.take_length] at hcn
      show wpAny _ _ (execs _ _) _ _ _
      iterate 3 walk1
      exact h _ _ _ fun b o e => H₃.keep b o (hk b o e)
end
end Mine
end

section
namespace Mine
open PySem PySem.W PyProof.Rows PySem.Calls
local macro_rules | `(tactic| walk_at "lk") => `(tactic| ((repeat (first | exact lookup_hit | refine Eq.trans (lookup_skip (by decide)) ?_)); (try assumption)))
local macro_rules | `(tactic| walk_at "gr") => `(tactic| (refine' Gr.st ?a ?b; (case b => assumption); (case a => assumption)))
local macro_rules | `(tactic| walk_at "storeName") => `(tactic| first
  | (refine' st_loc ?H ?_; (case H => assumption); intro _ _ _; (try dsimp only))
  | (refine' st_cell (i := 1) ?H ?c ?e ?_; (case H => assumption); (case c => exact rfl); (case e => exact rfl); intro _ H9; (simp only [List.set_cons_zero, List.set_cons_succ] at H9); (try dsimp only))
  | (refine' st_cell (i := 2) ?H ?c ?e ?_; (case H => assumption); (case c => exact rfl); (case e => exact rfl); intro _ H9; (simp only [List.set_cons_zero, List.set_cons_succ] at H9); (try dsimp only))
  | (refine' st_cell (i := 3) ?H ?c ?e ?_; (case H => assumption); (case c => exact rfl); (case e => exact rfl); intro _ H9; (simp only [List.set_cons_zero, List.set_cons_succ] at H9); (try dsimp only))
  | (refine' st_cell (i := 4) ?H ?c ?e ?_; (case H => assumption); (case c => exact rfl); (case e => exact rfl); intro _ H9; (simp only [List.set_cons_zero, List.set_cons_succ] at H9); (try dsimp only)))
local macro_rules | `(tactic| walk_at "eval Name") => `(tactic| first
  | (refine' nm_loc ?H ?e ?_; (case H => assumption); (case e => walk_at "lk"); (try dsimp only))
  | (refine' nm_cell (i := 1) ?H ?c ?e ?_; (case H => assumption); (case c => exact rfl); (case e => exact rfl); (try dsimp only))
  | (refine' nm_cell (i := 2) ?H ?c ?e ?_; (case H => assumption); (case c => exact rfl); (case e => exact rfl); (try dsimp only))
  | (refine' nm_cell (i := 3) ?H ?c ?e ?_; (case H => assumption); (case c => exact rfl); (case e => exact rfl); (try dsimp only))
  | (refine' nm_cell (i := 4) ?H ?c ?e ?_; (case H => assumption); (case c => exact rfl); (case e => exact rfl); (try dsimp only))
  | (refine' nm_glob ?g ?e ?_; (case g => walk_at "gr"); (case e => exact rfl); (try dsimp only))
  | (refine' nm_built ?g ?e ?v ?n ?_; (case g => walk_at "gr"); (case e => exact rfl); (case v => exact rfl); (case n => decide); (try dsimp only)))
local macro_rules | `(tactic| walk_at "loadName") => `(tactic| (refine' lnm_loc ?H ?e ?_; (case H => assumption); (case e => walk_at "lk"); (try dsimp only)))
section
variable {prog : Program} {w : World} {A : Around} {E : Value → Shared → Prop} {s : Shared} {env : Env} {h₀ : Heap} {l : Own}

/-- what a predicate answers, wherever it is asked -/
def Asks (prog : Program) (w : World) (h : Heap) (dp : Nat) (f : Addr) (ws : List Wd) (p : Wd → Bool) : Prop :=
  ∀ (x : Wd) (t : Tok) (s₁ : Shared) (A₁ : Around) (Q₁ : Value → Shared → Prop), x ∈ ws → Up h s₁.heap → A₁.handled = none → A₁.depth ≤ dp →
    (∀ h' tk, Up s₁.heap h' → Q₁ (.bool (p x)) { s₁ with heap := h', toks := tk }) → wpAny (model prog w) A₁ (call (.ref f) [.str (W x) t]) Q₁ NoE s₁

set_option maxHeartbeats 1000000
theorem split_spec {a f : Addr} {ws : List Wd} {p : Wd → Bool} {fo : Obj} {fd : FuncData} {Q : Value → Shared → Prop} (G : Gr w s.heap) (ha : LS s.heap a ws) (hlen : ws.length ≤ 900) (hf : s.heap.get? f = some fo) (hfd : fo.data = .func fd)
    (hp : Asks prog w s.heap (A.depth + 1) f ws p) (hh : A.handled = none) (hroom : A.depth < recursionLimit)
    (h : ∀ T y n h' tk, Up s.heap h' → h'.get? T = some { cls := .type "tuple", data := .seq #[.ref y, .ref n] } → s.heap.get? y = none → LS h' y (ws.filter p) → Q (.ref T) { s with heap := h', toks := tk }) :
    wpAny (model prog w) A (call (.ref 49) [.ref a, .ref f]) Q E s := by
  refine enter (al := [("s", .ref a), ("predicate", .ref f)]) G hroom rfl rfl rfl rfl rfl rfl rfl (by decide) ?_ ?_
  · intro L q hp
    simp only [List.mem_cons, List.not_mem_nil, or_false] at hp
    rcases hp with rfl | rfl <;> rfl
  · intro L h₁ tk H
    replace H : St s.heap [(L, Loc [("s", .ref a), ("predicate", .ref f)])] h₁ := H
    obtain ⟨vs, hl, R⟩ := ha
    iterate 4 walk1
    refine newList_own (vs := []) H (by decide) ?_
    intro Y h₂ hY0 _ H₂
    dsimp only
    iterate 5 walk1
    refine newList_own (vs := []) (by assumption) (by decide) ?_
    intro N h₃ hN0 _ H₃
    dsimp only
    iterate 2 walk1
    refine for_list (h₀ := s.heap) hh hl (fun i l _ => ∃ al ys ns, l = [(L, Loc al), (Y, LstP ys), (N, LstP ns)] ∧ Has al "yes" (.ref Y) ∧ Has al "no" (.ref N) ∧ Has al "predicate" (.ref f) ∧ SRel ys ((ws.take i).filter p) ∧ ns.length ≤ i)
      (by assumption) ⟨_, _, _, rfl, by walk_at "lk", by walk_at "lk", by walk_at "lk", SRel.nil, Nat.zero_le _⟩ (fun Q' hQ' => ?_) ?_ ?_
    · walk1
      exact hQ'
    · rintro i v l h₄ I h tk oI hv hk ⟨al, ys, ns, rfl, hy, hn, hpr, Ry, hnl⟩ H₄
      obtain ⟨x, t, rfl, hx⟩ := R.at_ hv
      have hi : i < ws.length := (List.getElem?_eq_some_iff.mp hx).1
      have hxw : x ∈ ws := List.mem_of_getElem? hx
      have hyl : ys.length ≤ i := by
        rw [Ry.length]
        refine Nat.le_trans (List.length_filter_le _ _) ?_
        rw [List.length_take]; omega
      replace H₄ : St h₄ [(L, Loc al), (Y, LstP ys), (N, LstP ns), (I, Is oI)] h := H₄
      refine wpAny_assign_Name ?_
      iterate 6 walk1
      rename_i h₅ tk₅ H₅
      refine cw_fn ?_
      iterate 3 walk1
      refine ⟨⟨fo, fd, H₅.keep _ _ (hk _ _ hf), hfd⟩, ?_⟩
      refine hp x t _ _ _ hxw (fun b o e => H₅.keep _ _ (hk _ _ e)) hh (Nat.le_refl _) ?_
      intro h₆ tk₆ hk₆
      have H₆ := H₅.keeps hk₆
      refine wpAny_truthy_bool ?_
      dsimp only
      have hstep : (ws.take (i + 1)).filter p = (ws.take i).filter p ++ (if p x then [x] else []) := by
        rw [List.take_add_one, hx, List.filter_append]
        simp [List.filter_cons]
      cases hpx : p x with
      | true =>
        rw [if_pos rfl]
        rw [hpx] at hstep
        iterate 2 walk1
        refine wpAny_Call_append rfl rfl rfl rfl ?_
        walk1
        refine ⟨Y, _, rfl, plainL_own H₆ (i := 1) rfl, ?_⟩
        walk1
        refine append_own (i := 1) (vs := ys) H₆ rfl (by omega) ?_
        intro h₇ H₇
        iterate 2 refine wpAny_execs_nil ?_
        refine' ⟨[(L, Loc _), (Y, LstP _), (N, LstP _)], h₄, _, _, rfl, H₇, fun _ _ e => e, _, _, _, rfl, ?a, ?b, ?c, ?d, by omega⟩
        case a => walk_at "lk"
        case b => walk_at "lk"
        case c => walk_at "lk"
        case d => rw [hstep]; exact Ry.snoc
      | false =>
        rw [if_neg (by decide)]
        rw [hpx] at hstep
        iterate 2 walk1
        refine wpAny_Call_append rfl rfl rfl rfl ?_
        walk1
        refine ⟨N, _, rfl, plainL_own H₆ (i := 2) rfl, ?_⟩
        walk1
        refine append_own (i := 2) (vs := ns) H₆ rfl (by omega) ?_
        intro h₇ H₇
        iterate 2 refine wpAny_execs_nil ?_
        refine' ⟨[(L, Loc _), (Y, LstP _), (N, LstP _)], h₄, _, _, rfl, H₇, fun _ _ e => e, _, _, _, rfl, ?a, ?b, ?c, ?d, by rw [List.length_append]; simpa using hnl⟩
        case a => walk_at "lk"
        case b => walk_at "lk"
        case c => walk_at "lk"
        case d => rw [hstep]; simpa using Ry
    · rintro l h₄ h' tk hk ⟨al, ys, ns, rfl, hy, hn, hpr, Ry, hnl⟩ H₄
      show wpAny _ _ (execs _ _) _ _ _
      rw [R.length, List.take_length] at Ry
      iterate 8 walk1
      refine wpAny_newTuple ?_ (by rw [sizeLine_eq]; exact Nat.le_of_ble_eq_true rfl)
      refine h _ _ _ _ _ (fun b o e => Heap.get?_push_of_some _ (H₄.keep _ _ (hk _ _ e))) (Heap.get?_push_size _ rfl) hY0 ?_
      exact LS.keep ⟨ys, list_own H₄ (i := 1) rfl, Ry⟩ fun b o e => Heap.get?_push_of_some _ e
end
end Mine
end

section
namespace Mine
open PySem PySem.W PyProof.Rows PySem.Calls PySem.Builtin PySem.Builtin.Str
local macro_rules | `(tactic| walk_at "lk") => `(tactic| ((repeat (first | exact lookup_hit | refine Eq.trans (lookup_skip (by decide)) ?_)); (try assumption)))
local macro_rules | `(tactic| walk_at "gr") => `(tactic| (refine' Gr.st ?a ?b; (case b => assumption); (case a => assumption)))
local macro_rules | `(tactic| walk_at "storeName") => `(tactic| first
  | (refine' st_loc ?H ?_; (case H => assumption); intro _ _ _; (try dsimp only))
  | (refine' st_cell (i := 1) ?H ?c ?e ?_; (case H => assumption); (case c => exact rfl); (case e => exact rfl); intro _ H9; (simp only [List.set_cons_zero, List.set_cons_succ] at H9); (try dsimp only))
  | (refine' st_cell (i := 2) ?H ?c ?e ?_; (case H => assumption); (case c => exact rfl); (case e => exact rfl); intro _ H9; (simp only [List.set_cons_zero, List.set_cons_succ] at H9); (try dsimp only))
  | (refine' st_cell (i := 3) ?H ?c ?e ?_; (case H => assumption); (case c => exact rfl); (case e => exact rfl); intro _ H9; (simp only [List.set_cons_zero, List.set_cons_succ] at H9); (try dsimp only))
  | (refine' st_cell (i := 4) ?H ?c ?e ?_; (case H => assumption); (case c => exact rfl); (case e => exact rfl); intro _ H9; (simp only [List.set_cons_zero, List.set_cons_succ] at H9); (try dsimp only)))
local macro_rules | `(tactic| walk_at "eval Name") => `(tactic| first
  | (refine' nm_loc ?H ?e ?_; (case H => assumption); (case e => walk_at "lk"); (try dsimp only))
  | (refine' nm_cell (i := 1) ?H ?c ?e ?_; (case H => assumption); (case c => exact rfl); (case e => exact rfl); (try dsimp only))
  | (refine' nm_cell (i := 2) ?H ?c ?e ?_; (case H => assumption); (case c => exact rfl); (case e => exact rfl); (try dsimp only))
  | (refine' nm_cell (i := 3) ?H ?c ?e ?_; (case H => assumption); (case c => exact rfl); (case e => exact rfl); (try dsimp only))
  | (refine' nm_cell (i := 4) ?H ?c ?e ?_; (case H => assumption); (case c => exact rfl); (case e => exact rfl); (try dsimp only))
  | (refine' nm_glob ?g ?e ?_; (case g => walk_at "gr"); (case e => exact rfl); (try dsimp only))
  | (refine' nm_built ?g ?e ?v ?n ?_; (case g => walk_at "gr"); (case e => exact rfl); (case v => exact rfl); (case n => decide); (try dsimp only)))
local macro_rules | `(tactic| walk_at "loadName") => `(tactic| (refine' lnm_loc ?H ?e ?_; (case H => assumption); (case e => walk_at "lk"); (try dsimp only)))

theorem dots_eq : Str.ofString "..." = W dots := by decide
theorem split_pat {x : Wd} (h : Ok x) : Txt.split (W (pat x)) (W dots) = (pieces x).map W := eq_of_beq (List.all_eq_true.mp split_pat_all x h.mem)
theorem in_pat {x : Wd} (h : Ok x) : (occurrences (W (pat x)) (W dots) 0 (W (pat x)).length 1).isEmpty = false := by
  have := List.all_eq_true.mp in_pat_all x h.mem
  simpa using this
theorem pat_length (x : Wd) : (pat x).length = 3 + 4 * x.length := by
  unfold pat dots
  rw [List.length_append, List.length_flatMap]
  simp
  induction x with
  | nil => rfl
  | cons c x ih => simp; omega

theorem pieces_flatten (x : Wd) : (pieces x).flatten = x := by
  unfold pieces
  rw [List.flatten_append, List.flatten_cons]
  simp only [List.nil_append, List.flatten_cons, List.flatten_nil, List.append_nil]
  induction x with
  | nil => rfl
  | cons c x ih => rw [List.map_cons, List.flatten_cons, ih]; rfl
theorem pieces_mem {x z : Wd} (h : z ∈ pieces x) : z = [] ∨ ∃ c, z = [c] := by
  unfold pieces at h
  simp only [List.cons_append, List.mem_cons, List.mem_append, List.mem_map, List.not_mem_nil, or_false] at h
  rcases h with h | ⟨c, _, h⟩ | h
  · exact .inl h
  · exact .inr ⟨c, h.symm⟩
  · exact .inl h

section
variable {prog : Program} {w : World} {A : Around} {E : Value → Shared → Prop} {s : Shared} {env : Env} {h₀ : Heap} {l : Own}

theorem truthy_nil {t : Tok} {Q : Bool → Shared → Prop} (h : ∀ tk, Q false { s with toks := tk }) : wpAny (model prog w) A (truthy (.str (W []) t)) Q E s :=
  P.truthy_str (by rw [W_length]; decide) (h _)

set_option maxHeartbeats 4000000
theorem match_spec {x y : Wd} {t u : Tok} {Q : Value → Shared → Prop} (G : Gr w s.heap) (hx : Ok x) (hy : y.length ≤ 1000) (hh : A.handled = none) (hroom : A.depth < recursionLimit)
    (h : ∀ h' tk, Up s.heap h' → Q (.bool (sub x y)) { s with heap := h', toks := tk }) :
    wpAny (model prog w) A (call (.ref 21) [.str (W (pat x)) t, .str (W y) u]) Q E s := by
  refine enter (al := [("want", .str (W (pat x)) t), ("got", .str (W y) u)]) G hroom rfl rfl rfl rfl rfl rfl rfl (by decide) ?_ ?_
  · intro L p hp
    simp only [List.mem_cons, List.not_mem_nil, or_false] at hp
    rcases hp with rfl | rfl <;> rfl
  · intro L h₁ tk H
    replace H : St s.heap [(L, Loc [("want", .str (W (pat x)) t), ("got", .str (W y) u)])] h₁ := H
    iterate 6 walk1
    rw [dots_eq, in_pat hx]
    refine wpAny_truthy_bool ?_
    rw [if_neg (by decide)]
    refine wpAny_execs_nil ?_
    iterate 4 walk1
    iterate 5 walk1
    rw [dots_eq]
    refine split_rule (y := W dots) H (by decide) (by rw [W_length, pat_length]; have := hx.1; omega) ?_
    intro D h₂ h' tk' hk₂ hD H₂
    rw [split_pat hx, List.map_map] at hD
    have e : (pieces x).map ((fun x : Str => x.cps.toList) ∘ W) = pieces x := by
      simp [Function.comp_def, W]
    rw [e] at hD
    have G₂ : Gr w h₂ := G.keeps hk₂
    dsimp only
    iterate 4 walk1
    iterate 6 walk1
    rename_i H₃
    have hpl : (pieces x).length = x.length + 2 := by unfold pieces; simp
    have hx4 := hx.1
    refine len_LS (hD.keep H₃.keep) (by rw [hpl]; omega) ?_
    intro t3 tk3
    dsimp only
    iterate 2 walk1
    refine wpAny_truthy_bool ⟨decide_eq_true (by rw [hpl]; omega), ?_⟩
    dsimp only
    iterate 2 walk1
    iterate 3 walk1
    iterate 7 walk1
    refine len_W (by omega) ?_
    intro t4 tk4
    dsimp only
    walk1
    refine wpAny_newTuple ?_ (by rw [sizeLine_eq]; exact Nat.le_of_ble_eq_true rfl)
    refine wpAny_unpackItems_tuple (items := #[_, _]) hh ⟨_, Heap.get?_push_size _ rfl, rfl, 0, rfl⟩ ?_
    intro h₄ hx₄
    have H₄ := H₃.keeps (h' := h₄) (fun b o e => hx₄ b o (by rw [Heap.size_push]; exact Nat.ne_of_lt (Nat.lt_succ_of_lt (Heap.lt_size e))) (Heap.get?_push_of_some _ e))
    clear hx₄
    dsimp only
    iterate 7 walk1
    iterate 5 walk1
    rename_i h₅ tk₅ H₅
    refine item_LS (hD.keep H₅.keep) (by decide) (by rw [hpl]; omega) (x := []) rfl ?_
    intro t5
    iterate 5 walk1
    refine truthy_nil fun tk6 => ?_
    rw [if_neg (by decide)]
    refine wpAny_execs_nil ?_
    dsimp only
    iterate 7 walk1
    rename_i h₆ tk₆ H₆
    refine last_LS (ws := [] :: x.map fun c => [c]) (x := []) (hD.keep H₆.keep) (by simp; omega) ?_
    intro t6
    dsimp only
    iterate 5 walk1
    refine truthy_nil fun tk7 => ?_
    rw [if_neg (by decide)]
    refine wpAny_execs_nil ?_
    dsimp only
    iterate 6 walk1
    refine wpAny_truthy_bool ?_
    rw [if_neg (by simp)]
    refine wpAny_execs_nil ?_
    dsimp only
    walk1
    rename_i h₇ tk₇ H₇
    obtain ⟨vs, hl, R⟩ := hD
    refine for_list (h₀ := h₂) hh hl (fun i l _ => ∃ al p t8 t9, l = [(L, Loc al)] ∧ Has al "got" (.str (W y) u) ∧ Has al "startpos" (.int (p : Nat) t8) ∧ Has al "endpos" (.int (y.length : Nat) t9) ∧ p ≤ y.length ∧ sub ((pieces x).drop i).flatten (y.drop p) = sub x y)
      H₇ ⟨_, 0, _, _, rfl, by walk_at "lk", by walk_at "lk", by walk_at "lk", Nat.zero_le _, by rw [List.drop_zero, List.drop_zero, pieces_flatten]⟩ (fun Q' hQ' => ?_) ?_ ?_
    · walk1
      exact hQ'
    · rintro i v l h₈ I h8 tk8 oI hv hk₈ ⟨al, p, t8, t9, rfl, hgot, hsp, hep, hp, hsub⟩ H₈
      obtain ⟨z, tz, rfl, hz⟩ := R.at_ hv
      have hzl : z ∈ pieces x := List.mem_of_getElem? hz
      have hdrop : (pieces x).drop i = z :: (pieces x).drop (i + 1) := by
        obtain ⟨hlt, e⟩ := List.getElem?_eq_some_iff.mp hz
        rw [List.drop_eq_getElem_cons hlt, e]
      rw [hdrop, List.flatten_cons] at hsub
      replace H₈ : St h₈ [(L, Loc al), (I, Is oI)] h8 := H₈
      refine wpAny_assign_Name ?_
      iterate 6 walk1
      iterate 8 walk1
      refine find4 ?_
      rw [fromIndex_nat, fromIndex_nat, W_length, Nat.min_self]
      have key : (∃ q : Nat, firstOr (occurrences (W y) (W z) p (W y).length 1) = (q : Int) ∧ q + z.length ≤ y.length ∧ sub ((pieces x).drop (i + 1)).flatten (y.drop (q + z.length)) = sub x y) ∨
          (firstOr (occurrences (W y) (W z) p (W y).length 1) = -1 ∧ sub x y = false) := by
        rcases pieces_mem hzl with rfl | ⟨c, rfl⟩
        · exact .inl ⟨p, find_empty y p hp, hp, hsub⟩
        · rcases find_letter y c p with ⟨e, hn⟩ | ⟨k, e, hpk, hk, hn⟩
          · exact .inr ⟨e, hsub.symm.trans (sub_from_none hn)⟩
          · refine .inl ⟨k, e, (List.getElem?_eq_some_iff.mp hk).1, ?_⟩
            rw [← hsub]
            exact (sub_from_step hpk hk hn).symm
      rw [W_length] at key
      have G₈ : Gr w h₈ := G₂.keeps hk₈
      rcases key with ⟨q, e, hq, hs⟩ | ⟨e, hs⟩
      · rw [e]
        dsimp only
        iterate 7 walk1
        refine wpAny_truthy_bool ?_
        rw [if_neg (by simp)]
        refine wpAny_execs_nil ?_
        dsimp only
        iterate 9 walk1
        refine len_W (x := z) (by omega) ?_
        intro t10 tk10
        dsimp only
        iterate 2 walk1
        refine wpAny_execs_nil ?_
        refine' ⟨[(L, Loc _)], h₈, _, _, rfl, ?H, fun _ _ e => e, _, q + z.length, _, _, rfl, ?a, ?b, ?c, hq, hs⟩
        case H => assumption
        case a => walk_at "lk"
        case b =>
          have e9 : ((q + z.length : Nat) : Int) = (q : Int) + (z.length : Int) := by omega
          rw [e9]
          walk_at "lk"
        case c => walk_at "lk"
      · rw [e]
        dsimp only
        iterate 7 walk1
        rename_i h₉ tk₉ H₉
        refine wpAny_truthy_bool ?_
        rw [if_pos (by decide)]
        iterate 3 walk1
        rw [hs] at h
        exact h _ _ fun b o e => H₉.keep b o (hk₈ b o (hk₂ b o e))
    · rintro l h₈ h8 tk8 hk₈ ⟨al, p, t8, t9, rfl, hgot, hsp, hep, hp, hsub⟩ H₈
      rw [R.length, List.drop_length] at hsub
      have hs : sub x y = true := hsub.symm.trans (by rw [List.flatten_nil, sub])
      show wpAny _ _ (execs _ _) _ _ _
      iterate 3 walk1
      rw [hs] at h
      exact h _ _ fun b o e => H₈.keep b o (hk₈ b o (hk₂ b o e))
end
end Mine
end

section
namespace Mine
open PySem PySem.W PyProof.Rows PySem.Calls PySem.Builtin PySem.Builtin.Str
local macro_rules | `(tactic| walk_at "lk") => `(tactic| ((repeat (first | exact lookup_hit | refine Eq.trans (lookup_skip (by decide)) ?_)); (try assumption)))
local macro_rules | `(tactic| walk_at "gr") => `(tactic| (refine' Gr.st ?a ?b; (case b => assumption); (case a => assumption)))
local macro_rules | `(tactic| walk_at "storeName") => `(tactic| first
  | (refine' st_loc ?H ?_; (case H => assumption); intro _ _ _; (try dsimp only))
  | (refine' st_cell (i := 1) ?H ?c ?e ?_; (case H => assumption); (case c => exact rfl); (case e => exact rfl); intro _ H9; (simp only [List.set_cons_zero, List.set_cons_succ] at H9); (try dsimp only))
  | (refine' st_cell (i := 2) ?H ?c ?e ?_; (case H => assumption); (case c => exact rfl); (case e => exact rfl); intro _ H9; (simp only [List.set_cons_zero, List.set_cons_succ] at H9); (try dsimp only))
  | (refine' st_cell (i := 3) ?H ?c ?e ?_; (case H => assumption); (case c => exact rfl); (case e => exact rfl); intro _ H9; (simp only [List.set_cons_zero, List.set_cons_succ] at H9); (try dsimp only))
  | (refine' st_cell (i := 4) ?H ?c ?e ?_; (case H => assumption); (case c => exact rfl); (case e => exact rfl); intro _ H9; (simp only [List.set_cons_zero, List.set_cons_succ] at H9); (try dsimp only)))
local macro_rules | `(tactic| walk_at "eval Name") => `(tactic| first
  | (refine' nm_loc ?H ?e ?_; (case H => assumption); (case e => walk_at "lk"); (try dsimp only))
  | (refine' nm_cell (i := 1) ?H ?c ?e ?_; (case H => assumption); (case c => exact rfl); (case e => exact rfl); (try dsimp only))
  | (refine' nm_cell (i := 2) ?H ?c ?e ?_; (case H => assumption); (case c => exact rfl); (case e => exact rfl); (try dsimp only))
  | (refine' nm_cell (i := 3) ?H ?c ?e ?_; (case H => assumption); (case c => exact rfl); (case e => exact rfl); (try dsimp only))
  | (refine' nm_cell (i := 4) ?H ?c ?e ?_; (case H => assumption); (case c => exact rfl); (case e => exact rfl); (try dsimp only))
  | (refine' nm_glob ?g ?e ?_; (case g => walk_at "gr"); (case e => exact rfl); (try dsimp only))
  | (refine' nm_built ?g ?e ?v ?n ?_; (case g => walk_at "gr"); (case e => exact rfl); (case v => exact rfl); (case n => decide); (try dsimp only)))
local macro_rules | `(tactic| walk_at "loadName") => `(tactic| (refine' lnm_loc ?H ?e ?_; (case H => assumption); (case e => walk_at "lk"); (try dsimp only)))

section
variable {prog : Program} {w : World} {A : Around} {E : Value → Shared → Prop} {s : Shared} {env : Env} {h₀ : Heap} {l : Own}

/-- a call of a def that takes the rest of its arguments as a tuple -/
theorem enterV {a : Addr} {o : Obj} {fd : FuncData} {body : List Stmt} {vals rest : List Value} {bs : Value → List (Str × Value)} {Q : Value → Shared → Prop}
    {al : Value → List (Str × Value)} (G : Gr w s.heap) (hroom : A.depth < recursionLimit) (ho : (hd.heap_39 w.params).lookup a = some o) (hdata : o.data = .func fd) (hcd : codeIn (hd.heap_39 w.params) fd.code fd.qualname = true)
    (hbody : fd.body = .stmts body) (hbind : bindArgs fd ⟨vals, []⟩ = (newTuple rest >>= fun t => pure (bs t))) (hclo : fd.closure = []) (hrest : rest.length ≤ 1000)
    (hkind : ∀ t, ((bs t).all fun y => fd.scope.names.lookup y.1 == some .local || fd.scope.names.lookup y.1 == some .cell) = true)
    (hnd : ((cellsFrom 0 fd.scope.names []).map (·.1)).Nodup)
    (ha : ∀ L t, ∀ p ∈ al t, bindL (callEnvC fd L a).kindOf (bs t) (fun _ => none) p.1 = some p.2)
    (h : ∀ L T h₀ h₁ tk, Up s.heap h₀ → h₀.IsTuple T rest.toArray → St h₀ ((L, Loc (al (.ref T))) :: (cellsFrom (L + 1) fd.scope.names []).map fun nc => (nc.2, CellP (bindC (callEnvC fd L a).kindOf (bs (.ref T)) (fun _ => none) nc.1))) h₁ →
      wpAny (model prog w) (A.deeper (callEnvC fd L a)) (execs body (callEnvC fd L a)) (fun f s' => Q (match f with | .ret v => v | _ => .none) s') NoE { s with heap := h₁, toks := tk })
    (hco : fd.scope.isCoroutine = false := by rfl) (hgen : fd.scope.isGenerator = false := by rfl) (hk : fd.scope.kind = .function := by rfl) :
    wpAny (model prog w) A (call (.ref a) vals) Q E s := by
  refine wpAny_call (codeAny_call_function hroom (G.X _ _ ho) hdata hco hgen hbody (codeRec_of G.X hcd) ?_)
  rw [hbind, hclo]
  refine wpAny_bind (wpAny_newTuple (wpAny_pure ?_) (by rw [sizeLine_eq]; omega))
  have hk0 : Up s.heap (s.heap.push { cls := .type "tuple", data := .seq rest.toArray }) := fun b o e => Heap.get?_push_of_some _ e
  refine wpAny_newFunctionEnv_cells hk (kindsX (hkind _) _) fun env he s' X => ?_
  subst he
  refine ⟨(G.keeps hk0).nolimit.keeps X.toInCall.keep, codeAny_func ?_⟩
  obtain ⟨h₁, tk, rfl, _⟩ := X.done
  have H := cells_mem X (cellsFrom_names fd.scope.names 0 _ [] [] rfl ▸ hnd) (al := al (.ref s.heap.objs.size)) fun x v e => ha _ _ (x, v) (mem_of_lookup e)
  exact wpAny_mono (h _ s.heap.objs.size _ h₁ tk hk0 ⟨_, Heap.get?_push_size _ rfl, rfl, _, rfl⟩ H) (fun f s' q => q) fun _ _ x => x.elim

theorem seqIdx {k n : Nat} (h : k < n) : seqIndex? (k : Int) n = some k := by
  unfold seqIndex?
  have h1 : ¬ (k : Int) < 0 := by omega
  simp only [h1, if_false]
  simp
  omega

theorem strsAre_of : ∀ {vs : List Value} {ws : List Wd}, SRel vs ws → StrsAre vs (ws.map W)
  | [], [], _ => .nil
  | [], _ :: _, R => by cases R
  | v :: vs, [], R => by cases R
  | v :: vs, x :: ws, R => by
    unfold SRel at R
    rw [List.map_cons, List.map_cons] at R
    injection R with h1 h2
    obtain ⟨t, rfl⟩ := unStr_some h1
    exact .cons (W x) t (strsAre_of h2)

theorem join_rule {z : Wd} {t : Tok} {D : Addr} {ps : List Str} {Q : Value → Shared → Prop} (hl : LS s.heap D (ps.map fun x => x.cps.toList)) (hok : (ps.map (·.length)).sum + ps.length * z.length ≤ 16777216)
    (h : ∀ t' k, Q (.str (Txt.join (W z) ps) t') { s with toks := k }) : wpAny (model prog w) A (call (.builtin "str.join") [.str (W z) t, .ref D]) Q E s := by
  obtain ⟨vs, hv, R⟩ := hl
  have e : (ps.map fun x => x.cps.toList).map W = ps := by
    rw [List.map_map]
    have : (W ∘ fun x : Str => x.cps.toList) = _root_.id := funext fun x => W_toList x
    rw [this, List.map_id]
  have hi := strsAre_of R
  rw [e] at hi
  exact join_list hv (by simpa using hi) (by rw [W_length]; exact hok) h

/-- a tuple without its first two -/
theorem tup_from2 {value slice : Expr} {L T : Addr} {al : List (Str × Value)} {items : List Value} {u : Tok} {sl : Addr} {Q : Value → Shared → Prop} (H : St h₀ [(L, Loc al)] s.heap) (hT : h₀.IsTuple T items.toArray) (h2 : 2 ≤ items.length) (hlen : items.length ≤ 1000)
    (hsl : s.heap.IsSliceOf sl (.int 2 u) .none .none)
    (h : ∀ T' h₁ h', Up h₀ h₁ → h₁.IsTuple T' (items.drop 2).toArray → St h₁ [(L, Loc al)] h' → Q (.ref T') { s with heap := h' })
    (hs : subscripted slice false (.ref T) (.ref sl) = operate [.ref sl, .ref T] (getItem (.ref T) (.ref sl)) := by with_unfolding_all rfl)
    (hg : ∀ r, letTemporaryGo value (.ref T) r = pure () := by intro _; with_unfolding_all rfl) :
    wpAny (model prog w) A (subscriptTail value slice (.ref T) (.ref sl)) Q E s := by
  have ht' : IsTup s.heap T items.toArray := let ⟨o, ho, r⟩ := hT; ⟨o, H.keep _ _ ho, r⟩
  refine subscriptTail_ops ht'.typeIs slot_tuple_getitem.lookup (getItem_tuple_from (a := 2) ht' hsl (by decide) (by simpa using h2) ?_ (by rw [sizeLine_eq]; simp; omega)) hs hg
  have H' := H.keeps (h' := s.heap.push { cls := .type "tuple", data := .seq (items.toArray.toList.drop 2).toArray }) (fun b o e => Heap.get?_push_of_some _ e)
  obtain ⟨h₁, H₁, hk, hgd⟩ := H'.rebase
  refine h _ h₁ _ hk ⟨_, hgd _ _ (Heap.get?_push_size _ rfl) ?_, rfl, _, rfl⟩ H₁
  intro p hp e
  have := H.lt hp
  rw [← e] at this
  exact Nat.lt_irrefl _ this

set_option maxHeartbeats 2000000
theorem replace_spec {x : Wd} {t ta tA tb tB tc tC : Tok} {Q : Value → Shared → Prop} (G : Gr w s.heap) (hx : Ok x) (hh : A.handled = none) (hroom : A.depth < recursionLimit)
    (h : ∀ h' tk t', Up s.heap h' → Q (.str (W (x.flatMap fun c => c :: dots)) t') { s with heap := h', toks := tk }) :
    wpAny (model prog w) A (call (.ref 42) [.str (W x) t, .str (W (sp 0)) ta, .str (W (jn 0)) tA, .str (W (sp 1)) tb, .str (W (jn 1)) tB, .str (W (sp 2)) tc, .str (W (jn 2)) tC]) Q E s := by
  refine enterV (rest := [.str (W (sp 0)) ta, .str (W (jn 0)) tA, .str (W (sp 1)) tb, .str (W (jn 1)) tB, .str (W (sp 2)) tc, .str (W (jn 2)) tC]) (bs := fun T => [("text", .str (W x) t), ("pairs", T)]) (al := fun T => [("text", .str (W x) t), ("pairs", T)]) G hroom rfl rfl rfl rfl rfl rfl (Nat.le_of_ble_eq_true rfl) (fun t => rfl) (by decide) ?_ ?_
  · intro L T p hp
    simp only [List.mem_cons, List.not_mem_nil, or_false] at hp
    rcases hp with rfl | rfl <;> rfl
  · intro L T h₀ h₁ tk hk₀ hT H
    replace H : St h₀ [(L, Loc [("text", .str (W x) t), ("pairs", .ref T)])] h₁ := H
    obtain ⟨rest, hrest⟩ : ∃ rest, rest = [Value.str (W (sp 0)) ta, .str (W (jn 0)) tA, .str (W (sp 1)) tb, .str (W (jn 1)) tB, .str (W (sp 2)) tc, .str (W (jn 2)) tC] := ⟨_, rfl⟩
    rw [← hrest] at hT
    have hlen : rest.length = 6 := by rw [hrest]; rfl
    have hpair : ∀ j, j < 3 → ∃ t1 t2, rest.drop (2 * j) = .str (W (sp j)) t1 :: .str (W (jn j)) t2 :: rest.drop (2 * (j + 1)) := by
      intro j hj
      rw [hrest]
      match j, hj with
      | 0, _ => exact ⟨_, _, rfl⟩
      | 1, _ => exact ⟨_, _, rfl⟩
      | 2, _ => exact ⟨_, _, rfl⟩
    clear hrest
    walk1
    refine wpAny_While ?_
    refine codeAny_whileLoop (fun n s' => ∃ j h₂ h' tk al T t', n = 3 - j ∧ j ≤ 3 ∧ s' = { s with heap := h', toks := tk } ∧ Up h₀ h₂ ∧ St h₂ [(L, Loc al)] h' ∧ Has al "text" (.str (W (tx x j)) t') ∧ Has al "pairs" (.ref T) ∧ h₂.IsTuple T (rest.drop (2 * j)).toArray)
      ?_ 3 ⟨0, h₀, h₁, tk, _, T, t, rfl, by decide, rfl, fun _ _ e => e, H, lookup_hit, by walk_at "lk", hT⟩
    rintro n s' ⟨j, h₂, h', tk', al, T', t', rfl, hj, rfl, hk₂, H₂, htx, hpr, hT₂⟩
    refine wpAny_mono ?_ (fun _ _ x => x) (fun _ _ x => False.elim x)
    iterate 2 walk1
    have hTt : IsTup h' T' (rest.drop (2 * j)).toArray := let ⟨o, ho, r⟩ := hT₂; ⟨o, H₂.keep _ _ ho, r⟩
    have hsz : ((rest.drop (2 * j)).toArray.size : Int) < 2 ^ 63 := by rw [List.size_toArray, List.length_drop, hlen]; omega
    refine truthy_tuple hTt hsz ?_
    by_cases hj3 : j < 3
    · obtain ⟨t1, t2, hp⟩ := hpair j hj3
      rw [hp] at hTt hT₂ ⊢
      rw [if_pos (by simp)]
      refine wpAny_mono ?_ (fun _ _ x => x) (fun _ _ x => False.elim x)
      iterate 6 walk1
      refine item_tupleT (j := 1) (x := .str (W (jn j)) t2) hTt (by decide) (by decide) (seqIdx (k := 1) (by simp)) rfl ?_
      iterate 6 walk1
      iterate 5 walk1
      refine item_tupleT (j := 0) (x := .str (W (sp j)) t1) hTt (by decide) (by decide) (seqIdx (k := 0) (by simp)) rfl ?_
      walk1
      refine split_rule (y := W (sp j)) H₂ (sp_len j) (by rw [W_length]; exact Nat.le_trans (tx_length hx.1 j) (by decide)) ?_
      intro D h₃ h3 tk3 hk₃ hD H₃
      have hspl := split_len_sp (tx x j) j
      have hjl := jn_len j
      have htl := tx_length hx.1 j
      dsimp only
      walk1
      refine join_rule (hD.keep H₃.keep) (by rw [hjl]; omega) ?_
      intro t4 tk4
      rw [tx_step x hj3]
      dsimp only
      iterate 2 walk1
      rename_i h5 tk5 H₅
      iterate 8 walk1
      have hT₃ : h₃.IsTuple T' (Value.str (W (sp j)) t1 :: .str (W (jn j)) t2 :: rest.drop (2 * (j + 1))).toArray := let ⟨o, ho, r⟩ := hT₂; ⟨o, hk₃ _ _ ho, r⟩
      refine tup_from2 (H₅.keeps (fun b o e => Heap.get?_push_of_some _ e)) hT₃ (by simp) (by simp; omega) (Heap.IsSliceOf.new ..) ?_
      intro T₆ h₆ h6 hk₆ hT₆ H₆
      dsimp only
      walk1
      refine wpAny_execs_nil ?_
      refine' ⟨3 - (j + 1), by omega, j + 1, h₆, _, _, _, T₆, _, rfl, hj3, rfl, fun b o e => hk₆ b o (hk₃ b o (hk₂ b o e)), ?H, ?a, ?b, hT₆⟩
      case H => assumption
      case a => walk_at "lk"
      case b => walk_at "lk"
    · have hj3 : j = 3 := by omega
      subst hj3
      have hp : rest.drop (2 * 3) = [] := List.drop_eq_nil_of_le (by omega)
      rw [hp, if_neg (by simp)]
      refine wpAny_execs_nil ?_
      show wpAny _ _ (execs _ _) _ _ _
      dsimp only
      iterate 3 walk1
      rw [tx_last hx.2]
      exact h _ _ _ fun b o e => H₂.keep b o (hk₂ b o (hk₀ b o e))
end
end Mine
end

section
namespace Mine
open PySem PySem.W PyProof.Rows PySem.Calls
local macro_rules | `(tactic| walk_at "lk") => `(tactic| ((repeat (first | exact lookup_hit | refine Eq.trans (lookup_skip (by decide)) ?_)); (try assumption)))
local macro_rules | `(tactic| walk_at "gr") => `(tactic| first | assumption | (refine' Gr.st ?a ?b; (case b => assumption); (case a => assumption)))
local macro_rules | `(tactic| walk_at "storeName") => `(tactic| first
  | (refine' st_loc ?H ?_; (case H => assumption); intro _ _ _; (try dsimp only))
  | (refine' st_cell (i := 1) ?H ?c ?e ?_; (case H => assumption); (case c => exact rfl); (case e => exact rfl); intro _ H9; (simp only [List.set_cons_zero, List.set_cons_succ] at H9); (try dsimp only))
  | (refine' st_cell (i := 2) ?H ?c ?e ?_; (case H => assumption); (case c => exact rfl); (case e => exact rfl); intro _ H9; (simp only [List.set_cons_zero, List.set_cons_succ] at H9); (try dsimp only))
  | (refine' st_cell (i := 3) ?H ?c ?e ?_; (case H => assumption); (case c => exact rfl); (case e => exact rfl); intro _ H9; (simp only [List.set_cons_zero, List.set_cons_succ] at H9); (try dsimp only))
  | (refine' st_cell (i := 4) ?H ?c ?e ?_; (case H => assumption); (case c => exact rfl); (case e => exact rfl); intro _ H9; (simp only [List.set_cons_zero, List.set_cons_succ] at H9); (try dsimp only)))
local macro_rules | `(tactic| walk_at "eval Name") => `(tactic| first
  | (refine' nm_loc ?H ?e ?_; (case H => assumption); (case e => walk_at "lk"); (try dsimp only))
  | (refine' nm_cell (i := 1) ?H ?c ?e ?_; (case H => assumption); (case c => exact rfl); (case e => exact rfl); (try dsimp only))
  | (refine' nm_cell (i := 2) ?H ?c ?e ?_; (case H => assumption); (case c => exact rfl); (case e => exact rfl); (try dsimp only))
  | (refine' nm_cell (i := 3) ?H ?c ?e ?_; (case H => assumption); (case c => exact rfl); (case e => exact rfl); (try dsimp only))
  | (refine' nm_cell (i := 4) ?H ?c ?e ?_; (case H => assumption); (case c => exact rfl); (case e => exact rfl); (try dsimp only))
  | (refine' nmr_loc ?R ?e ?_; (case R => assumption); (case e => walk_at "lk"); (try dsimp only))
  | (refine' nmr_cell ?R ?e ?_; (case R => assumption); (case e => walk_at "lk"); (try dsimp only))
  | (refine' nmr_free ?R ?e ?_; (case R => assumption); (case e => walk_at "lk"); (try dsimp only))
  | (refine' nm_glob ?g ?e ?_; (case g => walk_at "gr"); (case e => exact rfl); (try dsimp only))
  | (refine' nm_built ?g ?e ?v ?n ?_; (case g => walk_at "gr"); (case e => exact rfl); (case v => exact rfl); (case n => decide); (try dsimp only)))
local macro_rules | `(tactic| walk_at "loadName") => `(tactic| (refine' lnm_loc ?H ?e ?_; (case H => assumption); (case e => walk_at "lk"); (try dsimp only)))
local macro_rules | `(tactic| walk_at "no such goal") => `(tactic| assumption)

def wordsStep (found : List Wd) (c : Wd) : List Wd := found ++ (found.map (· ++ c)).filter fun z => !found.contains z
def wordsP (tops : List Wd) : List Wd := tops.foldl wordsStep [[]]

theorem wordsStep_len (f : List Wd) (c : Wd) : (wordsStep f c).length ≤ 2 * f.length := by
  unfold wordsStep
  rw [List.length_append]
  have := List.length_filter_le (fun z => !f.contains z) (f.map (· ++ c))
  rw [List.length_map] at this
  omega
theorem wordsP_snoc (ts : List Wd) (c : Wd) : wordsP (ts ++ [c]) = wordsStep (wordsP ts) c := by unfold wordsP; rw [List.foldl_append]; rfl
theorem wordsP_len : ∀ (n : Nat) (ts : List Wd), ts.length = n → (wordsP ts).length ≤ 2 ^ n := by
  intro n
  induction n with
  | zero => intro ts h; rw [List.length_eq_zero_iff.mp h]; decide
  | succ n ih =>
    intro ts h
    rcases List.eq_nil_or_concat ts with rfl | ⟨ts', c, rfl⟩
    · cases h
    rw [List.concat_eq_append] at h ⊢
    rw [wordsP_snoc]
    have h1 := wordsStep_len (wordsP ts') c
    have h2 := ih ts' (by simpa using h)
    rw [Nat.pow_succ]; omega
theorem wordsP_small : ∀ (n : Nat) (ts : List Wd), ts.length = n → (∀ c ∈ ts, c.length = 1) → ∀ z ∈ wordsP ts, z.length ≤ n := by
  intro n
  induction n with
  | zero => intro ts h _ z hz; rw [List.length_eq_zero_iff.mp h] at hz; rw [List.mem_singleton.mp hz]; decide
  | succ n ih =>
    intro ts h hc z hz
    rcases List.eq_nil_or_concat ts with rfl | ⟨ts', c, rfl⟩
    · cases h
    rw [List.concat_eq_append] at h hc hz
    have ih := ih ts' (by simpa using h) fun d hd => hc d (List.mem_append_left _ hd)
    have hc1 := hc c (by simp)
    rw [wordsP_snoc] at hz
    unfold wordsStep at hz
    rcases List.mem_append.mp hz with hz | hz
    · have := ih z hz; omega
    · obtain ⟨y, hy, rfl⟩ := List.mem_map.mp (List.mem_filter.mp hz).1
      have := ih y hy
      rw [List.length_append]; omega

section
variable {prog : Program} {w : World} {A : Around} {E : Value → Shared → Prop} {s : Shared} {env : Env} {h₀ : Heap} {l : Own}

set_option maxHeartbeats 2000000
theorem words_spec {a : Addr} {tops : List Wd} {Q : Value → Shared → Prop} (G : Gr w s.heap) (ha : LS s.heap a tops) (hlen : tops.length ≤ 4) (hone : ∀ c ∈ tops, c.length = 1) (hh : A.handled = none) (hroom : A.depth < recursionLimit)
    (h : ∀ D h' tk, Up s.heap h' → s.heap.get? D = none → LS h' D (wordsP tops) → Q (.ref D) { s with heap := h', toks := tk }) :
    wpAny (model prog w) A (call (.ref 54) [.ref a]) Q E s := by
  refine enter (al := [("top", .ref a)]) G hroom rfl rfl rfl rfl rfl rfl rfl (by decide) ?_ ?_
  · intro L p hp
    simp only [List.mem_cons, List.not_mem_nil, or_false] at hp
    rcases hp with rfl <;> rfl
  · intro L h₁ tk H
    replace H : St s.heap [(L, Loc [("top", .ref a)]), (L + 1 + 1, CellP none), (L + 1, CellP none)] h₁ := H
    iterate 6 walk1
    refine wpAny_newList ?_ (by rw [sizeLine_eq]; exact Nat.le_of_ble_eq_true rfl)
    obtain ⟨h₂, H₂, hk₂, hg₂⟩ := H.pushB { cls := .type "list", data := .seq [Value.str (Str.ofString "") tk].toArray }
    have hD₂ : PLS h₂ h₁.objs.size [[]] := ⟨_, ⟨_, hg₂⟩, rfl⟩
    have hD0 : s.heap.get? h₁.objs.size = none := by
      cases e : s.heap.get? h₁.objs.size with
      | none => rfl
      | some o => exact absurd (H.base_lt e) (Nat.lt_irrefl _)
    generalize h₁.objs.size = D₀ at hD₂ hD0
    dsimp only
    iterate 2 walk1
    have G₂ : Gr w h₂ := G.keeps hk₂
    obtain ⟨vs, hl, R⟩ := ha.keep hk₂
    refine for_list (h₀ := h₂) hh hl (fun i l h => ∃ al D v, l = [(L, Loc al), (L + 1 + 1, CellP v), (L + 1, CellP (some (.ref D)))] ∧ PLS h D (wordsP (tops.take i)) ∧ s.heap.get? D = none)
      (by assumption) ⟨_, D₀, _, rfl, hD₂, hD0⟩ (fun Q' hQ' => ?_) ?_ ?_
    · walk1
      exact hQ'
    · rintro i v l h₃ I h3 tk3 oI hv hk₃ ⟨al, D, cv, rfl, hD, hDn⟩ H₃
      obtain ⟨c, tc, rfl, hc⟩ := R.at_ hv
      have hi : i < tops.length := (List.getElem?_eq_some_iff.mp hc).1
      have hcm : c ∈ tops := List.mem_of_getElem? hc
      have hstep : wordsP (tops.take (i + 1)) = wordsStep (wordsP (tops.take i)) c := by rw [List.take_add_one, hc]; exact wordsP_snoc _ c
      have htl : (tops.take i).length = i := by rw [List.length_take]; omega
      have hwl := wordsP_len i (tops.take i) htl
      have hws := wordsP_small i (tops.take i) htl fun d hd => hone d (List.mem_of_mem_take hd)
      have hc1 := hone c hcm
      generalize wordsP (tops.take i) = ws at hD hstep hwl hws
      have hws16 : ws.length ≤ 16 := Nat.le_trans hwl (Nat.le_trans (Nat.pow_le_pow_right (by decide) (by omega : i ≤ 4)) (by decide))
      replace H₃ : St h₃ [(L, Loc al), (L + 1 + 1, CellP cv), (L + 1, CellP (some (.ref D))), (I, Is oI)] h3 := H₃
      refine wpAny_assign_Name ?_
      iterate 5 walk1
      rename_i h₄ H₄
      have G₃ : Gr w h₃ := G₂.keeps hk₃
      obtain ⟨vd, hvd, Rd'⟩ := hD.ls.keep H₄.keep
      refine wpAny_ListComp_free (fun v => !ws.contains ((unStr v).getD [] ++ c)) (fun v y => ∃ x t, unStr v = some x ∧ y = .str (W (x ++ c)) t) (cl := [("letter", L + 1 + 1), ("found", L + 1)]) rfl (by decide) rfl (by decide) rfl ?_
      walk1
      refine wpAny_pyIter_list hvd ?_
      have hne : D ≠ h₄.objs.size := let ⟨_, ho, _⟩ := hvd; Nat.ne_of_lt (Heap.lt_size ho)
      refine ⟨_, _, _, _, _, _, rfl, Walks.list (A := A.deeper _) hh _ D hne vd.toArray, ?_, ⟨⟨_, Heap.get?_push_size _ rfl, rfl, rfl⟩, hvd.at fun o e => Heap.get?_push_of_some _ e⟩, ?_, ⟨?_, ?_⟩, ?_⟩
      · rw [List.size_toArray, sizeLine_eq, Rd'.length]; omega
      · intro b hb
        simp only [List.mem_cons, List.not_mem_nil, or_false] at hb
        rw [Heap.size_push]
        rcases hb with rfl | rfl
        · exact Nat.lt_succ_self _
        · exact Nat.lt_succ_of_lt (let ⟨_, ho, _⟩ := hvd; Heap.lt_size ho)
      · intro C j v s₃ m₃ E' hC hP hn hm hk _
        obtain ⟨z, t, rfl, hz⟩ := Rd'.at_ (by simpa using hP : vd[j]? = some v)
        have hzl := hws z (List.mem_of_getElem? hz)
        have hk' : Up h₄ s₃.heap := fun b o e => hk b o (by rw [List.mem_singleton]; exact Nat.ne_of_lt (Heap.lt_size e)) (Heap.get?_push_of_some _ e)
        have Rr := comp_rd (cl := [("letter", .str (W c) tc), ("found", .ref D)]) (clA := [("letter", L + 1 + 1), ("found", L + 1)]) H₄ hn hm hk' (by
          intro p hp
          simp only [List.mem_cons, List.not_mem_nil, or_false] at hp
          rcases hp with rfl | rfl
          · exact ⟨_, 1, rfl, rfl⟩
          · exact ⟨_, 2, rfl, rfl⟩)
        refine one_test ?_
        iterate 4 walk1
        refine add_W (by omega) ?_
        intro t' tk'
        walk1
        refine notIn_LS (hD.ls.keep fun b o e => hk' _ _ (H₄.keep _ _ e)) ?_
        refine wpAny_truthy_bool ⟨?_, _, _, rfl, fun _ _ e => e⟩
        rw [unStr_W]; rfl
      · intro C j v s₃ m₃ E' hC hP hp hn hm hk _
        obtain ⟨z, t, rfl, hz⟩ := Rd'.at_ (by simpa using hP : vd[j]? = some v)
        have hzl := hws z (List.mem_of_getElem? hz)
        have hk' : Up h₄ s₃.heap := fun b o e => hk b o (by rw [List.mem_singleton]; exact Nat.ne_of_lt (Heap.lt_size e)) (Heap.get?_push_of_some _ e)
        have Rr := comp_rd (cl := [("letter", .str (W c) tc), ("found", .ref D)]) (clA := [("letter", L + 1 + 1), ("found", L + 1)]) H₄ hn hm hk' (by
          intro p hp
          simp only [List.mem_cons, List.not_mem_nil, or_false] at hp
          rcases hp with rfl | rfl
          · exact ⟨_, 1, rfl, rfl⟩
          · exact ⟨_, 2, rfl, rfl⟩)
        iterate 3 walk1
        refine add_W (by omega) ?_
        intro t' tk'
        exact ⟨⟨z, t', unStr_W _ _, rfl⟩, _, _, rfl, fun _ _ e => e⟩
      · intro D' h5 tk5 ys vs' hD' hl' hpl hlen' hP hF hk
        have hvs : vs' = vd := ext_list hlen' hP
        subst hvs
        have hR : SRel ys.toList ((ws.map (· ++ c)).filter fun z => !ws.contains z) := by
          have := paired_srel (· ++ c) (fun x => !ws.contains (x ++ c)) Rd' hF
          rw [List.filter_map]
          exact this
        have hk' : Up h₄ h5 := fun b o e => hk b o (by rw [List.mem_singleton]; exact Nat.ne_of_lt (Heap.lt_size e)) (Heap.get?_push_of_some _ e)
        have hPL' : PLS h5 D' ((ws.map (· ++ c)).filter fun z => !ws.contains z) := ⟨ys.toList, by simpa using hpl, hR⟩
        have H₅ := H₄.keeps hk'
        dsimp only
        refine add_PLS (hD.keep H₅.keep) hPL' (by have := List.length_filter_le (fun z => !ws.contains z) (ws.map (· ++ c)); rw [List.length_map] at this; omega) ?_
        intro vs6 R6
        obtain ⟨h₆, H₆, hk₆, hg₆⟩ := H₅.pushB { cls := .type "list", data := .seq vs6.toArray }
        have hD6 : PLS h₆ h5.objs.size (wordsStep ws c) := ⟨_, ⟨_, hg₆⟩, R6⟩
        have hD60 : s.heap.get? h5.objs.size = none := by
          cases e : s.heap.get? h5.objs.size with
          | none => rfl
          | some o => exact absurd (H₅.base_lt (hk₃ _ _ (hk₂ _ _ e))) (Nat.lt_irrefl _)
        generalize h5.objs.size = D6 at hD6 hD60
        dsimp only
        walk1
        refine wpAny_execs_nil ?_
        refine' ⟨[(L, Loc al), (L + 1 + 1, CellP _), (L + 1, CellP _)], h₆, _, _, rfl, ?H, hk₆, al, D6, _, rfl, ?D, hD60⟩
        case H => assumption
        case D => rw [hstep]; exact hD6
    · rintro l h₃ h' tk3 hk₃ ⟨al, D, cv, rfl, hD, hDn⟩ H₃
      rw [R.length, List.take_length] at hD
      show wpAny _ _ (execs _ _) _ _ _
      iterate 3 walk1
      exact h _ _ _ (fun b o e => H₃.keep b o (hk₃ b o (hk₂ b o e))) hDn (hD.keep H₃.keep).ls
end
end Mine
end

section
namespace Mine
open PySem PySem.W PyProof.Rows PySem.Calls

/-- a dict from texts to texts, as far as it is asked -/
def DS (prog : Program) (w : World) (h : Heap) (d : Addr) (xs : List Wd) (f : Wd → Wd) : Prop :=
  ∃ kvs, h.DictOf (strKind prog w) d kvs ∧ ∀ x ∈ xs, ∃ t, valueAt kvs (W x) = some (.str (W (f x)) t)
theorem DS.keep {prog : Program} {w : World} {h h' : Heap} {d : Addr} {xs : List Wd} {f : Wd → Wd} (D : DS prog w h d xs f) (hk : Up h h') : DS prog w h' d xs f :=
  let ⟨kvs, a, b⟩ := D; ⟨kvs, a.keep hk, b⟩
theorem DS.at {prog : Program} {w : World} {h h' : Heap} {d : Addr} {xs : List Wd} {f : Wd → Wd} (D : DS prog w h d xs f) (hk : ∀ o, h.get? d = some o → h'.get? d = some o) : DS prog w h' d xs f :=
  let ⟨kvs, a, b⟩ := D; ⟨kvs, a.at hk, b⟩

theorem valueAt_put {kvs : List (Str × Value)} {k k' : Str} {v : Value} : valueAt (stored kvs k v) k' = if k = k' then some v else valueAt kvs k' := by
  unfold valueAt stored
  by_cases ha : (kvs.any fun kv => decide (kv.1 = k)) = true
  · rw [if_pos ha]
    induction kvs with
    | nil => simp at ha
    | cons p kvs ih =>
      rw [List.map_cons, List.find?_cons, List.find?_cons]
      by_cases hp : p.1 = k
      · simp only [hp, if_true]
        by_cases hk : k = k'
        · simp [hk]
        · simp only [hk, decide_false, if_false]
          by_cases ha' : (kvs.any fun kv => decide (kv.1 = k)) = true
          · have := ih ha'
            rw [if_neg hk] at this
            exact this
          · have e : (kvs.map fun kv => if kv.1 = k then (kv.1, v) else kv) = kvs := by
              conv => rhs; rw [← List.map_id kvs]
              apply List.map_congr_left
              intro q hq
              have : q.1 ≠ k := fun e => ha' (List.any_eq_true.mpr ⟨q, hq, by simp [e]⟩)
              simp [this]
            rw [e]
      · simp only [hp, if_false]
        have ha' : (kvs.any fun kv => decide (kv.1 = k)) = true := by simpa [List.any_cons, hp] using ha
        by_cases hk : p.1 = k'
        · have : k ≠ k' := fun e => hp (hk.trans e.symm)
          simp [hk, this]
        · simp only [hk, decide_false]
          exact ih ha'
  · rw [if_neg ha, List.find?_append]
    by_cases hk : k = k'
    · have : kvs.find? (fun kv => decide (kv.1 = k')) = none := by
        rw [List.find?_eq_none]
        intro q hq e
        exact ha (List.any_eq_true.mpr ⟨q, hq, by rw [hk]; exact e⟩)
      rw [this]
      simp [hk]
    · cases kvs.find? (fun kv => decide (kv.1 = k')) <;> simp [hk]

/-- where a walk's items are texts -/
def Src (prog : Program) (w : World) (A : Around) (s : Shared) (a : Addr) (xs : List Wd) : Prop :=
  ∃ n o P S, n = xs.length ∧ Walks prog w A s.heap.objs.size [s.heap.objs.size, a] [s.heap.objs.size] n P S ∧ S 0 (s.heap.push o) ∧ a < s.heap.objs.size ∧
    (∀ i v, P i v → ∃ x t, v = .str (W x) t ∧ xs[i]? = some x) ∧ ∀ Q E, Q (.ref s.heap.objs.size) { s with heap := s.heap.push o } → wpAny (model prog w) A (pyIter (.ref a)) Q E s

abbrev FKs (fk : Wd → Wd) : Value → Str → Prop := fun v k => ∃ x t, v = .str (W x) t ∧ k = W (fk x)
abbrev FVs (FV : Wd → Value → Prop) : Value → Value → Prop := fun v u => ∃ x t, v = .str (W x) t ∧ FV x u

theorem stored_ints {fk : Wd → Wd} {fv : Wd → Int} {vs : List Value} {xs : List Wd} {kvs : List (Str × Value)} (h : StoredAll (FKs fk) (FVs fun x u => ∃ t, u = .int (fv x) t) vs kvs) (R : SRel vs xs) (hn : (xs.map fk).Nodup) : Rel kvs (xs.map fun x => (fk x, fv x)) := by
  refine stored_rel h (by rw [R.length, List.length_map]) (fun j v p hv hp => ?_) (by rw [List.map_map]; exact hn)
  obtain ⟨x, t, rfl, hx⟩ := R.at_ hv
  rw [List.getElem?_map, hx] at hp
  cases hp
  refine ⟨fun k hk => ?_, fun y hy => ?_⟩
  · obtain ⟨x', t', e, rfl⟩ := hk
    injection e with e _
    rw [W_inj e]
  · obtain ⟨x', t', e, t2, rfl⟩ := hy
    injection e with e _
    exact ⟨t2, by rw [W_inj e]⟩

theorem stored_texts {f : Wd → Wd} {vs : List Value} {kvs : List (Str × Value)} (h : StoredAll (FKs id) (FVs fun x u => ∃ t, u = .str (W (f x)) t) vs kvs) : ∀ {xs : List Wd}, SRel vs xs → ∀ x ∈ xs, ∃ t, valueAt kvs (W x) = some (.str (W (f x)) t) := by
  induction h with
  | nil => intro xs R x hx; cases xs with
    | nil => cases hx
    | cons _ _ => cases R
  | @snoc l kvs v k y hS hk hy ih =>
    intro xs R x hx
    obtain ⟨x1, t1, rfl, rfl⟩ := hk
    obtain ⟨x2, t2, e, t3, rfl⟩ := hy
    injection e with e _
    cases W_inj e
    rw [valueAt_put]
    show ∃ t, (if W x1 = W x then _ else _) = _
    by_cases hxx : x1 = x
    · subst hxx
      rw [if_pos rfl]
      exact ⟨t3, rfl⟩
    · rw [if_neg (fun e => hxx (W_inj e))]
      rcases List.eq_nil_or_concat xs with rfl | ⟨xs', z, rfl⟩
      · cases hx
      rw [List.concat_eq_append] at R hx
      unfold SRel at R
      rw [List.map_append, List.map_append] at R
      have hR := List.append_inj' R rfl
      refine ih (xs := xs') hR.1 x ?_
      rcases List.mem_append.mp hx with hx | hx
      · exact hx
      · rw [List.mem_singleton] at hx
        subst hx
        have := hR.2
        rw [List.map_singleton, unStr_W] at this
        injection this with h1
        injection h1 with h1
        exact absurd h1 hxx

section
variable {prog : Program} {w : World} {A : Around} {E : Value → Shared → Prop} {s : Shared} {env : Env}

theorem src_keys {d : Addr} {l : List (Wd × Int)} (hh : A.handled = none) (D : DI prog w s.heap d l) : Src prog w A s d (l.map (·.1)) := by
  obtain ⟨hs, kvs, hm, R⟩ := D
  obtain ⟨ep, hm⟩ := hm.dictAt
  refine ⟨_, _, _, _, by rw [List.length_map, R.length], Walks.dictKeys hh _ d (Nat.ne_of_lt hm.lt_size) kvs ep, ⟨⟨_, Heap.get?_push_size _ rfl, rfl, rfl⟩, hm.push _⟩, hm.lt_size, ?_, fun Q E hq => wpAny_pyIter_dict hs hm hq⟩
  rintro i v ⟨k, y, hk, hv⟩
  obtain ⟨x, n, t, rfl, rfl, hl⟩ := R.at_ hk
  obtain ⟨t', rfl⟩ := Value.isStrOf_shape hv
  exact ⟨x, t', rfl, by rw [List.getElem?_map, hl]; rfl⟩

theorem src_list {a : Addr} {ws : List Wd} (hh : A.handled = none) (D : LS s.heap a ws) : Src prog w A s a ws := by
  obtain ⟨vs, hl, R⟩ := D
  have hlt : a < s.heap.objs.size := let ⟨_, ho, _⟩ := hl; Heap.lt_size ho
  refine ⟨_, _, _, _, by rw [List.size_toArray, R.length], Walks.list hh _ a (Nat.ne_of_lt hlt) vs.toArray, ⟨⟨_, Heap.get?_push_size _ rfl, rfl, rfl⟩, hl.at fun o e => Heap.get?_push_of_some _ e⟩, hlt, ?_, fun Q E hq => wpAny_pyIter_list hl hq⟩
  intro i v hv
  obtain ⟨x, t, rfl, hx⟩ := R.at_ (by simpa using hv : vs[i]? = some v)
  exact ⟨x, t, rfl, hx⟩

theorem quiet_src {scope : Scope} {cl : List (Str × Addr)} {y : Str} {kx vx : Expr} {P : Nat → Value → Prop} {xs : List Wd} {fk : Wd → Wd} {FV : Wd → Value → Prop} {h : Heap} {o : Obj} {s₂ : Shared} {wr : List Addr}
    (hP : ∀ i v, P i v → ∃ x t, v = .str (W x) t ∧ xs[i]? = some x) (hs₂ : s₂.heap = h.push o) (hwr : wr = [h.objs.size])
    (key : ∀ C x t s₃ m₃ E', x ∈ xs → s₃.heap.Ns C m₃ → m₃ y = some (.str (W x) t) → Up h s₃.heap → wpAny (model prog w) A (eval kx (compEnvC scope cl C env)) (fun key s₄ => (∃ t', key = .str (W (fk x)) t') ∧ Keeps s₃ s₄) E' s₃)
    (val : ∀ C x t s₃ m₃ E', x ∈ xs → s₃.heap.Ns C m₃ → m₃ y = some (.str (W x) t) → Up h s₃.heap → wpAny (model prog w) A (eval vx (compEnvC scope cl C env)) (fun u s₄ => FV x u ∧ Keeps s₃ s₄) E' s₃) :
    QuietOnCD (strKind prog w) A env scope cl y [] kx vx wr P (fun _ => true) (FKs fk) (FVs FV) s₂ := by
  subst hwr
  have up : ∀ s₃ : Shared, (∀ b o, b ∉ [h.objs.size] → s₂.heap.get? b = some o → s₃.heap.get? b = some o) → Up h s₃.heap := fun s₃ hk b o e =>
    hk b o (by rw [List.mem_singleton]; exact Nat.ne_of_lt (Heap.lt_size e)) (by rw [hs₂]; exact Heap.get?_push_of_some _ e)
  refine ⟨fun C i v s₃ m₃ E' _ _ _ _ => no_test rfl, fun C i v s₃ m₃ E' hv _ hn hm hk => ?_, fun C i v s₃ m₃ E' hv _ hn hm hk => ?_⟩
  · obtain ⟨x, t, rfl, hx⟩ := hP i v hv
    refine wpAny_mono (key C x t s₃ m₃ E' (List.mem_of_getElem? hx) hn hm (up _ hk)) (fun k s₄ ⟨⟨t', e⟩, hk'⟩ => ⟨⟨W (fk x), ?_, x, t, rfl, rfl⟩, hk'⟩) fun _ _ e => e
    rw [e]; exact strKind_is prog w _ _
  · obtain ⟨x, t, rfl, hx⟩ := hP i v hv
    exact wpAny_mono (val C x t s₃ m₃ E' (List.mem_of_getElem? hx) hn hm (up _ hk)) (fun k s₄ ⟨e, hk'⟩ => ⟨⟨x, t, rfl, e⟩, hk'⟩) fun _ _ e => e

theorem srel_of_P {vs : List Value} {xs : List Wd} (hl : vs.length = xs.length) (hP : ∀ (j : Nat) (v : Value), vs[j]? = some v → ∃ x t, v = .str (W x) t ∧ xs[j]? = some x) : SRel vs xs := by
  unfold SRel
  apply List.ext_getElem?
  intro j
  rw [List.getElem?_map, List.getElem?_map]
  cases e : vs[j]? with
  | none =>
    rw [List.getElem?_eq_none_iff] at e
    rw [List.getElem?_eq_none (by omega)]; rfl
  | some v =>
    obtain ⟨x, t, rfl, hx⟩ := hP j v e
    rw [hx]
    show some (unStr _) = some (some x)
    rw [unStr_W]

theorem dcomp_src {a : Addr} {xs : List Wd} {fk : Wd → Wd} {FV : Wd → Value → Prop} {kx vx iter : Expr} {y : Str} {px : Pos} {scope : Scope} {cl : List (Str × Addr)} {pos : Pos} {Q : Value → Shared → Prop}
    (S : Src prog w A s a xs) (hsz : xs.length ≤ 100000) (hclos : closureFor scope env = pure cl) (hcell : ∀ y ∈ scope.names, y.2 ≠ .cell) (hkind : scope.kind = .function)
    (hnames : ∀ y ∈ scope.names, y.2 = .local → scope.names.lookup y.1 = some .local) (hx : scope.names.lookup y = some .local)
    (hi : ∀ Q', Q' (.ref a) s → wpAny (model prog w) A (eval iter env) Q' E s)
    (key : ∀ C x t s₃ m₃ E', x ∈ xs → s₃.heap.Ns C m₃ → m₃ y = some (.str (W x) t) → Up s.heap s₃.heap → wpAny (model prog w) A (eval kx (compEnvC scope cl C env)) (fun key s₄ => (∃ t', key = .str (W (fk x)) t') ∧ Keeps s₃ s₄) E' s₃)
    (val : ∀ C x t s₃ m₃ E', x ∈ xs → s₃.heap.Ns C m₃ → m₃ y = some (.str (W x) t) → Up s.heap s₃.heap → wpAny (model prog w) A (eval vx (compEnvC scope cl C env)) (fun u s₄ => FV x u ∧ Keeps s₃ s₄) E' s₃)
    (h : ∀ D h' tk kvs vs, Up s.heap h' → s.heap.get? D = none → h'.DictOf (strKind prog w) D kvs → StoredAll (FKs fk) (FVs FV) vs kvs → SRel vs xs → Q (.ref D) { s with heap := h', toks := tk })
    (hs : ∀ x, foldedSetIterable iter env x = pure x := by intro _; rfl) :
    wpAny (model prog w) A (eval (.DictComp kx vx [⟨.Name y px, iter, [], 0⟩] scope pos) env) Q E s := by
  obtain ⟨n, o, P, Sw, rfl, Wk, h0, hlt, hP, hit⟩ := S
  refine wpAny_DictComp_free (strKind prog w) (fun _ => true) (FKs fk) (FVs FV) hclos hcell hkind hnames hx (hi _ (hit _ _ ?_)) hs
  refine ⟨_, _, _, _, _, _, rfl, Wk, by rw [sizeLine_eq]; omega, h0, ?_, quiet_src hP rfl rfl key val, ?_⟩
  · intro b hb
    simp only [List.mem_cons, List.not_mem_nil, or_false] at hb
    rw [Heap.size_push]
    rcases hb with rfl | rfl
    · exact Nat.lt_succ_self _
    · exact Nat.lt_succ_of_lt hlt
  · intro D h' tk kvs vs hD hdD hlen hPv hF hk
    rw [List.filter_eq_self.mpr fun _ _ => rfl] at hF
    refine h D h' tk kvs vs (fun b o e => hk b o (by rw [List.mem_singleton]; exact Nat.ne_of_lt (Heap.lt_size e)) (Heap.get?_push_of_some _ e)) ?_ hdD hF (srel_of_P hlen fun j v hv => hP j v (hPv j v hv))
    cases e : s.heap.get? D with
    | none => rfl
    | some o' => rw [Heap.get?_push_of_some _ e] at hD; cases hD

theorem assign_src {a : Addr} {xs : List Wd} {fk : Wd → Wd} {FV : Wd → Value → Prop} {kx vx iter : Expr} {y z : Str} {px pz : Pos} {scope : Scope} {cl : List (Str × Addr)} {pos spos : Pos} {Q : Flow → Shared → Prop} {h₀ : Heap} {l : Own} {al : List (Str × Value)}
    (H : St h₀ ((env.locals, Loc al) :: l) s.heap)
    (S : Src prog w A s a xs) (hsz : xs.length ≤ 100000) (hsw : swapsWith (.DictComp kx vx [⟨.Name y px, iter, [], 0⟩] scope pos) (some (.Name z pz)) spos.line env = pure true) (hclos : closureFor scope env = pure cl) (hcell : ∀ y ∈ scope.names, y.2 ≠ .cell) (hkind : scope.kind = .function)
    (hnames : ∀ y ∈ scope.names, y.2 = .local → scope.names.lookup y.1 = some .local) (hx : scope.names.lookup y = some .local) (hz : env.kindOf z = some .local)
    (hp : (env.scope.kind == .class || (env.scope.kind == .module && env.locals != env.globals)) = false)
    (hi : ∀ Q', Q' (.ref a) s → wpAny (model prog w) A (eval iter env) Q' E s)
    (key : ∀ C x t s₃ m₃ E', x ∈ xs → s₃.heap.Ns C m₃ → m₃ y = some (.str (W x) t) → Up s.heap s₃.heap → wpAny (model prog w) A (eval kx (compEnvC scope cl C env)) (fun key s₄ => (∃ t', key = .str (W (fk x)) t') ∧ Keeps s₃ s₄) E' s₃)
    (val : ∀ C x t s₃ m₃ E', x ∈ xs → s₃.heap.Ns C m₃ → m₃ y = some (.str (W x) t) → Up s.heap s₃.heap → wpAny (model prog w) A (eval vx (compEnvC scope cl C env)) (fun u s₄ => FV x u ∧ Keeps s₃ s₄) E' s₃)
    (h : ∀ D h₁ h' tk kvs vs, Up h₀ h₁ → h₀.get? D = none → h₁.DictOf (strKind prog w) D kvs → StoredAll (FKs fk) (FVs FV) vs kvs → SRel vs xs → St h₁ ((env.locals, Loc ((z, .ref D) :: al)) :: l) h' → Q .next { s with heap := h', toks := tk })
    (hs : ∀ x, foldedSetIterable iter env x = pure x := by intro _; rfl) :
    wpAny (model prog w) A (exec (.Assign [.Name z pz] (.DictComp kx vx [⟨.Name y px, iter, [], 0⟩] scope pos) spos) env) Q E s := by
  obtain ⟨n, o, P, Sw, rfl, Wk, h0, hlt, hP, hit⟩ := S
  obtain ⟨m, hn, hf⟩ := ns_of H (i := 0) rfl
  refine assign_dictComp (strKind prog w) (fun _ => true) (FKs fk) (FVs FV) hsw hclos hcell hkind hnames hx hz hp (hi _ (hit _ _ ?_)) hs
  refine ⟨_, _, _, _, _, _, m, rfl, Wk, by rw [sizeLine_eq]; omega, h0, ?_, ?_, hn.push _, quiet_src hP rfl rfl key val, ?_⟩
  · intro b hb
    simp only [List.mem_cons, List.not_mem_nil, or_false] at hb
    rw [Heap.size_push]
    rcases hb with rfl | rfl
    · exact Nat.lt_succ_self _
    · exact Nat.lt_succ_of_lt hlt
  · rw [List.mem_singleton]
    exact Nat.ne_of_lt (H.lt (.head _))
  · intro D h' tk kvs vs hD hdD hlen hPv hF hnL hk
    rw [List.filter_eq_self.mpr fun _ _ => rfl] at hF
    have hDs : s.heap.get? D = none := by
      cases e : s.heap.get? D with
      | none => rfl
      | some o' => rw [Heap.get?_push_of_some _ e] at hD; cases hD
    have H₁ : St h₀ ((env.locals, Loc ((z, .ref D) :: al)) :: l) h' := by
      refine H.set (i := 0) rfl (fun b o hb e => hk b o hb (by rw [List.mem_singleton]; exact Nat.ne_of_lt (Heap.lt_size e)) (Heap.get?_push_of_some _ e)) (loc_of_ns hnL fun x v e => ?_)
      rw [List.lookup_cons] at e
      by_cases hy : x = z
      · subst hy; simpa using e
      · have : (x == z) = false := by simpa using hy
        rw [this] at e
        simpa [hy] using hf x v e
    obtain ⟨h₁, H₂, hk₂, hg₂⟩ := H₁.rebase
    refine h D h₁ h' tk kvs vs hk₂ ?_ (hdD.at fun o e => hg₂ _ _ e fun p hp q => ?_) hF (srel_of_P hlen fun j v hv => hP j v (hPv j v hv)) H₂
    · cases e : h₀.get? D with
      | none => rfl
      | some o => rw [H.keep _ _ e] at hDs; cases hDs
    · have : ∃ o, s.heap.get? p.1 = some o := by
        rcases List.mem_cons.mp hp with rfl | hp
        · exact let ⟨o, ho, _⟩ := H.get (i := 0) rfl; ⟨o, ho⟩
        · exact let ⟨o, ho, _⟩ := H.has p (.tail _ hp); ⟨o, ho⟩
      obtain ⟨o, ho⟩ := this
      rw [← q, hDs] at ho; cases ho
end
end Mine
end

section
namespace Mine
open PySem PySem.W PyProof.Rows PySem.Calls
section
variable {V : Type} [Add V] [Neg V]
def rbrKept (x : Wd) (T : List (Wd × V)) (k : Nat) : List (Wd × V) := T.map fun p => (p.1 ++ [x.getD k 0], p.2)
def rbrNeg (T : List (Wd × V)) : List (Wd × V) := T.map fun p => (p.1, -p.2)
def rbrSame (x : Wd) (k : Nat) : Bool := decide (0 < k) && decide (x.getD (k - 1) 0 = x.getD k 0)
def rbrStep (x : Wd) (T : List (Wd × V)) (k : Nat) : List (Wd × V) := if rbrSame x k = true then rbrKept x T k else addC (rbrKept x T k) (rbrNeg T)
def rbrTo (x : Wd) (n : V) (i : Nat) : List (Wd × V) := (List.range i).foldl (rbrStep x) [([], n)]
def rbr (x : Wd) (n : V) : List (Wd × V) := rbrTo x n x.length
theorem rbrTo_succ (x : Wd) (n : V) (i : Nat) : rbrTo x n (i + 1) = rbrStep x (rbrTo x n i) i := by
  unfold rbrTo
  rw [List.range_succ, List.foldl_append]; rfl
end
theorem put_len {V : Type} (l : List (Wd × V)) (k : Wd) (v : V) : (put l k v).length ≤ l.length + 1 := by
  unfold put
  split
  · rw [List.length_map]; omega
  · rw [List.length_append]; exact Nat.le_refl _
theorem addC_len {V : Type} [Add V] (s : List (Wd × V)) : ∀ t : List (Wd × V), (addC t s).length ≤ t.length + s.length := by
  induction s with
  | nil => intro t; exact Nat.le_refl _
  | cons p s ih =>
    intro t
    have h1 : (addOne t p).length ≤ t.length + 1 := by
      unfold addOne
      split
      · exact put_len _ _ _
      · exact put_len _ _ _
    have h2 := ih (addOne t p)
    show (addC (addOne t p) s).length ≤ _
    rw [List.length_cons]; omega
theorem rbrTo_len {V : Type} [Add V] [Neg V] (x : Wd) (n : V) : ∀ i, (rbrTo x n i).length ≤ 2 ^ i
  | 0 => Nat.le_refl _
  | i + 1 => by
    have ih := rbrTo_len x n i
    rw [rbrTo_succ]
    unfold rbrStep
    have e : (rbrKept x (rbrTo x n i) i).length = (rbrTo x n i).length := List.length_map _
    have e' : (rbrNeg (rbrTo x n i)).length = (rbrTo x n i).length := List.length_map _
    rw [Nat.pow_succ]
    split
    · omega
    · have := addC_len (rbrNeg (rbrTo x n i)) (rbrKept x (rbrTo x n i) i)
      omega

theorem keys_map {V : Type} {l : List (Wd × V)} (hn : (l.map (·.1)).Nodup) (g : Wd → Wd) (f : V → V) (d : V) : (l.map (·.1)).map (fun x => (g x, f ((get l x).getD d))) = l.map fun p => (g p.1, f p.2) := by
  rw [List.map_map]
  apply List.map_congr_left
  intro p hp
  obtain ⟨j, hj⟩ := List.mem_iff_getElem?.mp hp
  have := get_of_nodup hn (x := p.1) (i := p.2) hj
  show (g p.1, f ((get l p.1).getD d)) = _
  rw [this]; rfl
theorem get_mem {V : Type} {l : List (Wd × V)} {x : Wd} (h : x ∈ l.map (·.1)) : ∃ v, get l x = some v := by
  cases e : get l x with
  | some v => exact ⟨v, rfl⟩
  | none =>
    unfold get at e
    rw [Option.map_eq_none_iff, List.find?_eq_none] at e
    obtain ⟨p, hp, rfl⟩ := List.mem_map.mp h
    exact absurd (e p hp) (by simp)
theorem DI.nodup {prog : Program} {w : World} {h : Heap} {d : Addr} {l : List (Wd × Int)} (D : DI prog w h d l) : (l.map (·.1)).Nodup := by
  obtain ⟨_, kvs, hm, R⟩ := D
  obtain ⟨ep, hm⟩ := hm.dictAt
  exact R.nodup hm.nodup
theorem nodup_map_inj {xs : List Wd} (h : xs.Nodup) {g : Wd → Wd} (hg : ∀ a b, g a = g b → a = b) : (xs.map g).Nodup := by
  exact List.Pairwise.map _ (fun a b hab e => hab (hg a b e)) h
theorem put_keys {V : Type} {l : List (Wd × V)} {k : Wd} {v : V} {x : Wd} (h : x ∈ (put l k v).map (·.1)) : x = k ∨ x ∈ l.map (·.1) := by
  unfold put at h
  split at h
  · obtain ⟨p, hp, rfl⟩ := List.mem_map.mp h
    obtain ⟨q, hq, rfl⟩ := List.mem_map.mp hp
    by_cases e : q.1 = k
    · rw [if_pos e]; exact .inl e
    · rw [if_neg e]; exact .inr (List.mem_map_of_mem hq)
  · rw [List.map_append, List.mem_append] at h
    rcases h with h | h
    · exact .inr h
    · exact .inl (by simpa using h)
theorem addC_keys {V : Type} [Add V] (s : List (Wd × V)) : ∀ {t : List (Wd × V)} {x : Wd}, x ∈ (addC t s).map (·.1) → x ∈ t.map (·.1) ∨ x ∈ s.map (·.1) := by
  induction s with
  | nil => intro t x h; exact .inl h
  | cons p s ih =>
    intro t x h
    rcases ih (t := addOne t p) (x := x) h with h | h
    · have : x = p.1 ∨ x ∈ t.map (·.1) := by
        unfold addOne at h
        split at h
        · exact put_keys h
        · exact put_keys h
      rcases this with e | e
      · exact .inr (by rw [e, List.map_cons]; exact .head _)
      · exact .inl e
    · exact .inr (by rw [List.map_cons]; exact .tail _ h)
theorem rbrTo_keys {V : Type} [Add V] [Neg V] (x : Wd) (n : V) : ∀ i, ∀ y ∈ (rbrTo x n i).map (·.1), y.length ≤ i
  | 0 => by intro y hy; rw [List.mem_singleton.mp hy]; exact Nat.le_refl _
  | i + 1 => by
    intro y hy
    have ih := rbrTo_keys x n i
    have hkept : ∀ y ∈ (rbrKept x (rbrTo x n i) i).map (·.1), y.length ≤ i + 1 := by
      intro y hy
      unfold rbrKept at hy
      rw [List.map_map] at hy
      obtain ⟨p, hp, rfl⟩ := List.mem_map.mp hy
      have := ih p.1 (List.mem_map_of_mem hp)
      show (p.1 ++ [_]).length ≤ _
      rw [List.length_append]; exact Nat.succ_le_succ this
    rw [rbrTo_succ] at hy
    unfold rbrStep at hy
    split at hy
    · exact hkept y hy
    · rcases addC_keys _ hy with hy | hy
      · exact hkept y hy
      · unfold rbrNeg at hy
        rw [List.map_map] at hy
        have := ih y hy
        omega
end Mine
end

section
namespace Mine
open PySem PySem.W PyProof.Rows PySem.Calls
local macro_rules | `(tactic| walk_at "lk") => `(tactic| ((repeat (first | exact lookup_hit | refine Eq.trans (lookup_skip (by decide)) ?_)); (try assumption)))
local macro_rules | `(tactic| walk_at "gr") => `(tactic| first | assumption | (refine' Gr.st ?a ?b; (case b => assumption); (case a => assumption)))
local macro_rules | `(tactic| walk_at "storeName") => `(tactic| first
  | (refine' st_loc ?H ?_; (case H => assumption); intro _ _ _; (try dsimp only))
  | (refine' st_cell (i := 1) ?H ?c ?e ?_; (case H => assumption); (case c => exact rfl); (case e => exact rfl); intro _ H9; (simp only [List.set_cons_zero, List.set_cons_succ] at H9); (try dsimp only))
  | (refine' st_cell (i := 2) ?H ?c ?e ?_; (case H => assumption); (case c => exact rfl); (case e => exact rfl); intro _ H9; (simp only [List.set_cons_zero, List.set_cons_succ] at H9); (try dsimp only))
  | (refine' st_cell (i := 3) ?H ?c ?e ?_; (case H => assumption); (case c => exact rfl); (case e => exact rfl); intro _ H9; (simp only [List.set_cons_zero, List.set_cons_succ] at H9); (try dsimp only))
  | (refine' st_cell (i := 4) ?H ?c ?e ?_; (case H => assumption); (case c => exact rfl); (case e => exact rfl); intro _ H9; (simp only [List.set_cons_zero, List.set_cons_succ] at H9); (try dsimp only)))
local macro_rules | `(tactic| walk_at "eval Name") => `(tactic| first
  | (refine' nm_loc ?H ?e ?_; (case H => assumption); (case e => walk_at "lk"); (try dsimp only))
  | (refine' nm_cell (i := 1) ?H ?c ?e ?_; (case H => assumption); (case c => exact rfl); (case e => exact rfl); (try dsimp only))
  | (refine' nm_cell (i := 2) ?H ?c ?e ?_; (case H => assumption); (case c => exact rfl); (case e => exact rfl); (try dsimp only))
  | (refine' nm_cell (i := 3) ?H ?c ?e ?_; (case H => assumption); (case c => exact rfl); (case e => exact rfl); (try dsimp only))
  | (refine' nm_cell (i := 4) ?H ?c ?e ?_; (case H => assumption); (case c => exact rfl); (case e => exact rfl); (try dsimp only))
  | (refine' nmr_loc ?R ?e ?_; (case R => assumption); (case e => walk_at "lk"); (try dsimp only))
  | (refine' nmr_cell ?R ?e ?_; (case R => assumption); (case e => walk_at "lk"); (try dsimp only))
  | (refine' nmr_free ?R ?e ?_; (case R => assumption); (case e => walk_at "lk"); (try dsimp only))
  | (refine' nm_glob ?g ?e ?_; (case g => walk_at "gr"); (case e => exact rfl); (try dsimp only))
  | (refine' nm_built ?g ?e ?v ?n ?_; (case g => walk_at "gr"); (case e => exact rfl); (case v => exact rfl); (case n => decide); (try dsimp only)))
local macro_rules | `(tactic| walk_at "loadName") => `(tactic| (refine' lnm_loc ?H ?e ?_; (case H => assumption); (case e => walk_at "lk"); (try dsimp only)))
local macro_rules | `(tactic| walk_at "no such goal") => `(tactic| assumption)
section
variable {prog : Program} {w : World} {A : Around} {E : Value → Shared → Prop} {s : Shared} {env : Env} {h₀ : Heap} {l : Own}

set_option maxHeartbeats 2000000
theorem rbr_spec {x : Wd} {t u : Tok} {n : Int} {Q : Value → Shared → Prop} (G : Gr w s.heap) (hx : x.length ≤ 4) (hh : A.handled = none) (hroom : A.depth + 1 < recursionLimit)
    (h : ∀ D h' tk, Up s.heap h' → s.heap.get? D = none → DI prog w h' D (rbr x n) → Q (.ref D) { s with heap := h', toks := tk }) :
    wpAny (model prog w) A (call (.ref 71) [.str (W x) t, .int n u]) Q E s := by
  refine enter (al := [("number", .int n u)]) G (by omega) rfl rfl rfl rfl rfl rfl rfl (by decide) ?_ ?_
  · intro L p hp
    simp only [List.mem_cons, List.not_mem_nil, or_false] at hp
    rcases hp with rfl <;> rfl
  · intro L h₁ tk H
    replace H : St s.heap [(L, Loc [("number", .int n u)]), (L + 1 + 1 + 1, CellP none), (L + 1 + 1, CellP none), (L + 1, CellP (some (.str (W x) t)))] h₁ := H
    iterate 2 walk1
    refine dict_one (x := []) (t := tk) (i := n) (u := u) G H ?_
    walk1
    refine ⟨_, rfl, rfl, ?_⟩
    have H' := H.keeps (h' := h₁.push { cls := .type "dict", data := .dict #[] }) (fun b o e => Heap.get?_push_of_some _ e)
    walk1
    refine ⟨_, rfl, rfl, ?_⟩
    intro h₂ h2 tk2 hk₂ hD₂ H₂
    have hD0 : s.heap.get? h₁.objs.size = none := by
      cases e : s.heap.get? h₁.objs.size with
      | none => rfl
      | some o => exact absurd (H.base_lt e) (Nat.lt_irrefl _)
    generalize h₁.objs.size = D₀ at hD₂ hD0
    clear H' H
    have G₂ : Gr w h₂ := G.keeps hk₂
    iterate 2 walk1
    refine wpAny_For ?_ (by intro _; rfl)
    iterate 2 walk1
    show wpAny _ _ (callWith _ (.type "range") _ _ _) _ _ _
    refine Pv.callWith_type1 ?_
    iterate 7 walk1
    refine len_W (x := x) (by omega) ?_
    intro t3 tk3
    dsimp only
    walk1
    refine call_range_1 ?_
    rename_i h₃ H₃
    have H₄ := H₃.keeps (h' := h₃.push { cls := .type "range", data := .fields #[.int 0 tk3, .int (x.length : Nat) t3, .int 1 (tk3 + 1)] }) (fun b o e => Heap.get?_push_of_some _ e)
    refine for_range (h₀ := h₂) hh (n := x.length) (by omega) (IsRange.new ..) (fun i l h => ∃ al T kv, l = [(L, Loc al), (L + 1 + 1 + 1, CellP kv), (L + 1 + 1, CellP (some (.ref T))), (L + 1, CellP (some (.str (W x) t)))] ∧ DI prog w h T (rbrTo x n i) ∧ s.heap.get? T = none)
      H₄ ⟨_, D₀, _, rfl, hD₂, hD0⟩ ?_ ?_
    · rintro i t5 l h₅ I h5 tk5 oI hi hk₅ ⟨al, T, kv, rfl, hT, hT0⟩ H₅
      replace H₅ : St h₅ [(L, Loc al), (L + 1 + 1 + 1, CellP kv), (L + 1 + 1, CellP (some (.ref T))), (L + 1, CellP (some (.str (W x) t))), (I, Is oI)] h5 := H₅
      have G₅ : Gr w h₅ := G₂.keeps hk₅
      refine wpAny_assign_Name ?_
      iterate 2 walk1
      rename_i h₆ H₆
      have hT6 := hT.keep H₆.keep
      have hlen := rbrTo_len x n i
      have hlen16 : (rbrTo x n i).length ≤ 16 := Nat.le_trans hlen (Nat.le_trans (Nat.pow_le_pow_right (by decide) (by omega : i ≤ 4)) (by decide))
      have hc : x[i]? = some (x.getD i 0) := by rw [List.getD_eq_getElem?_getD, List.getElem?_eq_getElem hi]; rfl
      have hkeys : ∀ y ∈ (rbrTo x n i).map (·.1), y.length ≤ i := rbrTo_keys x n i
      have rd : ∀ {C : Addr} {y : Wd} {ty : Tok} {s₃ : Shared} {m₃ : Str → Option Value}, s₃.heap.Ns C m₃ → m₃ "one" = some (.str (W y) ty) → Up h₆ s₃.heap →
          Rd C [("word", L + 1), ("table", L + 1 + 1), ("k", L + 1 + 1 + 1)] s₃.heap [("one", .str (W y) ty)] [("k", .int i t5), ("table", .ref T), ("word", .str (W x) t)] := by
        intro C y ty s₃ m₃ hn hm hk
        refine comp_rd H₆ hn hm hk ?_
        intro p hp
        simp only [List.mem_cons, List.not_mem_nil, or_false] at hp
        rcases hp with rfl | rfl | rfl
        · exact ⟨_, 1, rfl, rfl⟩
        · exact ⟨_, 2, rfl, rfl⟩
        · exact ⟨_, 3, rfl, rfl⟩
      refine assign_src (fk := fun y => y ++ [x.getD i 0]) (FV := fun y u => ∃ t, u = .int ((get (rbrTo x n i) y).getD 0) t) (cl := [("word", L + 1), ("table", L + 1 + 1), ("k", L + 1 + 1 + 1)]) H₆ (src_keys hh hT6) (by rw [List.length_map]; omega)
        rfl rfl (by decide) rfl (by decide) rfl rfl rfl ?_ ?_ ?_ ?_
      · intro Q' hQ'
        walk1
        exact hQ'
      · intro C y ty s₃ m₃ E' hy hn hm hk
        have Rr := rd hn hm hk
        iterate 5 walk1
        refine item_W hc (by omega) ?_
        intro t7 tk7
        refine add_W (by have := hkeys y hy; simp; omega) ?_
        intro t8 tk8
        exact ⟨⟨t8, rfl⟩, _, _, rfl, fun _ _ e => e⟩
      · intro C y ty s₃ m₃ E' hy hn hm hk
        have Rr := rd hn hm hk
        obtain ⟨v, hv⟩ := get_mem hy
        iterate 3 walk1
        refine item_DI (hT6.keep hk) hv ?_
        intro t7 tk7
        exact ⟨⟨t7, by rw [hv]; rfl⟩, _, _, rfl, fun _ _ e => e⟩
      · intro D h₇ h7 tk7 kvs vs hk₇ hD0' hD hS hR H₇
        have hnd := hT.nodup
        have hKept : DI prog w h₇ D (rbrKept x (rbrTo x n i) i) := by
          refine ⟨G₅.notSys hD0', kvs, hD, ?_⟩
          have : Rel kvs (((rbrTo x n i).map (·.1)).map fun y => (y ++ [x.getD i 0], id ((get (rbrTo x n i) y).getD 0))) := stored_ints hS hR (nodup_map_inj hnd fun a b e => List.append_cancel_right e)
          rw [keys_map hnd (fun y => y ++ [x.getD i 0]) id 0] at this
          exact this
        have G₇ : Gr w h₇ := G₅.keeps hk₇
        show wpAny _ _ (execs _ _) _ _ _
        iterate 2 walk1
        refine wpAny_mono (show wpAny _ _ _ (fun c s' => c = rbrSame x i ∧ ∃ tk, s' = { s with heap := h7, toks := tk }) _ _ from ?_) ?_ (fun _ _ e => e)
        · iterate 6 walk1
          by_cases hi0 : 0 < i
          · have hc' : x[i - 1]? = some (x.getD (i - 1) 0) := by rw [List.getD_eq_getElem?_getD, List.getElem?_eq_getElem (by omega)]; rfl
            rw [if_pos (by simpa using hi0)]
            iterate 8 walk1
            rw [show (i : Int) - 1 = ((i - 1 : Nat) : Int) by omega]
            refine item_W hc' (by omega) ?_
            intro t9 tk9
            iterate 3 walk1
            refine item_W hc (by omega) ?_
            intro t10 tk10
            iterate 2 walk1
            by_cases hcc : x.getD (i - 1) 0 = x.getD i 0
            · rw [if_pos (by rw [hcc]; exact beq_self_eq_true _)]
              refine isTrue_and_nil ?_
              refine ⟨?_, _, rfl⟩
              unfold rbrSame
              rw [decide_eq_true hi0, decide_eq_true hcc]; rfl
            · rw [if_neg (fun e => hcc (by simpa using W_inj (beq_iff_eq.mp e)))]
              refine ⟨?_, _, rfl⟩
              unfold rbrSame
              rw [decide_eq_true hi0, decide_eq_false hcc]; rfl
          · rw [if_neg (by simpa using hi0)]
            refine ⟨?_, _, rfl⟩
            unfold rbrSame
            rw [decide_eq_false hi0]; rfl
        · rintro c s' ⟨rfl, tk8, rfl⟩
          cases hsame : rbrSame x i with
          | true =>
            rw [if_pos rfl]
            iterate 4 walk1
            iterate 2 refine wpAny_execs_nil ?_
            refine' ⟨[(L, Loc _), (L + 1 + 1 + 1, CellP _), (L + 1 + 1, CellP (some (.ref D))), (L + 1, CellP _)], h₇, _, _, rfl, ?H, hk₇, _, D, _, rfl, ?D, ?Z⟩
            case H => assumption
            case D => rw [rbrTo_succ]; unfold rbrStep; rw [if_pos hsame]; exact hKept
            case Z => 
              cases e : s.heap.get? D with
              | none => rfl
              | some o => rw [hk₅ _ _ (hk₂ _ _ e)] at hD0'; cases hD0'
          | false =>
            rw [if_neg (by decide)]
            iterate 4 walk1
            refine cw_fn ?_
            iterate 3 walk1
            have hT7 := (hT.keep hk₇).keep H₇.keep
            have rd' : ∀ {C : Addr} {y : Wd} {ty : Tok} {s₃ : Shared} {m₃ : Str → Option Value}, s₃.heap.Ns C m₃ → m₃ "one" = some (.str (W y) ty) → Up h7 s₃.heap →
                Rd C [("table", L + 1 + 1)] s₃.heap [("one", .str (W y) ty)] [("table", .ref T)] := by
              intro C y ty s₃ m₃ hn hm hk
              refine comp_rd H₇ hn hm hk ?_
              intro p hp
              simp only [List.mem_cons, List.not_mem_nil, or_false] at hp
              rcases hp with rfl
              exact ⟨_, 2, rfl, rfl⟩
            refine dcomp_src (fk := id) (FV := fun y u => ∃ t, u = .int (-((get (rbrTo x n i) y).getD 0)) t) (cl := [("table", L + 1 + 1)]) (src_keys hh hT7) (by rw [List.length_map]; omega)
              rfl (by decide) rfl (by decide) rfl ?_ ?_ ?_ ?_
            · intro Q' hQ'
              walk1
              exact hQ'
            · intro C y ty s₃ m₃ E' hy hn hm hk
              have Rr := rd' hn hm hk
              walk1
              exact ⟨⟨ty, rfl⟩, _, _, rfl, fun _ _ e => e⟩
            · intro C y ty s₃ m₃ E' hy hn hm hk
              have Rr := rd' hn hm hk
              obtain ⟨v, hv⟩ := get_mem hy
              iterate 4 walk1
              refine item_DI (hT7.keep hk) hv ?_
              intro t7 tk7
              refine PyProof.Rows.neg_int ?_
              exact ⟨⟨_, by rw [hv]; rfl⟩, _, _, rfl, fun _ _ e => e⟩
            · intro D2 h8 tk8' kvs2 vs2 hk₈ hD20 hD2 hS2 hR2
              have G7 := G₇.st H₇
              have hNeg : DI prog w h8 D2 (rbrNeg (rbrTo x n i)) := by
                refine ⟨G7.notSys hD20, kvs2, hD2, ?_⟩
                have : Rel kvs2 (((rbrTo x n i).map (·.1)).map fun y => (id y, -((get (rbrTo x n i) y).getD 0))) := stored_ints hS2 hR2 (by rw [List.map_id]; exact hnd)
                rw [keys_map hnd id (fun v => -v) 0] at this
                exact this
              walk1
              have H₈ := H₇.keeps hk₈
              refine ⟨Gr.fn (G₇.st H₈) rfl rfl, ?_⟩
              have l1 : (rbrKept x (rbrTo x n i) i).length = (rbrTo x n i).length := List.length_map _
              have l2 : (rbrNeg (rbrTo x n i)).length = (rbrTo x n i).length := List.length_map _
              refine add_spec (G₇.st H₈) (hKept.keep H₈.keep) hNeg (by omega) hh hroom ?_
              intro D3 h9 tk9 hk₉ hD30 hD3
              obtain ⟨h₉, H₉, hk₉', hg₉⟩ := H₈.callB hk₉
              have hD3' : DI prog w h₉ D3 _ := hD3.at fun o e => hg₉ _ o hD30 e
              dsimp only
              walk1
              iterate 2 refine wpAny_execs_nil ?_
              refine' ⟨[(L, Loc _), (L + 1 + 1 + 1, CellP _), (L + 1 + 1, CellP (some (.ref D3))), (L + 1, CellP _)], h₉, _, _, rfl, ?H, fun b o e => hk₉' _ _ (hk₇ _ _ e), _, D3, _, rfl, ?D, ?Z⟩
              case H => assumption
              case D => rw [rbrTo_succ]; unfold rbrStep; rw [if_neg (by rw [hsame]; decide)]; exact hD3'
              case Z =>
                cases e : s.heap.get? D3 with
                | none => rfl
                | some o => rw [H₈.keep _ _ (hk₇ _ _ (hk₅ _ _ (hk₂ _ _ e)))] at hD30; cases hD30
    · rintro l h₅ h' tk5 hk₅ ⟨al, T, kv, rfl, hT, hT0⟩ H₅
      show wpAny _ _ (execs _ _) _ _ _
      iterate 3 walk1
      exact h _ _ _ (fun b o e => H₅.keep b o (hk₅ b o (hk₂ b o e))) hT0 (hT.keep H₅.keep)
end
end Mine
end

section
namespace Mine
open PySem PySem.W PyProof.Rows PySem.Calls

/-- an object at an address that may change later becomes owned -/
theorem St.hide {h₀ h : Heap} {l : Own} {a : Addr} {o : Obj} (H : St h₀ l h) (ha : h₀.get? a = some o) : St (hideAll h₀ [a]) (l ++ [(a, fun o' => o' = o)]) h := by
  refine ⟨fun b o' e => H.keep b o' (of_hideAll _ e), ?_, fun p hp => ?_, fun p hp => ?_⟩
  · rw [List.map_append, List.nodup_append]
    refine ⟨H.nodup, by simp, fun x hx y hy => ?_⟩
    obtain ⟨p, hp, rfl⟩ := List.mem_map.mp hx
    simp only [List.map_cons, List.map_nil, List.mem_singleton] at hy
    subst hy
    intro e
    have := H.fresh p hp
    rw [e, ha] at this; cases this
  · rcases List.mem_append.mp hp with hp | hp
    · cases q : (hideAll h₀ [a]).get? p.1 with
      | none => rfl
      | some o' => have := of_hideAll _ q; rw [H.fresh p hp] at this; cases this
    · rw [List.mem_singleton.mp hp]; exact hideAll_none _ (by simp)
  · rcases List.mem_append.mp hp with hp | hp
    · exact H.has p hp
    · rw [List.mem_singleton.mp hp]; exact ⟨o, H.keep _ _ ha, rfl⟩
theorem up_hide {h₀ h : Heap} {a : Addr} (hk : Up h₀ h) (ha : h₀.get? a = none) : Up h₀ (hideAll h [a]) := fun b o e => hideAll_get _ (hk b o e) (by
  rw [List.mem_singleton]; rintro rfl; rw [ha] at e; cases e)

theorem St.rebaseF {h₀ h h' : Heap} {l l' : Own} (H : St h₀ l h) (H₁ : St h₀ l' h') (he : l'.map (·.1) = l.map (·.1)) : ∃ g, St g l' h' ∧ Up h₀ g ∧ ∀ D o, h.get? D = none → h'.get? D = some o → g.get? D = some o := by
  obtain ⟨g, H₂, hk, hg⟩ := H₁.rebase
  refine ⟨g, H₂, hk, fun D o hD e => hg D o e fun p hp q => ?_⟩
  have : p.1 ∈ l.map (·.1) := he ▸ List.mem_map_of_mem hp
  obtain ⟨r, hr, er⟩ := List.mem_map.mp this
  obtain ⟨o', ho', _⟩ := H.has r hr
  rw [er, ← q, hD] at ho'; cases ho'

/-- the lambda's qualified name -/
abbrev lamQ : Str := Str.ofString "_law_takers" ++ ".<locals>." ++ "<lambda>"
/-- the table of the codes below _law_takers -/
def TabOk (h : Heap) (o : Obj) : Prop := o = tabObj #[] ∨ ∃ c, o = tabObj #[rawInt 81, rawInt 30, .ref c] ∧ h.CodeRec (.ref c) lamQ
theorem TabOk.up {h h' : Heap} {o : Obj} (x : TabOk h o) (hk : Up h h') : TabOk h' o := by
  rcases x with x | ⟨c, e, r⟩
  · exact .inl x
  · exact .inr ⟨c, e, r.keeps hk⟩
end Mine
end

section
namespace Mine
open PySem PySem.W PyProof.Rows PySem.Calls
local macro_rules | `(tactic| walk_at "lk") => `(tactic| ((repeat (first | exact lookup_hit | refine Eq.trans (lookup_skip (by decide)) ?_)); (try assumption)))
local macro_rules | `(tactic| walk_at "gr") => `(tactic| first | assumption | (refine' Gr.st ?a ?b; (case b => assumption); (case a => assumption)))
local macro_rules | `(tactic| walk_at "storeName") => `(tactic| first
  | (refine' st_loc ?H ?_; (case H => assumption); intro _ _ _; (try dsimp only))
  | (refine' st_cell (i := 1) ?H ?c ?e ?_; (case H => assumption); (case c => exact rfl); (case e => exact rfl); intro _ H9; (simp only [List.set_cons_zero, List.set_cons_succ] at H9); (try dsimp only))
  | (refine' st_cell (i := 2) ?H ?c ?e ?_; (case H => assumption); (case c => exact rfl); (case e => exact rfl); intro _ H9; (simp only [List.set_cons_zero, List.set_cons_succ] at H9); (try dsimp only))
  | (refine' st_cell (i := 3) ?H ?c ?e ?_; (case H => assumption); (case c => exact rfl); (case e => exact rfl); intro _ H9; (simp only [List.set_cons_zero, List.set_cons_succ] at H9); (try dsimp only))
  | (refine' st_cell (i := 4) ?H ?c ?e ?_; (case H => assumption); (case c => exact rfl); (case e => exact rfl); intro _ H9; (simp only [List.set_cons_zero, List.set_cons_succ] at H9); (try dsimp only)))
local macro_rules | `(tactic| walk_at "eval Name") => `(tactic| first
  | (refine' nm_loc ?H ?e ?_; (case H => assumption); (case e => walk_at "lk"); (try dsimp only))
  | (refine' nm_cell (i := 1) ?H ?c ?e ?_; (case H => assumption); (case c => exact rfl); (case e => exact rfl); (try dsimp only))
  | (refine' nm_cell (i := 2) ?H ?c ?e ?_; (case H => assumption); (case c => exact rfl); (case e => exact rfl); (try dsimp only))
  | (refine' nm_cell (i := 3) ?H ?c ?e ?_; (case H => assumption); (case c => exact rfl); (case e => exact rfl); (try dsimp only))
  | (refine' nm_cell (i := 4) ?H ?c ?e ?_; (case H => assumption); (case c => exact rfl); (case e => exact rfl); (try dsimp only))
  | (refine' nmr_loc ?R ?e ?_; (case R => assumption); (case e => walk_at "lk"); (try dsimp only))
  | (refine' nmr_cell ?R ?e ?_; (case R => assumption); (case e => walk_at "lk"); (try dsimp only))
  | (refine' nmr_free ?R ?e ?_; (case R => assumption); (case e => walk_at "lk"); (try dsimp only))
  | (refine' nm_glob ?g ?e ?_; (case g => walk_at "gr"); (case e => exact rfl); (try dsimp only))
  | (refine' nm_built ?g ?e ?v ?n ?_; (case g => walk_at "gr"); (case e => exact rfl); (case v => exact rfl); (case n => decide); (try dsimp only)))
local macro_rules | `(tactic| walk_at "loadName") => `(tactic| (refine' lnm_loc ?H ?e ?_; (case H => assumption); (case e => walk_at "lk"); (try dsimp only)))
local macro_rules | `(tactic| walk_at "no such goal") => `(tactic| assumption)
section
variable {prog : Program} {w : World} {A : Around} {E : Value → Shared → Prop} {s : Shared} {env : Env} {h₀ : Heap} {l : Own}

def takers (ws : List Wd) (x : Wd) : List Wd := (ws.filter fun y => decide (y.length ≤ x.length)).filter fun y => sub y x

abbrev lamParams : Arguments := { posonlyargs := [], args := [{ arg := "one", annotation := none, pos := ⟨81, 37, 81, 40⟩ }], vararg := none, kwonlyargs := [], kw_defaults := [], kwarg := none, defaults := [] }
abbrev lamBody : Expr := .Call (.Name "_ellipsis_match" ⟨81, 42, 81, 57⟩) [.Subscript (.Name "patterns" ⟨81, 58, 81, 66⟩) (.Name "one" ⟨81, 67, 81, 70⟩) ⟨81, 58, 81, 71⟩, .Name "word" ⟨81, 73, 81, 77⟩] [] ⟨81, 42, 81, 78⟩
abbrev lamScope : Scope := { kind := .function, names := [(Str.ofString "one", .local), (Str.ofString "patterns", .free), (Str.ofString "word", .free), (Str.ofString "_ellipsis_match", .globalImplicit)], isGenerator := false, isCoroutine := false, more := [] }
abbrev lamFd (cp cw : Addr) (pm : Value) (c : Addr) (ctv : Value) : FuncData := kla_fn "<lambda>" lamQ lamParams lamBody lamScope [("word", cw), ("patterns", cp)] pm (.ref c) ctv

theorem item_DS {value slice : Expr} {d : Addr} {xs : List Wd} {f : Wd → Wd} {y : Wd} {u : Tok} {Q : Value → Shared → Prop} (D : DS prog w s.heap d xs f) (hy : y ∈ xs) (h : ∀ t' tk, Q (.str (W (f y)) t') { s with toks := tk })
    (hs : subscripted slice false (.ref d) (.str (W y) u) = operate [.ref d, .str (W y) u] (getItem (.ref d) (.str (W y) u)) := by with_unfolding_all rfl) :
    wpAny (model prog w) A (subscriptTail value slice (.ref d) (.str (W y) u)) Q E s := by
  obtain ⟨kvs, hm, R⟩ := D
  obtain ⟨t', e⟩ := R y hy
  exact tail_any hm.typeIs slot_dict_getitem.lookup (wpAny_getItem_of (strKind_is prog w (W y) u) hm.mapOf e (h _ _)) hs

set_option maxHeartbeats 1000000 in
theorem lam_asks {h6 : Heap} {f c cp cw pd : Addr} {ctv pm : Value} {o : Obj} {ws ws' : List Wd} {x : Wd} {t : Tok} {dp : Nat} (G : Gr w h6) (ho : h6.get? f = some o) (hod : o.data = .func (lamFd cp cw pm c ctv))
    (hcd : h6.CodeRec (.ref c) lamQ) (hcp : h6.IsCell cp (some (.ref pd))) (hcw : h6.IsCell cw (some (.str (W x) t))) (hpd : DS prog w h6 pd ws pat) (hws : ∀ y ∈ ws, Ok y) (hsub : ∀ y ∈ ws', y ∈ ws) (hx : x.length ≤ 1000)
    (hdp : dp + 1 < recursionLimit) : Asks prog w h6 dp f ws' (fun y => sub y x) := by
  intro y ty s₁ A₁ Q₁ hy hk hA hd hQ
  refine wpAny_call ?_
  refine kla_callFunE (by omega) (hk _ _ ho) hod rfl rfl rfl (hcd.keeps hk) ?_
  have hb : bindArgs (lamFd cp cw pm c ctv) ⟨[Value.str (W y) ty], []⟩ = (pure [((Str.ofString "one" : Str), Value.str (W y) ty)] : Sem (List (Str × Value))) := rfl
  rw [hb]
  refine wpAny_pure (wpAny_newFunctionEnv (show ∀ x ∈ lamScope.names, x.2 ≠ .cell by decide) (by intro p hp; rw [List.mem_singleton] at hp; subst hp; rfl) (fun h₁ hns hsb => ⟨((G.keeps hk).nolimit).fresh _ hsb, kla_codeExpr ?_⟩) rfl)
  have hk₁ : Up s₁.heap h₁ := fun b o e => hsb.extBut b o (Nat.ne_of_lt (Heap.lt_size e)) (Heap.get?_push_of_some _ e)
  have hk1 : Up h6 h₁ := fun b o e => hk₁ _ _ (hk _ _ e)
  have Rr : Rd s₁.heap.objs.size [("word", cw), ("patterns", cp)] h₁ [("one", .str (W y) ty)] [("word", .str (W x) t), ("patterns", .ref pd)] := by
    refine ⟨⟨_, hns, fun z v e => ?_⟩, fun p hp => ?_⟩
    · exact e
    · simp only [List.mem_cons, List.not_mem_nil, or_false] at hp
      rcases hp with rfl | rfl
      · exact ⟨cw, rfl, hcw.keeps hk1⟩
      · exact ⟨cp, rfl, hcp.keeps hk1⟩
  have G₁ : Gr w h₁ := G.keeps hk1
  dsimp only
  iterate 2 walk1
  refine cw_fn ?_
  iterate 4 walk1
  refine item_DS (hpd.keep hk1) (hsub y hy) ?_
  intro t7 tk7
  iterate 3 walk1
  refine ⟨Gr.fn G₁ rfl rfl, ?_⟩
  refine match_spec G₁ (hws y (hsub y hy)) hx hA (by show A₁.depth + 1 < _; omega) ?_
  intro h' tk' hk'
  exact hQ h' tk' fun b o e => hk' _ _ (hk₁ _ _ e)

set_option maxHeartbeats 2000000
theorem takers_core {pd wa : Addr} {ws : List Wd} {x : Wd} {t : Tok} {oT : Obj} {Q : Value → Shared → Prop} (G : Gr w h₀) (h63 : h₀.get? 63 = none) (hk : Up h₀ s.heap) (hT : s.heap.get? 63 = some oT) (hTok : TabOk h₀ oT)
    (hpd : DS prog w h₀ pd ws pat) (hwa : LS h₀ wa ws) (hws : ∀ y ∈ ws, Ok y) (hlen : ws.length ≤ 100) (hx : x.length ≤ 1000) (hh : A.handled = none) (hroom : A.depth + 3 < recursionLimit)
    (h : ∀ y h' tk o', (∀ b o, b ≠ 63 → s.heap.get? b = some o → h'.get? b = some o) → h'.get? 63 = some o' → (o' = oT ∨ ∃ c, o' = tabObj #[rawInt 81, rawInt 30, .ref c] ∧ h'.CodeRec (.ref c) lamQ ∧ s.heap.get? c = none) →
      s.heap.get? y = none → LS h' y (takers ws x) → Q (.ref y) { s with heap := h', toks := tk }) :
    wpAny (model prog w) A (call (.ref 66) [.ref pd, .ref wa, .str (W x) t]) Q E s := by
  refine enter (al := [("words", .ref wa)]) (G.keeps hk) (by omega) rfl rfl rfl rfl rfl rfl rfl (by decide) ?_ ?_
  · intro L p hp
    simp only [List.mem_cons, List.not_mem_nil, or_false] at hp
    rcases hp with rfl <;> rfl
  · intro L h₁ tk H
    replace H : St s.heap [(L, Loc [("words", .ref wa)]), (L + 1 + 1, CellP (some (.str (W x) t))), (L + 1, CellP (some (.ref pd)))] h₁ := H
    replace H := H.hide hT
    have hkg := up_hide hk h63
    have hkg' : ∀ b o, b ≠ 63 → s.heap.get? b = some o → (hideAll s.heap [63]).get? b = some o := fun b o hb e => hideAll_get _ e (by rw [List.mem_singleton]; exact hb)
    generalize hideAll s.heap [63] = g at H hkg hkg'
    replace H : St g [(L, Loc [("words", .ref wa)]), (L + 1 + 1, CellP (some (.str (W x) t))), (L + 1, CellP (some (.ref pd))), (63, fun o' => o' = oT)] h₁ := H
    have Gg : Gr w g := G.keeps hkg
    replace hpd := hpd.keep hkg
    replace hwa := hwa.keep hkg
    replace hTok := hTok.up hkg
    walk1
    obtain ⟨vs, hvs, R⟩ := hwa.keep H.keep
    obtain ⟨m, hnL, hfL⟩ := ns_of (s := { s with heap := h₁ }) H (i := 0) rfl
    refine wpAny_Assign_ListComp_free (fun v => decide (((unStr v).getD []).length ≤ x.length)) (fun v y => ∃ z t, unStr v = some z ∧ y = .str (W (id z)) t) (cl := [("word", L + 1 + 1)]) rfl rfl (by decide) rfl (by decide) rfl rfl rfl ?_
    walk1
    refine wpAny_pyIter_list hvs ?_
    have hne : wa ≠ h₁.objs.size := let ⟨_, ho, _⟩ := hvs; Nat.ne_of_lt (Heap.lt_size ho)
    refine ⟨_, _, _, _, _, _, m, rfl, Walks.list (A := A.deeper _) hh _ wa hne vs.toArray, ?_, ⟨⟨_, Heap.get?_push_size _ rfl, rfl, rfl⟩, hvs.at fun o e => Heap.get?_push_of_some _ e⟩, ?_, ?_, hnL.push _, ⟨?_, ?_⟩, ?_⟩
    · rw [List.size_toArray, sizeLine_eq, R.length]; omega
    · intro b hb
      simp only [List.mem_cons, List.not_mem_nil, or_false] at hb
      rw [Heap.size_push]
      rcases hb with rfl | rfl
      · exact Nat.lt_succ_self _
      · exact Nat.lt_succ_of_lt (let ⟨_, ho, _⟩ := hvs; Heap.lt_size ho)
    · rw [List.mem_singleton]
      exact Nat.ne_of_lt (H.lt (.head _))
    · intro C j v s₃ m₃ E' hC hP hn hm hk _
      obtain ⟨z, tz, rfl, hz⟩ := R.at_ (by simpa using hP : vs[j]? = some v)
      have hzl := (hws z (List.mem_of_getElem? hz)).1
      have hk' : Up h₁ s₃.heap := fun b o e => hk b o (by rw [List.mem_singleton]; exact Nat.ne_of_lt (Heap.lt_size e)) (Heap.get?_push_of_some _ e)
      have G₃ : Gr w s₃.heap := (Gg.st H).keeps hk'
      have Rr := comp_rd (cl := [("word", .str (W x) t)]) (clA := [("word", L + 1 + 1)]) H hn hm hk' (by
        intro p hp
        simp only [List.mem_cons, List.not_mem_nil, or_false] at hp
        rcases hp with rfl
        exact ⟨_, 1, rfl, rfl⟩)
      refine one_test ?_
      iterate 7 walk1
      refine len_W (x := z) (by omega) ?_
      intro t7 tk7
      iterate 6 walk1
      refine len_W (x := x) (by omega) ?_
      intro t8 tk8
      iterate 1 walk1
      refine wpAny_truthy_bool ⟨?_, _, _, rfl, fun _ _ e => e⟩
      rw [unStr_W]
      simp
    · intro C j v s₃ m₃ E' hC hP hp hn hm hk _
      obtain ⟨z, tz, rfl, hz⟩ := R.at_ (by simpa using hP : vs[j]? = some v)
      have hk' : Up h₁ s₃.heap := fun b o e => hk b o (by rw [List.mem_singleton]; exact Nat.ne_of_lt (Heap.lt_size e)) (Heap.get?_push_of_some _ e)
      have Rr := comp_rd (cl := [("word", .str (W x) t)]) (clA := [("word", L + 1 + 1)]) H hn hm hk' (by
        intro p hp
        simp only [List.mem_cons, List.not_mem_nil, or_false] at hp
        rcases hp with rfl
        exact ⟨_, 1, rfl, rfl⟩)
      walk1
      exact ⟨⟨z, tz, unStr_W _ _, rfl⟩, _, _, rfl, fun _ _ e => e⟩
    · intro D h5 tk5 ys vs' hD hl' hpl hlen' hP hF hnL' hk5
      have hvs' : vs' = vs := ext_list hlen' hP
      subst hvs'
      have hR : SRel ys.toList ((ws.filter fun y => decide (y.length ≤ x.length)).map id) := paired_srel id (fun y => decide (y.length ≤ x.length)) R hF
      rw [List.map_id] at hR
      have hDs : h₁.get? D = none := by
        cases e : h₁.get? D with
        | none => rfl
        | some o' => rw [Heap.get?_push_of_some _ e] at hD; cases hD
      have H₁ : St g [(L, Loc [("small", .ref D), ("words", .ref wa)]), (L + 1 + 1, CellP (some (.str (W x) t))), (L + 1, CellP (some (.ref pd))), (63, fun o' => o' = oT)] h5 := by
        refine H.set (i := 0) rfl (fun b o hb e => hk5 b o hb (by rw [List.mem_singleton]; exact Nat.ne_of_lt (Heap.lt_size e)) (Heap.get?_push_of_some _ e)) (loc_of_ns hnL' fun y v e => ?_)
        rw [List.lookup_cons] at e
        by_cases hy : y = "small"
        · subst hy; simpa using e
        · have : (y == ("small" : Str)) = false := by simpa using hy
          rw [this] at e
          simpa [hy] using hfL y v e
      obtain ⟨g₂, H₂, hk₂, hg₂⟩ := H.rebaseF H₁ rfl
      have hD₂ : LS g₂ D (ws.filter fun y => decide (y.length ≤ x.length)) := ⟨ys.toList, Heap.IsList.at (by simpa using hl') fun o e => hg₂ _ _ hDs e, hR⟩
      have G₂ : Gr w g₂ := Gg.keeps hk₂
      clear H₁
      iterate 5 walk1
      refine cw_fn ?_
      iterate 3 walk1
      refine kla_eval rfl ?_
      have hP : h5.get? 63 = some oT := by
        obtain ⟨o, ho, rfl⟩ := H₂.get (i := 3) rfl
        exact ho
      have old : ∀ b, h5.get? b = none → s.heap.get? b = none := by
        intro b hb
        cases e : s.heap.get? b with
        | none => rfl
        | some o =>
          by_cases h6 : b = 63
          · rw [h6, hP] at hb; cases hb
          · rw [H₂.keep _ _ (hk₂ _ _ (hkg' b o h6 e))] at hb; cases hb
      refine wpAny_mono (show wpAny _ _ _ (fun v s' => ∃ f c' ctv pm h6 tk6 oT', v = .ref f ∧ s' = { s with heap := h6, toks := tk6 } ∧ (∀ b o, b ≠ 63 → h5.get? b = some o → h6.get? b = some o) ∧ h6.get? 63 = some oT' ∧
        (oT' = oT ∨ ∃ c, oT' = tabObj #[rawInt 81, rawInt 30, .ref c] ∧ h6.CodeRec (.ref c) lamQ ∧ h5.get? c = none) ∧ h6.CodeRec (.ref c') lamQ ∧ ∃ o, h6.get? f = some o ∧ o.data = .func (lamFd (L + 1) (L + 1 + 1) pm c' ctv)) _ _ from ?_) ?_ (fun _ _ e => e)
      · have G5 := G₂.st H₂
        obtain ⟨mg, bm, ob, hg, b1, b2, b3, b4, b5, b6⟩ := G5.main
        have hbP : bm ≠ 63 := fun q => by
          rw [q, hP] at b3
          injection b3 with b3
          rcases hTok with e | ⟨c, e, _⟩ <;> (rw [← b3, e] at b4; cases b4)
        have hbG : bm ≠ mainGlobals := fun q => by
          obtain ⟨o, es, ep, e, hd, _⟩ := hg
          rw [q, e] at b3; cases b3; rw [hd] at b6; cases b6
        have hB : h5.BuiltinsAt mg 63 := ⟨bm, ob, b1, b2, hbG, hbP, b3, b4, b5, b6⟩
        rcases hTok with e | ⟨c, e, hc⟩
        · rw [e] at hP
          refine kla_makeFunction (mg := mg) (clos := [("word", L + 1 + 1), ("patterns", L + 1)]) rfl rfl hg rfl G5.code hP trivial rfl (by decide) hB ?_
          intro c' ctv h' tk' hx hge hlt hrec htb
          refine ⟨_, c', ctv, _, _, _, _, rfl, rfl, fun b o hb e => Heap.get?_push_of_some _ (hx b o hb e), Heap.get?_push_of_some _ htb, .inr ⟨c', rfl, hrec.push _, Heap.get?_none_of_le hge⟩, hrec.push _, _, Heap.get?_push_size _ rfl, rfl⟩
        · have hP' := hP
          rw [e] at hP'
          refine kla_makeFunctionHit (mg := mg) (clos := [("word", L + 1 + 1), ("patterns", L + 1)]) (cv := .ref c) rfl rfl hg rfl G5.code hP' trivial rfl hB ?_
          intro ctv h' tk' hx hge
          refine ⟨_, c, ctv, _, _, _, _, rfl, rfl, fun b o hb e => Heap.get?_push_of_some _ (hx b o e), Heap.get?_push_of_some _ (hx _ _ hP), .inl rfl, ?_, _, Heap.get?_push_size _ rfl, rfl⟩
          exact (((hc.keeps hk₂).keeps H₂.keep).keeps hx).push _
      · rintro v s' ⟨f, c', ctv, pm, h6, tk6, oT', rfl, rfl, hk6, hT6, hdis, hrec, o, ho, hod⟩
        have H₆ : St g₂ [(L, Loc [("small", .ref D), ("words", .ref wa)]), (L + 1 + 1, CellP (some (.str (W x) t))), (L + 1, CellP (some (.ref pd))), (63, fun o' => o' = oT')] h6 := H₂.set (i := 3) rfl (fun b o hb e => hk6 b o hb e) ⟨oT', hT6, rfl⟩
        have G6 := G₂.st H₆
        walk1
        refine ⟨Gr.fn G6 rfl rfl, ?_⟩
        refine split_spec G6 (hD₂.keep H₆.keep) (by have := List.length_filter_le (fun y => decide (y.length ≤ x.length)) ws; omega) ho hod
          (lam_asks G6 ho hod hrec (H₆.get (i := 2) rfl) (H₆.get (i := 1) rfl) ((hpd.keep hk₂).keep H₆.keep) hws (fun y hy => (List.mem_filter.mp hy).1) hx (by show A.depth + 1 + 1 + 1 < _; omega)) hh (by show A.depth + 1 < _; omega) ?_
        intro T y n h' tk' hUp htup hy0 hLS
        walk1
        refine item_tupleT (l := [.ref y, .ref n]) ⟨_, htup, rfl, 0, rfl⟩ (by decide) (by decide) (j := 0) rfl rfl ?_
        have hbase : ∀ b o, b ≠ 63 → s.heap.get? b = some o → h6.get? b = some o := fun b o hb e => H₆.keep _ _ (hk₂ _ _ (hkg' b o hb e))
        refine h y h' _ oT' (fun b o hb e => hUp _ _ (hbase b o hb e)) (hUp _ _ hT6) ?_ ?_ hLS
        · rcases hdis with e | ⟨c, e, hc, hn⟩
          · exact .inl e
          · exact .inr ⟨c, e, hc.keeps hUp, old c hn⟩
        · cases e : s.heap.get? y with
          | none => rfl
          | some o =>
            by_cases h63 : y = 63
            · rw [h63, hT6] at hy0; cases hy0
            · rw [hbase y o h63 e] at hy0; cases hy0

/-- the call in a piece of code that owns the table -/
theorem takers_spec {i : Nat} {pd wa : Addr} {ws : List Wd} {x : Wd} {t : Tok} {Q : Value → Shared → Prop} (G : Gr w h₀) (H : St h₀ l s.heap) (hi : l[i]? = some (63, TabOk h₀))
    (hpd : DS prog w h₀ pd ws pat) (hwa : LS h₀ wa ws) (hws : ∀ y ∈ ws, Ok y) (hlen : ws.length ≤ 100) (hx : x.length ≤ 1000) (hh : A.handled = none) (hroom : A.depth + 3 < recursionLimit)
    (h : ∀ y h₁ h' tk, Up h₀ h₁ → St h₁ (l.set i (63, TabOk h₁)) h' → LS h₁ y (takers ws x) → Q (.ref y) { s with heap := h', toks := tk }) :
    wpAny (model prog w) A (call (.ref 66) [.ref pd, .ref wa, .str (W x) t]) Q E s := by
  obtain ⟨oT, hT, hTok⟩ := H.get hi
  refine takers_core G (H.free hi) H.keep hT hTok hpd hwa hws hlen hx hh hroom ?_
  intro y h' tk o' hk hT' hdis hy hLS
  have H₁ := H.set hi (h' := h') (φ' := fun o => o = o') hk ⟨o', hT', rfl⟩
  have hmap : (l.set i (63, fun o => o = o')).map (·.1) = l.map (·.1) := by
    rw [List.map_set]
    apply List.ext_getElem?
    intro j
    rw [List.getElem?_set]
    by_cases hij : i = j
    · subst hij
      rw [if_pos rfl, List.getElem?_map, hi]
      split
      · rfl
      · rename_i hlt
        rw [List.length_map] at hlt
        rw [List.getElem?_eq_none (by omega)] at hi; cases hi
    · rw [if_neg hij]
  obtain ⟨g, H₂, hkg, hg⟩ := H.rebaseF H₁ hmap
  have hlt : i < l.length := (List.getElem?_eq_some_iff.mp hi).1
  refine h y g h' tk hkg ?_ ?_
  · have hi2 : (l.set i (63, fun o => o = o'))[i]? = some (63, fun o => o = o') := by rw [List.getElem?_set_self hlt]
    have := H₂.weak hi2 (φ' := TabOk g) (by
      rintro o rfl
      rcases hdis with rfl | ⟨c, rfl, hc, hn⟩
      · exact hTok.up hkg
      · refine .inr ⟨c, rfl, ?_⟩
        obtain ⟨c', oc, vs, t, e, h1, h2, h3⟩ := hc
        cases e
        exact ⟨c, oc, vs, t, rfl, hg _ _ hn h1, h2, h3⟩)
    rwa [List.set_set] at this
  · obtain ⟨vs, hl, R⟩ := hLS
    exact ⟨vs, hl.at fun o e => hg _ _ hy e, R⟩
end
end Mine
end

section
namespace Mine

section
variable {V : Type}
def sumsStep [Add V] (ws : List Wd) (nums : List (Wd × V)) (d : V) (S : List (Wd × V)) (x : Wd) : List (Wd × V) := addC S ((takers ws x).map fun y => (y, (get nums x).getD d))
def backStep [Add V] [Neg V] (S : List (Wd × V)) (d : V) (B : List (Wd × V)) (x : Wd) : List (Wd × V) := addC B (rbr x ((get S x).getD d))
end
def totalStep (nums : List (Wd × Int)) (t : Int) (x : Wd) : Int := t + (get nums x).getD 0 * howMany x
def numsI (ws : List Wd) (num : Nat → Int) : List (Wd × Int) := ws.zipIdx.map fun p => (p.1, num p.2)

/-- linear forms -/
abbrev Vec := List Int
def vadd : Vec → Vec → Vec
  | [], b => b
  | a, [] => a
  | a :: as, b :: bs => (a + b) :: vadd as bs
def vneg (a : Vec) : Vec := a.map fun x => -x
def vmul (c : Int) (a : Vec) : Vec := a.map fun x => x * c
def vunit : Nat → Vec
  | 0 => [1]
  | k + 1 => 0 :: vunit k
def vzero (a : Vec) : Bool := a.all fun x => x == 0
def ev (num : Nat → Int) : Nat → Vec → Int
  | _, [] => 0
  | k, a :: as => a * num k + ev num (k + 1) as

theorem ev_add (num : Nat → Int) : ∀ (k : Nat) (a b : Vec), ev num k (vadd a b) = ev num k a + ev num k b
  | k, [], b => by simp [vadd, ev]
  | k, a :: as, [] => by simp [vadd, ev]
  | k, a :: as, b :: bs => by
    simp only [vadd, ev, ev_add num (k + 1) as bs, Int.add_mul]
    omega
theorem ev_neg (num : Nat → Int) : ∀ (k : Nat) (a : Vec), ev num k (vneg a) = -ev num k a
  | k, [] => rfl
  | k, a :: as => by
    have := ev_neg num (k + 1) as
    unfold vneg at this ⊢
    simp only [List.map_cons, ev, this, Int.neg_mul]
    omega
theorem ev_mul (num : Nat → Int) (c : Int) : ∀ (k : Nat) (a : Vec), ev num k (vmul c a) = ev num k a * c
  | k, [] => by simp [vmul, ev]
  | k, a :: as => by
    have := ev_mul num c (k + 1) as
    unfold vmul at this ⊢
    simp only [List.map_cons, ev, this, Int.add_mul]
    rw [Int.mul_right_comm]
theorem ev_unit (num : Nat → Int) : ∀ (k j : Nat), ev num j (vunit k) = num (j + k)
  | 0, j => by simp [vunit, ev]
  | k + 1, j => by
    simp only [vunit, ev, ev_unit num k (j + 1), Int.zero_mul, Int.zero_add]
    congr 1; omega
theorem ev_zero (num : Nat → Int) : ∀ (k : Nat) (a : Vec), vzero a = true → ev num k a = 0
  | k, [], _ => rfl
  | k, a :: as, h => by
    unfold vzero at h
    simp only [List.all_cons, Bool.and_eq_true, beq_iff_eq] at h
    have := ev_zero num (k + 1) as h.2
    simp only [ev, this, h.1, Int.zero_mul, Int.zero_add]

def numsV (ws : List Wd) : List (Wd × Vec) := ws.zipIdx.map fun p => (p.1, vunit p.2)
def sumsV (ws : List Wd) : List (Wd × Vec) := ws.foldl (@sumsStep Vec ⟨vadd⟩ ws (numsV ws) []) []
def backV (ws : List Wd) (S : List (Wd × Vec)) : List (Wd × Vec) := ws.foldl (@backStep Vec ⟨vadd⟩ ⟨vneg⟩ S []) []
def totalV (ws : List Wd) (nums : List (Wd × Vec)) : Vec := ws.foldl (fun t x => vadd t (vmul (howMany x) ((get nums x).getD []))) []
def vsum (l : List Vec) : Vec := l.foldr vadd []

def chk (ws : List Wd) : Bool :=
  let S := sumsV ws
  let N := numsV ws
  let B := backV ws S
  (ws.all fun x => decide (((takers ws x).length : Int) = howMany x) && (get S x).isSome) && (B.length == N.length) && (B.all fun p => match get N p.1 with | some v => vzero (vadd p.2 (vneg v)) | none => false) &&
    vzero (vadd (vsum (S.map (·.2))) (vneg (totalV ws N)))
def chkT (x : Wd) : Bool := chk (wordsP (x.map fun c => [c]))
set_option maxHeartbeats 4000000
theorem chk_3_97 : ((Lv 2).all fun x => chkT (97 :: x)) = true := by decide +kernel
theorem chk_3_98 : ((Lv 2).all fun x => chkT (98 :: x)) = true := by decide +kernel
theorem chk_3_99 : ((Lv 2).all fun x => chkT (99 :: x)) = true := by decide +kernel
theorem chk_4_97_97_97 : ((Lv 1).all fun x => chkT (97 :: 97 :: 97 :: x)) = true := by decide +kernel
theorem chk_4_97_97_98 : ((Lv 1).all fun x => chkT (97 :: 97 :: 98 :: x)) = true := by decide +kernel
theorem chk_4_97_97_99 : ((Lv 1).all fun x => chkT (97 :: 97 :: 99 :: x)) = true := by decide +kernel
theorem chk_4_97_98_97 : ((Lv 1).all fun x => chkT (97 :: 98 :: 97 :: x)) = true := by decide +kernel
theorem chk_4_97_98_98 : ((Lv 1).all fun x => chkT (97 :: 98 :: 98 :: x)) = true := by decide +kernel
theorem chk_4_97_98_99 : ((Lv 1).all fun x => chkT (97 :: 98 :: 99 :: x)) = true := by decide +kernel
theorem chk_4_97_99_97 : ((Lv 1).all fun x => chkT (97 :: 99 :: 97 :: x)) = true := by decide +kernel
theorem chk_4_97_99_98 : ((Lv 1).all fun x => chkT (97 :: 99 :: 98 :: x)) = true := by decide +kernel
theorem chk_4_97_99_99 : ((Lv 1).all fun x => chkT (97 :: 99 :: 99 :: x)) = true := by decide +kernel
theorem chk_4_98_97_97 : ((Lv 1).all fun x => chkT (98 :: 97 :: 97 :: x)) = true := by decide +kernel
theorem chk_4_98_97_98 : ((Lv 1).all fun x => chkT (98 :: 97 :: 98 :: x)) = true := by decide +kernel
theorem chk_4_98_97_99 : ((Lv 1).all fun x => chkT (98 :: 97 :: 99 :: x)) = true := by decide +kernel
theorem chk_4_98_98_97 : ((Lv 1).all fun x => chkT (98 :: 98 :: 97 :: x)) = true := by decide +kernel
theorem chk_4_98_98_98 : ((Lv 1).all fun x => chkT (98 :: 98 :: 98 :: x)) = true := by decide +kernel
theorem chk_4_98_98_99 : ((Lv 1).all fun x => chkT (98 :: 98 :: 99 :: x)) = true := by decide +kernel
theorem chk_4_98_99_97 : ((Lv 1).all fun x => chkT (98 :: 99 :: 97 :: x)) = true := by decide +kernel
theorem chk_4_98_99_98 : ((Lv 1).all fun x => chkT (98 :: 99 :: 98 :: x)) = true := by decide +kernel
theorem chk_4_98_99_99 : ((Lv 1).all fun x => chkT (98 :: 99 :: 99 :: x)) = true := by decide +kernel
theorem chk_4_99_97_97 : ((Lv 1).all fun x => chkT (99 :: 97 :: 97 :: x)) = true := by decide +kernel
theorem chk_4_99_97_98 : ((Lv 1).all fun x => chkT (99 :: 97 :: 98 :: x)) = true := by decide +kernel
theorem chk_4_99_97_99 : ((Lv 1).all fun x => chkT (99 :: 97 :: 99 :: x)) = true := by decide +kernel
theorem chk_4_99_98_97 : ((Lv 1).all fun x => chkT (99 :: 98 :: 97 :: x)) = true := by decide +kernel
theorem chk_4_99_98_98 : ((Lv 1).all fun x => chkT (99 :: 98 :: 98 :: x)) = true := by decide +kernel
theorem chk_4_99_98_99 : ((Lv 1).all fun x => chkT (99 :: 98 :: 99 :: x)) = true := by decide +kernel
theorem chk_4_99_99_97 : ((Lv 1).all fun x => chkT (99 :: 99 :: 97 :: x)) = true := by decide +kernel
theorem chk_4_99_99_98 : ((Lv 1).all fun x => chkT (99 :: 99 :: 98 :: x)) = true := by decide +kernel
theorem chk_4_99_99_99 : ((Lv 1).all fun x => chkT (99 :: 99 :: 99 :: x)) = true := by decide +kernel
theorem chk_3 : (Lv 3).all chkT = true := Lv_cons chk_3_97 chk_3_98 chk_3_99
theorem chk_4 : (Lv 4).all chkT = true := Lv_cons (Lv_cons (P := fun x => chkT (97 :: x)) (Lv_cons (P := fun x => chkT (97 :: 97 :: x)) chk_4_97_97_97 chk_4_97_97_98 chk_4_97_97_99) (Lv_cons (P := fun x => chkT (97 :: 98 :: x)) chk_4_97_98_97 chk_4_97_98_98 chk_4_97_98_99) (Lv_cons (P := fun x => chkT (97 :: 99 :: x)) chk_4_97_99_97 chk_4_97_99_98 chk_4_97_99_99))
  (Lv_cons (P := fun x => chkT (98 :: x)) (Lv_cons (P := fun x => chkT (98 :: 97 :: x)) chk_4_98_97_97 chk_4_98_97_98 chk_4_98_97_99) (Lv_cons (P := fun x => chkT (98 :: 98 :: x)) chk_4_98_98_97 chk_4_98_98_98 chk_4_98_98_99) (Lv_cons (P := fun x => chkT (98 :: 99 :: x)) chk_4_98_99_97 chk_4_98_99_98 chk_4_98_99_99))
  (Lv_cons (P := fun x => chkT (99 :: x)) (Lv_cons (P := fun x => chkT (99 :: 97 :: x)) chk_4_99_97_97 chk_4_99_97_98 chk_4_99_97_99) (Lv_cons (P := fun x => chkT (99 :: 98 :: x)) chk_4_99_98_97 chk_4_99_98_98 chk_4_99_98_99) (Lv_cons (P := fun x => chkT (99 :: 99 :: x)) chk_4_99_99_97 chk_4_99_99_98 chk_4_99_99_99))
theorem chk_all {x : Wd} (h : ∀ c ∈ x, isLetter c = true) (hl : x.length = 3 ∨ x.length = 4) : chkT x = true := by
  have hm := mem_Lv x h
  rcases hl with hl | hl
  · rw [hl] at hm
    exact List.all_eq_true.mp chk_3 x hm
  · rw [hl] at hm
    exact List.all_eq_true.mp chk_4 x hm

/-- the values of a table, each taken through f -/
def mapV {V U : Type} (f : V → U) (l : List (Wd × V)) : List (Wd × U) := l.map fun p => (p.1, f p.2)
section
variable {V U : Type} (f : V → U)
theorem mapV_get (l : List (Wd × V)) (k : Wd) : get (mapV f l) k = (get l k).map f := by
  induction l with
  | nil => rfl
  | cons p l ih =>
    unfold get mapV at ih ⊢
    rw [List.map_cons, List.find?_cons, List.find?_cons]
    by_cases h : p.1 = k
    · simp [h]
    · simp only [h, decide_false]; exact ih
theorem mapV_put (l : List (Wd × V)) (k : Wd) (v : V) : put (mapV f l) k (f v) = mapV f (put l k v) := by
  have e : ((mapV f l).any fun p => decide (p.1 = k)) = l.any fun p => decide (p.1 = k) := by unfold mapV; rw [List.any_map]; rfl
  unfold put
  rw [e]
  split
  · unfold mapV
    rw [List.map_map, List.map_map]
    apply List.map_congr_left
    intro p _
    show (if p.1 = k then (p.1, f v) else (p.1, f p.2)) = _
    by_cases h : p.1 = k
    · simp [h]
    · simp [h]
  · unfold mapV
    rw [List.map_append]; rfl
variable [Add V] [Add U] (hadd : ∀ a b, f (a + b) = f a + f b)
include hadd
theorem mapV_addOne (l : List (Wd × V)) (p : Wd × V) : addOne (mapV f l) (p.1, f p.2) = mapV f (addOne l p) := by
  unfold addOne
  rw [mapV_get]
  cases h : get l p.1 with
  | none => exact mapV_put f l p.1 p.2
  | some u =>
    show put (mapV f l) p.1 (f u + f p.2) = _
    rw [← hadd]
    exact mapV_put f l p.1 (u + p.2)
theorem mapV_addC (s : List (Wd × V)) : ∀ t : List (Wd × V), addC (mapV f t) (mapV f s) = mapV f (addC t s) := by
  induction s with
  | nil => intro t; rfl
  | cons p s ih =>
    intro t
    show addC (addOne (mapV f t) (p.1, f p.2)) (mapV f s) = mapV f (addC (addOne t p) s)
    rw [mapV_addOne f hadd, ih]
variable [Neg V] [Neg U] (hneg : ∀ a, f (-a) = -f a)
include hneg
theorem mapV_rbrTo (x : Wd) (n : V) : ∀ i, rbrTo x (f n) i = mapV f (rbrTo x n i)
  | 0 => rfl
  | i + 1 => by
    rw [rbrTo_succ, rbrTo_succ, mapV_rbrTo x n i]
    have hk : rbrKept x (mapV f (rbrTo x n i)) i = mapV f (rbrKept x (rbrTo x n i) i) := by
      unfold rbrKept mapV
      rw [List.map_map, List.map_map]; rfl
    have hn : rbrNeg (mapV f (rbrTo x n i)) = mapV f (rbrNeg (rbrTo x n i)) := by
      unfold rbrNeg mapV
      rw [List.map_map, List.map_map]
      apply List.map_congr_left
      intro p _
      show (p.1, -f p.2) = (p.1, f (-p.2))
      rw [hneg]
    unfold rbrStep
    split
    · exact hk
    · rw [hk, hn, mapV_addC f hadd]
omit hneg [Neg V] [Neg U] in
theorem mapV_sums (ws : List Wd) (nums : List (Wd × V)) (d : V) (xs : List Wd) : ∀ S : List (Wd × V), xs.foldl (sumsStep ws (mapV f nums) (f d)) (mapV f S) = mapV f (xs.foldl (sumsStep ws nums d) S) := by
  induction xs with
  | nil => intro S; rfl
  | cons x xs ih =>
    intro S
    rw [List.foldl_cons, List.foldl_cons, ← ih]
    congr 1
    unfold sumsStep
    rw [← mapV_addC f hadd]
    congr 1
    unfold mapV
    rw [List.map_map]
    apply List.map_congr_left
    intro y _
    show (y, (get (mapV f nums) x).getD (f d)) = (y, f ((get nums x).getD d))
    rw [mapV_get]
    cases get nums x <;> rfl
theorem mapV_back (S : List (Wd × V)) (d : V) (xs : List Wd) : ∀ B : List (Wd × V), xs.foldl (backStep (mapV f S) (f d)) (mapV f B) = mapV f (xs.foldl (backStep S d) B) := by
  induction xs with
  | nil => intro B; rfl
  | cons x xs ih =>
    intro B
    rw [List.foldl_cons, List.foldl_cons, ← ih]
    congr 1
    unfold backStep rbr
    rw [← mapV_addC f hadd]
    congr 1
    rw [mapV_get, ← mapV_rbrTo f hadd hneg]
    cases get S x <;> rfl
end

theorem ev_vsum (num : Nat → Int) (l : List Vec) : ev num 0 (vsum l) = (l.map (ev num 0)).sum := by
  induction l with
  | nil => rfl
  | cons a l ih =>
    show ev num 0 (vadd a (vsum l)) = _
    rw [ev_add, ih]; simp

theorem ev_total (num : Nat → Int) (nums : List (Wd × Vec)) (xs : List Wd) : ∀ t : Vec, xs.foldl (totalStep (mapV (ev num 0) nums)) (ev num 0 t) = ev num 0 (xs.foldl (fun t x => vadd t (vmul (howMany x) ((get nums x).getD []))) t) := by
  induction xs with
  | nil => intro t; rfl
  | cons x xs ih =>
    intro t
    rw [List.foldl_cons, List.foldl_cons, ← ih]
    congr 1
    unfold totalStep
    rw [ev_add, ev_mul, mapV_get]
    cases get nums x <;> rfl

theorem numsI_V (ws : List Wd) (num : Nat → Int) : numsI ws num = mapV (ev num 0) (numsV ws) := by
  unfold numsI numsV mapV
  rw [List.map_map]
  apply List.map_congr_left
  intro p _
  show (p.1, num p.2) = (p.1, ev num 0 (vunit p.2))
  rw [ev_unit, Nat.zero_add]

/-- THE PLAIN LAW -/
theorem law_of_chk {ws : List Wd} (h : chk ws = true) (num : Nat → Int) :
    (∀ x ∈ ws, ((takers ws x).length : Int) = howMany x) ∧
    (let N := numsI ws num
     let S := ws.foldl (sumsStep ws N 0) []
     let B := ws.foldl (backStep S 0) []
     (∀ x ∈ ws, (get S x).isSome = true) ∧ B.length = N.length ∧ (∀ p ∈ B, get N p.1 = some p.2) ∧ (S.map (·.2)).sum = ws.foldl (totalStep N) 0) := by
  unfold chk at h
  simp only [Bool.and_eq_true] at h
  obtain ⟨⟨⟨h1, h2⟩, h3⟩, h4⟩ := h
  have hS : ws.foldl (sumsStep ws (numsI ws num) 0) [] = mapV (ev num 0) (sumsV ws) := by
    rw [numsI_V]
    exact @mapV_sums Vec Int (ev num 0) ⟨vadd⟩ _ (ev_add num 0) ws (numsV ws) [] ws []
  have hB : ws.foldl (backStep (mapV (ev num 0) (sumsV ws)) 0) [] = mapV (ev num 0) (backV ws (sumsV ws)) :=
    @mapV_back Vec Int (ev num 0) ⟨vadd⟩ _ (ev_add num 0) ⟨vneg⟩ _ (ev_neg num 0) (sumsV ws) [] ws []
  have h1' : ∀ x ∈ ws, ((takers ws x).length : Int) = howMany x ∧ (get (sumsV ws) x).isSome = true := fun x hx => by
    have := List.all_eq_true.mp h1 x hx
    simp only [Bool.and_eq_true, decide_eq_true_eq] at this
    exact this
  refine ⟨fun x hx => (h1' x hx).1, ?_⟩
  dsimp only
  rw [hS, hB]
  refine ⟨?_, ?_, ?_, ?_⟩
  · intro x hx
    rw [mapV_get, Option.isSome_map]
    exact (h1' x hx).2
  · rw [numsI_V]
    unfold mapV
    rw [List.length_map, List.length_map]
    exact beq_iff_eq.mp h2
  · intro p hp
    obtain ⟨q, hq, rfl⟩ := List.mem_map.mp hp
    have := List.all_eq_true.mp h3 q hq
    rw [numsI_V, mapV_get]
    cases e : get (numsV ws) q.1 with
    | none => rw [e] at this; cases this
    | some v =>
      rw [e] at this
      have z := ev_zero num 0 _ this
      rw [ev_add, ev_neg] at z
      show some (ev num 0 v) = some (ev num 0 q.2)
      congr 1; omega
  · have z := ev_zero num 0 _ h4
    rw [ev_add, ev_neg, ev_vsum] at z
    have t := ev_total num (numsV ws) ws []
    rw [numsI_V]
    show _ = ws.foldl (totalStep (mapV (ev num 0) (numsV ws))) (ev num 0 [])
    rw [t]
    unfold mapV
    rw [List.map_map]
    rw [List.map_map] at z
    show (List.map ((fun x => ev num 0 x) ∘ fun x => x.2) (sumsV ws)).sum = ev num 0 (totalV ws (numsV ws))
    have z' : (List.map (ev num 0 ∘ fun x => x.2) (sumsV ws)).sum + -ev num 0 (totalV ws (numsV ws)) = 0 := z
    have : (List.map ((fun x => ev num 0 x) ∘ fun x => x.2) (sumsV ws)).sum = (List.map (ev num 0 ∘ fun x => x.2) (sumsV ws)).sum := rfl
    omega
end Mine
end

section
namespace Mine
open PySem PySem.W PyProof.Rows PySem.Calls

/-- a list of ints -/
def LI (h : Heap) (a : Addr) (ns : List Int) : Prop := ∃ vs, h.IsList a vs.toArray ∧ IntsAre vs ns
theorem LI.keep {h h' : Heap} {a : Addr} {ns : List Int} (x : LI h a ns) (hk : Up h h') : LI h' a ns := let ⟨vs, p, q⟩ := x; ⟨vs, p.at fun _ e => hk _ _ e, q⟩
def PLI (h : Heap) (a : Addr) (ns : List Int) : Prop := ∃ vs, h.PlainList a vs.toArray ∧ IntsAre vs ns
theorem PLI.li {h : Heap} {a : Addr} {ns : List Int} (x : PLI h a ns) : LI h a ns := let ⟨vs, p, q⟩ := x; ⟨vs, p.isList, q⟩
theorem PLI.keep {h h' : Heap} {a : Addr} {ns : List Int} (x : PLI h a ns) (hk : Up h h') : PLI h' a ns := let ⟨vs, ⟨n, p⟩, q⟩ := x; ⟨vs, ⟨n, hk _ _ p⟩, q⟩

section
variable {prog : Program} {w : World} {A : Around} {E : Value → Shared → Prop} {s : Shared} {env : Env}

/-- the end of a slice of a list -/
theorem slice_tail {value slice : Expr} {l : Addr} {items : Array Value} {vl vu : Value} {lo hi : Option Int} {Q : Value → Shared → Prop} (hl : s.heap.IsList l items) (pl : IsPart vl lo) (pu : IsPart vu hi) (hsz : items.size ≤ 1000)
    (h : ∀ D h', Up s.heap h' → s.heap.get? D = none → h'.get? D = some { cls := .type "list", data := .seq (slicePick items lo hi none) } → Q (.ref D) { s with heap := h' })
    (hs : subscripted slice false (.ref l) (.ref s.heap.objs.size) = operate [.ref s.heap.objs.size, .ref l] (getItem (.ref l) (.ref s.heap.objs.size)) := by with_unfolding_all rfl) :
    wpAny (model prog w) A (subscriptTail value slice (.ref l) (.ref s.heap.objs.size)) Q E { s with heap := s.heap.push { cls := .type "slice", data := .fields #[vl, vu, .none] } } := by
  refine tail_any (Heap.IsList.typeIs (s := { s with heap := s.heap.push { cls := .type "slice", data := .fields #[vl, vu, .none] } }) (hl.push _)) list_getitem_lookup
    (wpAny_getItem_list_slice (hl.push _) (Heap.IsSliceOf.new ..) pl pu .none (by simp) ?_ (by rw [sizeLine_eq]; omega)) hs
  show Q (.ref (s.heap.push _).objs.size) _
  refine h _ _ (fun b o e => Heap.get?_push_of_some _ (Heap.get?_push_of_some _ e)) ?_ (Heap.get?_push_size _ rfl)
  cases e : s.heap.get? (s.heap.push { cls := .type "slice", data := .fields #[vl, vu, .none] }).objs.size with
  | none => rfl
  | some o =>
    have h1 := Heap.lt_size e
    rw [Heap.size_push] at h1
    exact absurd h1 (Nat.not_lt.mpr (Nat.le_succ _))

theorem len_LI {D : Addr} {ns : List Int} {Q : Value → Shared → Prop} (hl : LI s.heap D ns) (hn : ns.length ≤ 100000) (h : ∀ t tk, Q (.int ns.length t) { s with toks := tk }) :
    wpAny (model prog w) A (call (.builtin "len") [.ref D]) Q E s := by
  obtain ⟨vs, hv, R⟩ := hl
  refine PyProof.Rows.len_list hv (by rw [List.size_toArray, R.length]; omega) ?_
  rw [List.size_toArray, R.length]
  exact h _ _

theorem add_PLI {a b : Addr} {ns ms : List Int} {Q : Value → Shared → Prop} (ha : PLI s.heap a ns) (hb : PLI s.heap b ms) (hsz : ns.length + ms.length ≤ 100000)
    (h : ∀ vs, IntsAre vs (ns ++ ms) → Q (.ref s.heap.objs.size) { s with heap := s.heap.push { cls := .type "list", data := .seq vs.toArray } }) : wpAny (model prog w) A (binaryOp .Add (.ref a) (.ref b)) Q E s := by
  obtain ⟨va, ⟨na, pa⟩, Ra⟩ := ha
  obtain ⟨vb, ⟨nb, pb⟩, Rb⟩ := hb
  refine P.add_list pa pb ?_ (by rw [sizeLine_eq, List.size_toArray, List.size_toArray, Ra.length, Rb.length]; omega)
  rw [List.append_toArray]
  exact h _ (Ra.append Rb)

theorem ints_at : ∀ {vs : List Value} {ns : List Int}, IntsAre vs ns → ∀ {j : Nat} {v : Value}, vs[j]? = some v → ∃ n t, v = .int n t ∧ ns[j]? = some n
  | _, _, .nil, _, _, h => by simp at h
  | _, _, .cons n t _, 0, v, h => by
    simp only [List.getElem?_cons_zero, Option.some.injEq] at h
    exact ⟨n, t, h.symm, rfl⟩
  | _, _, .cons n t R, j + 1, v, h => by
    rw [List.getElem?_cons_succ] at h
    obtain ⟨m, u, e, q⟩ := ints_at R h
    exact ⟨m, u, e, by rw [List.getElem?_cons_succ]; exact q⟩

theorem newInts {vs : List Value} {ns : List Int} {Q : Value → Shared → Prop} (hI : IntsAre vs ns) (hsz : ns.length ≤ 1000) (h : ∀ D h', Up s.heap h' → s.heap.get? D = none → PLI h' D ns → Q (.ref D) { s with heap := h' }) :
    wpAny (model prog w) A (newList vs) Q E s := by
  refine wpAny_newList ?_ (by rw [sizeLine_eq, hI.length]; omega)
  exact h _ _ (fun b o e => Heap.get?_push_of_some _ e) (get?_size _) ⟨vs, ⟨0, Heap.get?_push_size _ rfl⟩, hI⟩

/-- sum of a list of one int or none -/
theorem sum_LI {D : Addr} {ns : List Int} {Q : Value → Shared → Prop} (hh : A.handled = none) (hl : LI s.heap D ns) (hn : ns.length ≤ 1) (h : ∀ h' tk t, Up s.heap h' → Q (.int ns.sum t) { s with heap := h', toks := tk }) :
    wpAny (model prog w) A (call (.builtin "sum") [.ref D]) Q E s := by
  obtain ⟨vs, hv, R⟩ := hl
  have hlt : D < s.heap.objs.size := let ⟨_, ho, _⟩ := hv; Heap.lt_size ho
  refine call_sum_walkG ?_
  refine wpAny_pyIter_list hv ?_
  refine ⟨_, _, _, _, _, _, fun i => ns.getD i 0, rfl, Walks.list (A := A.in1) hh _ D (Nat.ne_of_lt hlt) vs.toArray, ⟨⟨_, Heap.get?_push_size _ rfl, rfl, rfl⟩, hv.at fun o e => Heap.get?_push_of_some _ e⟩, ?_, ?_, ?_⟩
  · intro b hb
    simp only [List.mem_cons, List.not_mem_nil, or_false] at hb
    rw [Heap.size_push]
    rcases hb with rfl | rfl
    · exact Nat.lt_succ_self _
    · exact Nat.lt_succ_of_lt hlt
  · intro i v hi
    obtain ⟨n, t, rfl, e⟩ := ints_at R (by simpa using hi : vs[i]? = some v)
    refine ⟨t, ?_⟩
    show Value.int n t = Value.int (ns.getD i 0) t
    rw [List.getD_eq_getElem?_getD, e]; rfl
  · intro h' tk t' hk
    have hk' : Up s.heap h' := fun b o e => hk b o (by rw [List.mem_singleton]; exact Nat.ne_of_lt (Heap.lt_size e)) (Heap.get?_push_of_some _ e)
    have e : preSum (fun i => ns.getD i 0) vs.toArray.size = ns.sum := by
      rw [List.size_toArray, R.length]
      match ns, hn with
      | [], _ => rfl
      | [n], _ => simp [preSum]
    rw [e]
    exact h h' tk t' hk'
end
end Mine
end

section
namespace Mine
open PySem PySem.W PyProof.Rows PySem.Calls
def drawsP (ns : List Int) : List Int := ns.take 4 ++ ([0, 1, 0] : List Int).drop (ns.take 4).length
def letterP (x : Int) : Nat := 97 + (x.fmod 3).toNat
def topsP (ns : List Int) : Wd := (drawsP ns).map letterP
def numP (ns : List Int) (k : Nat) : Int := k * k + 1 + ((ns.drop k).take 1).sum

theorem fmod3 (x : Int) : 0 ≤ x.fmod 3 ∧ x.fmod 3 < 3 := by
  rw [Int.fmod_eq_emod_of_nonneg _ (by decide)]
  exact ⟨Int.emod_nonneg _ (by decide), Int.emod_lt_of_pos _ (by decide)⟩
theorem letterP_ok (x : Int) : isLetter (letterP x) = true := by
  obtain ⟨h1, h2⟩ := fmod3 x
  unfold letterP isLetter
  simp only [Bool.or_eq_true, beq_iff_eq]
  omega
theorem letterP_at (x : Int) : ([97, 98, 99] : Wd)[(x.fmod 3).toNat]? = some (letterP x) := by
  obtain ⟨h1, h2⟩ := fmod3 x
  unfold letterP
  have : (x.fmod 3).toNat < 3 := by omega
  generalize (x.fmod 3).toNat = k at this
  match k, this with
  | 0, _ => rfl
  | 1, _ => rfl
  | 2, _ => rfl
theorem topsP_len (ns : List Int) : (topsP ns).length = 3 ∨ (topsP ns).length = 4 := by
  unfold topsP drawsP
  rw [List.length_map, List.length_append, List.length_drop, List.length_take]
  simp only [List.length_cons, List.length_nil]
  omega
theorem topsP_ok (ns : List Int) : ∀ c ∈ topsP ns, isLetter c = true := by
  intro c hc
  obtain ⟨x, _, rfl⟩ := List.mem_map.mp hc
  exact letterP_ok x
theorem paired_ints (f : Int → Wd) : ∀ {vs : List Value} {ns : List Int} {ys : List Value}, IntsAre vs ns → Paired (fun v y => ∃ n t t', v = .int n t ∧ y = .str (W (f n)) t') vs ys → SRel ys (ns.map f)
  | _, _, _, .nil, .nil => rfl
  | _, _, _, .cons n t R, .cons hF hP => by
    obtain ⟨m, t1, t2, e, rfl⟩ := hF
    injection e with e _
    subst e
    have := paired_ints f R hP
    unfold SRel at this ⊢
    rw [List.map_cons, List.map_cons, List.map_cons, this, unStr_W]
end Mine
end

section
namespace Mine
open PySem PySem.W PyProof.Rows PySem.Calls
theorem wordsStep_nodup {f : List Wd} (h : f.Nodup) (c : Wd) : (wordsStep f c).Nodup := by
  unfold wordsStep
  rw [List.nodup_append]
  refine ⟨h, (nodup_map_inj h fun a b e => List.append_cancel_right e).sublist List.filter_sublist, ?_⟩
  intro a ha b hb e
  subst e
  have := (List.mem_filter.mp hb).2
  simp [ha] at this
theorem words_nodup (ts : List Wd) : ∀ f : List Wd, f.Nodup → (ts.foldl wordsStep f).Nodup := by
  induction ts with
  | nil => intro f h; exact h
  | cons c ts ih => intro f h; exact ih _ (wordsStep_nodup h c)
theorem words_letters (P : Nat → Prop) (ts : List Wd) : ∀ f : List Wd, (∀ y ∈ f, ∀ c ∈ y, P c) → (∀ y ∈ ts, ∀ c ∈ y, P c) → ∀ y ∈ ts.foldl wordsStep f, ∀ c ∈ y, P c := by
  induction ts with
  | nil => intro f h _; exact h
  | cons t ts ih =>
    intro f h ht
    refine ih _ ?_ fun y hy => ht y (.tail _ hy)
    intro y hy c hc
    unfold wordsStep at hy
    rcases List.mem_append.mp hy with hy | hy
    · exact h y hy c hc
    · obtain ⟨z, hz, rfl⟩ := List.mem_map.mp (List.mem_filter.mp hy).1
      rcases List.mem_append.mp hc with hc | hc
      · exact h z hz c hc
      · exact ht t (.head _) c hc

/-- the words that the law speaks of -/
def wsP (ns : List Int) : List Wd := wordsP ((topsP ns).map fun c => [c])
theorem wsP_len (ns : List Int) : (wsP ns).length ≤ 16 := by
  have h := wordsP_len _ ((topsP ns).map fun c => [c]) rfl
  rw [List.length_map] at h
  refine Nat.le_trans h ?_
  rcases topsP_len ns with e | e <;> rw [e] <;> decide
theorem wsP_nodup (ns : List Int) : (wsP ns).Nodup := words_nodup _ _ (by simp)
theorem wsP_ok (ns : List Int) : ∀ y ∈ wsP ns, Ok y := by
  intro y hy
  refine ⟨?_, words_letters (fun c => isLetter c = true) _ _ ?_ ?_ y hy⟩
  · have h := wordsP_small _ ((topsP ns).map fun c => [c]) rfl (by intro c hc; obtain ⟨d, _, rfl⟩ := List.mem_map.mp hc; rfl) y hy
    rw [List.length_map] at h
    rcases topsP_len ns with e | e <;> omega
  · intro y hy c hc
    rw [List.mem_singleton.mp hy] at hc; cases hc
  · intro y hy c hc
    obtain ⟨d, hd, rfl⟩ := List.mem_map.mp hy
    rw [List.mem_singleton.mp hc]
    exact topsP_ok ns d hd
theorem wsP_chk (ns : List Int) : chk (wsP ns) = true := chk_all (topsP_ok ns) (topsP_len ns)
theorem ok_small {x : Wd} (h : Ok x) : ∀ c ∈ x, c < 128 := by
  intro c hc
  have := h.2 c hc
  simp only [isLetter, Bool.or_eq_true, beq_iff_eq] at this
  omega

/-- the numbers, by the places of the words -/
def numsTo (ws : List Wd) (num : Nat → Int) : List (Wd × Int) := numsI ws num
theorem numsI_at {ws : List Wd} {num : Nat → Int} {k : Nat} {p : Wd × Int} (h : (numsI ws num)[k]? = some p) : ws[k]? = some p.1 ∧ p.2 = num k := by
  unfold numsI at h
  rw [List.getElem?_map, List.getElem?_zipIdx] at h
  cases e : ws[k]? with
  | none => rw [e] at h; cases h
  | some x =>
    rw [e] at h
    simp at h
    subst h
    exact ⟨rfl, rfl⟩
theorem numsI_keys (ws : List Wd) (num : Nat → Int) : (numsI ws num).map (·.1) = ws := by
  unfold numsI
  rw [List.map_map]
  exact List.zipIdx_map_fst 0 ws
theorem numsI_len (ws : List Wd) (num : Nat → Int) : (numsI ws num).length = ws.length := by
  have := congrArg List.length (numsI_keys ws num)
  rwa [List.length_map] at this
theorem numsI_get {ws : List Wd} {num : Nat → Int} {x : Wd} (h : x ∈ ws) : ∃ v, get (numsI ws num) x = some v := get_mem (by rw [numsI_keys]; exact h)
end Mine
namespace Mine
open PySem PySem.W PyProof.Rows PySem.Calls
theorem slice_one {vs : List Value} {ns : List Int} (hi : IntsAre vs ns) (k : Nat) : IntsAre (slicePick vs.toArray (some (k : Int)) (some ((k : Int) + 1)) none).toList ((ns.drop k).take 1) := by
  have h := slice_ints_plain hi (k : Int) ((k : Int) + 1)
  have c1 := clipAt_cast ns.length (k : Int)
  have c2 := clipAt_cast ns.length ((k : Int) + 1)
  rw [if_neg (by omega)] at c1 c2
  by_cases hk : k < ns.length
  · have e1 : clipAt ns.length (k : Int) = k := by omega
    have e2 : clipAt ns.length ((k : Int) + 1) = k + 1 := by omega
    rw [e1, e2, Nat.add_sub_cancel_left] at h
    exact h
  · have e1 : clipAt ns.length (k : Int) = ns.length := by omega
    have e2 : clipAt ns.length ((k : Int) + 1) = ns.length := by omega
    rw [e1, e2, Nat.sub_self, List.take_zero] at h
    rw [List.drop_eq_nil_of_le (by omega), List.take_nil]
    exact h

section
variable {prog : Program} {w : World} {A : Around} {E : Value → Shared → Prop} {s : Shared}
theorem range_iter {r : Addr} {n : Nat} {t u v : Tok} {Q : Value → Shared → Prop} (hh : A.handled = none) (hn : n < 1000) (hr : IsRange s.heap r 0 n 1 t u v)
    (h : ∀ o S, Walks prog w A s.heap.objs.size [s.heap.objs.size] [s.heap.objs.size] n (fun i v => i < n ∧ ∃ t, v = .int (i : Nat) t) S → S 0 (s.heap.push o) → Q (.ref s.heap.objs.size) { s with heap := s.heap.push o }) :
    wpAny (model prog w) A (pyIter (.ref r)) Q E s := by
  have hsz : Builtin.Range.rangeSize 0 (n : Int) 1 = (n : Int) := by
    unfold Builtin.Range.rangeSize
    rw [if_pos (by decide)]
    split <;> omega
  have hsm : Builtin.Range.small 0 (n : Int) 1 = true := by
    unfold Builtin.Range.small
    have e1 : Builtin.Range.rangeFitsLong 0 = true := by decide
    have e2 : Builtin.Range.rangeFitsLong 1 = true := by decide
    have e3 : Builtin.Range.rangeFitsLong (n : Int) = true := by
      unfold Builtin.Range.rangeFitsLong
      simp only [Bool.and_eq_true, decide_eq_true_eq]
      omega
    rw [hsz]
    simp [e1, e2, e3]
  refine wpAny_pyIter_range hr hsm ?_
  rw [hsz]
  have Wk := (Walks.range (prog := prog) (w := w) hh s.heap.objs.size 0 1 n).bound
  have e : (fun (i : Nat) (v : Value) => i < n ∧ ∃ t, v = .int (0 + (i : Int) * 1) t) = fun i v => i < n ∧ ∃ t, v = .int (i : Nat) t := by
    funext i v
    rw [show (0 : Int) + (i : Int) * 1 = (i : Int) by omega]
  refine h _ (fun i h => IsRangeIter h s.heap.objs.size (0 + (i : Nat) * 1) ((n : Int) - (i : Nat)) 1) (e ▸ Wk) ?_
  show IsRangeIter _ s.heap.objs.size (0 + ((0 : Nat) : Int) * 1) ((n : Int) - ((0 : Nat) : Int)) 1
  simpa using Heap.get?_push_size _ rfl
end
end Mine
end

section
namespace Mine
open PySem PySem.W PyProof.Rows PySem.Calls
local macro_rules | `(tactic| walk_at "lk") => `(tactic| ((repeat (first | exact lookup_hit | refine Eq.trans (lookup_skip (by decide)) ?_)); (try assumption)))
local macro_rules | `(tactic| walk_at "gr") => `(tactic| first | assumption | (refine' Gr.st ?a ?b; (case b => assumption); (case a => assumption)))
local macro_rules | `(tactic| walk_at "storeName") => `(tactic| first
  | (refine' st_loc ?H ?_; (case H => assumption); intro _ _ _; (try dsimp only))
  | (refine' st_cell (i := 1) ?H ?c ?e ?_; (case H => assumption); (case c => exact rfl); (case e => exact rfl); intro _ H9; (simp only [List.set_cons_zero, List.set_cons_succ] at H9); (try dsimp only))
  | (refine' st_cell (i := 2) ?H ?c ?e ?_; (case H => assumption); (case c => exact rfl); (case e => exact rfl); intro _ H9; (simp only [List.set_cons_zero, List.set_cons_succ] at H9); (try dsimp only))
  | (refine' st_cell (i := 3) ?H ?c ?e ?_; (case H => assumption); (case c => exact rfl); (case e => exact rfl); intro _ H9; (simp only [List.set_cons_zero, List.set_cons_succ] at H9); (try dsimp only))
  | (refine' st_cell (i := 4) ?H ?c ?e ?_; (case H => assumption); (case c => exact rfl); (case e => exact rfl); intro _ H9; (simp only [List.set_cons_zero, List.set_cons_succ] at H9); (try dsimp only)))
local macro_rules | `(tactic| walk_at "eval Name") => `(tactic| first
  | (refine' nm_loc ?H ?e ?_; (case H => assumption); (case e => walk_at "lk"); (try dsimp only))
  | (refine' nm_cell (i := 1) ?H ?c ?e ?_; (case H => assumption); (case c => exact rfl); (case e => exact rfl); (try dsimp only))
  | (refine' nm_cell (i := 2) ?H ?c ?e ?_; (case H => assumption); (case c => exact rfl); (case e => exact rfl); (try dsimp only))
  | (refine' nm_cell (i := 3) ?H ?c ?e ?_; (case H => assumption); (case c => exact rfl); (case e => exact rfl); (try dsimp only))
  | (refine' nm_cell (i := 4) ?H ?c ?e ?_; (case H => assumption); (case c => exact rfl); (case e => exact rfl); (try dsimp only))
  | (refine' nmr_loc ?R ?e ?_; (case R => assumption); (case e => walk_at "lk"); (try dsimp only))
  | (refine' nmr_cell ?R ?e ?_; (case R => assumption); (case e => walk_at "lk"); (try dsimp only))
  | (refine' nmr_free ?R ?e ?_; (case R => assumption); (case e => walk_at "lk"); (try dsimp only))
  | (refine' nm_glob ?g ?e ?_; (case g => walk_at "gr"); (case e => exact rfl); (try dsimp only))
  | (refine' nm_built ?g ?e ?v ?n ?_; (case g => walk_at "gr"); (case e => exact rfl); (case v => exact rfl); (case n => decide); (try dsimp only)))
local macro_rules | `(tactic| walk_at "loadName") => `(tactic| (refine' lnm_loc ?H ?e ?_; (case H => assumption); (case e => walk_at "lk"); (try dsimp only)))
local macro_rules | `(tactic| walk_at "no such goal") => `(tactic| assumption)
section
variable {prog : Program} {w : World} {A : Around} {E : Value → Shared → Prop} {s : Shared} {env : Env} {h₀ : Heap} {l : Own}

set_option maxHeartbeats 4000000
theorem law_2 {g : Heap} {L sa D fa : Addr} {al : List (Str × Value)} {v1 v2 : Option Value} {cd : Value} {ns : List Int} {o : Obj} {fd : FuncData} {body : List Stmt} {Q : Flow → Shared → Prop}
    (ho : (hd.heap_39 w.params).lookup 76 = some o) (hdata : o.data = .func fd) (hbody : fd.body = .stmts body)
    (G : Gr w g) (H : St g [(L, Loc al), (L + 1 + 1 + 1 + 1, CellP v1), (L + 1 + 1 + 1, CellP v2), (L + 1 + 1, CellP (some (.ref D))), (L + 1, CellP (some (.ref sa))), (63, TabOk g)] s.heap)
    (hsa : LI g sa ns) (hlen : ns.length ≤ 63) (hW : LS g D (wsP ns)) (hh : A.handled = none) (hroom : A.depth + 5 < recursionLimit)
    (h : ∀ g' al N P h' tk, Up g g' → Has al "patterns" (.ref P) → DI prog w g' N (numsI (wsP ns) (numP ns)) → DS prog w g' P (wsP ns) pat →
      St g' [(L, Loc al), (L + 1 + 1 + 1 + 1, CellP v1), (L + 1 + 1 + 1, CellP (some (.ref N))), (L + 1 + 1, CellP (some (.ref D))), (L + 1, CellP (some (.ref sa))), (63, TabOk g)] h' →
      wpAny (model prog w) A (execs (body.drop 4) (envOfC fd.name fd.scope L fa cd)) Q E { s with heap := h', toks := tk }) :
    wpAny (model prog w) A (execs (body.drop 2) (envOfC fd.name fd.scope L fa cd)) Q E s := by
  obtain rfl := Option.some.inj ((rfl : (hd.heap_39 w.params).lookup 76 = some _).symm.trans ho)
  cases hdata
  cases hbody
  simp only [List.drop_succ_cons, List.drop_zero] at h ⊢
  have hw16 := wsP_len ns
  have hnd := wsP_nodup ns
  have hok := wsP_ok ns
  generalize hws : wsP ns = ws at *
  iterate 2 walk1
  refine wpAny_DictComp_free (strKind prog w) (fun _ => true) (fun v k => ∃ (i : Nat) (t : Tok) (x : Wd), v = .int i t ∧ ws[i]? = some x ∧ k = W x) (fun v y => ∃ (i : Nat) (t t' : Tok), v = .int i t ∧ y = .int (numP ns i) t')
    (cl := [("words", L + 1 + 1), ("script", L + 1)]) rfl (by decide) rfl (by decide) rfl ?_
  iterate 2 walk1
  show wpAny _ _ (callWith _ (.type "range") _ _ _) _ _ _
  refine Pv.callWith_type1 ?_
  iterate 7 walk1
  refine len_LS (hW.keep H.keep) (by omega) ?_
  intro t3 tk3
  walk1
  refine call_range_1 ?_
  dsimp only
  have Hp := H.keeps (h' := s.heap.push { cls := .type "range", data := .fields #[.int 0 tk3, .int (ws.length : Nat) t3, .int 1 (tk3 + 1)] }) (fun b o e => Heap.get?_push_of_some _ e)
  refine range_iter hh (n := ws.length) (by omega) (IsRange.new ..) ?_
  intro o S Wk h0
  generalize hp : s.heap.push { cls := .type "range", data := .fields #[.int 0 tk3, .int (ws.length : Nat) t3, .int 1 (tk3 + 1)] } = hr at *
  obtain ⟨vs, hvs, hI⟩ := hsa
  refine ⟨_, _, _, _, _, _, rfl, Wk, by rw [sizeLine_eq]; omega, h0, ?_, ⟨?_, ?_, ?_⟩, ?_⟩
  · intro b hb
    rw [List.mem_singleton.mp hb]
    show _ < (hr.push o).objs.size
    rw [Heap.size_push]; exact Nat.lt_succ_self _
  · intro C j v s₃ m₃ E' hP hn hm hk
    exact no_test rfl
  · rintro C j v s₃ m₃ E' ⟨hj, t, rfl⟩ hp' hn hm hk
    have hk' : Up hr s₃.heap := fun b o e => hk b o (by rw [List.mem_singleton]; exact Nat.ne_of_lt (Heap.lt_size e)) (Heap.get?_push_of_some _ e)
    have Rr := comp_rd (cl := [("words", .ref D), ("script", .ref sa)]) (clA := [("words", L + 1 + 1), ("script", L + 1)]) Hp hn hm hk' (by
      intro p hp
      simp only [List.mem_cons, List.not_mem_nil, or_false] at hp
      rcases hp with rfl | rfl
      · exact ⟨_, 3, rfl, rfl⟩
      · exact ⟨_, 4, rfl, rfl⟩)
    iterate 3 walk1
    refine item_LS ((hW.keep Hp.keep).keep hk') (by omega) (by omega) (x := ws[j]) (by simp) ?_
    intro t7
    exact ⟨⟨_, strKind_is prog w _ _, j, t, _, rfl, by simp [hj], rfl⟩, _, _, rfl, fun _ _ e => e⟩
  · rintro C j v s₃ m₃ E' ⟨hj, t, rfl⟩ hp' hn hm hk
    have hk' : Up hr s₃.heap := fun b o e => hk b o (by rw [List.mem_singleton]; exact Nat.ne_of_lt (Heap.lt_size e)) (Heap.get?_push_of_some _ e)
    have Rr := comp_rd (cl := [("words", .ref D), ("script", .ref sa)]) (clA := [("words", L + 1 + 1), ("script", L + 1)]) Hp hn hm hk' (by
      intro p hp
      simp only [List.mem_cons, List.not_mem_nil, or_false] at hp
      rcases hp with rfl | rfl
      · exact ⟨_, 3, rfl, rfl⟩
      · exact ⟨_, 4, rfl, rfl⟩)
    have G₃ : Gr w s₃.heap := (G.st Hp).keeps hk'
    iterate 5 walk1
    refine mul_int ?_ (IntMulOk.of_left ?_)
    · iterate 5 walk1
      iterate 12 walk1
      refine slice_tail (((hvs.at fun _ e => Hp.keep _ _ e)).at fun _ e => hk' _ _ e) (.int _ _) (.int _ _) (by rw [List.size_toArray, hI.length]; omega) ?_
      intro D1 h1 hk1 hD10 hD1
      have hL1 : LI h1 D1 ((ns.drop j).take 1) := PLI.li ⟨_, ⟨0, by rw [Array.toArray_toList]; exact hD1⟩, slice_one hI j⟩
      walk1
      refine sum_LI hh hL1 (by rw [List.length_take]; omega) ?_
      intro h2 tk2 t2 hk2
      walk1
      exact ⟨⟨j, t, _, rfl, rfl⟩, _, _, rfl, fun b o e => hk2 _ _ (hk1 _ _ e)⟩
    · have : ∀ j < 17, Builtin.Int.intBits (j : Nat) ≤ 64 := by decide
      exact this j (by omega)
  · intro N h5 tk5 kvs vs' hN hD hlen' hP hF hk
    rw [List.filter_eq_self.mpr fun _ _ => rfl] at hF
    have hk' : Up hr h5 := fun b o e => hk b o (by rw [List.mem_singleton]; exact Nat.ne_of_lt (Heap.lt_size e)) (Heap.get?_push_of_some _ e)
    have hN0 : hr.get? N = none := by
      cases e : hr.get? N with
      | none => rfl
      | some o' => rw [show (hr.push o).get? N = some o' from Heap.get?_push_of_some _ e] at hN; cases hN
    have hR : Rel kvs (numsI ws (numP ns)) := by
      refine stored_rel hF (by rw [numsI_len]; exact hlen') (fun j v p hv hp => ?_) (by rw [numsI_keys]; exact hnd)
      obtain ⟨h1, h2⟩ := numsI_at hp
      obtain ⟨_, t, rfl⟩ := hP j v hv
      refine ⟨?_, ?_⟩
      · rintro k ⟨i, t', x, e, hx, rfl⟩
        injection e with e _
        have e : j = i := by omega
        subst e
        rw [h1] at hx
        cases hx; rfl
      · rintro y ⟨i, t', t2, e, rfl⟩
        injection e with e _
        have e : j = i := by omega
        subst e
        exact ⟨t2, by rw [h2]⟩
    obtain ⟨g6, H6, hkg6, hg6⟩ := Hp.callB hk'
    have hDI : DI prog w g6 N (numsI ws (numP ns)) := ⟨(G.st Hp).notSys hN0, kvs, hD.at fun o e => hg6 _ _ hN0 e, hR⟩
    have G6 : Gr w g6 := G.keeps hkg6
    dsimp only
    iterate 2 walk1
    rename_i h7 H7
    have hW7 := (hW.keep hkg6)
    refine assign_src (fk := id) (FV := fun y u => ∃ t, u = .str (W (pat y)) t) (cl := []) H7 (src_list hh (hW7.keep H7.keep)) (by omega)
      rfl rfl (by decide) rfl (by decide) rfl rfl rfl ?_ ?_ ?_ ?_
    · intro Q' hQ'
      walk1
      exact hQ'
    · intro C y ty s₃ m₃ E' hy hn hm hk
      have Rr := comp_rd (cl := []) (clA := []) H7 hn hm hk (by intro p hp; cases hp)
      walk1
      exact ⟨⟨ty, rfl⟩, _, _, rfl, fun _ _ e => e⟩
    · intro C y ty s₃ m₃ E' hy hn hm hk
      have Rr := comp_rd (cl := []) (clA := []) H7 hn hm hk (by intro p hp; cases hp)
      have G₃ : Gr w s₃.heap := (G6.st H7).keeps hk
      iterate 4 walk1
      refine cw_fn ?_
      iterate 15 walk1
      refine ⟨Gr.fn G₃ rfl rfl, ?_⟩
      refine replace_spec G₃ (hok y hy) hh (by omega) ?_
      intro h8 tk8 t8 hk8
      refine add_W (x := dots) (by rw [← List.length_append]; show (pat y).length ≤ _; rw [pat_length]; have := (hok y hy).1; omega) ?_
      intro t9 tk9
      exact ⟨⟨t9, rfl⟩, _, _, rfl, hk8⟩
    · intro P g8 h8 tk8 kvs8 vs8 hkg8 hP0 hP8 hS8 hR8 H8
      refine h g8 _ N P h8 tk8 (fun b o e => hkg8 _ _ (hkg6 _ _ e)) (by walk_at "lk") (hDI.keep hkg8) ⟨kvs8, hP8, stored_texts hS8 hR8⟩ H8
end
end Mine
end

section
namespace Mine
open PySem PySem.W PyProof.Rows PySem.Calls
local macro_rules | `(tactic| walk_at "lk") => `(tactic| ((repeat (first | exact lookup_hit | refine Eq.trans (lookup_skip (by decide)) ?_)); (try assumption)))
local macro_rules | `(tactic| walk_at "gr") => `(tactic| first | assumption | (refine' Gr.st ?a ?b; (case b => assumption); (case a => assumption)))
local macro_rules | `(tactic| walk_at "storeName") => `(tactic| first
  | (refine' st_loc ?H ?_; (case H => assumption); intro _ _ _; (try dsimp only))
  | (refine' st_cell (i := 1) ?H ?c ?e ?_; (case H => assumption); (case c => exact rfl); (case e => exact rfl); intro _ H9; (simp only [List.set_cons_zero, List.set_cons_succ] at H9); (try dsimp only))
  | (refine' st_cell (i := 2) ?H ?c ?e ?_; (case H => assumption); (case c => exact rfl); (case e => exact rfl); intro _ H9; (simp only [List.set_cons_zero, List.set_cons_succ] at H9); (try dsimp only))
  | (refine' st_cell (i := 3) ?H ?c ?e ?_; (case H => assumption); (case c => exact rfl); (case e => exact rfl); intro _ H9; (simp only [List.set_cons_zero, List.set_cons_succ] at H9); (try dsimp only))
  | (refine' st_cell (i := 4) ?H ?c ?e ?_; (case H => assumption); (case c => exact rfl); (case e => exact rfl); intro _ H9; (simp only [List.set_cons_zero, List.set_cons_succ] at H9); (try dsimp only)))
local macro_rules | `(tactic| walk_at "eval Name") => `(tactic| first
  | (refine' nm_loc ?H ?e ?_; (case H => assumption); (case e => walk_at "lk"); (try dsimp only))
  | (refine' nm_cell (i := 1) ?H ?c ?e ?_; (case H => assumption); (case c => exact rfl); (case e => exact rfl); (try dsimp only))
  | (refine' nm_cell (i := 2) ?H ?c ?e ?_; (case H => assumption); (case c => exact rfl); (case e => exact rfl); (try dsimp only))
  | (refine' nm_cell (i := 3) ?H ?c ?e ?_; (case H => assumption); (case c => exact rfl); (case e => exact rfl); (try dsimp only))
  | (refine' nm_cell (i := 4) ?H ?c ?e ?_; (case H => assumption); (case c => exact rfl); (case e => exact rfl); (try dsimp only))
  | (refine' nmr_loc ?R ?e ?_; (case R => assumption); (case e => walk_at "lk"); (try dsimp only))
  | (refine' nmr_cell ?R ?e ?_; (case R => assumption); (case e => walk_at "lk"); (try dsimp only))
  | (refine' nmr_free ?R ?e ?_; (case R => assumption); (case e => walk_at "lk"); (try dsimp only))
  | (refine' nm_glob ?g ?e ?_; (case g => walk_at "gr"); (case e => exact rfl); (try dsimp only))
  | (refine' nm_built ?g ?e ?v ?n ?_; (case g => walk_at "gr"); (case e => exact rfl); (case v => exact rfl); (case n => decide); (try dsimp only)))
local macro_rules | `(tactic| walk_at "loadName") => `(tactic| (refine' lnm_loc ?H ?e ?_; (case H => assumption); (case e => walk_at "lk"); (try dsimp only)))
local macro_rules | `(tactic| walk_at "no such goal") => `(tactic| assumption)
section
variable {prog : Program} {w : World} {A : Around} {E : Value → Shared → Prop} {s : Shared} {env : Env} {h₀ : Heap} {l : Own}

/-- {} as ground -/
theorem dict_zero {pos : Pos} {Q : Value → Shared → Prop} (G : Gr w h₀) (H : St h₀ l s.heap) (h : ∀ D h₁ h', Up h₀ h₁ → DI prog w h₁ D [] → St h₁ l h' → Q (.ref D) { s with heap := h' }) :
    wpAny (model prog w) A (eval (.Dict [] [] pos) env) Q E s := by
  refine wpAny_Dict_empty ?_
  obtain ⟨h₁, H₁, hk, hg⟩ := H.pushB { cls := .type "dict", data := .dict #[] }
  refine h _ h₁ _ hk ⟨(G.st H).notSys (get?_size _), [], ?_, Rel.nil⟩ H₁
  exact (Heap.DictOf.new s.heap).at fun o e => by
    rw [Heap.get?_push_size _ rfl] at e
    cases e
    exact hg

def sumsI (ns : List Int) (i : Nat) : List (Wd × Int) := ((wsP ns).take i).foldl (sumsStep (wsP ns) (numsI (wsP ns) (numP ns)) 0) []
def totalI (ns : List Int) (i : Nat) : Int := ((wsP ns).take i).foldl (totalStep (numsI (wsP ns) (numP ns))) 0
theorem sumsI_succ {ns : List Int} {i : Nat} {x : Wd} (h : (wsP ns)[i]? = some x) : sumsI ns (i + 1) = sumsStep (wsP ns) (numsI (wsP ns) (numP ns)) 0 (sumsI ns i) x := by
  unfold sumsI
  rw [List.take_add_one, h, List.foldl_append]; rfl
theorem totalI_succ {ns : List Int} {i : Nat} {x : Wd} (h : (wsP ns)[i]? = some x) : totalI ns (i + 1) = totalStep (numsI (wsP ns) (numP ns)) (totalI ns i) x := by
  unfold totalI
  rw [List.take_add_one, h, List.foldl_append]; rfl
theorem takers_len (ws : List Wd) (x : Wd) : (takers ws x).length ≤ ws.length := by
  unfold takers
  exact Nat.le_trans (List.length_filter_le _ _) (List.length_filter_le _ _)

set_option maxHeartbeats 4000000
theorem law_4 {g : Heap} {L sa D P N fa : Addr} {al : List (Str × Value)} {v1 : Option Value} {cd : Value} {ns : List Int} {o : Obj} {fd : FuncData} {body : List Stmt} {Q : Flow → Shared → Prop}
    (ho : (hd.heap_39 w.params).lookup 76 = some o) (hdata : o.data = .func fd) (hbody : fd.body = .stmts body)
    (G : Gr w g) (H : St g [(L, Loc al), (L + 1 + 1 + 1 + 1, CellP v1), (L + 1 + 1 + 1, CellP (some (.ref N))), (L + 1 + 1, CellP (some (.ref D))), (L + 1, CellP (some (.ref sa))), (63, TabOk g)] s.heap)
    (hPl : Has al "patterns" (.ref P)) (hW : LS g D (wsP ns)) (hN : DI prog w g N (numsI (wsP ns) (numP ns))) (hP : DS prog w g P (wsP ns) pat) (hh : A.handled = none) (hroom : A.depth + 5 < recursionLimit)
    (hq : ∀ x ∈ wsP ns, ((takers (wsP ns) x).length : Int) = howMany x)
    (h : ∀ g' al S t v1 h' tk, Up g g' → Has al "sums" (.ref S) → Has al "total" (.int (totalI ns (wsP ns).length) t) → DI prog w g' S (sumsI ns (wsP ns).length) →
      St g' [(L, Loc al), (L + 1 + 1 + 1 + 1, CellP v1), (L + 1 + 1 + 1, CellP (some (.ref N))), (L + 1 + 1, CellP (some (.ref D))), (L + 1, CellP (some (.ref sa))), (63, TabOk g')] h' →
      wpAny (model prog w) A (execs (body.drop 7) (envOfC fd.name fd.scope L fa cd)) Q E { s with heap := h', toks := tk }) :
    wpAny (model prog w) A (execs (body.drop 4) (envOfC fd.name fd.scope L fa cd)) Q E s := by
  obtain rfl := Option.some.inj ((rfl : (hd.heap_39 w.params).lookup 76 = some _).symm.trans ho)
  cases hdata
  cases hbody
  simp only [List.drop_succ_cons, List.drop_zero] at h ⊢
  have hw16 := wsP_len ns
  have hnd := wsP_nodup ns
  have hok := wsP_ok ns
  iterate 2 walk1
  refine dict_zero G H ?_
  intro S0 g1 h1 hk1 hS0 H1
  iterate 6 walk1
  rename_i h2 tk2 H2
  obtain ⟨vs, hl, R⟩ := hW.keep hk1
  have hH3 := H2.weak (i := 5) rfl (φ' := TabOk g1) fun o ho => TabOk.up ho hk1
  simp only [List.set_cons_zero, List.set_cons_succ] at hH3
  have G1 : Gr w g1 := G.keeps hk1
  refine for_list (h₀ := g1) hh hl (fun i l h => ∃ al S t cv, l = [(L, Loc al), (L + 1 + 1 + 1 + 1, CellP cv), (L + 1 + 1 + 1, CellP (some (.ref N))), (L + 1 + 1, CellP (some (.ref D))), (L + 1, CellP (some (.ref sa))), (63, TabOk h)] ∧
      Has al "patterns" (.ref P) ∧ Has al "sums" (.ref S) ∧ Has al "total" (.int (totalI ns i) t) ∧ DI prog w h S (sumsI ns i) ∧ (sumsI ns i).length ≤ 16 * i)
    hH3 ⟨_, S0, _, _, rfl, by walk_at "lk", by walk_at "lk", by walk_at "lk", hS0, Nat.zero_le _⟩ (fun Q' hQ' => ?_) ?_ ?_
  · walk1
    exact hQ'
  · rintro i v l h₃ I h3 tk3 oI hv hk₃ ⟨al, S, t, cv, rfl, hPl', hSl, hTl, hS, hSlen⟩ H₃
    obtain ⟨x, tx, rfl, hx⟩ := R.at_ hv
    have hi : i < (wsP ns).length := (List.getElem?_eq_some_iff.mp hx).1
    have hxm : x ∈ wsP ns := List.mem_of_getElem? hx
    have hxo := hok x hxm
    have hkg : Up g h₃ := fun b o e => hk₃ _ _ (hk1 _ _ e)
    have G₃ : Gr w h₃ := G.keeps hkg
    replace H₃ : St h₃ [(L, Loc al), (L + 1 + 1 + 1 + 1, CellP cv), (L + 1 + 1 + 1, CellP (some (.ref N))), (L + 1 + 1, CellP (some (.ref D))), (L + 1, CellP (some (.ref sa))), (63, TabOk h₃), (I, Is oI)] h3 := H₃
    refine wpAny_assign_Name ?_
    iterate 5 walk1
    refine cw_fn ?_
    iterate 7 walk1
    rename_i h4 H₄
    refine ⟨Gr.fn (G₃.st H₄) rfl rfl, ?_⟩
    refine takers_spec (i := 5) G₃ H₄ rfl (hP.keep hkg) (hW.keep hkg) hok (by omega) (by have := hxo.1; omega) hh (by omega) ?_
    intro y h₅ h5 tk5 hk₅ H₅ hy
    simp only [List.set_cons_zero, List.set_cons_succ] at H₅
    have hkg5 : Up g h₅ := fun b o e => hk₅ _ _ (hkg _ _ e)
    have G₅ : Gr w h₅ := G.keeps hkg5
    dsimp only
    iterate 10 walk1
    rename_i h6 tk6 H₆
    have htl := takers_len (wsP ns) x
    refine len_LS (hy.keep H₆.keep) (by omega) ?_
    intro t7 tk7
    iterate 2 walk1
    refine cw_fn ?_
    iterate 3 walk1
    refine ⟨Gr.fn (G₅.st H₆) rfl rfl, ?_⟩
    refine how_spec (G₅.st H₆) (ok_small hxo) (by have := hxo.1; omega) hh (by omega) ?_
    intro h8 tk8 t8 hk8
    have H₈ := H₆.keeps hk8
    clear H₆
    walk1
    refine wpAny_truthy_bool ?_
    rw [if_neg (by rw [hq x hxm]; simp)]
    refine wpAny_execs_nil ?_
    iterate 4 walk1
    refine cw_fn ?_
    iterate 3 walk1
    obtain ⟨vx, hvx⟩ := numsI_get (num := numP ns) hxm
    have hN8 := (hN.keep hkg5).keep H₈.keep
    have rd : ∀ {C : Addr} {z : Wd} {tz : Tok} {s₃ : Shared} {m₃ : Str → Option Value}, s₃.heap.Ns C m₃ → m₃ "one" = some (.str (W z) tz) → Up h8 s₃.heap →
        Rd C [("word", L + 1 + 1 + 1 + 1), ("numbers", L + 1 + 1 + 1)] s₃.heap [("one", .str (W z) tz)] [("word", .str (W x) tx), ("numbers", .ref N)] := by
      intro C z tz s₃ m₃ hn hm hk
      refine comp_rd H₈ hn hm hk ?_
      intro p hp
      simp only [List.mem_cons, List.not_mem_nil, or_false] at hp
      rcases hp with rfl | rfl
      · exact ⟨_, 1, rfl, rfl⟩
      · exact ⟨_, 2, rfl, rfl⟩
    refine dcomp_src (fk := id) (FV := fun _ u => ∃ t, u = .int ((get (numsI (wsP ns) (numP ns)) x).getD 0) t) (cl := [("word", L + 1 + 1 + 1 + 1), ("numbers", L + 1 + 1 + 1)]) (src_list hh (hy.keep H₈.keep)) (by omega)
      rfl (by decide) rfl (by decide) rfl ?_ ?_ ?_ ?_
    · intro Q' hQ'
      walk1
      exact hQ'
    · intro C z tz s₃ m₃ E' hz hn hm hk
      have Rr := rd hn hm hk
      walk1
      exact ⟨⟨tz, rfl⟩, _, _, rfl, fun _ _ e => e⟩
    · intro C z tz s₃ m₃ E' hz hn hm hk
      have Rr := rd hn hm hk
      iterate 3 walk1
      refine item_DI (hN8.keep hk) hvx ?_
      intro t9 tk9
      exact ⟨⟨t9, by rw [hvx]; rfl⟩, _, _, rfl, fun _ _ e => e⟩
    · intro M h9 tk9 kvs9 vs9 hk9 hM0 hM hS9 hR9
      have hMI : DI prog w h9 M ((takers (wsP ns) x).map fun y => (y, (get (numsI (wsP ns) (numP ns)) x).getD 0)) := by
        refine ⟨(G₅.st H₈).notSys hM0, kvs9, hM, ?_⟩
        refine stored_ints (fk := id) hS9 hR9 ?_
        rw [List.map_id]
        exact (hnd.sublist List.filter_sublist).sublist List.filter_sublist
      have H₉ := H₈.keeps hk9
      walk1
      refine ⟨Gr.fn (G₅.st H₉) rfl rfl, ?_⟩
      refine add_spec (G₅.st H₉) ((hS.keep hk₅).keep H₉.keep) hMI (by rw [List.length_map]; omega) hh (by omega) ?_
      intro S' h10 tk10 hk10 hS0' hS'
      obtain ⟨g11, H11, hkg11, hg11⟩ := H₉.callB hk10
      have hS11 : DI prog w g11 S' _ := hS'.at fun o e => hg11 _ o hS0' e
      have G11 : Gr w g11 := G₅.keeps hkg11
      have hN11 := (hN.keep hkg5).keep hkg11
      dsimp only
      iterate 9 walk1
      rename_i h12 tk12 H12
      refine item_DI (hN11.keep H12.keep) hvx ?_
      intro t13 tk13
      iterate 2 walk1
      refine cw_fn ?_
      iterate 3 walk1
      refine ⟨Gr.fn (G11.st H12) rfl rfl, ?_⟩
      refine how_spec (G11.st H12) (ok_small hxo) (by have := hxo.1; omega) hh (by omega) ?_
      intro h14 tk14 t14 hk14
      have H14 := H12.keeps hk14
      clear H12
      refine mul_int ?_ (IntMulOk.of_right ?_)
      · iterate 2 walk1
        refine wpAny_execs_nil ?_
        refine' ⟨[(L, Loc _), (L + 1 + 1 + 1 + 1, CellP _), (L + 1 + 1 + 1, CellP _), (L + 1 + 1, CellP _), (L + 1, CellP _), (63, TabOk g11)], g11, _, _, rfl, ?H, fun b o e => hkg11 _ _ (hk₅ _ _ e), _, S', _, _, rfl, ?P, ?S, ?T, ?D, ?Z⟩
        case H => 
          rename_i H15
          exact H15.weak (i := 5) rfl fun o ho => TabOk.up ho hkg11
        case P => walk_at "lk"
        case S => walk_at "lk"
        case T => 
          rw [totalI_succ hx]
          unfold totalStep
          rw [hvx]
          walk_at "lk"
        case D => 
          rw [sumsI_succ hx]
          exact hS11
        case Z => 
          rw [sumsI_succ hx]
          unfold sumsStep
          have := addC_len ((takers (wsP ns) x).map fun y => (y, (get (numsI (wsP ns) (numP ns)) x).getD 0)) (sumsI ns i)
          rw [List.length_map] at this
          omega
      · have e : ∀ j < 17, Builtin.Int.intBits (j : Nat) ≤ 64 := by decide
        rw [← hq x hxm]
        exact e _ (by omega)
  · rintro l h₃ h' tk3 hk₃ ⟨al, S, t, cv, rfl, hPl', hSl, hTl, hS, hSlen⟩ H₃
    rw [R.length] at hS hTl
    exact h h₃ al S t cv h' tk3 (fun b o e => hk₃ _ _ (hk1 _ _ e)) hSl hTl hS H₃
end
end Mine
end

section
namespace Mine
open PySem PySem.W PyProof.Rows PySem.Calls
local macro_rules | `(tactic| walk_at "lk") => `(tactic| ((repeat (first | exact lookup_hit | refine Eq.trans (lookup_skip (by decide)) ?_)); (try assumption)))
local macro_rules | `(tactic| walk_at "gr") => `(tactic| first | assumption | (refine' Gr.st ?a ?b; (case b => assumption); (case a => assumption)))
local macro_rules | `(tactic| walk_at "storeName") => `(tactic| first
  | (refine' st_loc ?H ?_; (case H => assumption); intro _ _ _; (try dsimp only))
  | (refine' st_cell (i := 1) ?H ?c ?e ?_; (case H => assumption); (case c => exact rfl); (case e => exact rfl); intro _ H9; (simp only [List.set_cons_zero, List.set_cons_succ] at H9); (try dsimp only))
  | (refine' st_cell (i := 2) ?H ?c ?e ?_; (case H => assumption); (case c => exact rfl); (case e => exact rfl); intro _ H9; (simp only [List.set_cons_zero, List.set_cons_succ] at H9); (try dsimp only))
  | (refine' st_cell (i := 3) ?H ?c ?e ?_; (case H => assumption); (case c => exact rfl); (case e => exact rfl); intro _ H9; (simp only [List.set_cons_zero, List.set_cons_succ] at H9); (try dsimp only))
  | (refine' st_cell (i := 4) ?H ?c ?e ?_; (case H => assumption); (case c => exact rfl); (case e => exact rfl); intro _ H9; (simp only [List.set_cons_zero, List.set_cons_succ] at H9); (try dsimp only)))
local macro_rules | `(tactic| walk_at "eval Name") => `(tactic| first
  | (refine' nm_loc ?H ?e ?_; (case H => assumption); (case e => walk_at "lk"); (try dsimp only))
  | (refine' nm_cell (i := 1) ?H ?c ?e ?_; (case H => assumption); (case c => exact rfl); (case e => exact rfl); (try dsimp only))
  | (refine' nm_cell (i := 2) ?H ?c ?e ?_; (case H => assumption); (case c => exact rfl); (case e => exact rfl); (try dsimp only))
  | (refine' nm_cell (i := 3) ?H ?c ?e ?_; (case H => assumption); (case c => exact rfl); (case e => exact rfl); (try dsimp only))
  | (refine' nm_cell (i := 4) ?H ?c ?e ?_; (case H => assumption); (case c => exact rfl); (case e => exact rfl); (try dsimp only))
  | (refine' nmr_loc ?R ?e ?_; (case R => assumption); (case e => walk_at "lk"); (try dsimp only))
  | (refine' nmr_cell ?R ?e ?_; (case R => assumption); (case e => walk_at "lk"); (try dsimp only))
  | (refine' nmr_free ?R ?e ?_; (case R => assumption); (case e => walk_at "lk"); (try dsimp only))
  | (refine' nm_glob ?g ?e ?_; (case g => walk_at "gr"); (case e => exact rfl); (try dsimp only))
  | (refine' nm_built ?g ?e ?v ?n ?_; (case g => walk_at "gr"); (case e => exact rfl); (case v => exact rfl); (case n => decide); (try dsimp only)))
local macro_rules | `(tactic| walk_at "loadName") => `(tactic| (refine' lnm_loc ?H ?e ?_; (case H => assumption); (case e => walk_at "lk"); (try dsimp only)))
local macro_rules | `(tactic| walk_at "no such goal") => `(tactic| assumption)
theorem keq_hits {A : Around} {s : Shared} {kb : List (Str × Value)} {lb : List (Wd × Int)} (Rb : Rel kb lb) : ∀ {ka : List (Str × Value)} {la : List (Wd × Int)}, Rel ka la → (∀ p ∈ la, get lb p.1 = some p.2) → KeqHits A s kb ka true
  | [], _, _, _ => .nil
  | p :: ka, la, R, h => by
    obtain ⟨k, i, t, r, rfl, rfl, R'⟩ := R.cons_inv
    obtain ⟨t', e⟩ := Rb.valueAt_some (h (k, i) (.head _))
    have e1 : SeqAt.EqAt A s (.int i t) (.int i t') true := by
      have := keq_flat (A := A) (s := s) (PyProof.V.Flat.int i t) (PyProof.V.Flat.int i t')
      have e2 : PyData.eqv (.int i) (.int i) = true := by simp [PyData.eqv]
      rw [e2] at this
      exact this
    exact KeqHits.hit (e := true) (b := true) e e1 (keq_hits Rb R' fun p hp => h p (.tail _ hp))

def backI (ns : List Int) (i : Nat) : List (Wd × Int) := ((wsP ns).take i).foldl (backStep (sumsI ns (wsP ns).length) 0) []
theorem backI_succ {ns : List Int} {i : Nat} {x : Wd} (h : (wsP ns)[i]? = some x) : backI ns (i + 1) = backStep (sumsI ns (wsP ns).length) 0 (backI ns i) x := by
  unfold backI
  rw [List.take_add_one, h, List.foldl_append]; rfl
theorem rbr_len {x : Wd} (h : Ok x) (n : Int) : (rbr x n).length ≤ 16 := by
  refine Nat.le_trans (rbrTo_len x n x.length) ?_
  exact Nat.le_trans (Nat.pow_le_pow_right (by decide) h.1) (by decide)

section
variable {prog : Program} {w : World} {A : Around} {E : Value → Shared → Prop} {s : Shared} {env : Env} {h₀ : Heap} {l : Own}
set_option maxHeartbeats 4000000
theorem law_7 {g : Heap} {L sa D S N fa : Addr} {al : List (Str × Value)} {v1 : Option Value} {t : Tok} {cd : Value} {ns : List Int} {o : Obj} {fd : FuncData} {body : List Stmt} {Q : Flow → Shared → Prop}
    (ho : (hd.heap_39 w.params).lookup 76 = some o) (hdata : o.data = .func fd) (hbody : fd.body = .stmts body)
    (G : Gr w g) (H : St g [(L, Loc al), (L + 1 + 1 + 1 + 1, CellP v1), (L + 1 + 1 + 1, CellP (some (.ref N))), (L + 1 + 1, CellP (some (.ref D))), (L + 1, CellP (some (.ref sa))), (63, TabOk g)] s.heap)
    (hSl : Has al "sums" (.ref S)) (hTl : Has al "total" (.int (totalI ns (wsP ns).length) t)) (hW : LS g D (wsP ns)) (hN : DI prog w g N (numsI (wsP ns) (numP ns))) (hS : DI prog w g S (sumsI ns (wsP ns).length))
    (hh : A.handled = none) (hroom : A.depth + 5 < recursionLimit) (hu : A.units < cLine)
    (hq1 : ∀ x ∈ wsP ns, (get (sumsI ns (wsP ns).length) x).isSome = true) (hq2 : (backI ns (wsP ns).length).length = (numsI (wsP ns) (numP ns)).length)
    (hq3 : ∀ p ∈ backI ns (wsP ns).length, get (numsI (wsP ns) (numP ns)) p.1 = some p.2) (hq4 : ((sumsI ns (wsP ns).length).map (·.2)).sum = totalI ns (wsP ns).length)
    (h : ∀ g' al v1 v2 v3 v4 h' tk, Up g g' → St g' [(L, Loc al), (L + 1 + 1 + 1 + 1, CellP v1), (L + 1 + 1 + 1, CellP v2), (L + 1 + 1, CellP v3), (L + 1, CellP v4), (63, TabOk g)] h' → Q (.ret (.bool true)) { s with heap := h', toks := tk }) :
    wpAny (model prog w) A (execs (body.drop 7) (envOfC fd.name fd.scope L fa cd)) Q E s := by
  obtain rfl := Option.some.inj ((rfl : (hd.heap_39 w.params).lookup 76 = some _).symm.trans ho)
  cases hdata
  cases hbody
  simp only [List.drop_succ_cons, List.drop_zero]
  have hw16 := wsP_len ns
  have hnd := wsP_nodup ns
  have hok := wsP_ok ns
  iterate 2 walk1
  refine dict_zero G H ?_
  intro B0 g1 h1 hk1 hB0 H1
  iterate 2 walk1
  rename_i h2 tk2 H2
  obtain ⟨vs, hl, R⟩ := hW.keep hk1
  have G1 : Gr w g1 := G.keeps hk1
  refine for_list (h₀ := g1) hh hl (fun i l h => ∃ al B cv, l = [(L, Loc al), (L + 1 + 1 + 1 + 1, CellP cv), (L + 1 + 1 + 1, CellP (some (.ref N))), (L + 1 + 1, CellP (some (.ref D))), (L + 1, CellP (some (.ref sa))), (63, TabOk g)] ∧
      Has al "sums" (.ref S) ∧ Has al "back" (.ref B) ∧ Has al "total" (.int (totalI ns (wsP ns).length) t) ∧ DI prog w h B (backI ns i) ∧ (backI ns i).length ≤ 16 * i)
    H2 ⟨_, B0, _, rfl, by walk_at "lk", by walk_at "lk", by walk_at "lk", hB0, Nat.zero_le _⟩ (fun Q' hQ' => ?_) ?_ ?_
  · walk1
    exact hQ'
  · rintro i v l h₃ I h3 tk3 oI hv hk₃ ⟨al, B, cv, rfl, hSl', hBl, hTl', hB, hBlen⟩ H₃
    obtain ⟨x, tx, rfl, hx⟩ := R.at_ hv
    have hi : i < (wsP ns).length := (List.getElem?_eq_some_iff.mp hx).1
    have hxm : x ∈ wsP ns := List.mem_of_getElem? hx
    have hxo := hok x hxm
    have hkg : Up g h₃ := fun b o e => hk₃ _ _ (hk1 _ _ e)
    have G₃ : Gr w h₃ := G.keeps hkg
    replace H₃ : St h₃ [(L, Loc al), (L + 1 + 1 + 1 + 1, CellP cv), (L + 1 + 1 + 1, CellP (some (.ref N))), (L + 1 + 1, CellP (some (.ref D))), (L + 1, CellP (some (.ref sa))), (63, TabOk g), (I, Is oI)] h3 := H₃
    obtain ⟨sx, hsx⟩ := Option.isSome_iff_exists.mp (hq1 x hxm)
    refine wpAny_assign_Name ?_
    iterate 5 walk1
    rename_i h4 H₄
    refine cw_fn ?_
    iterate 5 walk1
    refine cw_fn ?_
    iterate 6 walk1
    refine item_DI ((hS.keep hkg).keep H₄.keep) hsx ?_
    intro t5 tk5
    walk1
    refine ⟨Gr.fn (G₃.st H₄) rfl rfl, ?_⟩
    refine rbr_spec (G₃.st H₄) hxo.1 hh (by omega) ?_
    intro R5 h5 tk5 hk5 hR50 hR5
    have H₅ := H₄.keeps hk5
    walk1
    refine ⟨Gr.fn (G₃.st H₅) rfl rfl, ?_⟩
    have hrl := rbr_len hxo sx
    refine add_spec (G₃.st H₅) (hB.keep H₅.keep) hR5 (by omega) hh (by omega) ?_
    intro B' h6 tk6 hk6 hB0' hB'
    obtain ⟨g7, H7, hkg7, hg7⟩ := H₅.callB hk6
    have hB7 : DI prog w g7 B' _ := hB'.at fun o e => hg7 _ o hB0' e
    dsimp only
    walk1
    refine wpAny_execs_nil ?_
    refine' ⟨[(L, Loc _), (L + 1 + 1 + 1 + 1, CellP _), (L + 1 + 1 + 1, CellP _), (L + 1 + 1, CellP _), (L + 1, CellP _), (63, TabOk g)], g7, _, _, rfl, ?H, hkg7, _, B', _, rfl, ?S, ?B, ?T, ?D, ?Z⟩
    case H => assumption
    case S => walk_at "lk"
    case B => walk_at "lk"
    case T => walk_at "lk"
    case D =>
      rw [backI_succ hx]
      unfold backStep
      rw [hsx]
      exact hB7
    case Z =>
      rw [backI_succ hx]
      unfold backStep
      rw [hsx]
      have := addC_len (rbr x sx) (backI ns i)
      show (addC (backI ns i) (rbr x sx)).length ≤ _
      omega
  · rintro l h₃ h3 tk3 hk₃ ⟨al, B, cv, rfl, hSl', hBl, hTl', hB, hBlen⟩ H₃
    rw [R.length] at hB
    have hkg : Up g h₃ := fun b o e => hk₃ _ _ (hk1 _ _ e)
    have G₃ : Gr w h₃ := G.keeps hkg
    show wpAny _ _ (execs _ _) _ _ _
    iterate 6 walk1
    obtain ⟨hBs, kb, hBd, RB⟩ := hB.keep H₃.keep
    obtain ⟨hNs, kn, hNd, RN⟩ := (hN.keep hkg).keep H₃.keep
    refine keq_eq (r := true) hBs hNs hBd hNd hu (fun _ => keq_hits RN RB hq3) ?_
    rw [RB.length, RN.length, hq2]
    simp only [BEq.rfl, Bool.true_and]
    iterate 4 walk1
    iterate 2 walk1
    refine cw_fn ?_
    iterate 3 walk1
    refine ⟨Gr.fn (G₃.st H₃) rfl rfl, ?_⟩
    refine count_spec (G₃.st H₃) ((hS.keep hkg).keep H₃.keep) hh (by omega) ?_
    intro h4 tk4 t4 hk4
    have H₄ := H₃.keeps hk4
    iterate 2 walk1
    rw [hq4, beq_self_eq_true]
    exact h _ _ _ _ _ _ h4 _ hkg H₄
end
end Mine
end

section
namespace Mine
open PySem PySem.W PyProof.Rows PySem.Calls
local macro_rules | `(tactic| walk_at "lk") => `(tactic| ((repeat (first | exact lookup_hit | refine Eq.trans (lookup_skip (by decide)) ?_)); (try assumption)))
local macro_rules | `(tactic| walk_at "gr") => `(tactic| first | assumption | (refine' Gr.st ?a ?b; (case b => assumption); (case a => assumption)))
local macro_rules | `(tactic| walk_at "storeName") => `(tactic| first
  | (refine' st_loc ?H ?_; (case H => assumption); intro _ _ _; (try dsimp only))
  | (refine' st_cell (i := 1) ?H ?c ?e ?_; (case H => assumption); (case c => exact rfl); (case e => exact rfl); intro _ H9; (simp only [List.set_cons_zero, List.set_cons_succ] at H9); (try dsimp only))
  | (refine' st_cell (i := 2) ?H ?c ?e ?_; (case H => assumption); (case c => exact rfl); (case e => exact rfl); intro _ H9; (simp only [List.set_cons_zero, List.set_cons_succ] at H9); (try dsimp only))
  | (refine' st_cell (i := 3) ?H ?c ?e ?_; (case H => assumption); (case c => exact rfl); (case e => exact rfl); intro _ H9; (simp only [List.set_cons_zero, List.set_cons_succ] at H9); (try dsimp only))
  | (refine' st_cell (i := 4) ?H ?c ?e ?_; (case H => assumption); (case c => exact rfl); (case e => exact rfl); intro _ H9; (simp only [List.set_cons_zero, List.set_cons_succ] at H9); (try dsimp only)))
local macro_rules | `(tactic| walk_at "eval Name") => `(tactic| first
  | (refine' nm_loc ?H ?e ?_; (case H => assumption); (case e => walk_at "lk"); (try dsimp only))
  | (refine' nm_cell (i := 1) ?H ?c ?e ?_; (case H => assumption); (case c => exact rfl); (case e => exact rfl); (try dsimp only))
  | (refine' nm_cell (i := 2) ?H ?c ?e ?_; (case H => assumption); (case c => exact rfl); (case e => exact rfl); (try dsimp only))
  | (refine' nm_cell (i := 3) ?H ?c ?e ?_; (case H => assumption); (case c => exact rfl); (case e => exact rfl); (try dsimp only))
  | (refine' nm_cell (i := 4) ?H ?c ?e ?_; (case H => assumption); (case c => exact rfl); (case e => exact rfl); (try dsimp only))
  | (refine' nmr_loc ?R ?e ?_; (case R => assumption); (case e => walk_at "lk"); (try dsimp only))
  | (refine' nmr_cell ?R ?e ?_; (case R => assumption); (case e => walk_at "lk"); (try dsimp only))
  | (refine' nmr_free ?R ?e ?_; (case R => assumption); (case e => walk_at "lk"); (try dsimp only))
  | (refine' nm_glob ?g ?e ?_; (case g => walk_at "gr"); (case e => exact rfl); (try dsimp only))
  | (refine' nm_built ?g ?e ?v ?n ?_; (case g => walk_at "gr"); (case e => exact rfl); (case v => exact rfl); (case n => decide); (try dsimp only)))
local macro_rules | `(tactic| walk_at "loadName") => `(tactic| (refine' lnm_loc ?H ?e ?_; (case H => assumption); (case e => walk_at "lk"); (try dsimp only)))
local macro_rules | `(tactic| walk_at "no such goal") => `(tactic| assumption)
section
variable {prog : Program} {w : World} {A : Around} {E : Value → Shared → Prop} {s : Shared} {env : Env} {h₀ : Heap} {l : Own}

set_option maxHeartbeats 4000000
theorem law_main {g : Heap} {L sa fa : Addr} {cd : Value} {ns : List Int} {o : Obj} {fd : FuncData} {body : List Stmt} {Q : Flow → Shared → Prop}
    (ho : (hd.heap_39 w.params).lookup 76 = some o) (hdata : o.data = .func fd) (hbody : fd.body = .stmts body)
    (G : Gr w g) (H : St g [(L, Loc []), (L + 1 + 1 + 1 + 1, CellP none), (L + 1 + 1 + 1, CellP none), (L + 1 + 1, CellP none), (L + 1, CellP (some (.ref sa))), (63, TabOk g)] s.heap)
    (hsa : LI g sa ns) (hlen : ns.length ≤ 63) (hh : A.handled = none) (hroom : A.depth + 5 < recursionLimit) (hu : A.units < cLine)
    (h : ∀ h' tk, Up g h' → (∃ ps, h'.get? 63 = some (tabObj ps)) → (∃ m, h'.Ns L m) → Q (.ret (.bool true)) { s with heap := h', toks := tk }) :
    wpAny (model prog w) A (execs body (envOfC fd.name fd.scope L fa cd)) Q E s := by
  obtain rfl := Option.some.inj ((rfl : (hd.heap_39 w.params).lookup 76 = some _).symm.trans ho)
  cases hdata
  cases hbody
  have hlen4 : (ns.take 4).length ≤ 4 := by rw [List.length_take]; omega
  obtain ⟨vs, hvs, hI⟩ := hsa
  have hvl := hI.length
  iterate 10 walk1
  refine slice_tail (hvs.at fun _ e => H.keep _ _ e) .none (.int _ _) (by rw [List.size_toArray]; omega) ?_
  intro D1 h1 hk1 hD10 hD1
  have hP1 : PLI h1 D1 (ns.take 4) := ⟨(slicePick vs.toArray none (some 4) none).toList, ⟨0, by rw [Array.toArray_toList]; exact hD1⟩, slice_ints_uptoW hI (y := 4) (by decide)⟩
  have H1 := H.keeps hk1
  clear H
  iterate 9 walk1
  refine newInts (.cons _ _ (.cons _ _ (.cons _ _ .nil))) (by decide) ?_
  intro D2 h2 hk2 hD20 hP2
  have H2 := H1.keeps hk2
  clear H1
  iterate 13 walk1
  refine slice_tail (hvs.at fun _ e => H2.keep _ _ e) .none (.int _ _) (by rw [List.size_toArray]; omega) ?_
  intro D3 h3 hk3 hD30 hD3
  have hP3 : PLI h3 D3 (ns.take 4) := ⟨(slicePick vs.toArray none (some 4) none).toList, ⟨0, by rw [Array.toArray_toList]; exact hD3⟩, slice_ints_uptoW hI (y := 4) (by decide)⟩
  have H3 := H2.keeps hk3
  clear H2
  walk1
  refine len_LI hP3.li (by omega) ?_
  intro t4 tk4
  iterate 2 walk1
  obtain ⟨vs2, ⟨n2, hv2⟩, hI2⟩ := hP2.keep hk3
  refine slice_tail (l := D2) (items := vs2.toArray) ⟨_, hv2, rfl, _, rfl⟩ (.int _ _) .none (by rw [List.size_toArray, hI2.length]; decide) ?_
  intro D4 h4 hk4 hD40 hD4
  have hP4 : PLI h4 D4 (([0, 1, 0] : List Int).drop (ns.take 4).length) := ⟨_, ⟨0, by rw [Array.toArray_toList]; exact hD4⟩, by simpa using slice_ints_fromW hI2 (x := ((ns.take 4).length : Nat)) (by omega)⟩
  have H4 := H3.keeps hk4
  clear H3
  refine add_PLI (((hP1.keep hk2).keep hk3).keep hk4) hP4 (by rw [List.length_drop]; simp only [List.length_cons, List.length_nil]; omega) ?_
  intro vs5 hI5
  obtain ⟨g5, H5, hk5, hg5⟩ := H4.pushB { cls := .type "list", data := .seq vs5.toArray }
  have hDr : LI g5 h4.objs.size (drawsP ns) := ⟨vs5, ⟨_, hg5, rfl, 0, rfl⟩, hI5⟩
  generalize h4.objs.size = D5 at hDr
  have G5 : Gr w g5 := G.keeps hk5
  dsimp only
  iterate 5 walk1
  refine cw_fn ?_
  walk1
  rename_i h6 tk6 H6
  obtain ⟨vd, hvd, hId⟩ := hDr.keep H6.keep
  have hvdl := hId.length
  have hdl := topsP_len ns
  have hdl' : (drawsP ns).length = (topsP ns).length := by unfold topsP; rw [List.length_map]
  have hlt5 : D5 < h6.objs.size := let ⟨_, ho, _⟩ := hvd; Heap.lt_size ho
  refine wpAny_ListComp_free (fun _ => true) (fun v y => ∃ n t t', v = .int n t ∧ y = .str (W [letterP n]) t') (cl := []) rfl (by decide) rfl (by decide) rfl ?_
  walk1
  refine wpAny_pyIter_list hvd ?_
  refine ⟨_, _, _, _, _, _, rfl, Walks.list (A := A) hh _ D5 (Nat.ne_of_lt hlt5) vd.toArray, ?_, ⟨⟨_, Heap.get?_push_size _ rfl, rfl, rfl⟩, hvd.at fun o e => Heap.get?_push_of_some _ e⟩, ?_, ⟨?_, ?_⟩, ?_⟩
  · rw [List.size_toArray, sizeLine_eq]; omega
  · intro b hb
    simp only [List.mem_cons, List.not_mem_nil, or_false] at hb
    rw [Heap.size_push]
    rcases hb with rfl | rfl
    · exact Nat.lt_succ_self _
    · exact Nat.lt_succ_of_lt hlt5
  · intro C j v s₃ m₃ E' hC hP hn hm hk _
    exact no_test rfl
  · intro C j v s₃ m₃ E' hC hP hp hn hm hk _
    obtain ⟨n, t, rfl, hn'⟩ := ints_at hId (by simpa using hP : vd[j]? = some v)
    have hk' : Up h6 s₃.heap := fun b o e => hk b o (by rw [List.mem_singleton]; exact Nat.ne_of_lt (Heap.lt_size e)) (Heap.get?_push_of_some _ e)
    have Rr := comp_rd (cl := []) (clA := []) H6 hn hm hk' (by intro p hp; cases hp)
    iterate 6 walk1
    rw [show n.fmod 3 = ((n.fmod 3).toNat : Int) by have := fmod3 n; omega]
    refine item_W (x := [97, 98, 99]) (letterP_at n) (by decide) ?_
    intro t7 tk7
    exact ⟨⟨n, t, t7, rfl, rfl⟩, _, _, rfl, fun _ _ e => e⟩
  · intro D7 h7 tk7 ys vs' hD hl' hpl hlen' hP hF hk
    have hvs' : vs' = vd := ext_list hlen' hP
    subst hvs'
    rw [List.filter_eq_self.mpr fun _ _ => rfl] at hF
    have hk' : Up h6 h7 := fun b o e => hk b o (by rw [List.mem_singleton]; exact Nat.ne_of_lt (Heap.lt_size e)) (Heap.get?_push_of_some _ e)
    have hLS7 : LS h7 D7 ((topsP ns).map fun c => [c]) := ⟨ys.toList, by simpa using hl', by
      have := paired_ints (fun n => [letterP n]) hId hF
      unfold topsP
      rw [List.map_map]
      exact this⟩
    have H7 := H6.keeps hk'
    walk1
    refine ⟨Gr.fn (G5.st H7) rfl rfl, ?_⟩
    refine words_spec (G5.st H7) hLS7 (by rw [List.length_map]; omega) (by intro c hc; obtain ⟨d, _, rfl⟩ := List.mem_map.mp hc; rfl) hh (by omega) ?_
    intro D8 h8 tk8 hk8 hD80 hLS8
    obtain ⟨g8, H8, hkg8, hg8⟩ := H7.callB hk8
    have hW : LS g8 D8 (wordsP ((topsP ns).map fun c => [c])) := let ⟨vs, hl, R⟩ := hLS8; ⟨vs, hl.at fun o e => hg8 _ _ hD80 e, R⟩
    have G8 : Gr w g8 := G5.keeps hkg8
    dsimp only
    walk1
    rename_i h9 H9
    have hkA : Up g g8 := fun b o e => hkg8 _ _ (hk5 _ _ e)
    have hsa8 : LI g8 sa ns := LI.keep ⟨vs, hvs, hI⟩ hkA
    obtain ⟨hq0, hq1, hq2, hq3, hq4⟩ := law_of_chk (wsP_chk ns) (numP ns)
    have H10 := H9.weak (i := 5) rfl (φ' := TabOk g8) fun o ho => TabOk.up ho hkA
    simp only [List.set_cons_zero, List.set_cons_succ] at H10
    refine law_2 ho rfl rfl G8 H10 hsa8 hlen hW hh hroom ?_
    intro g11 al11 N P h11 tk11 hk11 hPl hN hP H11
    have H12 := H11.weak (i := 5) rfl (φ' := TabOk g11) fun o ho => TabOk.up ho hk11
    simp only [List.set_cons_zero, List.set_cons_succ] at H12
    refine law_4 ho rfl rfl (G8.keeps hk11) H12 hPl (hW.keep hk11) hN hP hh hroom hq0 ?_
    intro g13 al13 S t13 v13 h13 tk13 hk13 hSl hTl hS H13
    have hkB : Up g8 g13 := fun b o e => hk13 _ _ (hk11 _ _ e)
    have tl : (wsP ns).take (wsP ns).length = wsP ns := List.take_length
    refine law_7 ho rfl rfl (G8.keeps hkB) H13 hSl hTl (hW.keep hkB) (hN.keep hk13) hS hh hroom hu ?_ ?_ ?_ ?_ ?_
    · unfold sumsI; rw [tl]; exact hq1
    · unfold backI sumsI; rw [tl]; exact hq2
    · unfold backI sumsI; rw [tl]; exact hq3
    · unfold sumsI totalI; rw [tl]; exact hq4
    · intro g14 al14 w1 w2 w3 w4 h14 tk14 hk14 H14
      refine h h14 tk14 (fun b o e => H14.keep _ _ (hk14 _ _ (hkB _ _ (hkA _ _ e)))) ?_ ?_
      · obtain ⟨o, ho, hT⟩ := H14.get (i := 5) rfl
        rcases hT with rfl | ⟨c, rfl, _⟩
        · exact ⟨_, ho⟩
        · exact ⟨_, ho⟩
      · obtain ⟨m, hm, _⟩ := ns_of (s := { s with heap := h14 }) H14 (i := 0) rfl
        exact ⟨m, hm⟩
end
end Mine
end

section
namespace Mine
open PySem PySem.W PyProof.Rows PySem.Calls

theorem Gr.start {w : World} {p' : Program} {lo' : List Str} {me' : ExcName → Option Value} {mg' mb' : Str → Option Value} {h : Heap} {tabs : List (Addr × Addr)} (T : h.NoSeer) (hT : TabsAt tabs h)
    (X : (hd.heap_39 w.params).In (ghostOf h tabs)) (T' : Top p' lo' me' mg' mb' (ghostOf h tabs)) (C : CodeHd (ghostOf h tabs) 65 63) : Gr w (ghostOf h tabs) := by
  obtain ⟨mm, hm, _⟩ := T.mods
  obtain ⟨o, _, _, ho, _⟩ := ghost_ns hT hm
  obtain ⟨bm, ob, a1, a2, a3, a4, r⟩ := T'.bmain
  exact ⟨X, ⟨_, _, _, _, topRead_of T'⟩, ⟨o, ho⟩, ⟨_, bm, ob, T'.g, a1, a2, a3, a4, r⟩, C⟩

theorem nd6 (L : Nat) (h : 63 < L) : [L, L + 1 + 1 + 1 + 1, L + 1 + 1 + 1, L + 1 + 1, L + 1, 63].Nodup := by
  simp only [List.nodup_cons, List.mem_cons, List.not_mem_nil, or_false, not_or, List.nodup_nil, and_true, not_false_eq_true]
  omega
theorem st_start {g h : Heap} {L sa : Addr} {m : Str → Option Value} {o4 o3 o2 o1 : Obj} (F : Fr g L h m) (N : News g L h [(L + 1 + 1 + 1 + 1, o4), (L + 1 + 1 + 1, o3), (L + 1 + 1, o2), (L + 1, o1), (63, tabObj #[])])
    (h4 : o4.data = .cell none) (h3 : o3.data = .cell none) (h2 : o2.data = .cell none) (h1 : o1.data = .cell (some (.ref sa))) (hL : 63 < L) :
    St g [(L, Loc []), (L + 1 + 1 + 1 + 1, CellP none), (L + 1 + 1 + 1, CellP none), (L + 1 + 1, CellP none), (L + 1, CellP (some (.ref sa))), (63, TabOk g)] h := by
  have hn4 := N (L + 1 + 1 + 1 + 1, o4) (by simp)
  have hn3 := N (L + 1 + 1 + 1, o3) (by simp)
  have hn2 := N (L + 1 + 1, o2) (by simp)
  have hn1 := N (L + 1, o1) (by simp)
  have hn0 := N (63, tabObj #[]) (by simp)
  refine ⟨F.keep, ?_, ?_, ?_⟩
  · exact nd6 L hL
  · intro p hp
    simp only [List.mem_cons, List.not_mem_nil, or_false] at hp
    rcases hp with rfl | rfl | rfl | rfl | rfl | rfl
    · exact Heap.get?_none_of_le F.above
    · exact hn4.2.2
    · exact hn3.2.2
    · exact hn2.2.2
    · exact hn1.2.2
    · exact hn0.2.2
  · intro p hp
    simp only [List.mem_cons, List.not_mem_nil, or_false] at hp
    rcases hp with rfl | rfl | rfl | rfl | rfl | rfl
    · exact loc_of_ns F.ns (by intro x v e; cases e)
    · exact ⟨_, hn4.1, h4⟩
    · exact ⟨_, hn3.1, h3⟩
    · exact ⟨_, hn2.1, h2⟩
    · exact ⟨_, hn1.1, h1⟩
    · exact ⟨_, hn0.1, .inl rfl⟩

end Mine
end

open PySem PySem.W PyProof.Rows PySem.Calls Mine
set_option maxHeartbeats 8000000 in
theorem PySem.Challenge.cw_pe0088_01_holds : PySem.Challenge.rw_pe0088_01.Holds :=
  Mine.hd (by
  k_go0
  rename_i codeHd N' l0
  have GG := Gr.start (Top.seer (by assumption) rfl) (by assumption) (by assumption) (by assumption) codeHd
  refine law_main rfl rfl rfl GG (st_start (by assumption) N' (by assumption) (by assumption) (by assumption) (by assumption) l0) ⟨_, by assumption, by assumption⟩ (by omega) rfl (Nat.le_of_ble_eq_true rfl) (Nat.le_of_ble_eq_true rfl) ?_
  intro h' tk hk hT hNs
  obtain ⟨ps, hps⟩ := hT
  obtain ⟨m, hm⟩ := hNs
  refine ⟨goodW_bool (L := _) ⟨hm, hk, Fr.above (by assumption)⟩ (by assumption) (raisesW_false ?_) ?_, ⟨ps, hps⟩, trivial⟩
  · wrow_none_raised
  · kc_post)
