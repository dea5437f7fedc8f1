import PyProof.Rows.All
import Wide.All
import OpenK.AllK
import Wide.FinOn
import PySem.Challenge.RW_op0027_01
open PySem PySem.W PyProof.Rows PySem.Spec PySem.Calls
set_option Elab.async false
set_option linter.unusedVariables false
namespace Mine
/-! the head: the law is well said, looked at part by part; the top's run is one look of the kernel (no twins are laid: they would be 12 MB of the compiled file) -/
abbrev lw : OpenLaw := Challenge.rw_op0027_01
noncomputable def viw : Program := view Challenge.pw_op0027_01 [0, 2, 3, 5, 6, 7, 12, 13, 14, 15, 16, 18, 19, 20, 21, 22, 23, 24, 25, 26]
section
set_option maxRecDepth 100000
theorem ws1 : sreFenced lw.prog.main = true := by kernel_rfl
theorem ws2 : ((moduleNames lw.prog.main.body).isEmpty || lookedIntoSs (moduleNames lw.prog.main.body) lw.prog.main.body) = true := by kernel_rfl
theorem ws3 : namesResolve lw.prog = true := by kernel_rfl
theorem ws4 : lw.prog.boundNames.all (fun n => !worldNames.contains n) = true := by kernel_rfl
theorem ws5 : noRoadLSs { strict := !(importedModules lw.prog.main.body).all cThrough.contains, foot := none, bare := (["vars", "dir", "locals"] : List Str).filter (readsOut lw.prog lw.prog.main.body) } lw.prog.main.body = true := by kernel_rfl
theorem ws6 : namesMeet lw.prog lw.prog.main.body (fun _ n => attrL n) = true := by kernel_rfl
theorem wsO : looksOpen lw.prog = true := by
  unfold looksOpen
  rw [ws1, ws2, ws3, ws4, ws5, ws6]; rfl
theorem wsR : lw.row.wellSaid = true := by
  unfold OpenRow.wellSaid OpenRow.partSaid
  rw [show looksOpen lw.row.prog = true from wsO]
  kernel_rfl
theorem wsA : noRoadLSs { strict := true, foot := some lw.bound', writes := lw.writes, may := lw.may } lw.footing = true := by kernel_rfl
theorem wsB : namesMeet lw.prog lw.footing (fun sc n => (!(["type", "isinstance", "issubclass", "getattr", "hasattr"] : List Str).contains n || sc.names.lookup n == some .globalImplicit) &&
    (lw.may != some n || sc.kind == .module || sc.names.lookup n == some .globalImplicit)) = true := by kernel_rfl
theorem wsC : namesMeet lw.prog lw.above (fun _ n => !lw.own.contains n) = true := by kernel_rfl
theorem wsD : namesMeet lw.prog lw.footing (fun sc n => sc.kind == .module || sc.names.lookup n != some .globalExplicit) = true := by kernel_rfl
theorem wsL : lw.wellSaid = true := by
  unfold OpenLaw.wellSaid
  rw [wsR, wsA, wsB, wsC, wsD]
  kernel_rfl
theorem head {H : Hook} {d : DefRec} {kwd : List (Str × Expr)} (hdef : defOf viw lw.row.name = some (d, kwd)) (hp : lw.row.prog.theDef lw.row.name = some (d.params, d.body, d.scope)) (hk : kwWritten? d.params.kwonlyargs d.params.kw_defaults = some kwd)
    (hl : LeftO lw.row.prog viw ["b2a_base64", "b64encode"] (fun s => xlAt viw [] s && recOk (RowW.records lw.row.toRowW) s) H.obs H.val 1510) (hw : lw.row.toRowW.promised)
    (hc : WalkO viw ["b2a_base64", "b64encode"] (XL viw []) H.says lw.row.toRowW d kwd fun f vs => PySem.call f vs) : lw.row.Holds :=
  holds_open hl H.of H.keeps (fun s e => xl_of s (Bool.and_eq_true_iff.mp e).1) XL.keeps hdef hp hk (fun s e => recFacts_of (Bool.and_eq_true_iff.mp e).2) rfl wsR (by kernel_rfl) ⟨rfl, rfl, rfl, rfl, rfl, by decide +kernel⟩ hw hc
end
local macro_rules | `(tactic| o_law) => `(tactic| refine holds_law wsL fun said => ?_)
local macro_rules | `(tactic| o_head $H) => `(tactic| (refine' head (H := $H) (by rfl) (by rfl) (by rfl) ?hl ?hw ?hc; (case hl => intro w; kernel_rfl)))
set_option maxRecDepth 100000 in
set_option maxHeartbeats 8000000 in
open_top hd for PySem.Challenge.rw_op0027_01
section

/-! the own logic: what is known of a state -/
inductive Ct where
  | list (items : List Value)
  | tup (items : List Value)
  | cell (v : Option Value)
  | obj (o : Obj)
  | pr (p : Obj → Prop)
noncomputable abbrev lo (items : List Value) (n : Nat) : Obj := { cls := .type "list", data := .seq items.toArray n }
noncomputable abbrev tuo (items : List Value) (n : Nat) : Obj := { cls := .type "tuple", data := .seq items.toArray n }
noncomputable def Ct.is : Ct → Obj → Prop
  | .list items, o => ∃ n, o = lo items n
  | .tup items, o => ∃ n, o = tuo items n
  | .cell v, o => o.data = .cell v
  | .obj o', o => o = o'
  | .pr p, o => p o
noncomputable def At (h : Heap) (a : Addr) (c : Ct) : Prop := ∃ o, h.get? a = some o ∧ c.is o
theorem At.get {h : Heap} {a : Addr} {vs : List Value} (x : At h a (.list vs)) : ∃ n, h.get? a = some (lo vs n) := by
  obtain ⟨o, ho, n, rfl⟩ := x
  exact ⟨n, ho⟩
theorem At.list {h : Heap} {a : Addr} {vs : List Value} {n : Nat} (x : h.get? a = some (lo vs n)) : At h a (.list vs) := ⟨_, x, n, rfl⟩
theorem At.isList {h : Heap} {a : Addr} {vs : List Value} (x : At h a (.list vs)) : h.IsList a vs.toArray := let ⟨n, ho⟩ := x.get; ⟨_, ho, rfl, n, rfl⟩
theorem At.plainL {h : Heap} {a : Addr} {vs : List Value} (x : At h a (.list vs)) : PlainL h a vs.toArray := let ⟨n, ho⟩ := x.get; ⟨_, n, ho, rfl, rfl, rfl⟩
theorem At.gett {h : Heap} {a : Addr} {vs : List Value} (x : At h a (.tup vs)) : ∃ n, h.get? a = some (tuo vs n) := by
  obtain ⟨o, ho, n, rfl⟩ := x
  exact ⟨n, ho⟩
theorem At.isTuple {h : Heap} {a : Addr} {vs : List Value} (x : At h a (.tup vs)) : h.IsTuple a vs.toArray := let ⟨n, ho⟩ := x.gett; ⟨_, ho, rfl, n, rfl⟩
theorem lo_map {vs ws : List Value} {n : Nat} {f : Array Value → Array Value} (e : f vs.toArray = ws.toArray) : ∃ n', (lo vs n).mapSeq f = lo ws n' := ⟨_, by show Obj.mk _ _ _ _ = _; rw [e]⟩
theorem At.updated {h : Heap} {a : Addr} {vs ws : List Value} {f : Array Value → Array Value} (x : At h a (.list vs)) (e : f vs.toArray = ws.toArray) : At (h.update a (Obj.mapSeq f)) a (.list ws) := by
  obtain ⟨n, ho⟩ := x.get
  obtain ⟨n', e'⟩ := lo_map (n := n) e
  exact At.list (n := n') (by rw [Heap.get?_update_self _ ho (by rw [e']; rfl), e'])
theorem At.keeps {h h' : Heap} {a : Addr} {c : Ct} (x : At h a c) (hk : ∀ o, h.get? a = some o → h'.get? a = some o) : At h' a c :=
  let ⟨o, ho, r⟩ := x; ⟨o, hk o ho, r⟩
theorem At.has {h : Heap} {a : Addr} {c : Ct} (x : At h a c) : ∃ o, h.get? a = some o := let ⟨o, ho, _⟩ := x; ⟨o, ho⟩
theorem At.lt {h : Heap} {a : Addr} {c : Ct} (x : At h a c) : a < h.objs.size := let ⟨_, ho, _⟩ := x; Heap.lt_size ho
theorem At.ne {h g : Heap} {a b : Addr} {c : Ct} (x : At g a c) (hb : g.get? b = none) : a ≠ b := by
  rintro rfl; obtain ⟨o, ho⟩ := x.has; rw [hb] at ho; cases ho

/-- the later heap has all but S as it was -/
noncomputable def Keep (S : List Addr) (h h' : Heap) : Prop := ∀ a o, h.get? a = some o → a ∉ S → h'.get? a = some o
theorem Keep.refl (S : List Addr) (h : Heap) : Keep S h h := fun _ _ e _ => e
theorem Keep.trans {S : List Addr} {h₁ h₂ h₃ : Heap} (x : Keep S h₁ h₂) (y : Keep S h₂ h₃) : Keep S h₁ h₃ := fun a o e n => y a o (x a o e n) n
theorem Keep.mono {S S' : List Addr} {h₁ h₂ : Heap} (x : Keep S h₁ h₂) (hs : ∀ a ∈ S, a ∈ S') : Keep S' h₁ h₂ := fun a o e n => x a o e fun q => n (hs a q)
theorem Keep.at {S : List Addr} {h h' : Heap} {a : Addr} {c : Ct} (k : Keep S h h') (x : At h a c) (n : a ∉ S) : At h' a c := x.keeps fun o e => k a o e n
theorem Keep.push {h : Heap} (o : Obj) : Keep [] h (h.push o) := fun _ _ e _ => Heap.get?_push_of_some o e
theorem Keep.same {a : Addr} {h h' : Heap} (x : Heap.SameBut a h h') : Keep [a] h h' := fun b o e n => (x.2 b (by simpa using n)).trans e

/-- the states: one run's, its heap and its tokens -/
noncomputable abbrev Z (z : Shared) (h : Heap) (tk : Nat) : Shared := { z with heap := h, toks := tk }

/-- a frame's state: the base g (all of it stands), the frame's names, the objects that may change -/
structure St (g : Heap) (L : Addr) (ρ : List (Str × Value)) (Δ : List (Addr × Ct)) (h : Heap) : Prop where
  loc : ∃ m, h.Ns L m ∧ ∀ x v, ρ.lookup x = some v → m x = some v
  keep : ∀ b o, g.get? b = some o → h.get? b = some o
  offL : g.get? L = none
  nw : ∀ p ∈ Δ, At h p.1 p.2 ∧ p.1 ≠ L ∧ g.get? p.1 = none
  nd : (Δ.map (·.1)).Nodup

inductive Up (a : Addr) (c' : Ct) : List (Addr × Ct) → List (Addr × Ct) → Prop
  | head {c r} : Up a c' ((a, c) :: r) ((a, c') :: r)
  | tail {p r r'} : Up a c' r r' → Up a c' (p :: r) (p :: r')
theorem Up.keys {a : Addr} {c' : Ct} {Δ Δ' : List (Addr × Ct)} (u : Up a c' Δ Δ') : Δ'.map (·.1) = Δ.map (·.1) := by
  induction u with
  | head => rfl
  | tail _ ih => simp [ih]
theorem Up.mem {a : Addr} {c' : Ct} {Δ Δ' : List (Addr × Ct)} (u : Up a c' Δ Δ') : a ∈ Δ.map (·.1) := by
  induction u with
  | head => simp
  | tail _ ih => exact .tail _ ih
theorem Up.each {a : Addr} {c' : Ct} {Δ Δ' : List (Addr × Ct)} (u : Up a c' Δ Δ') (nd : (Δ.map (·.1)).Nodup) : ∀ p ∈ Δ', p = (a, c') ∨ (p ∈ Δ ∧ p.1 ≠ a) := by
  induction u with
  | head =>
    intro p hp
    rcases List.mem_cons.mp hp with e | e
    · exact .inl e
    · refine .inr ⟨.tail _ e, fun q => ?_⟩
      simp only [List.map_cons, List.nodup_cons] at nd
      exact nd.1 (q ▸ List.mem_map_of_mem e)
  | tail u ih =>
    intro p hp
    simp only [List.map_cons, List.nodup_cons] at nd
    rcases List.mem_cons.mp hp with e | e
    · refine .inr ⟨e ▸ .head _, fun q => ?_⟩
      subst e
      exact nd.1 (q ▸ u.mem)
    · rcases ih nd.2 p e with h | h
      · exact .inl h
      · exact .inr ⟨.tail _ h.1, h.2⟩

section
variable {g h h' : Heap} {L a : Addr} {ρ ρ' : List (Str × Value)} {Δ Δ' : List (Addr × Ct)} {c c' : Ct}
theorem St.at (S : St g L ρ Δ h) (hm : (a, c) ∈ Δ) : At h a c := (S.nw _ hm).1
theorem St.old (S : St g L ρ Δ h) (x : At g a c) : At h a c := x.keeps fun o e => S.keep a o e
theorem St.fresh (S : St g L ρ Δ h) (hm : (a, c) ∈ Δ) : g.get? a = none := (S.nw _ hm).2.2
theorem St.names (S : St g L ρ Δ h) (hn : ∀ x v, ρ'.lookup x = some v → ρ.lookup x = some v) : St g L ρ' Δ h :=
  ⟨let ⟨m, a, b⟩ := S.loc; ⟨m, a, fun x v e => b x v (hn x v e)⟩, S.keep, S.offL, S.nw, S.nd⟩
theorem St.less (S : St g L ρ Δ h) (hs : ∀ p ∈ Δ', p ∈ Δ) (nd : (Δ'.map (·.1)).Nodup) : St g L ρ Δ' h := ⟨S.loc, S.keep, S.offL, fun p hp => S.nw p (hs p hp), nd⟩
theorem St.store (S : St g L ρ Δ h) {x : Str} {v : Value} {m : Str → Option Value} (hm : ∀ y w, ρ.lookup y = some w → m y = some w)
    (hn : h'.Ns L (fun y => if y = x then some v else m y)) (hs : Heap.SameBut L h h') : St g L ((x, v) :: ρ) Δ h' := by
  refine ⟨⟨_, hn, fun y w e => ?_⟩, fun b o e => ?_, S.offL, fun p hp => ?_, S.nd⟩
  · show (if y = x then some v else m y) = some w
    rw [List.lookup_cons] at e
    by_cases q : y = x
    · rw [if_pos q]
      rw [show (y == x) = true from beq_iff_eq.mpr q] at e
      exact e
    · rw [if_neg q]
      rw [show (y == x) = false from beq_eq_false_iff_ne.mpr q] at e
      exact hm y w e
  · refine (hs.2 b fun q => ?_).trans (S.keep b o e)
    rw [q, S.offL] at e; cases e
  · obtain ⟨h1, h2, h3⟩ := S.nw p hp
    exact ⟨h1.keeps fun o e => (hs.2 _ h2).trans e, h2, h3⟩
theorem St.upd (S : St g L ρ Δ h) (u : Up a c' Δ Δ') (hs : Heap.SameBut a h h') (x : At h' a c') : St g L ρ Δ' h' := by
  obtain ⟨p₀, hp₀, ha⟩ := List.mem_map.mp u.mem
  obtain ⟨_, hL, hg⟩ := S.nw p₀ hp₀
  rw [ha] at hL hg
  refine ⟨?_, fun b o e => ?_, S.offL, fun p hp => ?_, u.keys ▸ S.nd⟩
  · obtain ⟨m, hn, r⟩ := S.loc
    exact ⟨m, hn.sameBut hs (Ne.symm hL), r⟩
  · refine (hs.2 b fun q => ?_).trans (S.keep b o e)
    rw [q, hg] at e; cases e
  · rcases u.each S.nd p hp with rfl | ⟨h1, h2⟩
    · exact ⟨x, hL, hg⟩
    · obtain ⟨y1, y2, y3⟩ := S.nw p h1
      exact ⟨y1.keeps fun o e => (hs.2 _ h2).trans e, y2, y3⟩
theorem St.newAt (S : St g L ρ Δ h) (hk : Keep [] h h') (hn : h.get? a = none) (x : At h' a c) : St g L ρ ((a, c) :: Δ) h' := by
  have kp : ∀ b o, h.get? b = some o → h'.get? b = some o := fun b o e => hk b o e (by simp)
  have hga : g.get? a = none := by
    cases q : g.get? a with
    | none => rfl
    | some o => rw [S.keep _ _ q] at hn; cases hn
  refine ⟨?_, fun b o e => kp b o (S.keep b o e), S.offL, fun p hp => ?_, ?_⟩
  · obtain ⟨m, hn, r⟩ := S.loc
    exact ⟨m, hn.keeps kp, r⟩
  · rcases List.mem_cons.mp hp with rfl | hp
    · refine ⟨x, ?_, hga⟩
      rintro rfl
      obtain ⟨m, ⟨o, _, _, ho, _⟩, _⟩ := S.loc
      rw [hn] at ho; cases ho
    · obtain ⟨y1, y2, y3⟩ := S.nw p hp
      exact ⟨y1.keeps fun o e => kp _ _ e, y2, y3⟩
  · refine List.nodup_cons.mpr ⟨fun q => ?_, S.nd⟩
    obtain ⟨p, hp, e⟩ := List.mem_map.mp q
    obtain ⟨o, ho⟩ := (S.nw p hp).1.has
    have e' : p.1 = a := e
    rw [e', hn] at ho; cases ho
theorem St.keepAll (S : St g L ρ Δ h) (hk : Keep [] h h') : St g L ρ Δ h' := by
  have kp : ∀ b o, h.get? b = some o → h'.get? b = some o := fun b o e => hk b o e (by simp)
  refine ⟨?_, fun b o e => kp b o (S.keep b o e), S.offL, fun p hp => ?_, S.nd⟩
  · obtain ⟨m, hn, r⟩ := S.loc
    exact ⟨m, hn.keeps kp, r⟩
  · obtain ⟨y1, y2, y3⟩ := S.nw p hp
    exact ⟨y1.keeps fun o e => kp _ _ e, y2, y3⟩
/-- the first of the changed objects is let go -/
theorem St.letGo (S : St g L ρ ((a, c) :: Δ) h) (hs : Heap.ExtBut a h h') : St g L ρ Δ h' := by
  obtain ⟨_, hL, hg⟩ := S.nw (a, c) (.head _)
  have nd := S.nd
  simp only [List.map_cons, List.nodup_cons] at nd
  refine ⟨?_, fun b o e => hs b o (fun q => ?_) (S.keep b o e), S.offL, fun p hp => ?_, nd.2⟩
  · obtain ⟨m, ⟨o, es, ep, ho, r'⟩, r⟩ := S.loc
    exact ⟨m, ⟨o, es, ep, hs _ _ (Ne.symm hL) ho, r'⟩, r⟩
  · rw [q, hg] at e; cases e
  · obtain ⟨y1, y2, y3⟩ := S.nw p (.tail _ hp)
    refine ⟨y1.keeps fun o e => hs _ _ (fun q => ?_) e, y2, y3⟩
    exact nd.1 (q ▸ List.mem_map_of_mem hp)
/-- a call that changed one object -/
theorem St.call1 (S : St g L ρ Δ h) (u : Up a c' Δ Δ') (hk : Keep [a] h h') (x : At h' a c') : St g L ρ Δ' h' := by
  obtain ⟨p₀, hp₀, ha⟩ := List.mem_map.mp u.mem
  obtain ⟨_, hL, hg⟩ := S.nw p₀ hp₀
  rw [ha] at hL hg
  refine ⟨?_, fun b o e => ?_, S.offL, fun p hp => ?_, u.keys ▸ S.nd⟩
  · obtain ⟨m, ⟨o, es, ep, ho, r'⟩, r⟩ := S.loc
    exact ⟨m, ⟨o, es, ep, hk _ _ ho (by simpa using Ne.symm hL), r'⟩, r⟩
  · refine hk b o (S.keep b o e) fun q => ?_
    rw [List.mem_singleton.mp q, hg] at e; cases e
  · rcases u.each S.nd p hp with rfl | ⟨h1, h2⟩
    · exact ⟨x, hL, hg⟩
    · obtain ⟨y1, y2, y3⟩ := S.nw p h1
      exact ⟨hk.at y1 (by simpa using h2), y2, y3⟩
end
end
section

/-- the text's own objects stand in this heap -/
structure Gd (w : World) (g : Heap) : Prop where
  X : (hd.heap_1 w.params).In g
  T : ∃ p loose mean mg mb, Top p loose mean mg mb g
  C : CodeHd g 106 102 ∧ CodeHd g 120 116
theorem Gd.keeps {w : World} {g g' : Heap} (G : Gd w g) (k : ∀ b o, g.get? b = some o → g'.get? b = some o) : Gd w g' :=
  ⟨G.X.keeps k, (let ⟨p, l, mn, mg, mb, T⟩ := G.T; ⟨p, l, mn, mg, mb, T.keeps k⟩), G.C.1.keeps k, G.C.2.keeps k⟩

/-- room for k calls more -/
structure Rm (A : Around) (k : Nat) : Prop where
  hh : A.handled = none
  hd : A.depth + k < recursionLimit
  hu : A.units + 20 * k < cLine
theorem Rm.less {A : Around} {k k' : Nat} (r : Rm A k) (h : k' ≤ k) : Rm A k' := ⟨r.hh, by have := r.hd; omega, by have := r.hu; omega⟩
theorem Rm.deeper {A : Around} {k : Nat} (r : Rm A (k + 1)) (env : Env) : Rm (A.deeper env) k :=
  ⟨r.hh, by have := r.hd; show A.depth + 1 + k < _; omega, by have := r.hu; show A.units + 3 + 20 * k < _; omega⟩
theorem Rm.in1 {A : Around} {k : Nat} (r : Rm A (k + 1)) : Rm A.in1 k :=
  ⟨r.hh, by have := r.hd; show A.depth + k < _; omega, by have := r.hu; show A.units + 1 + 20 * k < _; omega⟩
theorem Rm.room {A : Around} {k : Nat} (r : Rm A k) : A.depth < recursionLimit := by have := r.hd; omega
theorem Rm.units {A : Around} {k : Nat} (r : Rm A k) : A.units < cLine := by have := r.hu; omega

noncomputable abbrev NoE : Value → Shared → Prop := fun _ _ => False
noncomputable def retv : Flow → Value
  | .ret v => v
  | _ => .none

section
variable {w : World} {A : Around} {E : Value → Shared → Prop} {z : Shared} {h : Heap} {tk : Nat}

theorem enter {g₀ : Heap} {f : Addr} {pos : List Value} {kw : List (Str × Value)} {k : Nat} {Q : Value → Shared → Prop}
    {name qual : Str} {params : Arguments} {body : List Stmt} {scope : Scope} {dV kV doc pm cdv ct oc : Value} {an od : Option Addr} {osl : Array (Option Value)} {binds : List (Str × Value)}
    (M : List (Addr × Ct)) (ρ : List (Str × Value)) (r : Rm A (k + 1)) (G : Gd w g₀) (k₀ : ∀ b o, g₀.get? b = some o → h.get? b = some o) (hM : ∀ p ∈ M, At h p.1 p.2 ∧ g₀.get? p.1 = none) (nd : (M.map (·.1)).Nodup)
    (ho : (hd.heap_1 w.params).lookup f = some ⟨oc, od, .func (fnOf name qual params body scope dV kV doc pm an cdv ct), osl⟩) (hcd : codeIn (hd.heap_1 w.params) cdv qual = true)
    (hbind : BindsTo (Z z h tk) (fnOf name qual params body scope dV kV doc pm an cdv ct) ⟨pos, kw⟩ binds) (hρ : ∀ x v, ρ.lookup x = some v → binds.reverse.lookup x = some v) (hloc : ∀ y ∈ binds, scope.names.lookup y.1 = some .local)
    (hco : scope.isCoroutine = false) (hgen : scope.isGenerator = false) (hk : scope.kind = .function) (hcell : ∀ x ∈ scope.names, x.2 ≠ .cell)
    (body' : ∀ A' g L h₁ tk₁, Rm A' k → Gd w g → (∀ b o, h.get? b = some o → b ∉ M.map (·.1) → g.get? b = some o) → (∀ b o, g.get? b = some o → h.get? b = some o) → St g L ρ M h₁ →
      wpAny (model Challenge.rw_op0027_01.row.prog w) A' (execs body (envOf qual scope L f cdv)) (fun fl s' => Q (retv fl) s') NoE (Z z h₁ tk₁)) :
    wpAny (model Challenge.rw_op0027_01.row.prog w) A (call (.ref f) pos kw) Q E (Z z h tk) := by
  have Gh := G.keeps k₀
  obtain ⟨p, l, mn, mg, mb, T⟩ := Gh.T
  refine wpAny_call (codeAny_call_def (fd := fnOf name qual params body scope dV kV doc pm an cdv ct) (body := body) (binds := binds) r.room (Gh.X _ _ ho) rfl T.nolimit (codeRec_of Gh.X hcd) rfl hbind hcell hloc (fun h₁ hns hk₁ => ?_) hco hgen hk)
  have hs : ∀ b o, h.get? b = some o → b ∉ M.map (·.1) → (hideAll h (M.map (·.1))).get? b = some o := fun b o e n => hideAll_get _ e n
  have G' : Gd w (hideAll h (M.map (·.1))) := G.keeps fun b o e => hs b o (k₀ b o e) fun q => by
    obtain ⟨p, hp, rfl⟩ := List.mem_map.mp q
    rw [(hM p hp).2] at e; cases e
  have x := body' (A.deeper (envOf qual scope h.objs.size f cdv)) (hideAll h (M.map (·.1))) h.objs.size h₁ (tk + binds.length) (r.deeper _) G' hs (fun b o e => of_hideAll _ e)
    ⟨⟨_, hns, hρ⟩, fun b o e => hk₁ b o (of_hideAll _ e), by
      cases q : (hideAll h (M.map (·.1))).get? h.objs.size with
      | none => rfl
      | some o => exact absurd (Heap.lt_size (of_hideAll _ q)) (Nat.lt_irrefl _), fun p hp => ⟨(hM p hp).1.keeps fun o e => hk₁ _ _ e, Nat.ne_of_lt (hM p hp).1.lt, hideAll_none _ (List.mem_map_of_mem hp)⟩, nd⟩
  refine wpAny_mono x (fun fl s' q => ?_) fun _ _ e => e.elim
  cases fl <;> exact q
end

section
variable {w : World} {A : Around} {E : Value → Shared → Prop} {z : Shared} {g h : Heap} {tk : Nat} {L : Addr} {ρ : List (Str × Value)} {Δ : List (Addr × Ct)} {env : Env} {Q : Value → Shared → Prop}
theorem e_local {x : Str} {pos : Pos} {v : Value} (S : St g L ρ Δ h) (hv : ρ.lookup x = some v) (hx : env.kindOf x = some .local) (hL : env.locals = L) (hk : env.scope.kind = .function) (hd : (x == ("__debug__" : Str)) = false)
    (q : Q v (Z z h tk)) : wpAny (model Challenge.rw_op0027_01.row.prog w) A (eval (.Name x pos) env) Q E (Z z h tk) := by
  obtain ⟨m, hn, r⟩ := S.loc
  subst hL
  exact wpAny_Name (wpAny_loadName_local hk hx hn (r x v hv) q) hd
theorem e_glob {x : Str} {pos : Pos} {v : Value} (G : Gd w g) (S : St g L ρ Δ h) (e : nsIn (hd.heap_1 w.params) mainGlobals x = some (some v)) (hx : env.kindOf x = some .globalImplicit) (hg : env.globals = mainGlobals) (hk : env.scope.kind = .function) (hd : (x == ("__debug__" : Str)) = false)
    (q : Q v (Z z h tk)) : wpAny (model Challenge.rw_op0027_01.row.prog w) A (eval (.Name x pos) env) Q E (Z z h tk) := by
  obtain ⟨p, l, mn, mg, mb, T₀⟩ := G.T
  have T := topRead_of T₀
  exact Name_function_global hk hx (loadGlobal_global (mg := mg) (by rw [hg]; exact T.g.keeps S.keep) (mg_of G.X T.g e) q) hd
theorem e_built {x : Str} {pos : Pos} {v : Value} (G : Gd w g) (S : St g L ρ Δ h) (e : nsIn (hd.heap_1 w.params) mainGlobals x = some none) (hv : bootBuiltins x = some v) (hn : x ≠ "__name__") (hx : env.kindOf x = some .globalImplicit) (hg : env.globals = mainGlobals) (hb : env.builtins = builtinsNs) (hk : env.scope.kind = .function) (hd : (x == ("__debug__" : Str)) = false)
    (q : Q v (Z z h tk)) : wpAny (model Challenge.rw_op0027_01.row.prog w) A (eval (.Name x pos) env) Q E (Z z h tk) := by
  obtain ⟨p, l, mn, mg, mb, T₀⟩ := G.T
  have T := topRead_of T₀
  exact Name_function_global hk hx (loadGlobal_builtin (mg := mg) (mb := mb) (by rw [hg]; exact T.g.keeps S.keep) (mg_none_of G.X T.g e) (by rw [hb]; exact T.b.keeps S.keep) ((T.builtins x hn).trans hv) q) hd
end
end
section
open AutoSeq1 (wpAny_loadPart')
open MeetsSeq MeetsSeq2 MeetsSeq3 SeqRoads2
theorem At.opened {h : Heap} {a : Addr} {vs : List Value} (x : At h a (.list vs)) : ∃ d n sl, h.get? a = some ⟨.type "list", d, .seq vs.toArray n, sl⟩ := let ⟨n, ho⟩ := x.get; ⟨none, n, #[], ho⟩
section
variable {prog : Program} {w : World} {A : Around} {R : Result → Shared → Prop} {s : Shared}
theorem lt_step {a b : Addr} {xs ys : List Value} {i : Nat} {p q : Int} {t u : Tok} (ha : At s.heap a (.list xs)) (hb : At s.heap b (.list ys)) (hx : xs[i]? = some (.int p t)) (hy : ys[i]? = some (.int q u))
    (h1 : p ≠ q → R (.ok (.ret (.bool (decide (p < q))))) s) (h2 : p = q → codeAny (model prog w) A (.builtin "list.__eq__.loop" ⟨[.ref a, .ref b, rawInt (i + 1 : Nat), rawInt 0], []⟩) R s) :
    codeAny (model prog w) A (.builtin "list.__eq__.loop" ⟨[.ref a, .ref b, rawInt i, rawInt 0], []⟩) R s := by
  obtain ⟨hp, g, d, tk, os⟩ := s
  obtain ⟨d1, n1, sl1, hl⟩ := ha.opened
  obtain ⟨d2, n2, sl2, hb⟩ := hb.opened
  dsimp only at hl hb
  refine codeAny_builtin entry_eq_loop ?_
  rw [Around.under_plainId plain_eq_loop _]
  have hi1 : (xs.toArray)[((i : Nat) : Int).toNat]? = some (.int p t) := by simpa using hx
  have hi2 : (ys.toArray)[((i : Nat) : Int).toNat]? = some (.int q u) := by simpa using hy
  have hc : ((i : Int) + 1) = ((i + 1 : Nat) : Int) := by push_cast; rfl
  wp_walk using wpAny_loadPart' hl, wpAny_loadPart' hb
  rw [hi1, hi2]
  refine wpAny_bind (wpAny_eqBool_int ?_)
  by_cases e : p = q
  · have e' : (p == q) = true := by simp [e]
    rw [e']
    wp_walk
    rw [hc]
    exact ⟨plainId_quiet plain_eq_loop _, h2 e⟩
  · have e' : (p == q) = false := by simp [e]
    rw [e']
    wp_walk using wpAny_loadPart' hl, wpAny_loadPart' hb
    rw [hi1, hi2]
    show wpAny _ _ (do ret (← richCompare .Lt (.int p t) (.int q u))) _ _ _
    refine wpAny_bind (wpAny_lt_int ?_)
    exact wpAny_pure (h1 e)
end
section
variable {prog : Program} {w : World} {A : Around} {E : Value → Shared → Prop} {s : Shared} {Q : Value → Shared → Prop}
theorem lt_list {a b : Addr} {xs ys : List Value} (ha : At s.heap a (.list xs)) (hb : At s.heap b (.list ys)) (hu : A.units < cLine)
    (h : codeAny (model prog w) A (.builtin "list.__eq__.loop" ⟨[.ref a, .ref b, rawInt (0 : Nat), rawInt 0], []⟩) (fun r s' => match r with | .ok (.ret v) => v ≠ .notImplemented ∧ Q v s' | .ok _ => False | .error e => E e s') s) :
    wpAny (model prog w) A (compareOp .Lt (.ref a) (.ref b)) Q E s := by
  show wpAny _ _ (richCompare .Lt (.ref a) (.ref b)) Q E s
  refine wpAny_richCompare_same_room (op := .Lt) (T := "list") ha.isList.typeIs hb.isList.typeIs F.slot_list_lt ?_ hu
  refine wpAny_call (codeAny_call_builtin F.slot_list_lt.plain F.entry_list_lt (F.slot_list_lt.check _ _ _ _ _ _ _ _ ha.isList.typeIs (F.args_list_lt_2 _ _) ?_))
  obtain ⟨hp, g, d, tk, os⟩ := s
  obtain ⟨d1, n1, sl1, hl⟩ := ha.opened
  obtain ⟨d2, n2, sl2, hb⟩ := hb.opened
  dsimp only at hl hb
  have f3 := AutoSeq1.sub_list_list
  wp_walk using wpAny_loadPart' hl, wpAny_loadPart' hb
  exact ⟨plainId_quiet plain_eq_loop _, h⟩
/-- [p, s, ..] < [q, r, ..], where the first two places part them -/
theorem lt_list2 {a b : Addr} {p q k l : Int} {t u t' u' : Tok} {xs ys : List Value} (ha : At s.heap a (.list (.int p t :: .int k t' :: xs))) (hb : At s.heap b (.list (.int q u :: .int l u' :: ys))) (hu : A.units < cLine)
    (hne : p = q → k ≠ l) (h : Q (.bool (decide (p < q ∨ (p = q ∧ k < l)))) s) : wpAny (model prog w) A (compareOp .Lt (.ref a) (.ref b)) Q E s := by
  refine lt_list ha hb hu (lt_step ha hb rfl rfl (fun e => ⟨by simp, ?_⟩) fun e => lt_step ha hb rfl rfl (fun e' => ⟨by simp, ?_⟩) fun e' => absurd e' (hne e))
  · simpa [e] using h
  · simpa [e] using h
end
end
section
noncomputable abbrev MM (w : World) : Model := model Challenge.rw_op0027_01.row.prog w

/-- behind a statement: the rest, or what it left by -/
noncomputable def After (w : World) (A : Around) (env : Env) (rest : List Stmt) (Q : Flow → Shared → Prop) (E : Value → Shared → Prop) (f : Flow) (s : Shared) : Prop :=
  match f with
  | .next => wpAny (MM w) A (execs rest env) Q E s
  | f => Q f s
/-- behind a loop's turn -/
noncomputable def Turn {σ : Type} (z : Shared) (I : σ → Heap → Prop) (μ : σ → Nat) (c : σ) (after : Shared → Prop) (Q : Flow → Shared → Prop) (f : Flow) (s : Shared) : Prop :=
  match f with
  | .brk => after s
  | .ret v => Q (.ret v) s
  | _ => ∃ c' h' tk', s = Z z h' tk' ∧ μ c' < μ c ∧ I c' h'
section
variable {w : World} {A : Around} {E : Value → Shared → Prop} {z : Shared} {g h : Heap} {tk : Nat} {L : Addr} {ρ : List (Str × Value)} {Δ : List (Addr × Ct)} {env : Env} {rest : List Stmt} {Q : Flow → Shared → Prop} {s : Shared}
theorem after_next (q : wpAny (MM w) A (execs rest env) Q E s) : After w A env rest Q E .next s := q
theorem after_ret {v : Value} (q : Q (.ret v) s) : After w A env rest Q E (.ret v) s := q
theorem after_cont (q : Q .cont s) : After w A env rest Q E .cont s := q
theorem after_brk (q : Q .brk s) : After w A env rest Q E .brk s := q
theorem turn_next {σ : Type} {I : σ → Heap → Prop} {μ : σ → Nat} {c : σ} {after : Shared → Prop} (c' : σ) (hm : μ c' < μ c) (i : I c' h) : Turn z I μ c after Q .next (Z z h tk) := ⟨c', h, tk, rfl, hm, i⟩
theorem turn_cont {σ : Type} {I : σ → Heap → Prop} {μ : σ → Nat} {c : σ} {after : Shared → Prop} (c' : σ) (hm : μ c' < μ c) (i : I c' h) : Turn z I μ c after Q .cont (Z z h tk) := ⟨c', h, tk, rfl, hm, i⟩
theorem turn_brk {σ : Type} {I : σ → Heap → Prop} {μ : σ → Nat} {c : σ} {after : Shared → Prop} (q : after s) : Turn z I μ c after Q .brk s := q
theorem turn_ret {σ : Type} {I : σ → Heap → Prop} {μ : σ → Nat} {c : σ} {after : Shared → Prop} {v : Value} (q : Q (.ret v) s) : Turn z I μ c after Q (.ret v) s := q

theorem xs_nil (q : Q .next s) : wpAny (MM w) A (execs [] env) Q E s := wpAny_execs_nil q
theorem xs_assign {x : Str} {pos' : Pos} {value : Expr} {pos : Pos} (hs : swapsWith value (some (.Name x pos')) pos.line env = pure false)
    (q : wpAny (MM w) A (eval value env) (fun v s₁ => wpAny (MM w) A (storeName env x v) (fun _ s₂ => wpAny (MM w) A (execs rest env) Q E s₂) E s₁) E s) :
    wpAny (MM w) A (execs (.Assign [.Name x pos'] value pos :: rest) env) Q E s := wpAny_execs_cons (wpAny_Assign_Name q hs)
theorem xs_assign_sub {o i : Expr} {pos' : Pos} {value : Expr} {pos : Pos} (hs : swapsWith value (some (.Subscript o i pos')) pos.line env = pure false)
    (q : wpAny (MM w) A (eval value env) (fun v s₁ => wpAny (MM w) A (eval o env) (fun ov s₂ => wpAny (MM w) A (eval i env) (fun iv s₃ => wpAny (MM w) A (setItem ov iv v) (fun _ s₄ => wpAny (MM w) A (execs rest env) Q E s₄) E s₃) E s₂) E s₁) E s) :
    wpAny (MM w) A (execs (.Assign [.Subscript o i pos'] value pos :: rest) env) Q E s := wpAny_execs_cons (wpAny_Assign_Subscript q hs)
theorem xs_if {test : Expr} {body orelse : List Stmt} {pos : Pos}
    (q : wpAny (MM w) A (isTrue test env (eval test env)) (fun b s₂ => if b = true then wpAny (MM w) A (execs body env) (After w A env rest Q E) E s₂ else wpAny (MM w) A (execs orelse env) (After w A env rest Q E) E s₂) E s) :
    wpAny (MM w) A (execs (.If test body orelse pos :: rest) env) Q E s := by
  refine wpAny_execs_cons (wpAny_If (wpAny_mono q (fun b s₂ h => ?_) fun _ _ x => x))
  have e : After w A env rest Q E = (fun f s' => match f with | .next => wpAny (MM w) A (execs rest env) Q E s' | f => Q f s') := by
    funext f s'
    cases f <;> rfl
  rw [e] at h
  exact h
theorem xs_return {e : Expr} {pos : Pos} (q : wpAny (MM w) A (eval e env) (fun v s' => Q (.ret v) s') E s) : wpAny (MM w) A (execs (.Return (some e) pos :: rest) env) Q E s :=
  wpAny_execs_cons (wpAny_Return_some (wpAny_mono q (fun _ _ x => x) fun _ _ x => x))
theorem xs_cont {pos : Pos} (q : Q .cont s) : wpAny (MM w) A (execs (.Continue pos :: rest) env) Q E s := wpAny_execs_cons (wpAny_Continue q)
theorem xs_break {pos : Pos} (q : Q .brk s) : wpAny (MM w) A (execs (.Break pos :: rest) env) Q E s := wpAny_execs_cons (wpAny_Break q)
theorem xs_expr {e : Expr} {pos : Pos} (hi : interactive env = false) (hs : swapsWith e none pos.line env = pure false) (q : wpAny (MM w) A (eval e env) (fun _ s' => wpAny (MM w) A (execs rest env) Q E s') E s) :
    wpAny (MM w) A (execs (.Expr e pos :: rest) env) Q E s := wpAny_execs_cons (wpAny_Expr_any (wpAny_mono q (fun _ _ x => x) fun _ _ x => x) hi hs)
theorem s_store {x : Str} {v : Value} {Q : Unit → Shared → Prop} (S : St g L ρ Δ h) (hx : env.kindOf x = some .local) (hL : env.locals = L) (hk : env.scope.kind = .function)
    (q : ∀ h', St g L ((x, v) :: ρ) Δ h' → Q () (Z z h' (tk + 1))) : wpAny (MM w) A (storeName env x v) Q E (Z z h tk) := by
  obtain ⟨m, hn, r⟩ := S.loc
  subst hL
  exact wpAny_storeName_local hx hn (fun h' hn' hs => q h' (S.store r hn' hs)) (by rw [hk]; rfl)
theorem setItem_plain {l : Addr} {vs : List Value} {k : Int} {t : Tok} {v : Value} {Q : Unit → Shared → Prop} (hl : At s.heap l (.list vs)) (h0 : 0 ≤ k) (hfit : k < 2 ^ 63) (hn : k < vs.length)
    (hQ : ∀ h', At h' l (.list (vs.set k.toNat v)) → Heap.SameBut l s.heap h' → Q () { s with heap := h' }) :
    wpAny (MM w) A (setItem (.ref l) (.int k t) v) Q E s := by
  obtain ⟨o, n, ho, hc, hdn, hd⟩ := hl.plainL
  have hT := hl.isList.typeIs
  unfold setItem
  try with_reducible refine wpAny_holding ?_
  first | refine wpAny_bind (wpAny_pure ?_) | skip
  refine wpAny_bind (wpAny_sequenceKey hT (by decide) ?_)
  refine wpAny_bind (wpAny_callSpecial?_slot (name := Str.ofString "__setitem__") hT slot_list_setitem
    (wpAny_call_entry slot_list_setitem hT entry_list_setitem ?_ (args_list_setitem _ _ _)))
  show wpAny _ _ (Builtin.List.listSubscript? (.int k t) >>= _) _ _ s
  refine wpAny_bind (wpAny_listSubscript_int (fitsIndex_of h0 hfit) ?_)
  clear hfit
  obtain ⟨j, rfl⟩ := Int.eq_ofNat_of_zero_le h0
  have hj : j < vs.toArray.size := by simp; omega
  have hx' : vs.toArray[j]? = some vs.toArray[j] := Array.getElem?_eq_getElem hj
  show wpAny _ _ ((seqItemAt l j >>= fun r => pure (r.map (j, ·))) >>= _) _ _ s
  refine wpAny_bind (wpAny_bind (wpAny_seqItemAt ho hd (wpAny_pure ?_)))
  rw [hx']
  show wpAny _ _ (setSeqItemAt l j v >>= _) _ _ s
  have hfin : At (s.heap.update l (Obj.mapSeq (·.setIfInBounds j v))) l (.list (vs.set j v)) := hl.updated (by simp)
  refine wpAny_bind (wpAny_setSeqItemAt ho hd ?_)
  first
    | exact wpAny_bind (wpAny_pure (wpAny_pure ⟨.none, rfl, wpAny_pure (hQ _ hfin (Heap.SameBut.update ..))⟩))
    | exact wpAny_pure ⟨.none, rfl, wpAny_pure (hQ _ hfin (Heap.SameBut.update ..))⟩
theorem s_setItem {a : Addr} {vs : List Value} {k : Int} {t : Tok} {v : Value} {Q : Unit → Shared → Prop} {Δ' : List (Addr × Ct)} (S : St g L ρ Δ h) (hm : (a, .list vs) ∈ Δ) (u : Up a (.list (vs.set k.toNat v)) Δ Δ') (h0 : 0 ≤ k) (hf : k < 2 ^ 63) (hk : k < vs.length)
    (q : ∀ h', St g L ρ Δ' h' → Q () (Z z h' tk)) : wpAny (MM w) A (setItem (.ref a) (.int k t) v) Q E (Z z h tk) :=
  setItem_plain (S.at hm) h0 hf hk fun h' hl hs => q h' (S.upd u hs hl)
theorem i_dec {p : Prop} [Decidable p] {X Y : Prop} (h1 : p → X) (h2 : ¬ p → Y) : if decide p = true then X else Y := by
  by_cases q : p
  · simpa [q] using h1 q
  · simpa [q] using h2 q
theorem i_ff {X Y : Prop} (h : Y) : if false = true then X else Y := by simpa using h
theorem i_tt {X Y : Prop} (h : X) : if true = true then X else Y := by simpa using h
theorem e_item {value slice : Expr} {a : Addr} {vs : List Value} {k : Int} {u : Tok} {v : Value} {Q : Value → Shared → Prop} (x : At s.heap a (.list vs)) (h0 : 0 ≤ k) (hhi : k < 2 ^ 63) (hx : vs[k.toNat]? = some v)
    (hs : subscripted slice false (.ref a) (.int k u) = operate [.ref a, .int k u] (getItem (.ref a) (.int k u))) (q : Q v s) :
    wpAny (MM w) A (subscriptTail value slice (.ref a) (.int k u)) Q E s :=
  tail_any x.isList.typeIs slot_list_getitem.lookup (wpAny_getItem_list x.isList h0 hhi (by simpa using hx) q) hs
theorem xs_while {σ : Type} {test : Expr} {body : List Stmt} {pos : Pos} (I : σ → Heap → Prop) (μ : σ → Nat) (c₀ : σ) (i₀ : I c₀ h)
    (turn : ∀ c h tk, I c h → wpAny (MM w) A (isTrue test env (eval test env)) (fun b s₂ => if b = true then wpAny (MM w) A (execs body env) (Turn z I μ c (wpAny (MM w) A (execs rest env) Q NoE) Q) NoE s₂ else wpAny (MM w) A (execs rest env) Q NoE s₂) NoE (Z z h tk)) :
    wpAny (MM w) A (execs (.While test body [] pos :: rest) env) Q NoE (Z z h tk) := by
  refine wpAny_execs_cons (wpAny_While (codeAny_whileLoop (fun n s' => ∃ c h₁ tk₁, μ c = n ∧ s' = Z z h₁ tk₁ ∧ I c h₁) ?_ (μ c₀) ⟨c₀, h, tk, rfl, rfl, i₀⟩))
  rintro n s' ⟨c, h₁, tk₁, hn, rfl, i₁⟩
  subst hn
  refine wpAny_mono (turn c h₁ tk₁ i₁) (fun b s₂ h₂ => ?_) fun _ _ x => x.elim
  cases b with
  | false =>
    simp only [Bool.false_eq_true, if_false] at h₂ ⊢
    exact wpAny_execs_nil h₂
  | true =>
    simp only [if_true] at h₂ ⊢
    refine wpAny_mono h₂ (fun f s₃ h₃ => ?_) fun _ _ x => x.elim
    cases f with
    | next =>
      obtain ⟨c', h', tk', rfl, hm, i'⟩ := h₃
      exact ⟨μ c', hm, c', h', tk', rfl, rfl, i'⟩
    | cont =>
      obtain ⟨c', h', tk', rfl, hm, i'⟩ := h₃
      exact ⟨μ c', hm, c', h', tk', rfl, rfl, i'⟩
    | brk => exact h₃
    | ret v => exact h₃
end

theorem nm_nil {ρ : List (Str × Value)} : ∀ x w, ([] : List (Str × Value)).lookup x = some w → ρ.lookup x = some w := fun _ _ e => nomatch e
theorem nm_cons {ρ ρ' : List (Str × Value)} {n : Str} {v : Value} (h : ρ.lookup n = some v) (r : ∀ x w, ρ'.lookup x = some w → ρ.lookup x = some w) : ∀ x w, ((n, v) :: ρ').lookup x = some w → ρ.lookup x = some w := fun x w e => by
  rw [List.lookup_cons] at e
  by_cases q : x = n
  · rw [show (x == n) = true from beq_iff_eq.mpr q] at e
    rw [q]; exact h.trans e
  · rw [show (x == n) = false from beq_eq_false_iff_ne.mpr q] at e
    exact r x w e
end
section
section
variable {w : World} {A : Around} {E : Value → Shared → Prop} {z : Shared} {g h : Heap} {tk : Nat} {L : Addr} {ρ : List (Str × Value)} {Δ : List (Addr × Ct)} {env : Env} {rest : List Stmt} {Q : Value → Shared → Prop} {s : Shared}
theorem Gd.inn (G : Gd w g) (S : St g L ρ Δ h) : (hd.heap_1 w.params).In h := G.X.keeps S.keep
theorem c_def {pos : Pos} {f : Value} {e : Expr} {rest : List Expr} (G : Gd w g) (hk : keepIn (hd.heap_1 w.params) f = true) (he : starEach (e :: rest) env = (false, eval e env) :: starEach rest env) (hp : (backTo pos (starEach rest env)).any (·.1) = false)
    (q : wpAny (MM w) A (spliced (backTo pos (starEach (e :: rest) env))) (fun vs s₁ => (hd.heap_1 w.params).In s₁.heap ∧ wpAny (MM w) A (call f vs) Q E s₁) E s) :
    wpAny (MM w) A (callWith pos f [] (backTo pos (starEach (e :: rest) env)) []) Q E s := callWith_K G.X hk q he hp
theorem c_def0 {pos : Pos} {f : Value} (X : (hd.heap_1 w.params).In s.heap) (hk : keepIn (hd.heap_1 w.params) f = true) (q : wpAny (MM w) A (call f []) Q E s) :
    wpAny (MM w) A (callWith pos f [] (backTo pos (starEach [] env)) []) Q E s := callWith_K0 X hk q
theorem c_in {X : Prop} (G : Gd w g) (S : St g L ρ Δ h) (q : X) : (hd.heap_1 w.params).In (Z z h tk).heap ∧ X := ⟨G.inn S, q⟩
theorem e_list {elts : List Expr} {pos : Pos} (q : wpAny (MM w) A (spliced (backTo pos (starEach elts env))) (fun vs s₁ => wpAny (MM w) A (newList vs) Q E s₁) E s) : wpAny (MM w) A (eval (.List elts pos) env) Q E s := by
  rw [arm_eval_List]
  exact wpAny_bind (wpAny_standAt (wpAny_bind q))
theorem e_tuple {elts : List Expr} {x1} {pos : Pos} (q : wpAny (MM w) A (spliced (backTo pos (starEach elts env))) (fun vs s₁ => wpAny (MM w) A (newTuple vs) Q E s₁) E s) : wpAny (MM w) A (eval (.Tuple elts x1 pos) env) Q E s := by
  rw [arm_eval_Tuple]
  exact wpAny_bind (wpAny_standAt (wpAny_bind q))
theorem get_size (h : Heap) : h.get? h.objs.size = none := by
  cases q : h.get? h.objs.size with
  | none => rfl
  | some o => exact absurd (Heap.lt_size q) (Nat.lt_irrefl _)
theorem s_newList {vs : List Value} (S : St g L ρ Δ h) (hz : vs.length ≤ sizeLine) (q : ∀ a h', h.get? a = none → Keep [] h h' → St g L ρ ((a, .list vs) :: Δ) h' → Q (.ref a) (Z z h' tk)) : wpAny (MM w) A (newList vs) Q E (Z z h tk) :=
  wpAny_newList (q _ _ (get_size h) (Keep.push _) (S.newAt (Keep.push _) (get_size h) (At.list (Heap.get?_push_size _ rfl)))) hz
theorem s_newTuple {vs : List Value} (S : St g L ρ Δ h) (hz : vs.length ≤ sizeLine) (q : ∀ a h', h.get? a = none → Keep [] h h' → St g L ρ ((a, .tup vs) :: Δ) h' → Q (.ref a) (Z z h' tk)) : wpAny (MM w) A (newTuple vs) Q E (Z z h tk) :=
  wpAny_newTuple (q _ _ (get_size h) (Keep.push _) (S.newAt (Keep.push _) (get_size h) ⟨_, Heap.get?_push_size _ rfl, 0, rfl⟩)) hz
theorem ex_append {elt : Expr} {a : Addr} {vs : List Value} (x : At s.heap a (.list vs)) (q : wpAny (MM w) A (eval elt env) (fun y s₂ => wpAny (MM w) A (call (.builtin "list.append") [.ref a, y]) Q E s₂) E s) :
    ∃ D its, Value.ref a = .ref D ∧ PlainL s.heap D its ∧ wpAny (MM w) A (eval elt env) (fun y s₂ => wpAny (MM w) A (call (.builtin "list.append") [.ref D, y]) Q E s₂) E s := ⟨a, _, rfl, x.plainL, q⟩
theorem append_plain {a : Addr} {vs : List Value} {y : Value} (x : At s.heap a (.list vs)) (hz : vs.length ≤ sizeLine) (q : ∀ h', At h' a (.list (vs ++ [y])) → Heap.SameBut a s.heap h' → Q .none { s with heap := h' }) :
    wpAny (MM w) A (call (.builtin "list.append") [.ref a, y]) Q E s := by
  obtain ⟨n, ho⟩ := x.get
  refine wpAny_call_entry slot_list_append x.isList.typeIs entry_list_append ?_ (args_list_append _ _)
  show wpAny _ _ (updateSeq a (·.push y) >>= fun _ => ret .none) _ _ s
  refine wpAny_bind ?_
  exact wpAny_updateSeq ho rfl (wpAny_pure ⟨.none, rfl, q _ (x.updated (by simp)) (Heap.SameBut.update ..)⟩) (by simpa using hz)
theorem s_append {a : Addr} {vs : List Value} {y : Value} {Δ' : List (Addr × Ct)} (S : St g L ρ Δ h) (hm : (a, .list vs) ∈ Δ) (u : Up a (.list (vs ++ [y])) Δ Δ') (hz : vs.length ≤ sizeLine)
    (q : ∀ h', St g L ρ Δ' h' → Q .none (Z z h' tk)) : wpAny (MM w) A (call (.builtin "list.append") [.ref a, y]) Q E (Z z h tk) :=
  append_plain (S.at hm) hz fun h' hl hs => q h' (S.upd u hs hl)
theorem l_len {a : Addr} {vs : List Value} (x : At h a (.list vs)) (hz : (vs.length : Int) < 2 ^ 63) (q : Q (.int vs.length (tk + 1)) (Z z h (tk + 2))) : wpAny (MM w) A (call (.builtin "len") [.ref a]) Q E (Z z h tk) :=
  len_list (s := Z z h tk) x.isList (by simpa using hz) (by simpa using q)
theorem l_truthy {a : Addr} {vs : List Value} {Q : Bool → Shared → Prop} (x : At h a (.list vs)) (hz : (vs.length : Int) < 2 ^ 63) (q : Q (!vs.isEmpty) (Z z h (tk + 2))) : wpAny (MM w) A (truthy (.ref a)) Q E (Z z h tk) :=
  wpAny_truthy_list (s := Z z h tk) x.isList (by simpa using hz) (by simpa using q)
theorem s_pop {a : Addr} {vs : List Value} {y : Value} {Δ' : List (Addr × Ct)} (S : St g L ρ Δ h) (hm : (a, .list (vs ++ [y])) ∈ Δ) (u : Up a (.list vs) Δ Δ') (hz : vs.length < sizeLine)
    (q : ∀ h', St g L ρ Δ' h' → Q y (Z z h' tk)) : wpAny (MM w) A (call (.builtin "list.pop") [.ref a]) Q E (Z z h tk) := by
  have x := S.at hm
  obtain ⟨n, ho⟩ := x.get
  refine call_meets (s := Z z h tk) F.slot_list_pop x.isList.typeIs F.entry_list_pop (F.args_list_pop_1 _) (MeetsSeq.list_pop_last a (vs ++ [y]).toArray n y (by simp) (by simp; omega)) ?_
  refine ⟨ho, ?_⟩
  refine q _ (S.upd u (Heap.SameBut.update ..) (x.updated ?_))
  have e : (vs ++ [y]).eraseIdx vs.length = vs := by rw [List.eraseIdx_append_of_length_le (Nat.le_refl _)]; simp
  simpa using e
theorem m_call0 {o : Expr} {name : Str} {apos pos : Pos} {T id : String} (pa : PlainAttrs T) (slot : Slot T name id) (hty : typeOf (.builtin id) = pure (.type "method_descriptor"))
    (hbase : attributeBase o name env (eval o env) = eval o env)
    (hfew : ((backTo pos (starEach [] env)).all (fun x => !x.1) && (backToKw pos (keywordEach [] env)).all (fun x => x.1.isSome)
      && decide (([] : List Expr).length + ([] : List Keyword).length + (if ([] : List Keyword).isEmpty then 0 else 1) < 30)) = true)
    (hline : (apos.endLine == pos.line) = true)
    (q : wpAny (MM w) A (eval o env) (fun ov s₁ => s₁.TypeIs ov T ∧ (∀ a, ov = .ref a → ∃ ob, s₁.heap.get? a = some ob ∧ ob.dict = none) ∧ wpAny (MM w) A (call (.builtin id) [ov]) Q E s₁) E s) :
    wpAny (MM w) A (eval (.Call (.Attribute o name apos) [] [] pos) env) Q E s :=
  wpAny_Call_method hbase hfew hline pa slot hty (wpAny_mono q (fun ov s₁ h => ⟨h.1, h.2.1, callWith_method0 h.2.2⟩) fun _ _ x => x)
theorem m_list {a : Addr} {vs : List Value} {X : Prop} (x : At s.heap a (.list vs)) (q : X) : s.TypeIs (.ref a) "list" ∧ (∀ b, Value.ref a = .ref b → ∃ ob, s.heap.get? b = some ob ∧ ob.dict = none) ∧ X :=
  ⟨x.isList.typeIs, fun b e => by cases e; obtain ⟨n, ho⟩ := x.get; exact ⟨_, ho, rfl⟩, q⟩
end
theorem bt_len : bootBuiltins (Str.ofString "len") = some (.builtin "len") := by decide +kernel
theorem bt_sum : bootBuiltins (Str.ofString "sum") = some (.builtin "sum") := by decide +kernel
theorem bt_sorted : bootBuiltins (Str.ofString "sorted") = some (.builtin "sorted") := by decide +kernel
theorem bt_range : bootBuiltins (Str.ofString "range") = some (.type "range") := by decide +kernel
theorem bt_bytes : bootBuiltins (Str.ofString "bytes") = some (.type "bytes") := by decide +kernel
theorem bt_bytearray : bootBuiltins (Str.ofString "bytearray") = some (.type "bytearray") := by decide +kernel
theorem bt_type : bootBuiltins (Str.ofString "type") = some (.type "type") := by decide +kernel
theorem bt_str : bootBuiltins (Str.ofString "str") = some (.type "str") := by decide +kernel
theorem bt_int : bootBuiltins (Str.ofString "int") = some (.type "int") := by decide +kernel
theorem bt_bool : bootBuiltins (Str.ofString "bool") = some (.type "bool") := by decide +kernel
theorem bt_VE : bootBuiltins (Str.ofString "ValueError") = some (.type "ValueError") := by decide +kernel
theorem bt_IE : bootBuiltins (Str.ofString "IndexError") = some (.type "IndexError") := by decide +kernel
section
variable {w : World} {A : Around} {E : Value → Shared → Prop} {z : Shared} {h : Heap} {tk : Nat} {env : Env} {Q : Value → Shared → Prop} {a b : Int} {t u : Tok}
theorem z_int {i : Int} {k pos} (q : Q (.int i tk) (Z z h (tk + 1))) : wpAny (MM w) A (eval (.Constant (.int i) k pos) env) Q E (Z z h tk) := wpAny_Constant_int q
theorem z_str {x : Str} {k pos} (q : Q (.str x tk) (Z z h (tk + 1))) : wpAny (MM w) A (eval (.Constant (.str x) k pos) env) Q E (Z z h tk) := wpAny_Constant_str q
theorem z_bytes {b : List UInt8} {k pos} (q : Q (.bytes b.toArray tk) (Z z h (tk + 1))) : wpAny (MM w) A (eval (.Constant (.bytes b) k pos) env) Q E (Z z h tk) := fun _ _ _ => q
theorem z_none {k pos} (q : Q .none (Z z h tk)) : wpAny (MM w) A (eval (.Constant .none k pos) env) Q E (Z z h tk) := fun _ _ _ => q
theorem z_bool {b : Bool} {k pos} (q : Q (.bool b) (Z z h tk)) : wpAny (MM w) A (eval (.Constant (.bool b) k pos) env) Q E (Z z h tk) := fun _ _ _ => q
theorem z_add (q : Q (.int (a + b) tk) (Z z h (tk + 1))) : wpAny (MM w) A (binaryOp .Add (.int a t) (.int b u)) Q E (Z z h tk) := add_int q
theorem z_sub (q : Q (.int (a - b) tk) (Z z h (tk + 1))) : wpAny (MM w) A (binaryOp .Sub (.int a t) (.int b u)) Q E (Z z h tk) := sub_int q
theorem z_mul (hm : IntMulOk a b) (q : Q (.int (a * b) tk) (Z z h (tk + 1))) : wpAny (MM w) A (binaryOp .Mult (.int a t) (.int b u)) Q E (Z z h tk) := mul_int q hm
theorem z_shr1 (h0 : 0 ≤ a) (q : Q (.int (a / 2) tk) (Z z h (tk + 1))) : wpAny (MM w) A (binaryOp .RShift (.int a t) (.int 1 u)) Q E (Z z h tk) := wpAny_rshift1_int h0 q
end
end
local macro_rules | `(tactic| wtm_at "rf") => `(tactic| with_unfolding_all rfl)
local macro_rules | `(tactic| wtm_at "nm") => `(tactic| first | exact nm_nil | (refine nm_cons (by with_unfolding_all rfl) ?_; wtm_at "nm"))
local macro_rules | `(tactic| wtm_at "mem") => `(tactic| first | exact List.mem_cons_self | (refine List.mem_cons_of_mem _ ?_; wtm_at "mem"))
local macro_rules | `(tactic| wtm_at "up") => `(tactic| first | exact Up.head | (apply Up.tail; wtm_at "up"))
local macro_rules | `(tactic| wtm_at "at") => `(tactic| first | exact St.at (by assumption) (by wtm_at "mem") | exact St.old (by assumption) (by assumption) | assumption)
local macro_rules | `(tactic| wtm_at "enter") => `(tactic| (
  (case ho => k_is); (case hcd => k_is); (case hb => exact BindsTo.of_eq rfl); (case hr => wtm_at "nm"); (case hlc => exact locs rfl); (case c1 => rfl); (case c2 => rfl); (case c3 => rfl); (case c4 => decide)))
local macro_rules | `(tactic| wtm_at "boot") => `(tactic| first | exact bt_len | exact bt_sum | exact bt_sorted | exact bt_range | exact bt_bytes | exact bt_bytearray | exact bt_type | exact bt_str | exact bt_int | exact bt_bool | exact bt_VE | exact bt_IE)
local macro_rules | `(tactic| wtm_at "small") => `(tactic| first | decide | omega | (simp [sizeLine]; done) | (simp [sizeLine]; omega))
section
noncomputable def liP (l : Addr) (i : Nat) (o : Obj) : Prop := o.cls = .type "list_iterator" ∧ o.data = .fields #[.ref l, .int i 0]
noncomputable def biP (b : Array UInt8) (t : Tok) (i : Nat) (o : Obj) : Prop := o.cls = .type "bytes_iterator" ∧ o.data = .fields #[.bytes b t, .int i 0]
noncomputable def riP (a : Int) (n i : Nat) (o : Obj) : Prop := o = { cls := .type "range_iterator", data := .fields #[rawInt (a + i), rawInt ((n : Int) - i), rawInt 1] }
/-- behind a for's turn -/
noncomputable def TurnF (z : Shared) (I : Nat → Heap → Prop) (i : Nat) (after : Shared → Prop) (Q : Flow → Shared → Prop) (f : Flow) (s : Shared) : Prop :=
  match f with
  | .brk => after s
  | .ret v => Q (.ret v) s
  | _ => ∃ h' tk', s = Z z h' tk' ∧ I (i + 1) h'
noncomputable def ForAt (w : World) (A : Around) (env : Env) (target : Expr) (body rest : List Stmt) (Q : Flow → Shared → Prop) (it : Value) (s : Shared) : Prop :=
  codeAny (MM w) A (.forLoop target it body [] env) (fun r s' => match r with | .ok .next => wpAny (MM w) A (execs rest env) Q NoE s' | .ok f => Q f s' | .error e => False) s
section
variable {w : World} {A : Around} {E : Value → Shared → Prop} {z : Shared} {g h : Heap} {tk : Nat} {L : Addr} {ρ : List (Str × Value)} {Δ : List (Addr × Ct)} {env : Env} {rest body : List Stmt} {s : Shared}
theorem xs_for {target iter : Expr} {pos : Pos} {Q : Flow → Shared → Prop} (hs : ∀ x, foldedSetIterable iter env x = pure x)
    (q : wpAny (MM w) A (eval iter env) (fun x s₁ => wpAny (MM w) A (pyIter x) (fun it s₂ => ForAt w A env target body rest Q it s₂) NoE s₁) NoE s) :
    wpAny (MM w) A (execs (.For target iter body [] pos :: rest) env) Q NoE s := by
  refine wpAny_execs_cons (wpAny_For (wpAny_mono q (fun x s₁ h₁ => wpAny_mono h₁ (fun it s₂ h₂ => codeAny_mono h₂ fun r s' h' => ?_) fun _ _ x => x) fun _ _ x => x) hs)
  cases r with
  | error e => exact h'.elim
  | ok f => cases f <;> exact h'
theorem turnf_next {I : Nat → Heap → Prop} {i : Nat} {after : Shared → Prop} {Q : Flow → Shared → Prop} (x : I (i + 1) h) : TurnF z I i after Q .next (Z z h tk) := ⟨h, tk, rfl, x⟩
theorem turnf_cont {I : Nat → Heap → Prop} {i : Nat} {after : Shared → Prop} {Q : Flow → Shared → Prop} (x : I (i + 1) h) : TurnF z I i after Q .cont (Z z h tk) := ⟨h, tk, rfl, x⟩
theorem for_at {target : Expr} {Q : Flow → Shared → Prop} {it : Value} (n : Nat) (I : Nat → Heap → Prop) (i₀ : I 0 h)
    (turn : ∀ i h tk, i < n → I i h → wpAny (MM w) A (pyNext it) (fun r s₁ => ∃ v, r = some v ∧ wpAny (MM w) A (letOwnedTupleGo target it v) (fun _ s₁' => wpAny (MM w) A (assign target env v)
      (fun _ s₂ => wpAny (MM w) A (execs body env) (TurnF z I i (wpAny (MM w) A (execs rest env) Q NoE) Q) NoE s₂) NoE s₁') NoE s₁) NoE (Z z h tk))
    (fin : ∀ h tk, I n h → wpAny (MM w) A (pyNext it) (fun r s₁ => r = none ∧ wpAny (MM w) A (execs rest env) Q NoE s₁) NoE (Z z h tk)) :
    ForAt w A env target body rest Q it (Z z h tk) := by
  refine codeAny_forLoop_any (fun k s' => ∃ i h₁ tk₁, i ≤ n ∧ n - i = k ∧ s' = Z z h₁ tk₁ ∧ I i h₁) ?_ n ⟨0, h, tk, by omega, by omega, rfl, i₀⟩
  rintro k s' ⟨i, h₁, tk₁, hin, hk, rfl, i₁⟩
  by_cases hlt : i < n
  · refine wpAny_mono (turn i h₁ tk₁ hlt i₁) (fun r s₁ h₂ => ?_) fun _ _ x => x.elim
    obtain ⟨v, rfl, h₂⟩ := h₂
    refine wpAny_mono h₂ (fun _ s₁' h₂' => wpAny_mono h₂' (fun _ s₂ h₃ => wpAny_mono h₃ (fun f s₃ h₄ => ?_) fun _ _ x => x.elim) fun _ _ x => x.elim) fun _ _ x => x.elim
    cases f with
    | next => obtain ⟨h', tk', rfl, j⟩ := h₄; exact ⟨n - (i + 1), by omega, i + 1, h', tk', by omega, rfl, rfl, j⟩
    | cont => obtain ⟨h', tk', rfl, j⟩ := h₄; exact ⟨n - (i + 1), by omega, i + 1, h', tk', by omega, rfl, rfl, j⟩
    | brk => exact h₄
    | ret v => exact h₄
  · have e : i = n := by omega
    subst e
    refine wpAny_mono (fin h₁ tk₁ i₁) (fun r s₁ h₂ => ?_) fun _ _ x => x.elim
    obtain ⟨rfl, h₂⟩ := h₂
    exact wpAny_execs_nil h₂
theorem lo_name {x : Str} {p : Pos} {it v : Value} {Q : Unit → Shared → Prop} (q : Q () s) : wpAny (MM w) A (letOwnedTupleGo (.Name x p) it v) Q E s := wpAny_pure q
theorem lo_tup {elts : List Expr} {x1} {pos : Pos} {it l T : Addr} {i : Nat} {Q : Unit → Shared → Prop} (S : St g L ρ ((it, .pr (liP l i)) :: Δ) h) (q : Q () (Z z h tk)) : wpAny (MM w) A (letOwnedTupleGo (.Tuple elts x1 pos) (.ref it) (.ref T)) Q E (Z z h tk) :=
  wpAny_letOwnedTupleGo_listiter (l := l) (i := i) (S.at (.head _)) q
theorem as_name {x : Str} {pos : Pos} {v : Value} {Q : Unit → Shared → Prop} (q : wpAny (MM w) A (storeName env x v) Q E s) : wpAny (MM w) A (assign (.Name x pos) env v) Q E s := by
  show wpAny _ _ (do standAt pos; bindName env x v) Q E s
  exact wpAny_bind (wpAny_standAt (wpAny_bindName q))
theorem it_list {l : Addr} {vs : List Value} {Q : Value → Shared → Prop} (S : St g L ρ Δ h) (hl : At h l (.list vs)) (q : ∀ it h', h.get? it = none → Keep [] h h' → St g L ρ ((it, .pr (liP l 0)) :: Δ) h' → Q (.ref it) (Z z h' tk)) :
    wpAny (MM w) A (pyIter (.ref l)) Q E (Z z h tk) :=
  wpAny_pyIter_list (s := Z z h tk) hl.isList (q _ _ (get_size h) (Keep.push _) (S.newAt (Keep.push _) (get_size h) ⟨_, Heap.get?_push_size _ rfl, rfl, rfl⟩))
theorem nx_list {it l : Addr} {vs : List Value} {i : Nat} {v : Value} {Q : Option Value → Shared → Prop} (S : St g L ρ ((it, .pr (liP l i)) :: Δ) h) (hl : At h l (.list vs)) (hx : vs[i]? = some v)
    (q : ∀ h', St g L ρ ((it, .pr (liP l (i + 1))) :: Δ) h' → Q (some v) (Z z h' tk)) : wpAny (MM w) A (pyNext (.ref it)) Q E (Z z h tk) :=
  wpAny_pyNext_list_item (s := Z z h tk) (S.at (.head _)) hl.isList (by simpa using hx) fun h' hi hs => q h' (S.upd Up.head hs hi)
theorem nx_list_end {it l : Addr} {vs : List Value} {i : Nat} {Q : Option Value → Shared → Prop} (hh : A.handled = none) (S : St g L ρ ((it, .pr (liP l i)) :: Δ) h) (hl : At h l (.list vs)) (hx : vs.length ≤ i)
    (q : ∀ h', St g L ρ Δ h' → Q none (Z z h' tk)) : wpAny (MM w) A (pyNext (.ref it)) Q E (Z z h tk) :=
  wpAny_pyNext_list_end (s := Z z h tk) hh (S.at (.head _)) hl.isList (by simpa using hx) fun h' hs => q h' (S.letGo hs)
theorem it_bytes {b : Array UInt8} {t : Tok} {Q : Value → Shared → Prop} (S : St g L ρ Δ h) (q : ∀ it h', h.get? it = none → Keep [] h h' → St g L ρ ((it, .pr (biP b t 0)) :: Δ) h' → Q (.ref it) (Z z h' tk)) :
    wpAny (MM w) A (pyIter (.bytes b t)) Q E (Z z h tk) :=
  KBw.pyIter_bytes (s := Z z h tk) (q _ _ (get_size h) (Keep.push _) (S.newAt (Keep.push _) (get_size h) ⟨_, Heap.get?_push_size _ rfl, rfl, rfl⟩))
theorem nx_bytes {it : Addr} {b : Array UInt8} {t : Tok} {i : Nat} {c : UInt8} {Q : Option Value → Shared → Prop} (S : St g L ρ ((it, .pr (biP b t i)) :: Δ) h) (hx : b[i]? = some c)
    (q : ∀ h', St g L ρ ((it, .pr (biP b t (i + 1))) :: Δ) h' → Q (some (.int c.toNat tk)) (Z z h' (tk + 1))) : wpAny (MM w) A (pyNext (.ref it)) Q E (Z z h tk) :=
  KBw.next_item (s := Z z h tk) (S.at (.head _)) hx fun h' hi hs => q h' (S.upd Up.head hs hi)
theorem nx_bytes_end {it : Addr} {b : Array UInt8} {t : Tok} {i : Nat} {Q : Option Value → Shared → Prop} (hh : A.handled = none) (S : St g L ρ ((it, .pr (biP b t i)) :: Δ) h) (hx : b.size ≤ i)
    (q : ∀ h', St g L ρ Δ h' → Q none (Z z h' tk)) : wpAny (MM w) A (pyNext (.ref it)) Q E (Z z h tk) :=
  KBw.next_end (s := Z z h tk) hh (S.at (.head _)) (by simpa using hx) fun h' hs => q h' (S.letGo hs)
theorem nx_range {it : Addr} {a : Int} {n i : Nat} {Q : Option Value → Shared → Prop} (S : St g L ρ ((it, .pr (riP a n i)) :: Δ) h) (hx : i < n)
    (q : ∀ h', St g L ρ ((it, .pr (riP a n (i + 1))) :: Δ) h' → Q (some (.int (a + i) tk)) (Z z h' (tk + 1))) : wpAny (MM w) A (pyNext (.ref it)) Q E (Z z h tk) := by
  obtain ⟨o, ho, rfl⟩ := S.at (.head _)
  refine wpAny_pyNext_range_item (s := Z z h tk) (x := a + i) (left := (n : Int) - i) (step := 1) ho (by omega) fun h' hi hs => q h' (S.upd Up.head hs ⟨_, hi, ?_⟩)
  show _ = _
  rw [show a + (i : Int) + 1 = a + ((i + 1 : Nat) : Int) from by omega, show (n : Int) - i - 1 = (n : Int) - ((i + 1 : Nat) : Int) from by omega]
theorem nx_range_end {it : Addr} {a : Int} {n i : Nat} {Q : Option Value → Shared → Prop} (hh : A.handled = none) (S : St g L ρ ((it, .pr (riP a n i)) :: Δ) h) (hx : n ≤ i)
    (q : ∀ h', St g L ρ Δ h' → Q none (Z z h' tk)) : wpAny (MM w) A (pyNext (.ref it)) Q E (Z z h tk) := by
  obtain ⟨o, ho, rfl⟩ := S.at (.head _)
  exact wpAny_pyNext_range_end (s := Z z h tk) (x := a + i) (left := (n : Int) - i) (step := 1) hh ho (by omega) fun h' hs => q h' (S.letGo hs)
end
end
section
section
variable {w : World} {A : Around} {E : Value → Shared → Prop} {z : Shared} {h : Heap} {tk : Nat} {env : Env} {Q : Value → Shared → Prop} {a b : Int} {t u : Tok} {s : Shared}
theorem z_shl (hn : 0 ≤ b) (hn2 : b ≤ 1000000) (ha : a.natAbs < 2 ^ 64) (q : Q (.int (a * 2 ^ b.toNat) tk) (Z z h (tk + 1))) : wpAny (MM w) A (binaryOp .LShift (.int a t) (.int b u)) Q E (Z z h tk) := lshift_int_small hn hn2 ha q
theorem z_or (q : Q (.int (Builtin.bitOr a b) tk) (Z z h (tk + 1))) : wpAny (MM w) A (binaryOp .BitOr (.int a t) (.int b u)) Q E (Z z h tk) := or_int q
theorem z_and (q : Q (.int (Builtin.bitAnd a b) tk) (Z z h (tk + 1))) : wpAny (MM w) A (binaryOp .BitAnd (.int a t) (.int b u)) Q E (Z z h tk) := and_int q
theorem z_shr (h0 : 0 ≤ a) (hb : 0 ≤ b) (q : Q (.int (a / 2 ^ b.toNat) tk) (Z z h (tk + 1))) : wpAny (MM w) A (binaryOp .RShift (.int a t) (.int b u)) Q E (Z z h tk) := by
  by_cases c : b ≥ ((Builtin.Int.intBits a : Nat) : Int)
  · refine AutoIntOps.rshift_1 (by omega) c ?_
    have e : (if a < 0 then (-1 : Int) else 0) = a / 2 ^ b.toNat := by
      rw [if_neg (by omega)]
      have h1 : a.natAbs < 2 ^ b.toNat := intBits_le_iff.mp (by omega)
      have h2 : a < 2 ^ b.toNat := by
        have : ((2 ^ b.toNat : Nat) : Int) = (2 : Int) ^ b.toNat := by push_cast; rfl
        omega
      exact (Int.ediv_eq_zero_of_lt h0 h2).symm
    rw [e]
    exact q
  · refine AutoIntOps.rshift_2 (by omega) c ?_
    rw [Int.fdiv_eq_ediv_of_nonneg _ (Int.le_of_lt (Int.pow_pos (by decide)))]
    exact q
theorem z_fdiv (hb : 0 < b) (hb2 : b < 1000000000) (q : Q (.int (a / b) tk) (Z z h (tk + 1))) : wpAny (MM w) A (binaryOp .FloorDiv (.int a t) (.int b u)) Q E (Z z h tk) :=
  floordiv_int (by omega) (by rw [Int.fdiv_eq_ediv_of_nonneg _ (by omega)]; exact q) (.inl (PyProof.noPylong_small (by omega)))
theorem z_fmod (hb : 0 < b) (q : Q (.int (a % b) tk) (Z z h (tk + 1))) : wpAny (MM w) A (binaryOp .Mod (.int a t) (.int b u)) Q E (Z z h tk) :=
  PyProof.Rows.mod_int (by omega) (by rw [Int.fmod_eq_emod_of_nonneg _ (by omega)]; exact q)
theorem z_is {x y : Value} {r : Bool} (hp : plainIs x y = true) (e : (x == y) = r) (q : Q (.bool r) s) : wpAny (MM w) A (compareOp .Is x y) Q E s := wpAny_is_plain hp (e ▸ q)
theorem z_is_tt {x y : Value} (hp : plainIs x y = true) (e : (x == y) = true) (q : Q (.bool true) s) : wpAny (MM w) A (compareOp .Is x y) Q E s := z_is hp e q
theorem z_is_ff {x y : Value} (hp : plainIs x y = true) (e : (x == y) = false) (q : Q (.bool false) s) : wpAny (MM w) A (compareOp .Is x y) Q E s := z_is hp e q
theorem z_isnot_tt {x y : Value} (hp : plainIs x y = true) (e : (x == y) = false) (q : Q (.bool true) s) : wpAny (MM w) A (compareOp .IsNot x y) Q E s := wpAny_isNot_plain hp (by rw [e]; exact q)
theorem z_isnot_ff {x y : Value} (hp : plainIs x y = true) (e : (x == y) = true) (q : Q (.bool false) s) : wpAny (MM w) A (compareOp .IsNot x y) Q E s := wpAny_isNot_plain hp (by rw [e]; exact q)
theorem z_isnot {x y : Value} {r : Bool} (hp : plainIs x y = true) (e : (!(x == y)) = r) (q : Q (.bool r) s) : wpAny (MM w) A (compareOp .IsNot x y) Q E s := wpAny_isNot_plain hp (e ▸ q)
theorem z_type {x : Value} {T : String} (hx : s.TypeIs x T) (hnb : (Value.type T == Value.type "builtin_function_or_method") = false) (q : Q (.type T) s) : wpAny (MM w) A (call (.type "type") [x]) Q E s := call_type_of hx hnb q
theorem z_type_bytes {b : Array UInt8} {t : Tok} (q : Q (.type "bytes") s) : wpAny (MM w) A (call (.type "type") [.bytes b t]) Q E s := call_type_of (typeIs_bytes s b t) (by decide) q
theorem z_type_int {i : Int} {t : Tok} (q : Q (.type "int") s) : wpAny (MM w) A (call (.type "type") [.int i t]) Q E s := call_type_of (typeIs_int s i t) (by decide) q
theorem z_type_bool {b : Bool} (q : Q (.type "bool") s) : wpAny (MM w) A (call (.type "type") [.bool b]) Q E s := call_type_of (Tx := "bool") (by show typeOf _ = _; rfl) (by decide) q
theorem z_eqi (q : Q (.bool (decide (a = b))) s) : wpAny (MM w) A (compareOp .Eq (.int a t) (.int b u)) Q E s := PyProof.Rows.eq_int (by
  have e : (a == b) = decide (a = b) := by by_cases h : a = b <;> simp [h]
  rw [e]; exact q)
theorem z_bitem {l : List UInt8} {value slice : Expr} (hz : l.length ≤ 1000000) (h0 : 0 ≤ a) (h1 : a < l.length) (hs : subscripted slice false (.bytes l.toArray t) (.int a u) = operate [.bytes l.toArray t, .int a u] (getItem (.bytes l.toArray t) (.int a u)))
    (q : Q (.int (l.getD a.toNat 0).toNat tk) (Z z h (tk + 1))) : wpAny (MM w) A (subscriptTail value slice (.bytes l.toArray t) (.int a u)) Q E (Z z h tk) :=
  tail_any (typeIs_bytes (Z z h tk) _ t) FB.slot_bytes_getitem.lookup (getItem_bytes (by omega) h0 h1 q) hs
end
theorem bitOr_nn {x y : Int} (hx : 0 ≤ x) (hy : 0 ≤ y) : Builtin.bitOr x y = ((x.toNat ||| y.toNat : Nat) : Int) := by
  unfold Builtin.bitOr
  have e1 : ¬ (0 ≤ Builtin.bitNot x) := by rw [kbt_not]; omega
  have e2 : ¬ (0 ≤ Builtin.bitNot y) := by rw [kbt_not]; omega
  have e3 : Builtin.bitNot (Builtin.bitNot x) = x := by rw [kbt_not, kbt_not]; omega
  have e4 : Builtin.bitNot (Builtin.bitNot y) = y := by rw [kbt_not, kbt_not]; omega
  unfold Builtin.bitAnd
  rw [decide_eq_false e1, decide_eq_false e2]
  show Builtin.bitNot (Builtin.bitNot _) = _
  rw [e3, e4, kbt_not, kbt_not]
  omega
theorem bitOr_low {x b : Nat} (hb : b < 256) : Builtin.bitOr ((x : Int) * 2 ^ (8 : Int).toNat) (b : Int) = ((x * 256 + b : Nat) : Int) := by
  rw [bitOr_nn (by show 0 ≤ (x : Int) * 2 ^ 8; omega) (by omega)]
  congr 1
  have e : ((x : Int) * 2 ^ (8 : Int).toNat).toNat = x <<< 8 := by
    rw [Nat.shiftLeft_eq]
    show ((x : Int) * 256).toNat = x * 256
    omega
  rw [e, Int.toNat_natCast, ← Nat.shiftLeft_add_eq_or_of_lt (by omega), Nat.shiftLeft_eq]
theorem ints_snoc {vs : List Value} {ns : List Int} {n : Int} {t : Tok} (h : IntsAre vs ns) : IntsAre (vs ++ [.int n t]) (ns ++ [n]) := by
  induction h with
  | nil => exact .cons _ _ .nil
  | cons k t _ ih => exact .cons k t ih
section
variable {w : World} {A : Around} {E : Value → Shared → Prop} {z : Shared} {g h : Heap} {tk : Nat} {L : Addr} {ρ : List (Str × Value)} {Δ : List (Addr × Ct)} {env : Env} {Q : Value → Shared → Prop} {s : Shared}
theorem s_bytes {l : Addr} {vs : List Value} {ns : List Int} (hh : A.handled = none) (S : St g L ρ Δ h) (hl : At h l (.list vs)) (hi : IntsAre vs ns) (hr : ∀ n ∈ ns, 0 ≤ n ∧ n < 256) (hz : vs.length ≤ sizeLine)
    (q : ∀ h' t k, St g L ρ Δ h' → Q (.bytes (byteArr ns) t) (Z z h' k)) : wpAny (MM w) A (call (.type "bytes") [.ref l]) Q E (Z z h tk) :=
  call_bytes_ints (s := Z z h tk) hl.isList hi hr hz hh fun h' t k hk => q h' t k (S.keepAll fun a o e _ => hk a o e)
end
end
section

structure Itm where
  a : Addr
  r : Int
  s : Int
  b : Array UInt8
noncomputable abbrev Itm.v (i : Itm) : Value := .ref i.a
noncomputable def ItAt (h : Heap) (i : Itm) : Prop := ∃ t t' t'', At h i.a (.list [.int i.r t, .int i.s t', .bytes i.b t''])
noncomputable abbrev Itm.lt (i j : Itm) : Prop := i.r < j.r ∨ (i.r = j.r ∧ i.s < j.s)
noncomputable def sdF : Nat → Itm → List Itm → Nat → List Itm
  | 0, x, its, pos => its.set pos x
  | n + 1, x, its, pos => if pos = 0 then its.set pos x else match its[(pos - 1) / 2]? with
    | some p => if x.lt p then sdF n x (its.set pos p) ((pos - 1) / 2) else its.set pos x
    | none => its.set pos x
theorem half_lt {pos n : Nat} (h0 : ¬ pos = 0) (h : pos ≤ n + 1) : (pos - 1) / 2 ≤ n := Nat.le_trans (Nat.div_le_self _ _) (Nat.sub_le_of_le_add h)
theorem sdF_more (x : Itm) : ∀ (n m : Nat) (its : List Itm) (pos : Nat), pos ≤ n → pos ≤ m → sdF n x its pos = sdF m x its pos
  | 0, 0, _, _, _, _ => rfl
  | 0, m + 1, its, pos, h, _ => by rw [sdF, sdF, if_pos (Nat.le_zero.mp h)]
  | n + 1, 0, its, pos, _, h => by rw [sdF, sdF, if_pos (Nat.le_zero.mp h)]
  | n + 1, m + 1, its, pos, h, h' => by
    rw [sdF, sdF]
    by_cases c : pos = 0
    · rw [if_pos c, if_pos c]
    · rw [if_neg c, if_neg c]
      cases its[(pos - 1) / 2]? with
      | none => rfl
      | some p =>
        dsimp only
        by_cases l : x.lt p
        · rw [if_pos l, if_pos l]; exact sdF_more x n m _ _ (half_lt c h) (half_lt c h')
        · rw [if_neg l, if_neg l]
noncomputable def sd (x : Itm) (its : List Itm) (pos : Nat) : List Itm := sdF pos x its pos
theorem map_at {its : List Itm} {k : Nat} {y : Itm} (h : its[k]? = some y) : (its.map Itm.v)[((k : Nat) : Int).toNat]? = some y.v := by rw [Int.toNat_natCast, List.getElem?_map, h]; rfl
theorem sd_zero {x : Itm} {its : List Itm} : sd x its 0 = its.set 0 x := rfl
theorem sd_lt {x p : Itm} {its : List Itm} {pos : Nat} (h0 : 0 < pos) (hp : its[(pos - 1) / 2]? = some p) (hl : x.lt p) : sd x its pos = sd x (its.set pos p) ((pos - 1) / 2) := by
  cases pos with
  | zero => exact absurd h0 (Nat.lt_irrefl 0)
  | succ n =>
    unfold sd
    rw [sdF, if_neg (Nat.succ_ne_zero n), hp]
    dsimp only
    rw [if_pos hl]
    exact sdF_more x _ _ _ _ (half_lt (Nat.succ_ne_zero n) (Nat.le_refl _)) (Nat.le_refl _)
theorem sd_ge {x p : Itm} {its : List Itm} {pos : Nat} (h0 : 0 < pos) (hp : its[(pos - 1) / 2]? = some p) (hl : ¬ x.lt p) : sd x its pos = its.set pos x := by
  cases pos with
  | zero => exact absurd h0 (Nat.lt_irrefl 0)
  | succ n =>
    unfold sd
    rw [sdF, if_neg (Nat.succ_ne_zero n), hp]
    exact if_neg hl
theorem ItAt.ne {h : Heap} {i : Itm} {hp : Addr} {its : List Itm} (x : ItAt h i) (hl : At h hp (.list (its.map Itm.v))) (hn : 0 < its.length) : i.a ≠ hp := by
  rintro rfl
  obtain ⟨t, t', t'', hx⟩ := x
  obtain ⟨n, ho⟩ := hx.get
  obtain ⟨n', ho'⟩ := hl.get
  rw [ho] at ho'
  cases its with
  | nil => simp at hn
  | cons y r => simp [Itm.v, lo] at ho'

set_option maxRecDepth 100000 in
set_option maxHeartbeats 4000000 in
theorem siftdown_c {w : World} {A : Around} {E : Value → Shared → Prop} {z : Shared} {g₀ h : Heap} {tk : Nat} {Q : Value → Shared → Prop} {hp : Addr} {its : List Itm} {pos : Nat} {x : Itm} {t0 t1 : Tok}
    (r : Rm A 2) (G : Gd w g₀) (k₀ : ∀ b o, g₀.get? b = some o → h.get? b = some o) (hg : g₀.get? hp = none) (hl : At h hp (.list (its.map Itm.v))) (hi : ∀ i ∈ its, ItAt h i)
    (hx : its[pos]? = some x) (hd : ∀ i y, its[i]? = some y → i ≠ pos → y.s ≠ x.s) (hz : its.length < 1000)
    (q : ∀ h' tk', Keep [hp] h h' → At h' hp (.list ((sd x its pos).map Itm.v)) → Q .none (Z z h' tk')) :
    wpAny (MM w) A (call (.ref 93) [.ref hp, .int 0 t0, .int pos t1]) Q E (Z z h tk) := by
  have hpl : pos < its.length := (List.getElem?_eq_some_iff.mp hx).1
  refine' enter [(hp, .list (its.map Itm.v))] [("heap", .ref hp), ("startpos", .int 0 t0), ("pos", .int pos t1)] r G k₀ ?hM ?nd ?ho ?hcd ?hb ?hr ?hlc ?c1 ?c2 ?c3 ?c4 ?body
  case hM => intro p hp; rw [List.mem_singleton.mp hp]; exact ⟨hl, hg⟩
  case nd => simp
  wtm_at "enter"
  case body =>
    intro A' g L h₁ tk₁ r' G' kg gk S
    have hig : ∀ i ∈ its, ItAt g i := fun i him => by
      have hne := (hi i him).ne hl (by omega)
      obtain ⟨t, t', t'', hA⟩ := hi i him
      exact ⟨t, t', t'', hA.keeps fun o e => kg _ o e (by simpa using hne)⟩
    with_reducible refine xs_assign (by with_unfolding_all rfl) ?_
    with_reducible refine Subscript_ ?_
    with_reducible refine e_local (by assumption) (by with_unfolding_all rfl) (by with_unfolding_all rfl) (by with_unfolding_all rfl) (by with_unfolding_all rfl) (by decide) ?_
    with_reducible refine e_local (by assumption) (by with_unfolding_all rfl) (by with_unfolding_all rfl) (by with_unfolding_all rfl) (by with_unfolding_all rfl) (by decide) ?_
    refine e_item (by wtm_at "at") (by omega) (by omega) (v := x.v) (map_at hx) (by wtm_at "rf") ?_
    ((rename St _ _ _ _ _ => S0); (with_reducible refine s_store S0 (by with_unfolding_all rfl) (by with_unfolding_all rfl) (by with_unfolding_all rfl) ?_); (intro _ _; clear S0))
    have hxa : ItAt g x := hig x (List.mem_of_getElem? hx)
    clear hl hi k₀ G
    rename St _ _ _ _ _ => S
    refine xs_while (σ := List Itm × Nat) (fun c h => c.2 < c.1.length ∧ c.1.length = its.length ∧ (∀ i y, c.1[i]? = some y → i ≠ c.2 → y.s ≠ x.s) ∧ (∀ y ∈ c.1, ItAt g y) ∧ sd x c.1 c.2 = sd x its pos ∧
      ∃ t, St g L [("heap", .ref hp), ("startpos", .int 0 t0), ("pos", .int c.2 t), ("newitem", x.v)] [(hp, .list (c.1.map Itm.v))] h) (fun c => c.2) (its, pos) ⟨hpl, rfl, hd, hig, rfl, _, S.names (by wtm_at "nm")⟩ ?_
    clear S hd hig hpl hx
    rintro ⟨ys, p⟩ h₂ tk₂ ⟨hp2, hlen, hd, hig, hsd, tp, S⟩
    dsimp only at *
    with_reducible refine wpAny_isTrue_Compare1 ?_ (by with_unfolding_all rfl)
    with_reducible refine e_local (by assumption) (by with_unfolding_all rfl) (by with_unfolding_all rfl) (by with_unfolding_all rfl) (by with_unfolding_all rfl) (by decide) ?_
    with_reducible refine e_local (by assumption) (by with_unfolding_all rfl) (by with_unfolding_all rfl) (by with_unfolding_all rfl) (by with_unfolding_all rfl) (by decide) ?_
    with_reducible refine gt_int ?_
    with_reducible refine wpAny_truthy_bool ?_
    refine i_dec (fun hpos => ?_) (fun hpos => ?_)
    · obtain ⟨y, hy⟩ : ∃ y, ys[(p - 1) / 2]? = some y := ⟨ys[(p - 1) / 2]'(by omega), by simp⟩
      have hpar : ((p : Int) - 1) / 2 = (((p - 1) / 2 : Nat) : Int) := by omega
      have hym : y ∈ ys := List.mem_of_getElem? hy
      have hyx := hd _ _ hy (by omega)
      with_reducible refine xs_assign (by with_unfolding_all rfl) ?_
      with_reducible refine wpAny_BinOp ?_
      with_reducible refine wpAny_BinOp ?_
      with_reducible refine e_local (by assumption) (by with_unfolding_all rfl) (by with_unfolding_all rfl) (by with_unfolding_all rfl) (by with_unfolding_all rfl) (by decide) ?_
      with_reducible refine z_int ?_
      with_reducible refine z_sub ?_
      with_reducible refine z_int ?_
      with_reducible refine z_shr1 (by omega) ?_
      ((rename St _ _ _ _ _ => S0); (with_reducible refine s_store S0 (by with_unfolding_all rfl) (by with_unfolding_all rfl) (by with_unfolding_all rfl) ?_); (intro _ _; clear S0))
      with_reducible refine xs_assign (by with_unfolding_all rfl) ?_
      with_reducible refine Subscript_ ?_
      with_reducible refine e_local (by assumption) (by with_unfolding_all rfl) (by with_unfolding_all rfl) (by with_unfolding_all rfl) (by with_unfolding_all rfl) (by decide) ?_
      with_reducible refine e_local (by assumption) (by with_unfolding_all rfl) (by with_unfolding_all rfl) (by with_unfolding_all rfl) (by with_unfolding_all rfl) (by decide) ?_
      simp only [hpar] at *
      refine e_item (by wtm_at "at") (by omega) (by omega) (v := y.v) (map_at hy) (by wtm_at "rf") ?_
      ((rename St _ _ _ _ _ => S0); (with_reducible refine s_store S0 (by with_unfolding_all rfl) (by with_unfolding_all rfl) (by with_unfolding_all rfl) ?_); (intro _ _; clear S0))
      with_reducible refine xs_if ?_
      with_reducible refine wpAny_isTrue_Compare1 ?_ (by with_unfolding_all rfl)
      with_reducible refine e_local (by assumption) (by with_unfolding_all rfl) (by with_unfolding_all rfl) (by with_unfolding_all rfl) (by with_unfolding_all rfl) (by decide) ?_
      with_reducible refine e_local (by assumption) (by with_unfolding_all rfl) (by with_unfolding_all rfl) (by with_unfolding_all rfl) (by with_unfolding_all rfl) (by decide) ?_
      obtain ⟨t, t', t'', hxA⟩ := hxa
      obtain ⟨u, u', u'', hyA⟩ := hig y hym
      refine lt_list2 (by wtm_at "at") (by wtm_at "at") r'.units (fun _ => hyx.symm) ?_
      with_reducible refine wpAny_truthy_bool ?_
      refine i_dec (fun hlt => ?_) (fun hlt => ?_)
      · with_reducible refine xs_assign_sub (by with_unfolding_all rfl) ?_
        with_reducible refine e_local (by assumption) (by with_unfolding_all rfl) (by with_unfolding_all rfl) (by with_unfolding_all rfl) (by with_unfolding_all rfl) (by decide) ?_
        with_reducible refine e_local (by assumption) (by with_unfolding_all rfl) (by with_unfolding_all rfl) (by with_unfolding_all rfl) (by with_unfolding_all rfl) (by decide) ?_
        with_reducible refine e_local (by assumption) (by with_unfolding_all rfl) (by with_unfolding_all rfl) (by with_unfolding_all rfl) (by with_unfolding_all rfl) (by decide) ?_
        ((rename St _ _ _ _ _ => S0); (with_reducible refine s_setItem S0 (by wtm_at "mem") (by wtm_at "up") (by omega) (by omega) (by first | omega | (simp; done) | (simp; omega)) ?_); (intro _ _; clear S0))
        with_reducible refine xs_assign (by with_unfolding_all rfl) ?_
        with_reducible refine e_local (by assumption) (by with_unfolding_all rfl) (by with_unfolding_all rfl) (by with_unfolding_all rfl) (by with_unfolding_all rfl) (by decide) ?_
        ((rename St _ _ _ _ _ => S0); (with_reducible refine s_store S0 (by with_unfolding_all rfl) (by with_unfolding_all rfl) (by with_unfolding_all rfl) ?_); (intro _ _; clear S0))
        with_reducible refine xs_cont ?_
        with_reducible refine after_cont ?_
        rename St _ _ _ _ _ => S
        refine turn_cont (ys.set p y, (p - 1) / 2) (by dsimp only; omega) ⟨by simp; omega, by simpa using hlen, ?_, ?_, ?_, (by rw [List.map_set]; exact ⟨_, S.names (by wtm_at "nm")⟩)⟩
        · intro i c hc hne
          by_cases e : i = p
          · subst e
            rw [List.getElem?_set_self (by omega)] at hc
            cases hc
            exact hyx
          · rw [List.getElem?_set_ne (Ne.symm e)] at hc
            exact hd i c hc e
        · intro c hc
          rcases List.mem_or_eq_of_mem_set hc with h1 | h1
          · exact hig c h1
          · exact h1 ▸ hig y hym
        · exact (sd_lt (by omega) hy hlt).symm.trans hsd
      · with_reducible refine xs_nil ?_
        with_reducible refine after_next ?_
        with_reducible refine xs_break ?_
        refine turn_brk ?_
        with_reducible refine xs_assign_sub (by with_unfolding_all rfl) ?_
        with_reducible refine e_local (by assumption) (by with_unfolding_all rfl) (by with_unfolding_all rfl) (by with_unfolding_all rfl) (by with_unfolding_all rfl) (by decide) ?_
        with_reducible refine e_local (by assumption) (by with_unfolding_all rfl) (by with_unfolding_all rfl) (by with_unfolding_all rfl) (by with_unfolding_all rfl) (by decide) ?_
        with_reducible refine e_local (by assumption) (by with_unfolding_all rfl) (by with_unfolding_all rfl) (by with_unfolding_all rfl) (by with_unfolding_all rfl) (by decide) ?_
        ((rename St _ _ _ _ _ => S0); (with_reducible refine s_setItem S0 (by wtm_at "mem") (by wtm_at "up") (by omega) (by omega) (by first | omega | (simp; done) | (simp; omega)) ?_); (intro _ _; clear S0))
        with_reducible refine xs_nil ?_
        rename St _ _ _ _ _ => S
        have e := sd_ge (by omega) hy hlt
        refine q _ _ (fun a o e n => S.keep a o (kg a o e n)) ?_
        rw [← hsd, e, List.map_set]
        exact S.at (by wtm_at "mem")
    · have hp0 : p = 0 := by omega
      subst hp0
      with_reducible refine xs_assign_sub (by with_unfolding_all rfl) ?_
      with_reducible refine e_local (by assumption) (by with_unfolding_all rfl) (by with_unfolding_all rfl) (by with_unfolding_all rfl) (by with_unfolding_all rfl) (by decide) ?_
      with_reducible refine e_local (by assumption) (by with_unfolding_all rfl) (by with_unfolding_all rfl) (by with_unfolding_all rfl) (by with_unfolding_all rfl) (by decide) ?_
      with_reducible refine e_local (by assumption) (by with_unfolding_all rfl) (by with_unfolding_all rfl) (by with_unfolding_all rfl) (by with_unfolding_all rfl) (by decide) ?_
      ((rename St _ _ _ _ _ => S0); (with_reducible refine s_setItem S0 (by wtm_at "mem") (by wtm_at "up") (by omega) (by omega) (by first | omega | (simp; done) | (simp; omega)) ?_); (intro _ _; clear S0))
      with_reducible refine xs_nil ?_
      rename St _ _ _ _ _ => S
      refine q _ _ (fun a o e n => S.keep a o (kg a o e n)) ?_
      rw [← hsd, sd_zero, List.map_set]
      exact S.at (by wtm_at "mem")
end
section
noncomputable def suF : Nat → List Itm → Nat → List Itm × Nat
  | 0, its, pos => (its, pos)
  | n + 1, its, pos =>
    if 2 * pos + 1 < its.length then
      match its[2 * pos + 1]?, its[2 * pos + 2]? with
      | some a, some b => if a.lt b then suF n (its.set pos a) (2 * pos + 1) else suF n (its.set pos b) (2 * pos + 2)
      | some a, none => suF n (its.set pos a) (2 * pos + 1)
      | none, _ => (its, pos)
    else (its, pos)
theorem su_less {k pos q n : Nat} (h : 2 * pos + 1 < k) (hq : pos + 1 ≤ q) (hn : k - pos ≤ n + 1) : k - q ≤ n := by omega
theorem suF_more : ∀ (n m : Nat) (its : List Itm) (pos : Nat), its.length - pos ≤ n → its.length - pos ≤ m → suF n its pos = suF m its pos
  | 0, 0, _, _, _, _ => rfl
  | 0, m + 1, its, pos, h, _ => by rw [suF, suF, if_neg (by omega)]
  | n + 1, 0, its, pos, _, h => by rw [suF, suF, if_neg (by omega)]
  | n + 1, m + 1, its, pos, h, h' => by
    rw [suF, suF]
    by_cases c : 2 * pos + 1 < its.length
    · have k : ∀ (y : Itm) (q : Nat), pos + 1 ≤ q → suF n (its.set pos y) q = suF m (its.set pos y) q := fun y q hq =>
        suF_more n m _ _ (by rw [List.length_set]; exact su_less c hq h) (by rw [List.length_set]; exact su_less c hq h')
      have k1 : pos + 1 ≤ 2 * pos + 1 := by omega
      rw [if_pos c, if_pos c]
      cases its[2 * pos + 1]? with
      | none => rfl
      | some a =>
        cases its[2 * pos + 2]? with
        | none => exact k a _ k1
        | some b =>
          dsimp only
          by_cases l : a.lt b
          · rw [if_pos l, if_pos l]; exact k a _ k1
          · rw [if_neg l, if_neg l]; exact k b _ (Nat.le_succ_of_le k1)
    · rw [if_neg c, if_neg c]
noncomputable def su (its : List Itm) (pos : Nat) : List Itm × Nat := suF its.length its pos
theorem su_end {its : List Itm} {pos : Nat} (h : its.length ≤ 2 * pos + 1) : su its pos = (its, pos) := by
  have k : ∀ n, suF n its pos = (its, pos)
    | 0 => rfl
    | n + 1 => by rw [suF, if_neg (Nat.not_lt.mpr h)]
  exact k _
theorem su_step {its : List Itm} {pos q : Nat} {y : Itm} (hl : 2 * pos + 1 < its.length) (hq : pos + 1 ≤ q) (e : ∀ n, suF (n + 1) its pos = suF n (its.set pos y) q) : su its pos = su (its.set pos y) q := by
  unfold su
  rw [suF_more its.length (its.length - 1 + 1) _ _ (Nat.sub_le _ _) (by omega), e, List.length_set]
  exact suF_more _ _ _ _ (by rw [List.length_set]; omega) (by rw [List.length_set]; exact Nat.sub_le _ _)
theorem su_left {its : List Itm} {pos : Nat} {a b : Itm} (ha : its[2 * pos + 1]? = some a) (hb : its[2 * pos + 2]? = some b) (hl : a.lt b) : su its pos = su (its.set pos a) (2 * pos + 1) := by
  have c := (List.getElem?_eq_some_iff.mp ha).1
  exact su_step c (by omega) fun n => by rw [suF, if_pos c, ha, hb]; exact if_pos hl
theorem su_right {its : List Itm} {pos : Nat} {a b : Itm} (ha : its[2 * pos + 1]? = some a) (hb : its[2 * pos + 2]? = some b) (hl : ¬ a.lt b) : su its pos = su (its.set pos b) (2 * pos + 2) := by
  have c := (List.getElem?_eq_some_iff.mp ha).1
  exact su_step c (by omega) fun n => by rw [suF, if_pos c, ha, hb]; exact if_neg hl
theorem su_one {its : List Itm} {pos : Nat} {a : Itm} (ha : its[2 * pos + 1]? = some a) (hb : its.length ≤ 2 * pos + 2) : su its pos = su (its.set pos a) (2 * pos + 1) := by
  have c := (List.getElem?_eq_some_iff.mp ha).1
  exact su_step c (by omega) fun n => by rw [suF, if_pos c, ha, List.getElem?_eq_none hb]
/-- what _siftup(heap, 0) makes of the items -/
noncomputable def sup (x : Itm) (its : List Itm) : List Itm := sd x ((su its 0).1.set (su its 0).2 x) (su its 0).2

theorem perm_swap {its : List Itm} {x y : Itm} {p c : Nat} (hp : p < its.length) (hc : its[c]? = some y) (hne : c ≠ p) : ((its.set p y).set c x).Perm (its.set p x) := by
  have hcl := (List.getElem?_eq_some_iff.mp hc).1
  have e := List.set_set_perm (as := its.set p x) (i := p) (j := c) (by simpa using hp) (by simpa using hcl)
  have e1 : (its.set p x)[c]'(by simpa using hcl) = y := by
    rw [List.getElem_set_ne (Ne.symm hne)]
    exact (List.getElem?_eq_some_iff.mp hc).2
  have e2 : (its.set p x)[p]'(by simpa using hp) = x := by simp
  rw [e1, e2, List.set_set] at e
  exact e
noncomputable def Nds (its : List Itm) : Prop := (its.map (·.s)).Nodup
theorem Nds.ne {its : List Itm} (n : Nds its) {i j : Nat} {a b : Itm} (ha : its[i]? = some a) (hb : its[j]? = some b) (h : i ≠ j) : a.s ≠ b.s := by
  intro e
  have hi := (List.getElem?_eq_some_iff.mp ha).1
  refine h ((List.getElem?_inj (l := its.map (·.s)) (by simpa using hi) (show (its.map (·.s)).Nodup from n)).mp ?_)
  simp [ha, hb, e]
theorem Nds.perm {its its' : List Itm} (n : Nds its) (p : its'.Perm its) : Nds its' := (p.map _).nodup_iff.mpr n

set_option maxRecDepth 100000 in
set_option maxHeartbeats 4000000 in
theorem siftup_c {w : World} {A : Around} {E : Value → Shared → Prop} {z : Shared} {g₀ h : Heap} {tk : Nat} {Q : Value → Shared → Prop} {hp : Addr} {its : List Itm} {x : Itm} {t0 : Tok}
    (r : Rm A 3) (G : Gd w g₀) (k₀ : ∀ b o, g₀.get? b = some o → h.get? b = some o) (hg : g₀.get? hp = none) (hl : At h hp (.list (its.map Itm.v))) (hi : ∀ i ∈ its, ItAt h i)
    (hx : its[0]? = some x) (hd : Nds its) (hz : its.length < 1000)
    (q : ∀ h' tk', Keep [hp] h h' → At h' hp (.list ((sup x its).map Itm.v)) → Q .none (Z z h' tk')) :
    wpAny (MM w) A (call (.ref 100) [.ref hp, .int 0 t0]) Q E (Z z h tk) := by
  have hpl : 0 < its.length := (List.getElem?_eq_some_iff.mp hx).1
  refine' enter [(hp, .list (its.map Itm.v))] [("heap", .ref hp), ("pos", .int 0 t0)] r G k₀ ?hM ?nd ?ho ?hcd ?hb ?hr ?hlc ?c1 ?c2 ?c3 ?c4 ?body
  case hM => intro p hp; rw [List.mem_singleton.mp hp]; exact ⟨hl, hg⟩
  case nd => simp
  wtm_at "enter"
  case body =>
    intro A' g L h₁ tk₁ r' G' kg gk S
    have hig : ∀ i ∈ its, ItAt g i := fun i him => by
      have hne := (hi i him).ne hl (by omega)
      obtain ⟨t, t', t'', hA⟩ := hi i him
      exact ⟨t, t', t'', hA.keeps fun o e => kg _ o e (by simpa using hne)⟩
    have hxa : ItAt g x := hig x (List.mem_of_getElem? hx)
    with_reducible refine xs_assign (by with_unfolding_all rfl) ?_
    with_reducible refine wpAny_Call_NameR ?_
    with_reducible refine e_built (by assumption) (by assumption) (by k_is) (by wtm_at "boot") (by decide) (by with_unfolding_all rfl) (by with_unfolding_all rfl) (by with_unfolding_all rfl) (by with_unfolding_all rfl) (by decide) ?_
    with_reducible refine callWith_builtin1 ?_ (by with_unfolding_all rfl) (by with_unfolding_all rfl)
    with_reducible refine spliced_more ?_ (by with_unfolding_all rfl)
    with_reducible refine e_local (by assumption) (by with_unfolding_all rfl) (by with_unfolding_all rfl) (by with_unfolding_all rfl) (by with_unfolding_all rfl) (by decide) ?_
    with_reducible refine spliced_none ?_
    with_reducible refine l_len (by wtm_at "at") (by first | omega | (simp; done) | (simp; omega)) ?_
    ((rename St _ _ _ _ _ => S0); (with_reducible refine s_store S0 (by with_unfolding_all rfl) (by with_unfolding_all rfl) (by with_unfolding_all rfl) ?_); (intro _ _; clear S0))
    with_reducible refine xs_assign (by with_unfolding_all rfl) ?_
    with_reducible refine e_local (by assumption) (by with_unfolding_all rfl) (by with_unfolding_all rfl) (by with_unfolding_all rfl) (by with_unfolding_all rfl) (by decide) ?_
    ((rename St _ _ _ _ _ => S0); (with_reducible refine s_store S0 (by with_unfolding_all rfl) (by with_unfolding_all rfl) (by with_unfolding_all rfl) ?_); (intro _ _; clear S0))
    with_reducible refine xs_assign (by with_unfolding_all rfl) ?_
    with_reducible refine Subscript_ ?_
    with_reducible refine e_local (by assumption) (by with_unfolding_all rfl) (by with_unfolding_all rfl) (by with_unfolding_all rfl) (by with_unfolding_all rfl) (by decide) ?_
    with_reducible refine e_local (by assumption) (by with_unfolding_all rfl) (by with_unfolding_all rfl) (by with_unfolding_all rfl) (by with_unfolding_all rfl) (by decide) ?_
    refine e_item (by wtm_at "at") (by omega) (by omega) (v := x.v) (map_at (k := 0) hx) (by wtm_at "rf") ?_
    ((rename St _ _ _ _ _ => S0); (with_reducible refine s_store S0 (by with_unfolding_all rfl) (by with_unfolding_all rfl) (by with_unfolding_all rfl) ?_); (intro _ _; clear S0))
    with_reducible refine xs_assign (by with_unfolding_all rfl) ?_
    with_reducible refine wpAny_BinOp ?_
    with_reducible refine wpAny_BinOp ?_
    with_reducible refine z_int ?_
    with_reducible refine e_local (by assumption) (by with_unfolding_all rfl) (by with_unfolding_all rfl) (by with_unfolding_all rfl) (by with_unfolding_all rfl) (by decide) ?_
    with_reducible refine z_mul (IntMulOk.of_left (intBits_le_64 (by omega) (by omega))) ?_
    with_reducible refine z_int ?_
    with_reducible refine z_add ?_
    ((rename St _ _ _ _ _ => S0); (with_reducible refine s_store S0 (by with_unfolding_all rfl) (by with_unfolding_all rfl) (by with_unfolding_all rfl) ?_); (intro _ _; clear S0))
    rename St _ _ _ _ _ => S
    simp only [List.length_map] at S
    have ex : its.set 0 x = its := by rw [← (List.getElem?_eq_some_iff.mp hx).2]; exact List.set_getElem_self _
    refine xs_while (σ := List Itm × Nat) (fun c h => c.2 < c.1.length ∧ c.1.length = its.length ∧ Nds (c.1.set c.2 x) ∧ (∀ y ∈ c.1, ItAt g y) ∧ su c.1 c.2 = su its 0 ∧
      ∃ t t' t'' : Tok, St g L [("heap", .ref hp), ("endpos", .int its.length t''), ("startpos", .int 0 t0), ("newitem", x.v), ("pos", .int c.2 t), ("childpos", .int (2 * c.2 + 1) t')] [(hp, .list (c.1.map Itm.v))] h) (fun c => its.length - c.2) (its, 0) ⟨hpl, rfl, by rw [ex]; exact hd, hig, rfl, _, _, _, S.names (by wtm_at "nm")⟩ ?_
    clear S ex hig hl hi
    rintro ⟨ys, p⟩ h₂ tk₂ ⟨hp2, hlen, hnd, hig, hsu, t, t', t'', S⟩
    dsimp only at *
    with_reducible refine wpAny_isTrue_Compare1 ?_ (by with_unfolding_all rfl)
    with_reducible refine e_local (by assumption) (by with_unfolding_all rfl) (by with_unfolding_all rfl) (by with_unfolding_all rfl) (by with_unfolding_all rfl) (by decide) ?_
    with_reducible refine e_local (by assumption) (by with_unfolding_all rfl) (by with_unfolding_all rfl) (by with_unfolding_all rfl) (by with_unfolding_all rfl) (by decide) ?_
    with_reducible refine wpAny_lt_int ?_
    with_reducible refine wpAny_truthy_bool ?_
    refine i_dec (fun hpos => ?_) (fun hpos => ?_)
    · obtain ⟨a, ha⟩ : ∃ y, ys[2 * p + 1]? = some y := ⟨ys[2 * p + 1]'(by omega), by simp⟩
      have hc1 : (2 * (p : Int) + 1) = ((2 * p + 1 : Nat) : Int) := by omega
      have hc2 : (2 * (p : Int) + 1 + 1) = ((2 * p + 2 : Nat) : Int) := by omega
      have ham : a ∈ ys := List.mem_of_getElem? ha
      have hpa : (ys.set p x)[2 * p + 1]? = some a := by rw [List.getElem?_set_ne (by omega)]; exact ha
      with_reducible refine xs_assign (by with_unfolding_all rfl) ?_
      with_reducible refine wpAny_BinOp ?_
      with_reducible refine e_local (by assumption) (by with_unfolding_all rfl) (by with_unfolding_all rfl) (by with_unfolding_all rfl) (by with_unfolding_all rfl) (by decide) ?_
      with_reducible refine z_int ?_
      with_reducible refine z_add ?_
      ((rename St _ _ _ _ _ => S0); (with_reducible refine s_store S0 (by with_unfolding_all rfl) (by with_unfolding_all rfl) (by with_unfolding_all rfl) ?_); (intro _ _; clear S0))
      with_reducible refine xs_if ?_
      with_reducible refine wpAny_isTrue_BoolOp ?_
      with_reducible refine wpAny_allTrue_And_cons ?_
      with_reducible refine wpAny_isTrue_Compare1 ?_ (by with_unfolding_all rfl)
      with_reducible refine e_local (by assumption) (by with_unfolding_all rfl) (by with_unfolding_all rfl) (by with_unfolding_all rfl) (by with_unfolding_all rfl) (by decide) ?_
      with_reducible refine e_local (by assumption) (by with_unfolding_all rfl) (by with_unfolding_all rfl) (by with_unfolding_all rfl) (by with_unfolding_all rfl) (by decide) ?_
      with_reducible refine wpAny_lt_int ?_
      with_reducible refine wpAny_truthy_bool ?_
      simp only [hc1] at *
      simp only [hc2] at *
      refine i_dec (fun hr => ?_) (fun hr => ?_)
      · obtain ⟨b, hb⟩ : ∃ y, ys[2 * p + 2]? = some y := ⟨ys[2 * p + 2]'(by omega), by simp⟩
        have hbm : b ∈ ys := List.mem_of_getElem? hb
        have hpb : (ys.set p x)[2 * p + 2]? = some b := by rw [List.getElem?_set_ne (by omega)]; exact hb
        have hab := hnd.ne hpa hpb (by omega)
        with_reducible refine wpAny_allTrue_And_cons ?_
        with_reducible refine wpAny_isTrue_Not ?_
        with_reducible refine wpAny_isTrue_Compare1 ?_ (by with_unfolding_all rfl)
        with_reducible refine Subscript_ ?_
        with_reducible refine e_local (by assumption) (by with_unfolding_all rfl) (by with_unfolding_all rfl) (by with_unfolding_all rfl) (by with_unfolding_all rfl) (by decide) ?_
        with_reducible refine e_local (by assumption) (by with_unfolding_all rfl) (by with_unfolding_all rfl) (by with_unfolding_all rfl) (by with_unfolding_all rfl) (by decide) ?_
        refine e_item (by wtm_at "at") (by omega) (by omega) (v := a.v) (map_at ha) (by wtm_at "rf") ?_
        with_reducible refine Subscript_ ?_
        with_reducible refine e_local (by assumption) (by with_unfolding_all rfl) (by with_unfolding_all rfl) (by with_unfolding_all rfl) (by with_unfolding_all rfl) (by decide) ?_
        with_reducible refine e_local (by assumption) (by with_unfolding_all rfl) (by with_unfolding_all rfl) (by with_unfolding_all rfl) (by with_unfolding_all rfl) (by decide) ?_
        refine e_item (by wtm_at "at") (by omega) (by omega) (v := b.v) (map_at hb) (by wtm_at "rf") ?_
        skip
        obtain ⟨v1, v2, v3, haA⟩ := hig a ham
        obtain ⟨w1, w2, w3, hbA⟩ := hig b hbm
        refine lt_list2 (by wtm_at "at") (by wtm_at "at") r'.units (fun _ => hab) ?_
        with_reducible refine wpAny_truthy_bool ?_
        by_cases hlt : a.lt b
        · rw [show decide (a.r < b.r ∨ a.r = b.r ∧ a.s < b.s) = true from decide_eq_true hlt]
          refine i_ff ?_
          refine i_ff ?_
          with_reducible refine xs_nil ?_
          with_reducible refine after_next ?_
          with_reducible refine xs_assign_sub (by with_unfolding_all rfl) ?_
          with_reducible refine Subscript_ ?_
          with_reducible refine e_local (by assumption) (by with_unfolding_all rfl) (by with_unfolding_all rfl) (by with_unfolding_all rfl) (by with_unfolding_all rfl) (by decide) ?_
          with_reducible refine e_local (by assumption) (by with_unfolding_all rfl) (by with_unfolding_all rfl) (by with_unfolding_all rfl) (by with_unfolding_all rfl) (by decide) ?_
          rename St _ _ _ _ _ => S
          have hpy : (ys.set p x)[2 * p + 1]? = some a := by rw [List.getElem?_set_ne (by omega)]; exact ha
          refine e_item (by wtm_at "at") (by omega) (by omega) (v := (a).v) (map_at ha) (by wtm_at "rf") ?_
          with_reducible refine e_local (by assumption) (by with_unfolding_all rfl) (by with_unfolding_all rfl) (by with_unfolding_all rfl) (by with_unfolding_all rfl) (by decide) ?_
          with_reducible refine e_local (by assumption) (by with_unfolding_all rfl) (by with_unfolding_all rfl) (by with_unfolding_all rfl) (by with_unfolding_all rfl) (by decide) ?_
          ((rename St _ _ _ _ _ => S0); (with_reducible refine s_setItem S0 (by wtm_at "mem") (by wtm_at "up") (by omega) (by omega) (by first | omega | (simp; done) | (simp; omega)) ?_); (intro _ _; clear S0))
          with_reducible refine xs_assign (by with_unfolding_all rfl) ?_
          with_reducible refine e_local (by assumption) (by with_unfolding_all rfl) (by with_unfolding_all rfl) (by with_unfolding_all rfl) (by with_unfolding_all rfl) (by decide) ?_
          ((rename St _ _ _ _ _ => S0); (with_reducible refine s_store S0 (by with_unfolding_all rfl) (by with_unfolding_all rfl) (by with_unfolding_all rfl) ?_); (intro _ _; clear S0))
          with_reducible refine xs_assign (by with_unfolding_all rfl) ?_
          with_reducible refine wpAny_BinOp ?_
          with_reducible refine wpAny_BinOp ?_
          with_reducible refine z_int ?_
          with_reducible refine e_local (by assumption) (by with_unfolding_all rfl) (by with_unfolding_all rfl) (by with_unfolding_all rfl) (by with_unfolding_all rfl) (by decide) ?_
          with_reducible refine z_mul (IntMulOk.of_left (intBits_le_64 (by omega) (by omega))) ?_
          with_reducible refine z_int ?_
          with_reducible refine z_add ?_
          ((rename St _ _ _ _ _ => S0); (with_reducible refine s_store S0 (by with_unfolding_all rfl) (by with_unfolding_all rfl) (by with_unfolding_all rfl) ?_); (intro _ _; clear S0))
          with_reducible refine xs_nil ?_
          rename St _ _ _ _ _ => S
          refine turn_next (ys.set p a, 2 * p + 1) (by dsimp only; omega) ⟨by simp; omega, by simpa using hlen, ?_, ?_, (su_left ha hb hlt).symm.trans hsu, by rw [List.map_set]; exact ⟨_, _, _, S.names (by wtm_at "nm")⟩⟩
          · exact hnd.perm (perm_swap hp2 ha (by omega))
          · intro d hd'
            rcases List.mem_or_eq_of_mem_set hd' with h1 | h1
            · exact hig d h1
            · exact h1 ▸ hig a ham
        · rw [show decide (a.r < b.r ∨ a.r = b.r ∧ a.s < b.s) = false from decide_eq_false hlt]
          refine i_tt ?_
          with_reducible refine wpAny_allTrue_And_nil ?_
          refine i_tt ?_
          with_reducible refine xs_assign (by with_unfolding_all rfl) ?_
          with_reducible refine e_local (by assumption) (by with_unfolding_all rfl) (by with_unfolding_all rfl) (by with_unfolding_all rfl) (by with_unfolding_all rfl) (by decide) ?_
          ((rename St _ _ _ _ _ => S0); (with_reducible refine s_store S0 (by with_unfolding_all rfl) (by with_unfolding_all rfl) (by with_unfolding_all rfl) ?_); (intro _ _; clear S0))
          with_reducible refine xs_nil ?_
          with_reducible refine after_next ?_
          with_reducible refine xs_assign_sub (by with_unfolding_all rfl) ?_
          with_reducible refine Subscript_ ?_
          with_reducible refine e_local (by assumption) (by with_unfolding_all rfl) (by with_unfolding_all rfl) (by with_unfolding_all rfl) (by with_unfolding_all rfl) (by decide) ?_
          with_reducible refine e_local (by assumption) (by with_unfolding_all rfl) (by with_unfolding_all rfl) (by with_unfolding_all rfl) (by with_unfolding_all rfl) (by decide) ?_
          rename St _ _ _ _ _ => S
          have hpy : (ys.set p x)[2 * p + 2]? = some b := by rw [List.getElem?_set_ne (by omega)]; exact hb
          refine e_item (by wtm_at "at") (by omega) (by omega) (v := (b).v) (map_at hb) (by wtm_at "rf") ?_
          with_reducible refine e_local (by assumption) (by with_unfolding_all rfl) (by with_unfolding_all rfl) (by with_unfolding_all rfl) (by with_unfolding_all rfl) (by decide) ?_
          with_reducible refine e_local (by assumption) (by with_unfolding_all rfl) (by with_unfolding_all rfl) (by with_unfolding_all rfl) (by with_unfolding_all rfl) (by decide) ?_
          ((rename St _ _ _ _ _ => S0); (with_reducible refine s_setItem S0 (by wtm_at "mem") (by wtm_at "up") (by omega) (by omega) (by first | omega | (simp; done) | (simp; omega)) ?_); (intro _ _; clear S0))
          with_reducible refine xs_assign (by with_unfolding_all rfl) ?_
          with_reducible refine e_local (by assumption) (by with_unfolding_all rfl) (by with_unfolding_all rfl) (by with_unfolding_all rfl) (by with_unfolding_all rfl) (by decide) ?_
          ((rename St _ _ _ _ _ => S0); (with_reducible refine s_store S0 (by with_unfolding_all rfl) (by with_unfolding_all rfl) (by with_unfolding_all rfl) ?_); (intro _ _; clear S0))
          with_reducible refine xs_assign (by with_unfolding_all rfl) ?_
          with_reducible refine wpAny_BinOp ?_
          with_reducible refine wpAny_BinOp ?_
          with_reducible refine z_int ?_
          with_reducible refine e_local (by assumption) (by with_unfolding_all rfl) (by with_unfolding_all rfl) (by with_unfolding_all rfl) (by with_unfolding_all rfl) (by decide) ?_
          with_reducible refine z_mul (IntMulOk.of_left (intBits_le_64 (by omega) (by omega))) ?_
          with_reducible refine z_int ?_
          with_reducible refine z_add ?_
          ((rename St _ _ _ _ _ => S0); (with_reducible refine s_store S0 (by with_unfolding_all rfl) (by with_unfolding_all rfl) (by with_unfolding_all rfl) ?_); (intro _ _; clear S0))
          with_reducible refine xs_nil ?_
          rename St _ _ _ _ _ => S
          refine turn_next (ys.set p b, 2 * p + 2) (by dsimp only; omega) ⟨by simp; omega, by simpa using hlen, ?_, ?_, (su_right ha hb hlt).symm.trans hsu, by rw [List.map_set]; exact ⟨_, _, _, S.names (by wtm_at "nm")⟩⟩
          · exact hnd.perm (perm_swap hp2 hb (by omega))
          · intro d hd'
            rcases List.mem_or_eq_of_mem_set hd' with h1 | h1
            · exact hig d h1
            · exact h1 ▸ hig b hbm
      · refine i_ff ?_
        with_reducible refine xs_nil ?_
        with_reducible refine after_next ?_
        with_reducible refine xs_assign_sub (by with_unfolding_all rfl) ?_
        with_reducible refine Subscript_ ?_
        with_reducible refine e_local (by assumption) (by with_unfolding_all rfl) (by with_unfolding_all rfl) (by with_unfolding_all rfl) (by with_unfolding_all rfl) (by decide) ?_
        with_reducible refine e_local (by assumption) (by with_unfolding_all rfl) (by with_unfolding_all rfl) (by with_unfolding_all rfl) (by with_unfolding_all rfl) (by decide) ?_
        rename St _ _ _ _ _ => S
        have hpy : (ys.set p x)[2 * p + 1]? = some a := by rw [List.getElem?_set_ne (by omega)]; exact ha
        refine e_item (by wtm_at "at") (by omega) (by omega) (v := (a).v) (map_at ha) (by wtm_at "rf") ?_
        with_reducible refine e_local (by assumption) (by with_unfolding_all rfl) (by with_unfolding_all rfl) (by with_unfolding_all rfl) (by with_unfolding_all rfl) (by decide) ?_
        with_reducible refine e_local (by assumption) (by with_unfolding_all rfl) (by with_unfolding_all rfl) (by with_unfolding_all rfl) (by with_unfolding_all rfl) (by decide) ?_
        ((rename St _ _ _ _ _ => S0); (with_reducible refine s_setItem S0 (by wtm_at "mem") (by wtm_at "up") (by omega) (by omega) (by first | omega | (simp; done) | (simp; omega)) ?_); (intro _ _; clear S0))
        with_reducible refine xs_assign (by with_unfolding_all rfl) ?_
        with_reducible refine e_local (by assumption) (by with_unfolding_all rfl) (by with_unfolding_all rfl) (by with_unfolding_all rfl) (by with_unfolding_all rfl) (by decide) ?_
        ((rename St _ _ _ _ _ => S0); (with_reducible refine s_store S0 (by with_unfolding_all rfl) (by with_unfolding_all rfl) (by with_unfolding_all rfl) ?_); (intro _ _; clear S0))
        with_reducible refine xs_assign (by with_unfolding_all rfl) ?_
        with_reducible refine wpAny_BinOp ?_
        with_reducible refine wpAny_BinOp ?_
        with_reducible refine z_int ?_
        with_reducible refine e_local (by assumption) (by with_unfolding_all rfl) (by with_unfolding_all rfl) (by with_unfolding_all rfl) (by with_unfolding_all rfl) (by decide) ?_
        with_reducible refine z_mul (IntMulOk.of_left (intBits_le_64 (by omega) (by omega))) ?_
        with_reducible refine z_int ?_
        with_reducible refine z_add ?_
        ((rename St _ _ _ _ _ => S0); (with_reducible refine s_store S0 (by with_unfolding_all rfl) (by with_unfolding_all rfl) (by with_unfolding_all rfl) ?_); (intro _ _; clear S0))
        with_reducible refine xs_nil ?_
        rename St _ _ _ _ _ => S
        refine turn_next (ys.set p a, 2 * p + 1) (by dsimp only; omega) ⟨by simp; omega, by simpa using hlen, ?_, ?_, (su_one ha (by omega)).symm.trans hsu, by rw [List.map_set]; exact ⟨_, _, _, S.names (by wtm_at "nm")⟩⟩
        · exact hnd.perm (perm_swap hp2 ha (by omega))
        · intro d hd'
          rcases List.mem_or_eq_of_mem_set hd' with h1 | h1
          · exact hig d h1
          · exact h1 ▸ hig a ham
    · with_reducible refine xs_assign_sub (by with_unfolding_all rfl) ?_
      with_reducible refine e_local (by assumption) (by with_unfolding_all rfl) (by with_unfolding_all rfl) (by with_unfolding_all rfl) (by with_unfolding_all rfl) (by decide) ?_
      with_reducible refine e_local (by assumption) (by with_unfolding_all rfl) (by with_unfolding_all rfl) (by with_unfolding_all rfl) (by with_unfolding_all rfl) (by decide) ?_
      with_reducible refine e_local (by assumption) (by with_unfolding_all rfl) (by with_unfolding_all rfl) (by with_unfolding_all rfl) (by with_unfolding_all rfl) (by decide) ?_
      ((rename St _ _ _ _ _ => S0); (with_reducible refine s_setItem S0 (by wtm_at "mem") (by wtm_at "up") (by omega) (by omega) (by first | omega | (simp; done) | (simp; omega)) ?_); (intro _ _; clear S0))
      with_reducible refine xs_expr (by with_unfolding_all rfl) (by with_unfolding_all rfl) ?_
      with_reducible refine wpAny_Call_NameR ?_
      with_reducible refine e_glob (by assumption) (by assumption) (by k_is) (by with_unfolding_all rfl) (by with_unfolding_all rfl) (by with_unfolding_all rfl) (by decide) ?_
      with_reducible refine c_def (by assumption) (by k_is) (by with_unfolding_all rfl) (by with_unfolding_all rfl) ?_
      with_reducible refine spliced_more ?_ (by with_unfolding_all rfl)
      with_reducible refine e_local (by assumption) (by with_unfolding_all rfl) (by with_unfolding_all rfl) (by with_unfolding_all rfl) (by with_unfolding_all rfl) (by decide) ?_
      with_reducible refine spliced_more ?_ (by with_unfolding_all rfl)
      with_reducible refine e_local (by assumption) (by with_unfolding_all rfl) (by with_unfolding_all rfl) (by with_unfolding_all rfl) (by with_unfolding_all rfl) (by decide) ?_
      with_reducible refine spliced_more ?_ (by with_unfolding_all rfl)
      with_reducible refine e_local (by assumption) (by with_unfolding_all rfl) (by with_unfolding_all rfl) (by with_unfolding_all rfl) (by with_unfolding_all rfl) (by decide) ?_
      with_reducible refine spliced_none ?_
      with_reducible refine c_in (by assumption) (by assumption) ?_
      rename St _ _ _ _ _ => S
      have e1 : (ys.map Itm.v).set ((p : Int)).toNat x.v = (ys.set p x).map Itm.v := by rw [List.map_set]; rfl
      rw [e1] at S
      have hxp : (ys.set p x)[p]? = some x := by simp [hp2]
      refine siftdown_c (its := ys.set p x) (x := x) r' G' S.keep (S.fresh (by wtm_at "mem")) (S.at (by wtm_at "mem")) ?_ hxp ?_ (by simp; omega) ?_
      · intro i hi'
        rcases List.mem_or_eq_of_mem_set hi' with h1 | h1
        · obtain ⟨v1, v2, v3, hA⟩ := hig i h1
          exact ⟨v1, v2, v3, S.old hA⟩
        · obtain ⟨v1, v2, v3, hA⟩ := hxa
          exact ⟨v1, v2, v3, S.old (h1 ▸ hA)⟩
      · intro i y hy hne
        exact hnd.ne hy hxp hne
      · intro h' tk' kp hat
        have S := S.call1 (c' := .list ((sd x (ys.set p x) p).map Itm.v)) (by wtm_at "up") kp hat
        with_reducible refine xs_nil ?_
        refine q _ _ (fun a o e n => S.keep a o (kg a o e n)) ?_
        have e2 : sup x its = sd x (ys.set p x) p := by
          unfold sup
          rw [← hsu, su_end (by omega)]
        rw [e2]
        exact S.at (by wtm_at "mem")
end
section

noncomputable def hpush (x : Itm) (its : List Itm) : List Itm := sd x (its ++ [x]) its.length
theorem e1_ {its : List Itm} {p : Nat} {x : Itm} : (its.map Itm.v).set ((p : Int)).toNat x.v = (its.set p x).map Itm.v := by rw [List.map_set]; rfl
set_option maxRecDepth 100000 in
set_option maxHeartbeats 4000000 in
theorem heappush_c {w : World} {A : Around} {E : Value → Shared → Prop} {z : Shared} {g₀ h : Heap} {tk : Nat} {Q : Value → Shared → Prop} {hp : Addr} {its : List Itm} {x : Itm}
    (r : Rm A 3) (G : Gd w g₀) (k₀ : ∀ b o, g₀.get? b = some o → h.get? b = some o) (hg : g₀.get? hp = none) (hl : At h hp (.list (its.map Itm.v))) (hi : ∀ i ∈ its, ItAt h i) (hne : ∀ i ∈ its, i.a ≠ hp) (hx : ItAt h x) (hxn : x.a ≠ hp)
    (hd : Nds (its ++ [x])) (hz : its.length < 900)
    (q : ∀ h' tk', Keep [hp] h h' → At h' hp (.list ((hpush x its).map Itm.v)) → Q .none (Z z h' tk')) :
    wpAny (MM w) A (call (.ref 72) [.ref hp, x.v]) Q E (Z z h tk) := by
  refine' enter [(hp, .list (its.map Itm.v))] [("heap", .ref hp), ("item", x.v)] r G k₀ ?hM ?nd ?ho ?hcd ?hb ?hr ?hlc ?c1 ?c2 ?c3 ?c4 ?body
  case hM => intro p hp; rw [List.mem_singleton.mp hp]; exact ⟨hl, hg⟩
  case nd => simp
  wtm_at "enter"
  case body =>
    intro A' g L h₁ tk₁ r' G' kg gk S
    have hig : ∀ i ∈ its, ItAt g i := fun i him => by
      have hne := hne i him
      obtain ⟨t, t', t'', hA⟩ := hi i him
      exact ⟨t, t', t'', hA.keeps fun o e => kg _ o e (by simpa using hne)⟩
    have hxg : ItAt g x := by
      obtain ⟨t, t', t'', hA⟩ := hx
      exact ⟨t, t', t'', hA.keeps fun o e => kg _ o e (by simpa using hxn)⟩
    with_reducible refine xs_expr (by with_unfolding_all rfl) (by with_unfolding_all rfl) ?_
    (with_reducible refine wpAny_Call_append (by with_unfolding_all rfl) (by with_unfolding_all rfl) (by with_unfolding_all rfl) (by with_unfolding_all rfl) ?_)
    with_reducible refine e_local (by assumption) (by with_unfolding_all rfl) (by with_unfolding_all rfl) (by with_unfolding_all rfl) (by with_unfolding_all rfl) (by decide) ?_
    with_reducible refine ex_append (by wtm_at "at") ?_
    with_reducible refine e_local (by assumption) (by with_unfolding_all rfl) (by with_unfolding_all rfl) (by with_unfolding_all rfl) (by with_unfolding_all rfl) (by decide) ?_
    ((rename St _ _ _ _ _ => S0); (with_reducible refine s_append S0 (by wtm_at "mem") (by wtm_at "up") (by wtm_at "small") ?_); (intro _ _; clear S0))
    with_reducible refine xs_expr (by with_unfolding_all rfl) (by with_unfolding_all rfl) ?_
    with_reducible refine wpAny_Call_NameR ?_
    with_reducible refine e_glob (by assumption) (by assumption) (by k_is) (by with_unfolding_all rfl) (by with_unfolding_all rfl) (by with_unfolding_all rfl) (by decide) ?_
    with_reducible refine c_def (by assumption) (by k_is) (by with_unfolding_all rfl) (by with_unfolding_all rfl) ?_
    with_reducible refine spliced_more ?_ (by with_unfolding_all rfl)
    with_reducible refine e_local (by assumption) (by with_unfolding_all rfl) (by with_unfolding_all rfl) (by with_unfolding_all rfl) (by with_unfolding_all rfl) (by decide) ?_
    with_reducible refine spliced_more ?_ (by with_unfolding_all rfl)
    with_reducible refine z_int ?_
    with_reducible refine spliced_more ?_ (by with_unfolding_all rfl)
    with_reducible refine wpAny_BinOp ?_
    with_reducible refine wpAny_Call_NameR ?_
    with_reducible refine e_built (by assumption) (by assumption) (by k_is) (by wtm_at "boot") (by decide) (by with_unfolding_all rfl) (by with_unfolding_all rfl) (by with_unfolding_all rfl) (by with_unfolding_all rfl) (by decide) ?_
    with_reducible refine callWith_builtin1 ?_ (by with_unfolding_all rfl) (by with_unfolding_all rfl)
    with_reducible refine spliced_more ?_ (by with_unfolding_all rfl)
    with_reducible refine e_local (by assumption) (by with_unfolding_all rfl) (by with_unfolding_all rfl) (by with_unfolding_all rfl) (by with_unfolding_all rfl) (by decide) ?_
    with_reducible refine spliced_none ?_
    with_reducible refine l_len (by wtm_at "at") (by first | omega | (simp; done) | (simp; omega)) ?_
    with_reducible refine z_int ?_
    with_reducible refine z_sub ?_
    with_reducible refine spliced_none ?_
    with_reducible refine c_in (by assumption) (by assumption) ?_
    rename St _ _ _ _ _ => S
    have e1 : its.map Itm.v ++ [x.v] = (its ++ [x]).map Itm.v := by simp
    have e2 : ((its.map Itm.v ++ [x.v]).length : Int) - 1 = (its.length : Nat) := by simp
    rw [e2]
    rw [e1] at S
    have hxp : (its ++ [x])[its.length]? = some x := by simp
    refine siftdown_c (its := its ++ [x]) (x := x) (r'.less (by omega)) G' S.keep (S.fresh (by wtm_at "mem")) (S.at (by wtm_at "mem")) ?_ hxp ?_ (by simp; omega) ?_
    · intro i hi'
      rcases List.mem_append.mp hi' with h1 | h1
      · obtain ⟨v1, v2, v3, hA⟩ := hig i h1
        exact ⟨v1, v2, v3, S.old hA⟩
      · obtain ⟨v1, v2, v3, hA⟩ := hxg
        exact ⟨v1, v2, v3, S.old (List.mem_singleton.mp h1 ▸ hA)⟩
    · intro i y hy hne
      exact hd.ne hy hxp hne
    · intro h' tk' kp hat
      have S := S.call1 (c' := .list ((hpush x its).map Itm.v)) (by wtm_at "up") kp hat
      with_reducible refine xs_nil ?_
      exact q _ _ (fun a o e n => S.keep a o (kg a o e n)) (S.at (by wtm_at "mem"))

set_option maxRecDepth 100000 in
set_option maxHeartbeats 4000000 in
theorem heapreplace_c {w : World} {A : Around} {E : Value → Shared → Prop} {z : Shared} {g₀ h : Heap} {tk : Nat} {Q : Value → Shared → Prop} {hp : Addr} {its : List Itm} {x y : Itm}
    (r : Rm A 4) (G : Gd w g₀) (k₀ : ∀ b o, g₀.get? b = some o → h.get? b = some o) (hg : g₀.get? hp = none) (hl : At h hp (.list (its.map Itm.v))) (hi : ∀ i ∈ its, ItAt h i) (hne : ∀ i ∈ its, i.a ≠ hp) (hx : ItAt h x) (hxn : x.a ≠ hp)
    (hy : its[0]? = some y) (hd : Nds (its.set 0 x)) (hz : its.length < 900)
    (q : ∀ h' tk', Keep [hp] h h' → At h' hp (.list ((sup x (its.set 0 x)).map Itm.v)) → Q y.v (Z z h' tk')) :
    wpAny (MM w) A (call (.ref 86) [.ref hp, x.v]) Q E (Z z h tk) := by
  have hpl : 0 < its.length := (List.getElem?_eq_some_iff.mp hy).1
  refine' enter [(hp, .list (its.map Itm.v))] [("heap", .ref hp), ("item", x.v)] r G k₀ ?hM ?nd ?ho ?hcd ?hb ?hr ?hlc ?c1 ?c2 ?c3 ?c4 ?body
  case hM => intro p hp; rw [List.mem_singleton.mp hp]; exact ⟨hl, hg⟩
  case nd => simp
  wtm_at "enter"
  case body =>
    intro A' g L h₁ tk₁ r' G' kg gk S
    have hig : ∀ i ∈ its, ItAt g i := fun i him => by
      have hne := hne i him
      obtain ⟨t, t', t'', hA⟩ := hi i him
      exact ⟨t, t', t'', hA.keeps fun o e => kg _ o e (by simpa using hne)⟩
    have hxg : ItAt g x := by
      obtain ⟨t, t', t'', hA⟩ := hx
      exact ⟨t, t', t'', hA.keeps fun o e => kg _ o e (by simpa using hxn)⟩
    with_reducible refine xs_assign (by with_unfolding_all rfl) ?_
    with_reducible refine Subscript_ ?_
    with_reducible refine e_local (by assumption) (by with_unfolding_all rfl) (by with_unfolding_all rfl) (by with_unfolding_all rfl) (by with_unfolding_all rfl) (by decide) ?_
    with_reducible refine z_int ?_
    refine e_item (by wtm_at "at") (by omega) (by omega) (v := y.v) (map_at (k := 0) hy) (by wtm_at "rf") ?_
    ((rename St _ _ _ _ _ => S0); (with_reducible refine s_store S0 (by with_unfolding_all rfl) (by with_unfolding_all rfl) (by with_unfolding_all rfl) ?_); (intro _ _; clear S0))
    with_reducible refine xs_assign_sub (by with_unfolding_all rfl) ?_
    with_reducible refine e_local (by assumption) (by with_unfolding_all rfl) (by with_unfolding_all rfl) (by with_unfolding_all rfl) (by with_unfolding_all rfl) (by decide) ?_
    with_reducible refine e_local (by assumption) (by with_unfolding_all rfl) (by with_unfolding_all rfl) (by with_unfolding_all rfl) (by with_unfolding_all rfl) (by decide) ?_
    with_reducible refine z_int ?_
    ((rename St _ _ _ _ _ => S0); (with_reducible refine s_setItem S0 (by wtm_at "mem") (by wtm_at "up") (by omega) (by omega) (by first | omega | (simp; done) | (simp; omega)) ?_); (intro _ _; clear S0))
    with_reducible refine xs_expr (by with_unfolding_all rfl) (by with_unfolding_all rfl) ?_
    with_reducible refine wpAny_Call_NameR ?_
    with_reducible refine e_glob (by assumption) (by assumption) (by k_is) (by with_unfolding_all rfl) (by with_unfolding_all rfl) (by with_unfolding_all rfl) (by decide) ?_
    with_reducible refine c_def (by assumption) (by k_is) (by with_unfolding_all rfl) (by with_unfolding_all rfl) ?_
    with_reducible refine spliced_more ?_ (by with_unfolding_all rfl)
    with_reducible refine e_local (by assumption) (by with_unfolding_all rfl) (by with_unfolding_all rfl) (by with_unfolding_all rfl) (by with_unfolding_all rfl) (by decide) ?_
    with_reducible refine spliced_more ?_ (by with_unfolding_all rfl)
    with_reducible refine z_int ?_
    with_reducible refine spliced_none ?_
    with_reducible refine c_in (by assumption) (by assumption) ?_
    rename St _ _ _ _ _ => S
    rw [show (its.map Itm.v).set ((0 : Int)).toNat x.v = (its.set 0 x).map Itm.v from e1_ (p := 0)] at S
    refine siftup_c (its := its.set 0 x) (x := x) r' G' S.keep (S.fresh (by wtm_at "mem")) (S.at (by wtm_at "mem")) ?_ (by simp [hpl]) hd (by simp; omega) ?_
    · intro i hi'
      rcases List.mem_or_eq_of_mem_set hi' with h1 | h1
      · obtain ⟨v1, v2, v3, hA⟩ := hig i h1
        exact ⟨v1, v2, v3, S.old hA⟩
      · obtain ⟨v1, v2, v3, hA⟩ := hxg
        exact ⟨v1, v2, v3, S.old (h1 ▸ hA)⟩
    · intro h' tk' kp hat
      have S := S.call1 (c' := .list ((sup x (its.set 0 x)).map Itm.v)) (by wtm_at "up") kp hat
      with_reducible refine xs_return ?_
      with_reducible refine e_local (by assumption) (by with_unfolding_all rfl) (by with_unfolding_all rfl) (by with_unfolding_all rfl) (by with_unfolding_all rfl) (by decide) ?_
      exact q _ _ (fun a o e n => S.keep a o (kg a o e n)) (S.at (by wtm_at "mem"))

set_option maxRecDepth 100000 in
set_option maxHeartbeats 4000000 in
theorem heappop_c {w : World} {A : Around} {E : Value → Shared → Prop} {z : Shared} {g₀ h : Heap} {tk : Nat} {Q : Value → Shared → Prop} {hp : Addr} {its : List Itm} {y : Itm}
    (r : Rm A 4) (G : Gd w g₀) (k₀ : ∀ b o, g₀.get? b = some o → h.get? b = some o) (hg : g₀.get? hp = none) (hl : At h hp (.list ((its ++ [y]).map Itm.v))) (hi : ∀ i ∈ its ++ [y], ItAt h i) (hne : ∀ i ∈ its ++ [y], i.a ≠ hp)
    (hd : Nds (its.set 0 y)) (hz : its.length < 900)
    (q0 : its = [] → ∀ h' tk', Keep [hp] h h' → At h' hp (.list []) → Q y.v (Z z h' tk'))
    (q1 : ∀ f, its[0]? = some f → ∀ h' tk', Keep [hp] h h' → At h' hp (.list ((sup y (its.set 0 y)).map Itm.v)) → Q f.v (Z z h' tk')) :
    wpAny (MM w) A (call (.ref 79) [.ref hp]) Q E (Z z h tk) := by
  refine' enter [(hp, .list ((its ++ [y]).map Itm.v))] [("heap", .ref hp)] r G k₀ ?hM ?nd ?ho ?hcd ?hb ?hr ?hlc ?c1 ?c2 ?c3 ?c4 ?body
  case hM => intro p hp; rw [List.mem_singleton.mp hp]; exact ⟨hl, hg⟩
  case nd => simp
  wtm_at "enter"
  case body =>
    intro A' g L h₁ tk₁ r' G' kg gk S
    have hig : ∀ i ∈ its ++ [y], ItAt g i := fun i him => by
      have hne := hne i him
      obtain ⟨t, t', t'', hA⟩ := hi i him
      exact ⟨t, t', t'', hA.keeps fun o e => kg _ o e (by simpa using hne)⟩
    rw [List.map_append] at S
    with_reducible refine xs_assign (by with_unfolding_all rfl) ?_
    refine m_call0 F.plainAttrs_list F.slot_list_pop F.type_list_pop (by wtm_at "rf") (by wtm_at "rf") (by wtm_at "rf") ?_
    with_reducible refine e_local (by assumption) (by with_unfolding_all rfl) (by with_unfolding_all rfl) (by with_unfolding_all rfl) (by with_unfolding_all rfl) (by decide) ?_
    with_reducible refine m_list (by wtm_at "at") ?_
    rename St _ _ _ _ _ => S
    refine s_pop S (by wtm_at "mem") (by wtm_at "up") (by simp [sizeLine]; omega) ?_
    clear S
    intro h₂ S
    ((rename St _ _ _ _ _ => S0); (with_reducible refine s_store S0 (by with_unfolding_all rfl) (by with_unfolding_all rfl) (by with_unfolding_all rfl) ?_); (intro _ _; clear S0))
    with_reducible refine xs_if ?_
    with_reducible refine wpAny_isTrue_value ?_ (by with_unfolding_all rfl)
    with_reducible refine e_local (by assumption) (by with_unfolding_all rfl) (by with_unfolding_all rfl) (by with_unfolding_all rfl) (by with_unfolding_all rfl) (by decide) ?_
    refine l_truthy (by wtm_at "at") (by simp; omega) ?_
    cases its with
    | nil =>
      refine i_ff ?_
      with_reducible refine xs_nil ?_
      with_reducible refine after_next ?_
      with_reducible refine xs_return ?_
      with_reducible refine e_local (by assumption) (by with_unfolding_all rfl) (by with_unfolding_all rfl) (by with_unfolding_all rfl) (by with_unfolding_all rfl) (by decide) ?_
      rename St _ _ _ _ _ => S
      exact q0 rfl _ _ (fun a o e n => S.keep a o (kg a o e n)) (S.at (by wtm_at "mem"))
    | cons f ys =>
      refine i_tt ?_
      with_reducible refine xs_assign (by with_unfolding_all rfl) ?_
      with_reducible refine Subscript_ ?_
      with_reducible refine e_local (by assumption) (by with_unfolding_all rfl) (by with_unfolding_all rfl) (by with_unfolding_all rfl) (by with_unfolding_all rfl) (by decide) ?_
      with_reducible refine z_int ?_
      refine e_item (by wtm_at "at") (by omega) (by omega) (v := f.v) (by rfl) (by wtm_at "rf") ?_
      ((rename St _ _ _ _ _ => S0); (with_reducible refine s_store S0 (by with_unfolding_all rfl) (by with_unfolding_all rfl) (by with_unfolding_all rfl) ?_); (intro _ _; clear S0))
      with_reducible refine xs_assign_sub (by with_unfolding_all rfl) ?_
      with_reducible refine e_local (by assumption) (by with_unfolding_all rfl) (by with_unfolding_all rfl) (by with_unfolding_all rfl) (by with_unfolding_all rfl) (by decide) ?_
      with_reducible refine e_local (by assumption) (by with_unfolding_all rfl) (by with_unfolding_all rfl) (by with_unfolding_all rfl) (by with_unfolding_all rfl) (by decide) ?_
      with_reducible refine z_int ?_
      ((rename St _ _ _ _ _ => S0); (with_reducible refine s_setItem S0 (by wtm_at "mem") (by wtm_at "up") (by omega) (by omega) (by first | omega | (simp; done) | (simp; omega)) ?_); (intro _ _; clear S0))
      with_reducible refine xs_expr (by with_unfolding_all rfl) (by with_unfolding_all rfl) ?_
      with_reducible refine wpAny_Call_NameR ?_
      with_reducible refine e_glob (by assumption) (by assumption) (by k_is) (by with_unfolding_all rfl) (by with_unfolding_all rfl) (by with_unfolding_all rfl) (by decide) ?_
      with_reducible refine c_def (by assumption) (by k_is) (by with_unfolding_all rfl) (by with_unfolding_all rfl) ?_
      with_reducible refine spliced_more ?_ (by with_unfolding_all rfl)
      with_reducible refine e_local (by assumption) (by with_unfolding_all rfl) (by with_unfolding_all rfl) (by with_unfolding_all rfl) (by with_unfolding_all rfl) (by decide) ?_
      with_reducible refine spliced_more ?_ (by with_unfolding_all rfl)
      with_reducible refine z_int ?_
      with_reducible refine spliced_none ?_
      with_reducible refine c_in (by assumption) (by assumption) ?_
      rename St _ _ _ _ _ => S
      rw [show ((f :: ys).map Itm.v).set ((0 : Int)).toNat y.v = ((f :: ys).set 0 y).map Itm.v from e1_ (p := 0)] at S
      refine siftup_c (its := (f :: ys).set 0 y) (x := y) r' G' S.keep (S.fresh (by wtm_at "mem")) (S.at (by wtm_at "mem")) ?_ (by simp) hd (by simp at hz ⊢; omega) ?_
      · intro i hi'
        have hm : i ∈ (f :: ys) ++ [y] := by
          rcases List.mem_or_eq_of_mem_set hi' with h1 | h1
          · exact List.mem_append_left _ h1
          · exact List.mem_append_right _ (h1 ▸ List.mem_singleton.mpr rfl)
        obtain ⟨v1, v2, v3, hA⟩ := hig i hm
        exact ⟨v1, v2, v3, S.old hA⟩
      · intro h' tk' kp hat
        have S := S.call1 (c' := .list ((sup y ((f :: ys).set 0 y)).map Itm.v)) (by wtm_at "up") kp hat
        with_reducible refine xs_return ?_
        with_reducible refine e_local (by assumption) (by with_unfolding_all rfl) (by with_unfolding_all rfl) (by with_unfolding_all rfl) (by with_unfolding_all rfl) (by decide) ?_
        with_reducible refine after_ret ?_
        exact q1 f rfl _ _ (fun a o e n => S.keep a o (kg a o e n)) (S.at (by wtm_at "mem"))
end
section
theorem nf_nil {m : Str → Option Value} : ∀ x w, ([] : List (Str × Value)).lookup x = some w → m x = some w := fun _ _ e => nomatch e
theorem nf_cons {m : Str → Option Value} {ρ' : List (Str × Value)} {n : Str} {v : Value} (h : m n = some v) (r : ∀ x w, ρ'.lookup x = some w → m x = some w) : ∀ x w, ((n, v) :: ρ').lookup x = some w → m x = some w := fun x w e => by
  rw [List.lookup_cons] at e
  by_cases q : x = n
  · rw [show (x == n) = true from beq_iff_eq.mpr q] at e
    rw [q]; exact h.trans e
  · rw [show (x == n) = false from beq_eq_false_iff_ne.mpr q] at e
    exact r x w e
section
variable {w : World} {A : Around} {E : Value → Shared → Prop} {z : Shared} {h : Heap} {tk : Nat}
theorem enterC {g₀ : Heap} {f : Addr} {pos : List Value} {kw : List (Str × Value)} {k : Nat} {Q : Value → Shared → Prop}
    {name qual : Str} {params : Arguments} {body : List Stmt} {scope : Scope} {dV kV doc pm cdv ct oc : Value} {an od : Option Addr} {osl : Array (Option Value)} {binds : List (Str × Value)}
    (M : List (Addr × Ct)) (ρ : List (Str × Value)) (C : Addr → List (Addr × Ct)) (r : Rm A (k + 1)) (G : Gd w g₀) (k₀ : ∀ b o, g₀.get? b = some o → h.get? b = some o) (hM : ∀ p ∈ M, At h p.1 p.2 ∧ g₀.get? p.1 = none) (nd : (M.map (·.1)).Nodup)
    (ho : (hd.heap_1 w.params).lookup f = some ⟨oc, od, .func (fnOf name qual params body scope dV kV doc pm an cdv ct), osl⟩) (hcd : codeIn (hd.heap_1 w.params) cdv qual = true)
    (hbind : BindsTo (Z z h tk) (fnOf name qual params body scope dV kV doc pm an cdv ct) ⟨pos, kw⟩ binds) (hρ : ∀ L x v, ρ.lookup x = some v → bindL (envOfC qual scope L f cdv).kindOf binds (fun _ => none) x = some v)
    (hC : ∀ L, (cellsFrom (L + 1) scope.names []).map (fun p => (p.2, Ct.cell (bindC (envOfC qual scope L f cdv).kindOf binds (fun _ => none) p.1))) = C L)
    (hkind : (binds.all fun y => scope.names.lookup y.1 == some .local || scope.names.lookup y.1 == some .cell) = true)
    (hco : scope.isCoroutine = false) (hgen : scope.isGenerator = false) (hk : scope.kind = .function) (hnd : ((cellsFrom 0 scope.names []).map (·.1)).Nodup)
    (body' : ∀ A' g L h₁ tk₁, Rm A' k → Gd w g → (∀ b o, h.get? b = some o → b ∉ M.map (·.1) → g.get? b = some o) → (∀ b o, g.get? b = some o → h.get? b = some o) → St g L ρ (C L ++ M) h₁ →
      wpAny (MM w) A' (execs body (envOfC qual scope L f cdv)) (fun fl s' => Q (retv fl) s') NoE (Z z h₁ tk₁)) :
    wpAny (MM w) A (call (.ref f) pos kw) Q E (Z z h tk) := by
  have Gh := G.keeps k₀
  obtain ⟨p, l, mn, mg, mb, T⟩ := Gh.T
  refine wpAny_call (codeAny_call_function (fd := fnOf name qual params body scope dV kV doc pm an cdv ct) r.room (Gh.X _ _ ho) rfl hco hgen rfl (codeRec_of Gh.X hcd) (hbind _ _ _ _ ?_))
  refine wpAny_newFunctionEnv_cells hk (kindsX hkind _) fun env' he s' x => ?_
  subst he
  refine ⟨T.nolimit.keeps x.toInCall.keep, codeAny_func ?_⟩
  obtain ⟨h₁, tk₁, rfl, _⟩ := x.done
  have hk₁ := x.toInCall.keep
  dsimp only at hk₁
  have hs : ∀ b o, h.get? b = some o → b ∉ M.map (·.1) → (hideAll h (M.map (·.1))).get? b = some o := fun b o e n => hideAll_get _ e n
  have G' : Gd w (hideAll h (M.map (·.1))) := G.keeps fun b o e => hs b o (k₀ b o e) fun q => by
    obtain ⟨p, hp, rfl⟩ := List.mem_map.mp q
    rw [(hM p hp).2] at e; cases e
  have hL : (hideAll h (M.map (·.1))).get? h.objs.size = none := by
    cases q : (hideAll h (M.map (·.1))).get? h.objs.size with
    | none => rfl
    | some o => exact absurd (Heap.lt_size (of_hideAll _ q)) (Nat.lt_irrefl _)
  have hcell : ∀ n c, (n, c) ∈ cellsFrom (h.objs.size + 1) scope.names [] → h₁.IsCell c (bindC (envOfC qual scope h.objs.size f cdv).kindOf binds (fun _ => none) n) ∧ h.objs.size < c := fun n c hm =>
    ⟨x.cell n c (lookup_of_mem_nodup (cellsFrom_names scope.names 0 (h.objs.size + 1) [] [] rfl ▸ hnd) hm), x.above n c hm⟩
  have S : St (hideAll h (M.map (·.1))) h.objs.size ρ (C h.objs.size ++ M) h₁ := by
    refine ⟨⟨_, x.toInCall.ns, hρ _⟩, fun b o e => hk₁ b o (of_hideAll _ e), hL, fun p hp => ?_, ?_⟩
    · rcases List.mem_append.mp hp with hp | hp
      · rw [← hC] at hp
        obtain ⟨⟨n, c⟩, hm, rfl⟩ := List.mem_map.mp hp
        obtain ⟨⟨o, ho', hd'⟩, hlt⟩ := hcell n c hm
        refine ⟨⟨o, ho', hd'⟩, Nat.ne_of_gt hlt, ?_⟩
        cases q : (hideAll h (M.map (·.1))).get? c with
        | none => rfl
        | some o => exact absurd (Heap.lt_size (of_hideAll _ q)) (Nat.not_lt.mpr (Nat.le_of_lt hlt))
      · exact ⟨(hM p hp).1.keeps fun o e => hk₁ _ _ e, Nat.ne_of_lt (hM p hp).1.lt, hideAll_none _ (List.mem_map_of_mem hp)⟩
    · rw [← hC, List.map_append, List.map_map]
      refine List.nodup_append.mpr ⟨?_, nd, ?_⟩
      · show ((cellsFrom (h.objs.size + 1) scope.names []).map (fun p => p.2)).Nodup
        exact List.pairwise_map.mpr x.apart
      · intro a ha b hb e
        obtain ⟨⟨n, c⟩, hm, rfl⟩ := List.mem_map.mp ha
        obtain ⟨p, hp, rfl⟩ := List.mem_map.mp hb
        have h1 := (hcell n c hm).2
        have h2 := (hM p hp).1.lt
        have e' : c = p.1 := e
        rw [e'] at h1
        exact Nat.lt_asymm h1 h2
  have y := body' (A.deeper (envOfC qual scope h.objs.size f cdv)) (hideAll h (M.map (·.1))) h.objs.size h₁ tk₁ (r.deeper _) G' hs (fun b o e => of_hideAll _ e) S
  refine wpAny_mono y (fun fl s' q => ?_) fun _ _ e => e.elim
  cases fl <;> exact q
end
section
variable {w : World} {A : Around} {E : Value → Shared → Prop} {z : Shared} {g h : Heap} {tk : Nat} {L : Addr} {ρ : List (Str × Value)} {Δ Δ' : List (Addr × Ct)} {env : Env} {Q : Value → Shared → Prop}
theorem e_cell {x : Str} {pos : Pos} {v : Value} {c : Addr} (hc : env.cells.lookup x = some c) (hv : At h c (.cell (some v))) (hx : env.kindOf x = some .cell) (hk : env.scope.kind = .function) (hd : (x == ("__debug__" : Str)) = false)
    (q : Q v (Z z h tk)) : wpAny (MM w) A (eval (.Name x pos) env) Q E (Z z h tk) :=
  wpAny_Name (wpAny_loadName_cell (s := Z z h tk) hk hx hc hv q) hd
theorem e_free {x : Str} {pos : Pos} {v : Value} {c : Addr} (hc : env.cells.lookup x = some c) (hv : At h c (.cell (some v))) (hx : env.kindOf x = some .free) (hk : env.scope.kind = .function) (hd : (x == ("__debug__" : Str)) = false) (hn : (x == ("__classdict__" : Str)) = false)
    (q : Q v (Z z h tk)) : wpAny (MM w) A (eval (.Name x pos) env) Q E (Z z h tk) :=
  wpAny_Name (wpAny_loadName_free (s := Z z h tk) hk hx hc hv q hn) hd
theorem s_storeC {x : Str} {v : Value} {c : Addr} {v₀ : Option Value} {Q : Unit → Shared → Prop} (S : St g L ρ Δ h) (hc : env.cells.lookup x = some c) (hm : (c, .cell v₀) ∈ Δ) (u : Up c (.cell (some v)) Δ Δ') (hx : env.kindOf x = some .cell) (hk : env.scope.kind = .function)
    (q : ∀ h', St g L ρ Δ' h' → Q () (Z z h' tk)) : wpAny (MM w) A (storeName env x v) Q E (Z z h tk) :=
  wpAny_storeName_cell (s := Z z h tk) hk hx hc (S.at hm) fun h' hv hs => q h' (S.upd u hs hv)
end
end
section
section
variable {g gi h h₂ h₃ : Heap} {L C : Addr} {ρ ρ' : List (Str × Value)} {M Δr Δi : List (Addr × Ct)}
/-- back from an inner frame (a comprehension's): what it held goes on -/
theorem St.back (S : St g L ρ (M ++ Δr) h) (hs : ∀ b o, h.get? b = some o → b ∉ M.map (·.1) → gi.get? b = some o) (Si : St gi C ρ' Δi h₂) (hC : h.get? C = none) (hsb : Heap.SameBut C h₂ h₃) : St g L ρ (Δi ++ Δr) h₃ := by
  have nd := S.nd
  rw [List.map_append, List.nodup_append] at nd
  have ex : ∀ b o, h.get? b = some o → b ∉ M.map (·.1) → h₃.get? b = some o := fun b o e n =>
    (hsb.2 b (fun q => by rw [q, hC] at e; cases e)).trans (Si.keep b o (hs b o e n))
  have nM : ∀ b o, g.get? b = some o → b ∉ M.map (·.1) := fun b o e q => by
    obtain ⟨p, hp, rfl⟩ := List.mem_map.mp q
    rw [(S.nw p (List.mem_append_left _ hp)).2.2] at e; cases e
  have nr : ∀ p ∈ Δr, p.1 ∉ M.map (·.1) := fun p hp q => nd.2.2 p.1 q p.1 (List.mem_map_of_mem hp) rfl
  have nL : L ∉ M.map (·.1) := fun q => by
    obtain ⟨p, hp, e⟩ := List.mem_map.mp q
    exact (S.nw p (List.mem_append_left _ hp)).2.1 e
  obtain ⟨m, ⟨oL, es, ep, hL, hd'⟩, hr⟩ := S.loc
  refine ⟨⟨m, ⟨oL, es, ep, ex L oL hL nL, hd'⟩, hr⟩, fun b o e => ex b o (S.keep b o e) (nM b o e), S.offL, fun p hp => ?_, ?_⟩
  · rcases List.mem_append.mp hp with hp | hp
    · obtain ⟨y1, y2, y3⟩ := Si.nw p hp
      refine ⟨y1.keeps fun o e => (hsb.2 _ y2).trans e, fun q => ?_, ?_⟩
      · rw [q, hs L oL hL nL] at y3; cases y3
      · cases q : g.get? p.1 with
        | none => rfl
        | some o => rw [hs p.1 o (S.keep _ _ q) (nM _ _ q)] at y3; cases y3
    · obtain ⟨y1, y2, y3⟩ := S.nw p (List.mem_append_right _ hp)
      exact ⟨y1.keeps fun o e => ex _ _ e (nr p hp), y2, y3⟩
  · rw [List.map_append, List.nodup_append]
    refine ⟨Si.nd, nd.2.1, fun a ha b hb e => ?_⟩
    obtain ⟨p, hp, rfl⟩ := List.mem_map.mp ha
    obtain ⟨q, hq, rfl⟩ := List.mem_map.mp hb
    obtain ⟨y1, y2, y3⟩ := Si.nw p hp
    obtain ⟨o, ho⟩ := (S.nw q (List.mem_append_right _ hq)).1.has
    rw [e, hs q.1 o ho (nr q hq)] at y3; cases y3
theorem St.perm {Δ Δ' : List (Addr × Ct)} (S : St g L ρ Δ h) (p : Δ'.Perm Δ) : St g L ρ Δ' h := ⟨S.loc, S.keep, S.offL, fun x hx => S.nw x (p.mem_iff.mp hx), (p.map _).nodup_iff.mpr S.nd⟩
theorem St.inn {gi : Heap} {M Δr : List (Addr × Ct)} {a : Addr} {c : Ct} (S : St g L ρ (M ++ Δr) h) (hs : ∀ b o, h.get? b = some o → b ∉ M.map (·.1) → gi.get? b = some o) (hm : (a, c) ∈ Δr) : At gi a c := by
  have nd := S.nd
  rw [List.map_append, List.nodup_append] at nd
  exact (S.nw _ (List.mem_append_right _ hm)).1.keeps fun o e => hs a o e fun q => nd.2.2 a q a (List.mem_map_of_mem hm) rfl
theorem St.ing {gi : Heap} {M Δr : List (Addr × Ct)} {a : Addr} {c : Ct} (S : St g L ρ (M ++ Δr) h) (hs : ∀ b o, h.get? b = some o → b ∉ M.map (·.1) → gi.get? b = some o) (x : At g a c) : At gi a c :=
  x.keeps fun o e => hs a o (S.keep a o e) fun q => by
    obtain ⟨p, hp, rfl⟩ := List.mem_map.mp q
    rw [(S.nw p (List.mem_append_left _ hp)).2.2] at e; cases e
end
noncomputable def CompAt (w : World) (A : Around) (env : Env) (e : Expr) (scope : Scope) (cl : List (Str × Addr)) (use : Option (Value → Sem Unit)) (Q : Value → Shared → Prop) (it : Value) (s : Shared) : Prop :=
  wpAny (MM w) A (newList []) (fun acc s₃ => wpAny (MM w) A (newFunctionEnv scope env.globals cl [] env.qual none .none (some env)) (fun cenv s₄ =>
    codeAny (MM w) A (.compStart e 0 it acc { cenv with scope := relabel scope env }) (compPost (MM w) A NoE use Q acc cenv.locals) s₄) NoE s₃) NoE s
section
variable {w : World} {A : Around} {z : Shared} {g h : Heap} {tk : Nat} {L : Addr} {ρ : List (Str × Value)} {Δ M Δr : List (Addr × Ct)} {env : Env} {s : Shared} {Q : Value → Shared → Prop} {cl : List (Str × Addr)} {scope : Scope}
theorem e_comp {elt target iter : Expr} {gs : List Comprehension} {pos : Pos} (hs : ∀ x, foldedSetIterable iter env x = pure x) (hclos : closureFor scope env = pure cl) (hkind : scope.kind = .function)
    (hnames : ∀ x ∈ scope.names, x.2 = .local → scope.names.lookup x.1 = some .local)
    (q : wpAny (MM w) A (eval iter env) (fun x s₁ => wpAny (MM w) A (pyIter x) (fun it s₂ => CompAt w A env (.ListComp elt (⟨target, iter, [], 0⟩ :: gs) scope pos) scope cl none Q it s₂) NoE s₁) NoE s) :
    wpAny (MM w) A (eval (.ListComp elt (⟨target, iter, [], 0⟩ :: gs) scope pos) env) Q NoE s := by
  rw [eval_ListComp]
  exact wpAny_comprehension_free (use := none) rfl hs hclos hkind hnames q
theorem comp_at {e : Expr} {it : Value} (S : St g L ρ (M ++ Δr) h) (G : Gd w g) (hcell : ∀ y ∈ scope.names, y.2 ≠ .cell) (hkind : scope.kind = .function)
    (loop : ∀ gi C acc h₁ tk₁, Gd w gi → (∀ b o, h.get? b = some o → b ∉ M.map (·.1) → gi.get? b = some o) → (∀ b o, gi.get? b = some o → h.get? b = some o) → h.get? acc = none → St gi C [] (M ++ [(acc, .list [])]) h₁ →
      codeAny (MM w) A (.compStart e 0 it (.ref acc) (compEnvC scope cl C env)) (fun r s' => r = .ok .next ∧ ∃ h₂ tk₂ ρ' Δi, s' = Z z h₂ tk₂ ∧ St gi C ρ' Δi h₂ ∧ ∀ h₃, St g L ρ (Δi ++ Δr) h₃ → Q (.ref acc) (Z z h₃ tk₂)) (Z z h₁ tk₁)) :
    CompAt w A env e scope cl none Q it (Z z h tk) := by
  refine wpAny_newList (s := Z z h tk) (wpAny_newFunctionEnv hcell (by intro y hy; simp at hy) (fun h₁ hns₁ hsb₁ => ?_) hkind) (by simp)
  dsimp only at hns₁ hsb₁ ⊢
  have hM : ∀ p ∈ M, At h p.1 p.2 ∧ p.1 ≠ L ∧ g.get? p.1 = none := fun p hp => S.nw p (List.mem_append_left _ hp)
  have hs : ∀ b o, h.get? b = some o → b ∉ M.map (·.1) → (hideAll h (M.map (·.1))).get? b = some o := fun b o e n => hideAll_get _ e n
  have G' : Gd w (hideAll h (M.map (·.1))) := G.keeps fun b o e => hs b o (S.keep b o e) fun q => by
    obtain ⟨p, hp, rfl⟩ := List.mem_map.mp q
    rw [(hM p hp).2.2] at e; cases e
  have hsz : (h.push (lo [] 0)).objs.size = h.objs.size + 1 := Heap.size_push ..
  have old : ∀ b o, h.get? b = some o → h₁.get? b = some o := fun b o e => hsb₁.extBut b o (by
    have := Heap.lt_size e
    show b ≠ (h.push (lo [] 0)).objs.size
    rw [hsz]; exact Nat.ne_of_lt (Nat.lt_succ_of_lt this)) (Heap.get?_push_of_some _ (Heap.get?_push_of_some _ e))
  have hCn : h.get? (h.push (lo [] 0)).objs.size = none := by
    cases q : h.get? (h.push (lo [] 0)).objs.size with
    | none => rfl
    | some o => have := Heap.lt_size q; rw [hsz] at this; exact absurd this (Nat.not_lt.mpr (Nat.le_succ _))
  have hacc : At h₁ h.objs.size (.list []) := At.list (n := 0) (hsb₁.extBut _ _ (by
    show h.objs.size ≠ (h.push (lo [] 0)).objs.size
    rw [hsz]; exact Nat.ne_of_lt (Nat.lt_succ_self _)) (Heap.get?_push_of_some _ (Heap.get?_push_size _ rfl)))
  have gn : ∀ b, h.get? b = none → (hideAll h (M.map (·.1))).get? b = none := fun b hb => by
    cases q : (hideAll h (M.map (·.1))).get? b with
    | none => rfl
    | some o => rw [of_hideAll _ q] at hb; cases hb
  have ndM : (M.map (·.1)).Nodup := by
    have nd := S.nd
    rw [List.map_append, List.nodup_append] at nd
    exact nd.1
  have Si : St (hideAll h (M.map (·.1))) (h.push (lo [] 0)).objs.size [] ((h.objs.size, .list []) :: M) h₁ := by
    refine ⟨⟨_, hns₁, fun x v e => nomatch e⟩, fun b o e => old b o (of_hideAll _ e), gn _ hCn, fun p hp => ?_, ?_⟩
    · rcases List.mem_cons.mp hp with rfl | hp
      · exact ⟨hacc, by show h.objs.size ≠ (h.push (lo [] 0)).objs.size; rw [hsz]; exact Nat.ne_of_lt (Nat.lt_succ_self _), gn _ (get_size h)⟩
      · refine ⟨(hM p hp).1.keeps fun o e => old _ _ e, ?_, hideAll_none _ (List.mem_map_of_mem hp)⟩
        have := (hM p hp).1.lt
        rw [hsz]; exact Nat.ne_of_lt (Nat.lt_succ_of_lt this)
    · refine List.nodup_cons.mpr ⟨fun q => ?_, ndM⟩
      obtain ⟨p, hp, e⟩ := List.mem_map.mp q
      have := (hM p hp).1.lt
      rw [e] at this
      exact Nat.lt_irrefl _ this
  refine codeAny_mono (loop _ _ _ h₁ (tk + 0) G' hs (fun b o e => of_hideAll _ e) (get_size h) (Si.perm (List.perm_append_comm (l₁ := M) (l₂ := [(h.objs.size, .list [])]))) ) fun r s' q => ?_
  obtain ⟨rfl, h₂, tk₂, ρ', Δi, rfl, S₂, fin⟩ := q
  obtain ⟨m, hn, _⟩ := S₂.loc
  exact ⟨m, hn, fun h₃ hsb => fin h₃ (S.back hs S₂ hCn hsb)⟩
theorem comp_loop {elt target iter : Expr} {pos : Pos} {cenv : Env} {acc : Addr} {it : Value} {R : Result → Shared → Prop} (ht : ∀ v, letOwnedTupleGo target it v = pure ())
    (self : ∀ (Q' : Value → Shared → Prop) (E' : Value → Shared → Prop), Q' it (Z z h tk) → wpAny (MM w) A (pyIter it) Q' E' (Z z h tk)) (n : Nat) (I : Nat → Heap → Prop) (i₀ : I 0 h)
    (turn : ∀ i h tk, i < n → I i h → wpAny (MM w) A (pyNext it) (fun r s₁ => ∃ v, r = some v ∧ wpAny (MM w) A (assign target cenv v) (fun _ s₂ => wpAny (MM w) A (eval elt cenv) (fun x s₃ =>
      wpAny (MM w) A (call (.builtin "list.append") [.ref acc, x]) (fun _ s₄ => ∃ h' tk', s₄ = Z z h' tk' ∧ I (i + 1) h') NoE s₃) NoE s₂) NoE s₁) NoE (Z z h tk))
    (fin : ∀ h tk, I n h → wpAny (MM w) A (pyNext it) (fun r s₁ => r = none ∧ R (.ok .next) s₁) NoE (Z z h tk)) :
    codeAny (MM w) A (.compStart (.ListComp elt [⟨target, iter, [], 0⟩] scope pos) 0 it (.ref acc) cenv) R (Z z h tk) := by
  have loop : codeAny (MM w) A (.compLoop (.ListComp elt [⟨target, iter, [], 0⟩] scope pos) 0 it (.ref acc) cenv) R (Z z h tk) := by
    refine codeAny_compLoop_list (fun k s' => ∃ i h₁ tk₁, i ≤ n ∧ n - i = k ∧ s' = Z z h₁ tk₁ ∧ I i h₁) ?_ n ⟨0, h, tk, by omega, by omega, rfl, i₀⟩ ht
    rintro k s' ⟨i, h₁, tk₁, hin, hk, rfl, i₁⟩
    by_cases hlt : i < n
    · refine wpAny_mono (turn i h₁ tk₁ hlt i₁) (fun r s₁ h₂ => ?_) fun _ _ x => x.elim
      obtain ⟨v, rfl, h₂⟩ := h₂
      refine wpAny_mono h₂ (fun _ s₂ h₃ => wpAny_mono h₃ (fun x s₃ h₄ => wpAny_mono h₄ (fun _ s₄ h₅ => ?_) fun _ _ x => x.elim) fun _ _ x => x.elim) fun _ _ x => x.elim
      obtain ⟨h', tk', rfl, j⟩ := h₅
      exact ⟨n - (i + 1), by omega, i + 1, h', tk', by omega, rfl, rfl, j⟩
    · have e : i = n := by omega
      subst e
      refine wpAny_mono (fin h₁ tk₁ i₁) (fun r s₁ h₂ => ?_) fun _ _ x => x.elim
      obtain ⟨rfl, h₂⟩ := h₂
      exact h₂
  exact codeAny_compStart_list loop (self _ _ loop)
theorem sf_list {it l : Addr} {i : Nat} {C : Addr} {Q' : Value → Shared → Prop} {E' : Value → Shared → Prop} (S : St g L ρ Δ h) (hm : (it, .pr (liP l i)) ∈ Δ) (q : Q' (.ref it) (Z z h tk)) : wpAny (MM w) A (pyIter (.ref it)) Q' E' (Z z h tk) :=
  wpAny_pyIter_listiter (s := Z z h tk) (l := l) (i := i) (S.at hm) q
theorem sf_bytes {it : Addr} {b : Array UInt8} {t : Tok} {i : Nat} {Q' : Value → Shared → Prop} {E' : Value → Shared → Prop} (S : St g L ρ Δ h) (hm : (it, .pr (biP b t i)) ∈ Δ) (q : Q' (.ref it) (Z z h tk)) : wpAny (MM w) A (pyIter (.ref it)) Q' E' (Z z h tk) :=
  KBw.pyIter_self (s := Z z h tk) (b := b) (t := t) (i := i) (S.at hm) q
theorem sf_range {it : Addr} {a : Int} {n i : Nat} {Q' : Value → Shared → Prop} {E' : Value → Shared → Prop} (S : St g L ρ Δ h) (hm : (it, .pr (riP a n i)) ∈ Δ) (q : Q' (.ref it) (Z z h tk)) : wpAny (MM w) A (pyIter (.ref it)) Q' E' (Z z h tk) := by
  obtain ⟨o, ho, rfl⟩ := S.at hm
  exact wpAny_pyIter_rangeiter (s := Z z h tk) ho q
end
end
section
noncomputable def rgP (n : Nat) (o : Obj) : Prop := ∃ t u v : Tok, o = { cls := .type "range", dict := none, data := .fields #[.int 0 t, .int n u, .int 1 v], slots := #[] }
theorem St.sub {g h : Heap} {L : Addr} {ρ : List (Str × Value)} {Δ Δ' : List (Addr × Ct)} (S : St g L ρ Δ h) (hs : Δ'.Sublist Δ) : St g L ρ Δ' h := S.less (fun _ hp => hs.subset hp) ((hs.map _).nodup S.nd)
theorem Keep.ext {h h' : Heap} (x : Heap.ExtBut h.objs.size h h') : Keep [] h h' := fun a o e _ => x a o (Nat.ne_of_lt (Heap.lt_size e)) e
section
variable {w : World} {A : Around} {E : Value → Shared → Prop} {z : Shared} {g h : Heap} {tk : Nat} {L : Addr} {ρ : List (Str × Value)} {Δ : List (Addr × Ct)} {env : Env} {rest body : List Stmt} {s : Shared}
theorem s_range {n : Nat} {t : Tok} {Q : Value → Shared → Prop} (S : St g L ρ Δ h) (q : ∀ r h', St g L ρ ((r, .pr (rgP n)) :: Δ) h' → Q (.ref r) (Z z h' (tk + 2))) : wpAny (MM w) A (call (.type "range") [.int n t]) Q E (Z z h tk) :=
  call_range_1 (s := Z z h tk) (q _ _ (S.newAt (Keep.push _) (get_size h) ⟨_, Heap.get?_push_size _ rfl, _, _, _, rfl⟩))
theorem it_range {r : Addr} {n : Nat} {Q : Value → Shared → Prop} (S : St g L ρ Δ h) (hr : At h r (.pr (rgP n))) (hz : n < 2 ^ 60) (q : ∀ it h', h.get? it = none → Keep [] h h' → St g L ρ ((it, .pr (riP 0 n 0)) :: Δ) h' → Q (.ref it) (Z z h' tk)) :
    wpAny (MM w) A (pyIter (.ref r)) Q E (Z z h tk) := by
  obtain ⟨o, ho, t, u, v, rfl⟩ := hr
  have hz' : (n : Int) < 2 ^ 60 := by
    have : ((2 ^ 60 : Nat) : Int) = 2 ^ 60 := by norm_cast
    omega
  refine wpAny_pyIter_range (s := Z z h tk) (a := 0) (b := n) (c := 1) ho (small_one (by omega) (by omega) (by omega) (by omega)) (q _ _ (get_size h) (Keep.push _) (S.newAt (Keep.push _) (get_size h) ⟨_, Heap.get?_push_size _ rfl, ?_⟩))
  show _ = _
  rw [rangeSize_one]
  have e1 : (if (0 : Int) < (n : Int) then (n : Int) - 0 else 0) = (n : Int) - ((0 : Nat) : Int) := by split <;> omega
  rw [e1]
  simp
theorem draw_list {it l : Addr} {items : Array Value} (hne : l ≠ it) : ∀ (k i : Nat) (s : Shared) (Q : List Value → Shared → Prop), s.heap.IsListIter it l i → s.heap.IsList l items → i + k ≤ items.size →
    (∀ h', h'.IsListIter it l (i + k) → Heap.SameBut it s.heap h' → Q ((items.toList.drop i).take k) { s with heap := h' }) → wpAny (MM w) A (draw (.ref it) k) Q E s
  | 0, i, s, Q, hit, hl, hk, q => by
    rw [draw]
    exact wpAny_pure (by simpa using q s.heap hit (Heap.SameBut.refl _ _))
  | k + 1, i, s, Q, hit, hl, hk, q => by
    rw [draw]
    have hlt : i < items.size := by omega
    refine wpAny_bind (wpAny_pyNext_list_item hit hl (x := items[i]) (by simp [hlt]) fun h₁ hit₁ hs₁ => ?_)
    refine wpAny_bind (wpAny_holding (draw_list hne k (i + 1) _ _ hit₁ (hl.extBut hs₁.extBut hne) (by omega) fun h₂ hit₂ hs₂ => wpAny_pure ?_))
    have hd : items.toList.drop i = items[i] :: items.toList.drop (i + 1) := by simp [List.drop_eq_getElem_cons, hlt]
    have := q h₂ (by rw [show i + (k + 1) = i + 1 + k by omega]; exact hit₂) (hs₁.trans hs₂)
    rw [hd, List.take_succ_cons] at this
    exact this
theorem unpackItems_list {l : Addr} {items : Array Value} {Q : List Value → Shared → Prop} (hh : A.handled = none) (hl : s.heap.IsList l items)
    (q : ∀ h', Heap.ExtBut s.heap.objs.size s.heap h' → Q items.toList { s with heap := h' }) : wpAny (MM w) A (unpackItems (.ref l) items.size none) Q E s := by
  have hlt : l ≠ s.heap.objs.size := by obtain ⟨o, ho, _⟩ := hl; exact Nat.ne_of_lt (Heap.lt_size ho)
  unfold unpackItems
  refine wpAny_bind ?_
  unfold notIterableAtAll
  refine wpAny_bind (wpAny_specialOf hl.typeIs slot_list_iter.lookup ?_)
  refine wpAny_pure ?_
  simp only [Bool.false_eq_true, if_false]
  refine wpAny_bind (wpAny_holding (wpAny_pyIter_list hl ?_))
  refine wpAny_bind (wpAny_holding (draw_list hlt items.size 0 _ _ ⟨_, Heap.get?_push_size _ rfl, rfl, rfl⟩ (hl.push _) (by omega) fun h₁ hit₁ hs₁ => ?_))
  have hall : List.take items.size (List.drop 0 items.toList) = items.toList := by
    rw [List.drop_zero]; exact List.take_of_length_le (by simp)
  rw [hall]
  rw [if_neg (by simp)]
  have ht₁ : h₁.IsList l items := (hl.push _).extBut hs₁.extBut hlt
  refine wpAny_bind (wpAny_holding (wpAny_pyNext_list_end hh hit₁ ht₁ (by simp) fun h₂ he₂ => ?_))
  simp only [Option.isSome_none, Bool.false_eq_true, if_false]
  exact wpAny_pure (q h₂ fun b o hb e => he₂ b o hb (hs₁.extBut b o hb (Heap.get?_push_of_some _ e)))
theorem as_list {elts : List Expr} {x1} {pos : Pos} {l : Addr} {vs : List Value} {Q : Unit → Shared → Prop} (hh : A.handled = none) (S : St g L ρ Δ h) (hl : At h l (.list vs)) (hn : (assignEach elts env).length = vs.length) (hstar : (assignEach elts env).findIdx? (·.1) = none)
    (q : ∀ h', St g L ρ Δ h' → wpAny (MM w) A (assignInOrder ((assignEach elts env).map (·.2)) vs) Q E (Z z h' tk)) : wpAny (MM w) A (assign (.Tuple elts x1 pos) env (.ref l)) Q E (Z z h tk) := by
  rw [arm_assign_Tuple]
  refine wpAny_bind (wpAny_standAt ?_)
  unfold unpack
  rw [hn, hstar]
  refine wpAny_bind (wpAny_holding ?_)
  have e : vs.length = vs.toArray.size := by simp
  rw [e]
  exact unpackItems_list (s := Z z h tk) hh hl.isList fun h' hx => q h' (S.keepAll (Keep.ext hx))
theorem as_tup {elts : List Expr} {x1} {pos : Pos} {l : Addr} {vs : List Value} {Q : Unit → Shared → Prop} (hh : A.handled = none) (S : St g L ρ Δ h) (hl : At h l (.tup vs)) (hn : (assignEach elts env).length = vs.length) (hstar : (assignEach elts env).findIdx? (·.1) = none)
    (q : ∀ h', St g L ρ Δ h' → wpAny (MM w) A (assignInOrder ((assignEach elts env).map (·.2)) vs) Q E (Z z h' tk)) : wpAny (MM w) A (assign (.Tuple elts x1 pos) env (.ref l)) Q E (Z z h tk) :=
  wpAny_assign_Tuple (s := Z z h tk) hh hl.isTuple (by simpa using hn) hstar fun h' hx => q h' (S.keepAll (Keep.ext hx))
theorem xs_assign_tup {elts : List Expr} {k} {tpos : Pos} {value : Expr} {pos : Pos} {Q : Flow → Shared → Prop} (hs : swapsWithSole [.Tuple elts k tpos] value pos.line env = pure false) (hw : swappedStores [.Tuple elts k tpos] value env = pure none)
    (q : wpAny (MM w) A (eval value env) (fun v s₁ => wpAny (MM w) A (assign (.Tuple elts k tpos) env v) (fun _ s₂ => wpAny (MM w) A (execs rest env) Q E s₂) E s₁) E s) :
    wpAny (MM w) A (execs (.Assign [.Tuple elts k tpos] value pos :: rest) env) Q E s := wpAny_execs_cons (Assign_Tuple q hs hw)
theorem ao_nil {xs : List Value} {Q : Unit → Shared → Prop} (q : Q () s) : wpAny (MM w) A (assignInOrder ((assignEach [] env).map (·.2)) xs) Q E s := wpAny_pure q
theorem ao_cons {t : Expr} {ts : List Expr} {x : Value} {xs : List Value} {Q : Unit → Shared → Prop} (he : (assignEach (t :: ts) env).map (·.2) = assign t env :: (assignEach ts env).map (·.2))
    (q : wpAny (MM w) A (assign t env x) (fun _ s₁ => wpAny (MM w) A (assignInOrder ((assignEach ts env).map (·.2)) xs) Q E s₁) E s) : wpAny (MM w) A (assignInOrder ((assignEach (t :: ts) env).map (·.2)) (x :: xs)) Q E s := by
  rw [he]
  show wpAny _ _ (do holding xs (assign t env x); assignInOrder ((assignEach ts env).map (·.2)) xs) _ _ _
  exact wpAny_bind (wpAny_holding q)
/-- a, b, c = (x, y, z) upon three names of the frame: stored the last first -/
theorem xs_assign_swap {elts : List Expr} {k} {tpos : Pos} {value : Expr} {pos : Pos} {names : List Str} {Q : Flow → Shared → Prop} (hs : swapsWithSole [.Tuple elts k tpos] value pos.line env = pure false) (hw : swappedStores [.Tuple elts k tpos] value env = pure (some names))
    (q : wpAny (MM w) A (eval value env) (fun v s₁ => wpAny (MM w) A (unpackItems v names.length none) (fun items s₂ => wpAny (MM w) A (assignInOrder (names.reverse.map fun n => bindName env n) items.reverse) (fun _ s₃ => wpAny (MM w) A (execs rest env) Q E s₃) E s₂) E s₁) E s) :
    wpAny (MM w) A (execs (.Assign [.Tuple elts k tpos] value pos :: rest) env) Q E s := by
  refine wpAny_execs_cons ?_
  rw [exec_Assign_arm]
  refine wpAny_bind (wpAny_standAt ?_)
  rw [hs]
  refine wpAny_bind (wpAny_pure ?_)
  rw [if_neg (by decide)]
  refine wpAny_bind (wpAny_mono q (fun v s₁ h₁ => ?_) fun _ _ x => x)
  rw [hw]
  refine wpAny_bind (wpAny_pure ?_)
  show wpAny _ _ (do rule "assign.swapped-stores"; let items ← unpackItems v names.length none; assignInOrder (names.reverse.map fun n => bindName env n) items.reverse; pure Flow.next) _ _ _
  exact wpAny_bind (wpAny_rule (wpAny_bind (wpAny_mono h₁ (fun items s₂ h₂ => wpAny_bind (wpAny_mono h₂ (fun _ _ x => wpAny_pure x) fun _ _ x => x)) fun _ _ x => x)))
theorem un_tup {l : Addr} {vs : List Value} {n : Nat} {Q : List Value → Shared → Prop} (hh : A.handled = none) (S : St g L ρ Δ h) (hl : At h l (.tup vs)) (hn : n = vs.length) (q : ∀ h', St g L ρ Δ h' → Q vs (Z z h' tk)) : wpAny (MM w) A (unpackItems (.ref l) n none) Q E (Z z h tk) := by
  subst hn
  have e : vs.length = vs.toArray.size := by simp
  rw [e]
  exact wpAny_unpackItems_tuple (s := Z z h tk) hh hl.isTuple fun h' hx => q h' (S.keepAll (Keep.ext hx))
end
end
section
section
variable {w : World} {A : Around} {E : Value → Shared → Prop} {z : Shared} {g h : Heap} {tk : Nat} {env : Env} {Q : Value → Shared → Prop} {a b : Int} {t u : Tok} {s : Shared} {L : Addr} {ρ : List (Str × Value)} {Δ : List (Addr × Ct)}
theorem z_pow (ha : 2 ≤ a) (ha' : a < 2 ^ 64) (hb : 0 ≤ b) (hb' : b ≤ 1000) (q : Q (.int (a ^ b.toNat) tk) (Z z h (tk + 1))) : wpAny (MM w) A (binaryOp .Pow (.int a t) (.int b u)) Q E (Z z h tk) := by
  by_cases hb0 : b = 0
  · subst hb0
    have e : a ^ (0 : Int).toNat = 1 := by simp
    rw [e] at q
    exact AutoIntOps.pow_0 (by decide) (by decide) q
  · refine AutoIntOps.pow_4 (by omega) (by simpa using hb0) (by simp; omega) (by simp; omega) ?_ q
    have h1 := intBits_le_64 (k := a) (by omega) ha'
    have h2 : ((Builtin.Int.intBits a : Nat) : Int) * b ≤ 64 * 1000 := Int.mul_le_mul (by omega) hb' hb (by omega)
    intro hc
    simp [Builtin.Int.intTooBig, bitsLine] at hc
    omega
theorem z_fdivL (hb : 0 < b) (hb2 : b < 2 ^ 64) (q : Q (.int (a / b) tk) (Z z h (tk + 1))) : wpAny (MM w) A (binaryOp .FloorDiv (.int a t) (.int b u)) Q E (Z z h tk) :=
  floordiv_int (by omega) (by rw [Int.fdiv_eq_ediv_of_nonneg _ (by omega)]; exact q) (.inl (PyProof.noPylong_of_log2 (by
    have : b.natAbs < 2 ^ 64 := by omega
    have h2 : b.natAbs.log2 < 64 := (Nat.log2_lt (by omega)).mpr this
    omega)))
theorem z_neg (q : Q (.int (-a) tk) (Z z h (tk + 1))) : wpAny (MM w) A (unaryOp .USub (.int a t)) Q E (Z z h tk) := neg_int q
theorem z_sitem {x : Str} {c : Nat} {value slice : Expr} (h0 : 0 ≤ a) (hf : a < 2 ^ 63) (hc : x.cps[a.toNat]? = some c) (hs : subscripted slice false (.str x t) (.int a u) = operate [.str x t, .int a u] (getItem (.str x t) (.int a u)))
    (q : Q (.str ⟨#[c]⟩ tk) (Z z h (tk + 1))) : wpAny (MM w) A (subscriptTail value slice (.str x t) (.int a u)) Q E (Z z h tk) := by
  refine tail_any (typeIs_str (Z z h tk) x t) F.slot_str_getitem.lookup (P.getItem_str (s := Z z h tk) (c := c) ?_ ?_ q) hs
  · simp; omega
  · have hl : a.toNat < x.cps.size := (Array.getElem?_eq_some_iff.mp hc).1
    have hl' : a < (x.length : Nat) := by
      show a < ((x.cps.size : Nat) : Int)
      omega
    rw [seqIndex_of h0 hl']; exact hc
theorem z_blen {b : Array UInt8} (hz : b.size ≤ 1000000) (q : Q (.int b.size (tk + 1)) (Z z h (tk + 2))) : wpAny (MM w) A (call (.builtin "len") [.bytes b t]) Q E (Z z h tk) := len_bytes (s := Z z h tk) (by omega) q
theorem z_sadd {x y : Str} (hz : x.length + y.length ≤ sizeLine) (q : ∀ t' k, Q (.str (x ++ y) t') (Z z h k)) : wpAny (MM w) A (binaryOp .Add (.str x t) (.str y u)) Q E (Z z h tk) := PyProof.Rows.add_str (s := Z z h tk) (fun t' k => q t' k) hz
theorem z_smul {x : Str} {n : Int} (hn : n < 1000) (hn0 : 0 ≤ n) (hx : x.length ≤ 1000) (q : ∀ t' k, Q (.str (Txt.mul x n) t') (Z z h k)) : wpAny (MM w) A (binaryOp .Mult (.str x t) (.int n u)) Q E (Z z h tk) := by
  refine SB.mul (s := Z z h tk) ⟨by simp; omega, fun _ _ => ?_, fun _ _ => ?_⟩ fun t' k => q t' k
  · have h1 : (x.length : Int) ≤ 1000 := by omega
    have h2 : (1000 : Int) ≤ (2 ^ 63 - 1) / n := by
      rw [Int.le_ediv_iff_mul_le (by omega)]
      omega
    omega
  · simp only [Builtin.Str.tooLong, decide_eq_false_iff_not]
    have : x.length * n.toNat ≤ 1000 * 1000 := Nat.mul_le_mul hx (by omega)
    simp [sizeLine]
    omega
theorem m_call1 {o e : Expr} {rest : List Expr} {name : Str} {apos pos : Pos} {T id : String} (pa : PlainAttrs T) (slot : Slot T name id) (hty : typeOf (.builtin id) = pure (.type "method_descriptor"))
    (hbase : attributeBase o name env (eval o env) = eval o env)
    (hfew : ((backTo pos (starEach (e :: rest) env)).all (fun x => !x.1) && (backToKw pos (keywordEach [] env)).all (fun x => x.1.isSome)
      && decide ((e :: rest).length + ([] : List Keyword).length + (if ([] : List Keyword).isEmpty then 0 else 1) < 30)) = true)
    (hline : (apos.endLine == pos.line) = true) (he : starEach (e :: rest) env = (false, eval e env) :: starEach rest env) (hp : (backTo pos (starEach rest env)).any (·.1) = false)
    (q : wpAny (MM w) A (eval o env) (fun ov s₁ => s₁.TypeIs ov T ∧ (∀ a, ov = .ref a → ∃ ob, s₁.heap.get? a = some ob ∧ ob.dict = none) ∧ wpAny (MM w) A (spliced (backTo pos (starEach (e :: rest) env))) (fun vs s₂ => wpAny (MM w) A (call (.builtin id) (ov :: vs)) Q E s₂) E s₁) E s) :
    wpAny (MM w) A (eval (.Call (.Attribute o name apos) (e :: rest) [] pos) env) Q E s :=
  wpAny_Call_method hbase hfew hline pa slot hty (wpAny_mono q (fun ov s₁ h => ⟨h.1, h.2.1, callWith_method1 h.2.2 he hp⟩) fun _ _ x => x)
theorem m_str {x : Str} {X : Prop} (q : X) : s.TypeIs (.str x t) "str" ∧ (∀ b, Value.str x t = .ref b → ∃ ob, s.heap.get? b = some ob ∧ ob.dict = none) ∧ X := ⟨typeIs_str s x t, (fun b e => nomatch e), q⟩
theorem m_bytes {x : Array UInt8} {X : Prop} (q : X) : s.TypeIs (.bytes x t) "bytes" ∧ (∀ b, Value.bytes x t = .ref b → ∃ ob, s.heap.get? b = some ob ∧ ob.dict = none) ∧ X := ⟨typeIs_bytes s x t, (fun b e => nomatch e), q⟩
end
/-- one sign -/
noncomputable abbrev ch (c : Nat) : Str := ⟨#[c]⟩
theorem glue_ch (cs : List Nat) : Builtin.Str.glued Str.empty (cs.map ch) = ⟨cs.toArray⟩ := by
  have key : ∀ (r : List Nat) (acc : Array Nat), (r.map ch).foldl (fun acc p => acc ++ Str.empty.cps ++ p.cps) acc = acc ++ r.toArray := by
    intro r
    induction r with
    | nil => intro acc; simp
    | cons c r ih =>
      intro acc
      rw [List.map_cons, List.foldl_cons, ih]
      have : Str.empty.cps = #[] := rfl
      rw [this]
      simp
  cases cs with
  | nil => rfl
  | cons c r =>
    show (⟨(r.map ch).foldl (fun acc p => acc ++ Str.empty.cps ++ p.cps) (ch c).cps⟩ : Str) = _
    rw [key]
    simp
theorem len_ch (cs : List Nat) : (⟨cs.toArray⟩ : Str).length = cs.length := by show cs.toArray.size = _; simp
section
variable {w : World} {A : Around} {E : Value → Shared → Prop} {z : Shared} {g h : Heap} {tk : Nat} {Q : Value → Shared → Prop} {t : Tok}
theorem z_join {l : Addr} {cs : List (Nat × Tok)} (hl : At h l (.list (cs.map fun p => .str (ch p.1) p.2))) (hz : cs.length ≤ 1000) (q : ∀ t' k, Q (.str ⟨(cs.map (·.1)).toArray⟩ t') (Z z h k)) :
    wpAny (MM w) A (call (.builtin "str.join") [.str Str.empty t, .ref l]) Q E (Z z h tk) := by
  have hm : (cs.map fun p => (ch p.1, p.2)).map (·.1) = (cs.map (·.1)).map ch := by simp
  have hf : ∀ (r : List Nat) (n : Nat), (r.map ch).foldl (fun n (p : Str) => n + p.length + Str.empty.length) n = n + r.length := by
    intro r
    induction r with
    | nil => intro n; simp
    | cons c r ih =>
      intro n
      rw [List.map_cons, List.foldl_cons, ih]
      show n + 1 + 0 + r.length = _
      simp; omega
  refine call_meets (s := Z z h tk) F.slot_str_join (typeIs_str _ _ _) F.entry_str_join (F.args_str_join_2 _ _) (meets_str_join_list Str.empty t l (cs.map fun p => (ch p.1, p.2)) ?_) ?_
  · rw [hm, List.foldl_toArray, hf]
    simp [Builtin.Str.tooLong, sizeLine]
    omega
  · refine ⟨?_, ?_⟩
    · have e : strValues (cs.map fun p => (ch p.1, p.2)) = cs.map fun p => .str (ch p.1) p.2 := by unfold strValues; rw [List.map_map]; rfl
      rw [e]
      exact hl.isList
    · have q' := fun t' k => q t' k
      have hg : Builtin.Str.glued Str.empty ((cs.map fun p => (ch p.1, p.2)).map (·.1)) = ⟨(cs.map (·.1)).toArray⟩ := by rw [hm, glue_ch]
      match cs, q', hg, hz with
      | [], q', hg, _ => exact ⟨by show 0 ≤ sizeLine; omega, q' _ _⟩
      | [p], q', hg, _ => exact q' p.2 tk
      | p :: p' :: r, q', hg, hz =>
        refine ⟨?_, ?_⟩
        · show (Builtin.Str.glued Str.empty (((p :: p' :: r).map fun p => (ch p.1, p.2)).map (·.1))).length ≤ sizeLine
          rw [hg, len_ch]; simp [sizeLine] at hz ⊢; omega
        · show Q (.str (Builtin.Str.glued Str.empty (((p :: p' :: r).map fun p => (ch p.1, p.2)).map (·.1))) _) _
          rw [hg]; exact q' _ _
end
end
local macro_rules | `(tactic| wtm_at "nf") => `(tactic| first | exact nf_nil | (refine nf_cons (by with_unfolding_all rfl) ?_; wtm_at "nf"))
local macro_rules | `(tactic| wtm_at "enterC") => `(tactic| (
  (case ho => k_is); (case hcd => k_is); (case hb => exact BindsTo.of_eq rfl); (case hr => intro L; wtm_at "nf"); (case hC => intro L; rfl); (case hlc => rfl); (case c1 => rfl); (case c2 => rfl); (case c3 => rfl); (case c4 => decide)))
local macro_rules | `(tactic| wtm_at "sub") => `(tactic| first | exact List.Sublist.refl _ | exact List.nil_sublist _ | (refine List.Sublist.cons₂ _ ?_; wtm_at "sub") | (refine List.Sublist.cons _ ?_; wtm_at "sub"))
section
noncomputable def b64t : List UInt8 := [65, 66, 67, 68, 69, 70, 71, 72, 73, 74, 75, 76, 77, 78, 79, 80, 81, 82, 83, 84, 85, 86, 87, 88, 89, 90, 97, 98, 99, 100, 101, 102, 103, 104, 105, 106, 107, 108, 109, 110, 111, 112, 113, 114, 115, 116, 117, 118, 119, 120, 121, 122, 48, 49, 50, 51, 52, 53, 54, 55, 56, 57, 43, 47]
noncomputable def sy (i : Nat) : Nat := (b64t.getD i 0).toNat
noncomputable def emitF : Nat → Nat → Nat → List Nat → List Nat × Nat
  | 0, _, lb, out => (out, lb)
  | n + 1, lc, lb, out => if 6 ≤ lb then emitF n lc (lb - 6) (out ++ [sy (lc / 2 ^ (lb - 6) % 64)]) else (out, lb)
theorem emitF_more (lc : Nat) : ∀ (n m lb : Nat) (out : List Nat), lb ≤ n → lb ≤ m → emitF n lc lb out = emitF m lc lb out
  | 0, 0, _, _, _, _ => rfl
  | 0, m + 1, lb, out, h, _ => by rw [emitF, emitF, if_neg (fun q => absurd (Nat.le_trans q h) (by decide))]
  | n + 1, 0, lb, out, _, h => by rw [emitF, emitF, if_neg (fun q => absurd (Nat.le_trans q h) (by decide))]
  | n + 1, m + 1, lb, out, h, h' => by
    rw [emitF, emitF]
    split
    · next c =>
      have k : lb - 6 + 1 ≤ lb := Nat.sub_lt (Nat.lt_of_lt_of_le (by decide) c) (by decide)
      exact emitF_more lc n m _ _ (Nat.le_of_succ_le_succ (Nat.le_trans k h)) (Nat.le_of_succ_le_succ (Nat.le_trans k h'))
    · rfl
noncomputable def emit (lc lb : Nat) (out : List Nat) : List Nat × Nat := emitF lb lc lb out
theorem emit_eq (lc lb : Nat) (out : List Nat) : emit lc lb out = if 6 ≤ lb then emit lc (lb - 6) (out ++ [sy (lc / 2 ^ (lb - 6) % 64)]) else (out, lb) := by
  unfold emit
  cases lb with
  | zero => rfl
  | succ n =>
    rw [emitF]
    split
    · exact emitF_more lc _ _ _ _ (Nat.le_of_lt_succ (Nat.sub_lt (Nat.succ_pos _) (by decide))) (Nat.le_refl _)
    · rfl
noncomputable def b2s (st : List Nat × Nat × Nat) (b : UInt8) : List Nat × Nat × Nat :=
  ((emit ((st.2.2 * 256 + b.toNat) % 65536) (st.2.1 + 8) st.1).1, (emit ((st.2.2 * 256 + b.toNat) % 65536) (st.2.1 + 8) st.1).2, (st.2.2 * 256 + b.toNat) % 65536)
noncomputable def b2f (bs : List UInt8) : List Nat × Nat × Nat := bs.foldl b2s ([], 0, 0)
noncomputable def b2a (bs : List UInt8) : List Nat :=
  if (b2f bs).2.1 = 2 then (b2f bs).1 ++ [sy ((b2f bs).2.2 % 4 * 16), 61, 61] else if (b2f bs).2.1 = 4 then (b2f bs).1 ++ [sy ((b2f bs).2.2 % 16 * 4), 61] else (b2f bs).1
theorem sy_lt (i : Nat) : sy i < 256 := UInt8.toNat_lt _
theorem emit_lt (lc lb : Nat) (out : List Nat) : (emit lc lb out).2 < 6 := by
  induction lb using Nat.strongRecOn generalizing out with
  | _ lb ih =>
    rw [emit_eq]
    split
    · exact ih _ (by omega) _
    · omega
theorem emit_len (lc lb : Nat) (out : List Nat) : (emit lc lb out).1.length ≤ out.length + lb := by
  induction lb using Nat.strongRecOn generalizing out with
  | _ lb ih =>
    rw [emit_eq]
    split
    · have := ih (lb - 6) (by omega) (out ++ [sy (lc / 2 ^ (lb - 6) % 64)])
      simp at this
      omega
    · simp
theorem emit_all (lc lb : Nat) (out : List Nat) (h : ∀ x ∈ out, x < 256) : ∀ x ∈ (emit lc lb out).1, x < 256 := by
  induction lb using Nat.strongRecOn generalizing out with
  | _ lb ih =>
    rw [emit_eq]
    split
    · refine ih _ (by omega) _ fun x hx => ?_
      rcases List.mem_append.mp hx with h1 | h1
      · exact h x h1
      · rw [List.mem_singleton.mp h1]; exact sy_lt _
    · exact h
theorem b2f_ok (bs : List UInt8) : (b2f bs).2.1 < 6 ∧ (b2f bs).2.2 < 65536 ∧ (b2f bs).1.length ≤ 14 * bs.length ∧ ∀ x ∈ (b2f bs).1, x < 256 := by
  have : ∀ (l : List UInt8) (st : List Nat × Nat × Nat) (k : Nat), st.2.1 < 6 → st.2.2 < 65536 → st.1.length ≤ k → (∀ x ∈ st.1, x < 256) →
      (l.foldl b2s st).2.1 < 6 ∧ (l.foldl b2s st).2.2 < 65536 ∧ (l.foldl b2s st).1.length ≤ k + 14 * l.length ∧ ∀ x ∈ (l.foldl b2s st).1, x < 256 := by
    intro l
    induction l with
    | nil => intro st k h1 h2 h3 h4; exact ⟨h1, h2, by simpa using h3, h4⟩
    | cons b r ih =>
      intro st k h1 h2 h3 h4
      have e := emit_len ((st.2.2 * 256 + b.toNat) % 65536) (st.2.1 + 8) st.1
      have := ih (b2s st b) (k + 14) (emit_lt _ _ _) (Nat.mod_lt _ (by decide)) (by show (emit _ _ _).1.length ≤ _; omega) (emit_all _ _ _ h4)
      refine ⟨this.1, this.2.1, ?_, this.2.2.2⟩
      have h5 := this.2.2.1
      simp only [List.foldl_cons, List.length_cons] at *
      omega
  have := this bs ([], 0, 0) 0 (by decide) (by decide) (by simp) (by simp)
  simpa [b2f] using this
noncomputable def nI (l : List Nat) : List Int := l.map fun (n : Nat) => (n : Int)
theorem nI_snoc (l : List Nat) (n : Nat) : nI (l ++ [n]) = nI l ++ [(n : Int)] := by simp [nI]

set_option maxRecDepth 100000 in
set_option maxHeartbeats 4000000 in
theorem buffer_c {w : World} {A : Around} {E : Value → Shared → Prop} {z : Shared} {g₀ h : Heap} {tk : Nat} {Q : Value → Shared → Prop} {b : Array UInt8} {t : Tok}
    (r : Rm A 1) (G : Gd w g₀) (k₀ : ∀ b o, g₀.get? b = some o → h.get? b = some o) (q : ∀ h' tk', Keep [] h h' → Q (.bytes b t) (Z z h' tk')) :
    wpAny (MM w) A (call (.ref 42) [.bytes b t]) Q E (Z z h tk) := by
  refine' enter [] [("data", .bytes b t)] r G k₀ ?hM ?nd ?ho ?hcd ?hb ?hr ?hlc ?c1 ?c2 ?c3 ?c4 ?body
  case hM => intro p hp; cases hp
  case nd => simp
  wtm_at "enter"
  case body =>
    intro A' g L h₁ tk₁ r' G' kg gk S
    with_reducible refine xs_assign (by with_unfolding_all rfl) ?_
    with_reducible refine wpAny_Call_NameR ?_
    with_reducible refine e_built (by assumption) (by assumption) (by k_is) (by wtm_at "boot") (by decide) (by with_unfolding_all rfl) (by with_unfolding_all rfl) (by with_unfolding_all rfl) (by with_unfolding_all rfl) (by decide) ?_
    with_reducible refine callWith_type1 ?_ (by with_unfolding_all rfl) (by with_unfolding_all rfl)
    with_reducible refine spliced_more ?_ (by with_unfolding_all rfl)
    with_reducible refine e_local (by assumption) (by with_unfolding_all rfl) (by with_unfolding_all rfl) (by with_unfolding_all rfl) (by with_unfolding_all rfl) (by decide) ?_
    with_reducible refine spliced_none ?_
    with_reducible refine z_type_bytes ?_
    ((rename St _ _ _ _ _ => S0); (with_reducible refine s_store S0 (by with_unfolding_all rfl) (by with_unfolding_all rfl) (by with_unfolding_all rfl) ?_); (intro _ _; clear S0))
    with_reducible refine xs_if ?_
    with_reducible refine wpAny_isTrue_Compare1 ?_ (by with_unfolding_all rfl)
    with_reducible refine e_local (by assumption) (by with_unfolding_all rfl) (by with_unfolding_all rfl) (by with_unfolding_all rfl) (by with_unfolding_all rfl) (by decide) ?_
    with_reducible refine e_built (by assumption) (by assumption) (by k_is) (by wtm_at "boot") (by decide) (by with_unfolding_all rfl) (by with_unfolding_all rfl) (by with_unfolding_all rfl) (by with_unfolding_all rfl) (by decide) ?_
    with_reducible refine z_is_tt (by with_unfolding_all rfl) (by with_unfolding_all rfl) ?_
    with_reducible refine wpAny_truthy_bool ?_
    with_reducible refine i_tt ?_
    with_reducible refine xs_return ?_
    with_reducible refine e_local (by assumption) (by with_unfolding_all rfl) (by with_unfolding_all rfl) (by with_unfolding_all rfl) (by with_unfolding_all rfl) (by decide) ?_
    with_reducible refine after_ret ?_
    rename St _ _ _ _ _ => S
    exact q _ _ fun a o e n => S.keep a o (kg a o e n)
set_option maxRecDepth 100000 in
set_option maxHeartbeats 4000000 in
theorem truth_c {w : World} {A : Around} {E : Value → Shared → Prop} {z : Shared} {g₀ h : Heap} {tk : Nat} {Q : Value → Shared → Prop}
    (r : Rm A 1) (G : Gd w g₀) (k₀ : ∀ b o, g₀.get? b = some o → h.get? b = some o) (q : ∀ h' tk', Keep [] h h' → Q (.bool false) (Z z h' tk')) :
    wpAny (MM w) A (call (.ref 49) [.bool false]) Q E (Z z h tk) := by
  refine' enter [] [("x", .bool false)] r G k₀ ?hM ?nd ?ho ?hcd ?hb ?hr ?hlc ?c1 ?c2 ?c3 ?c4 ?body
  case hM => intro p hp; cases hp
  case nd => simp
  wtm_at "enter"
  case body =>
    intro A' g L h₁ tk₁ r' G' kg gk S
    with_reducible refine xs_assign (by with_unfolding_all rfl) ?_
    with_reducible refine wpAny_Call_NameR ?_
    with_reducible refine e_built (by assumption) (by assumption) (by k_is) (by wtm_at "boot") (by decide) (by with_unfolding_all rfl) (by with_unfolding_all rfl) (by with_unfolding_all rfl) (by with_unfolding_all rfl) (by decide) ?_
    with_reducible refine callWith_type1 ?_ (by with_unfolding_all rfl) (by with_unfolding_all rfl)
    with_reducible refine spliced_more ?_ (by with_unfolding_all rfl)
    with_reducible refine e_local (by assumption) (by with_unfolding_all rfl) (by with_unfolding_all rfl) (by with_unfolding_all rfl) (by with_unfolding_all rfl) (by decide) ?_
    with_reducible refine spliced_none ?_
    with_reducible refine z_type_bool ?_
    ((rename St _ _ _ _ _ => S0); (with_reducible refine s_store S0 (by with_unfolding_all rfl) (by with_unfolding_all rfl) (by with_unfolding_all rfl) ?_); (intro _ _; clear S0))
    with_reducible refine xs_if ?_
    with_reducible refine wpAny_isTrue_BoolOp ?_
    with_reducible refine wpAny_allTrue_Or_cons ?_
    with_reducible refine wpAny_isTrue_Compare1 ?_ (by with_unfolding_all rfl)
    with_reducible refine e_local (by assumption) (by with_unfolding_all rfl) (by with_unfolding_all rfl) (by with_unfolding_all rfl) (by with_unfolding_all rfl) (by decide) ?_
    with_reducible refine z_none ?_
    with_reducible refine z_is_ff (by with_unfolding_all rfl) (by with_unfolding_all rfl) ?_
    with_reducible refine wpAny_truthy_bool ?_
    with_reducible refine i_ff ?_
    with_reducible refine wpAny_allTrue_Or_cons ?_
    with_reducible refine wpAny_isTrue_Compare1 ?_ (by with_unfolding_all rfl)
    with_reducible refine e_local (by assumption) (by with_unfolding_all rfl) (by with_unfolding_all rfl) (by with_unfolding_all rfl) (by with_unfolding_all rfl) (by decide) ?_
    with_reducible refine e_built (by assumption) (by assumption) (by k_is) (by wtm_at "boot") (by decide) (by with_unfolding_all rfl) (by with_unfolding_all rfl) (by with_unfolding_all rfl) (by with_unfolding_all rfl) (by decide) ?_
    with_reducible refine z_is_tt (by with_unfolding_all rfl) (by with_unfolding_all rfl) ?_
    with_reducible refine wpAny_truthy_bool ?_
    with_reducible refine i_tt ?_
    with_reducible refine i_tt ?_
    with_reducible refine xs_return ?_
    with_reducible refine wpAny_IfExp ?_
    with_reducible refine wpAny_isTrue_value ?_ (by with_unfolding_all rfl)
    with_reducible refine e_local (by assumption) (by with_unfolding_all rfl) (by with_unfolding_all rfl) (by with_unfolding_all rfl) (by with_unfolding_all rfl) (by decide) ?_
    with_reducible refine wpAny_truthy_bool ?_
    with_reducible refine i_ff ?_
    with_reducible refine z_bool ?_
    with_reducible refine after_ret ?_
    rename St _ _ _ _ _ => S
    exact q _ _ fun a o e n => S.keep a o (kg a o e n)
end
section
set_option maxRecDepth 100000 in
set_option maxHeartbeats 4000000 in
theorem b2a_c {w : World} {A : Around} {E : Value → Shared → Prop} {z : Shared} {g₀ h : Heap} {tk : Nat} {Q : Value → Shared → Prop} {bs : List UInt8} {t : Tok}
    (r : Rm A 2) (G : Gd w g₀) (k₀ : ∀ b o, g₀.get? b = some o → h.get? b = some o) (hz : bs.length ≤ 100)
    (q : ∀ h' t' tk', Keep [] h h' → Q (.bytes (byteArr (nI (b2a bs))) t') (Z z h' tk')) :
    wpAny (MM w) A (call (.ref 57) [.bytes bs.toArray t] [("newline", .bool false)]) Q E (Z z h tk) := by
  refine' enter [] [("data", .bytes bs.toArray t), ("newline", .bool false)] r G k₀ ?hM ?nd ?ho ?hcd ?hb ?hr ?hlc ?c1 ?c2 ?c3 ?c4 ?body
  case hM => intro p hp; cases hp
  case nd => simp
  wtm_at "enter"
  case body =>
    intro A' g L h₁ tk₁ r' G' kg gk S
    with_reducible refine xs_assign (by with_unfolding_all rfl) ?_
    with_reducible refine wpAny_Call_NameR ?_
    with_reducible refine e_glob (by assumption) (by assumption) (by k_is) (by with_unfolding_all rfl) (by with_unfolding_all rfl) (by with_unfolding_all rfl) (by decide) ?_
    with_reducible refine c_def (by assumption) (by k_is) (by with_unfolding_all rfl) (by with_unfolding_all rfl) ?_
    with_reducible refine spliced_more ?_ (by with_unfolding_all rfl)
    with_reducible refine e_local (by assumption) (by with_unfolding_all rfl) (by with_unfolding_all rfl) (by with_unfolding_all rfl) (by with_unfolding_all rfl) (by decide) ?_
    with_reducible refine spliced_none ?_
    with_reducible refine c_in (by assumption) (by assumption) ?_
    refine buffer_c r' G' S.keep fun h₂ tk₂ kp => ?_
    replace S := S.keepAll kp
    ((rename St _ _ _ _ _ => S0); (with_reducible refine s_store S0 (by with_unfolding_all rfl) (by with_unfolding_all rfl) (by with_unfolding_all rfl) ?_); (intro _ _; clear S0))
    with_reducible refine xs_assign (by with_unfolding_all rfl) ?_
    with_reducible refine wpAny_Call_NameR ?_
    with_reducible refine e_glob (by assumption) (by assumption) (by k_is) (by with_unfolding_all rfl) (by with_unfolding_all rfl) (by with_unfolding_all rfl) (by decide) ?_
    with_reducible refine c_def (by assumption) (by k_is) (by with_unfolding_all rfl) (by with_unfolding_all rfl) ?_
    with_reducible refine spliced_more ?_ (by with_unfolding_all rfl)
    with_reducible refine e_local (by assumption) (by with_unfolding_all rfl) (by with_unfolding_all rfl) (by with_unfolding_all rfl) (by with_unfolding_all rfl) (by decide) ?_
    with_reducible refine spliced_none ?_
    with_reducible refine c_in (by assumption) (by assumption) ?_
    rename St _ _ _ _ _ => S
    refine truth_c r' G' S.keep fun h₂ tk₂ kp => ?_
    replace S := S.keepAll kp
    ((rename St _ _ _ _ _ => S0); (with_reducible refine s_store S0 (by with_unfolding_all rfl) (by with_unfolding_all rfl) (by with_unfolding_all rfl) ?_); (intro _ _; clear S0))
    with_reducible refine xs_assign (by with_unfolding_all rfl) ?_
    with_reducible refine e_list ?_
    with_reducible refine spliced_none ?_
    ((rename St _ _ _ _ _ => S0); (with_reducible refine s_newList S0 (by wtm_at "small") ?_); (intro _ _ _ _ _; clear S0))
    ((rename St _ _ _ _ _ => S0); (with_reducible refine s_store S0 (by with_unfolding_all rfl) (by with_unfolding_all rfl) (by with_unfolding_all rfl) ?_); (intro _ _; clear S0))
    with_reducible refine xs_assign (by with_unfolding_all rfl) ?_
    with_reducible refine z_int ?_
    ((rename St _ _ _ _ _ => S0); (with_reducible refine s_store S0 (by with_unfolding_all rfl) (by with_unfolding_all rfl) (by with_unfolding_all rfl) ?_); (intro _ _; clear S0))
    with_reducible refine xs_assign (by with_unfolding_all rfl) ?_
    with_reducible refine z_int ?_
    ((rename St _ _ _ _ _ => S0); (with_reducible refine s_store S0 (by with_unfolding_all rfl) (by with_unfolding_all rfl) (by with_unfolding_all rfl) ?_); (intro _ _; clear S0))
    refine xs_for (by intro x; rfl) ?_
    with_reducible refine e_local (by assumption) (by with_unfolding_all rfl) (by with_unfolding_all rfl) (by with_unfolding_all rfl) (by with_unfolding_all rfl) (by decide) ?_
    rename St _ _ _ _ _ => S
    refine it_bytes S fun it h₃ _ _ S => ?_
    refine for_at bs.length (fun i h => ∃ (o : Addr) (vs : List Value) (t1 t2 : Tok), IntsAre vs (nI (b2f (bs.take i)).1) ∧ St g L [("out", .ref o), ("leftbits", .int (b2f (bs.take i)).2.1 t1), ("leftchar", .int (b2f (bs.take i)).2.2 t2), ("newline", .bool false)] [(it, .pr (biP bs.toArray t i)), (o, .list vs)] h) ⟨_, _, _, _, .nil, S.names (by wtm_at "nm")⟩ ?_ ?_
    · rintro i h₄ tk₄ hi ⟨o, vs, t1, t2, hvs, S⟩
      obtain ⟨c, hc⟩ : ∃ c, bs[i]? = some c := ⟨bs[i], by simp [hi]⟩
      refine nx_bytes S (by simpa using hc) fun h₅ S => ⟨_, rfl, lo_name (as_name ?_)⟩
      have e : bs.take (i + 1) = bs.take i ++ [c] := by rw [List.take_add_one, hc]; rfl
      have ef : b2f (bs.take (i + 1)) = b2s (b2f (bs.take i)) c := by unfold b2f; rw [e, List.foldl_append]; rfl
      obtain ⟨hlb, hlc, hlen, hall⟩ := b2f_ok (bs.take i)
      have hlt : (bs.take i).length ≤ 100 := by rw [List.length_take]; omega
      generalize b2f (bs.take i) = st at *
      obtain ⟨out, lb, lc⟩ := st
      dsimp only at *
      have hcc := UInt8.toNat_lt c
      ((rename St _ _ _ _ _ => S0); (with_reducible refine s_store S0 (by with_unfolding_all rfl) (by with_unfolding_all rfl) (by with_unfolding_all rfl) ?_); (intro _ _; clear S0))
      with_reducible refine xs_assign (by with_unfolding_all rfl) ?_
      with_reducible refine wpAny_BinOp ?_
      with_reducible refine wpAny_BinOp ?_
      with_reducible refine wpAny_BinOp ?_
      with_reducible refine e_local (by assumption) (by with_unfolding_all rfl) (by with_unfolding_all rfl) (by with_unfolding_all rfl) (by with_unfolding_all rfl) (by decide) ?_
      with_reducible refine z_int ?_
      with_reducible refine z_shl (by omega) (by omega) (by omega) ?_
      with_reducible refine e_local (by assumption) (by with_unfolding_all rfl) (by with_unfolding_all rfl) (by with_unfolding_all rfl) (by with_unfolding_all rfl) (by decide) ?_
      with_reducible refine z_or ?_
      with_reducible refine z_int ?_
      with_reducible refine z_and ?_
      ((rename St _ _ _ _ _ => S0); (with_reducible refine s_store S0 (by with_unfolding_all rfl) (by with_unfolding_all rfl) (by with_unfolding_all rfl) ?_); (intro _ _; clear S0))
      with_reducible refine xs_assign (by with_unfolding_all rfl) ?_
      with_reducible refine wpAny_BinOp ?_
      with_reducible refine e_local (by assumption) (by with_unfolding_all rfl) (by with_unfolding_all rfl) (by with_unfolding_all rfl) (by with_unfolding_all rfl) (by decide) ?_
      with_reducible refine z_int ?_
      with_reducible refine z_add ?_
      ((rename St _ _ _ _ _ => S0); (with_reducible refine s_store S0 (by with_unfolding_all rfl) (by with_unfolding_all rfl) (by with_unfolding_all rfl) ?_); (intro _ _; clear S0))
      rename St _ _ _ _ _ => S
      have e1 : Builtin.bitAnd (Builtin.bitOr ((lc : Int) * 2 ^ (8 : Int).toNat) (c.toNat : Int)) 65535 = (((lc * 256 + c.toNat) % 65536 : Nat) : Int) := by
        rw [bitOr_low (by omega), bitAnd_m16]; omega
      rw [e1] at S
      have e2 : ((lb : Int) + 8) = ((lb + 8 : Nat) : Int) := by omega
      rw [e2] at S
      have hLC : (lc * 256 + c.toNat) % 65536 < 65536 := Nat.mod_lt _ (by decide)
      unfold b2s at ef
      dsimp only at ef
      generalize (lc * 256 + c.toNat) % 65536 = LC at *
      refine xs_while (σ := List Nat × Nat) (fun k h => k.2 < 14 ∧ k.1.length + k.2 ≤ out.length + (lb + 8) ∧ emit LC k.2 k.1 = emit LC (lb + 8) out ∧ ∃ (vs : List Value) (t1 t2 : Tok), IntsAre vs (nI k.1) ∧
        St g L [("out", .ref o), ("leftbits", .int k.2 t1), ("leftchar", .int LC t2), ("newline", .bool false)] [(it, .pr (biP bs.toArray t (i + 1))), (o, .list vs)] h) (fun k => k.2) (out, lb + 8) ⟨by dsimp only; omega, by dsimp only; omega, rfl, _, _, _, hvs, S.names (by wtm_at "nm")⟩ ?_
      clear S hvs
      rintro ⟨out', lb'⟩ h₆ tk₆ ⟨hk1, hk2, hk3, vs, t1, t2, hvs, S⟩
      dsimp only at *
      have hvl : vs.length = out'.length := by rw [hvs.length]; simp [nI]
      with_reducible refine wpAny_isTrue_Compare1 ?_ (by with_unfolding_all rfl)
      with_reducible refine e_local (by assumption) (by with_unfolding_all rfl) (by with_unfolding_all rfl) (by with_unfolding_all rfl) (by with_unfolding_all rfl) (by decide) ?_
      with_reducible refine z_int ?_
      with_reducible refine ge_int ?_
      with_reducible refine wpAny_truthy_bool ?_
      refine i_dec (fun hge => ?_) (fun hge => ?_)
      · with_reducible refine xs_expr (by with_unfolding_all rfl) (by with_unfolding_all rfl) ?_
        (with_reducible refine wpAny_Call_append (by with_unfolding_all rfl) (by with_unfolding_all rfl) (by with_unfolding_all rfl) (by with_unfolding_all rfl) ?_)
        with_reducible refine e_local (by assumption) (by with_unfolding_all rfl) (by with_unfolding_all rfl) (by with_unfolding_all rfl) (by with_unfolding_all rfl) (by decide) ?_
        with_reducible refine ex_append (by wtm_at "at") ?_
        with_reducible refine Subscript_ ?_
        with_reducible refine e_glob (by assumption) (by assumption) (by k_is) (by with_unfolding_all rfl) (by with_unfolding_all rfl) (by with_unfolding_all rfl) (by decide) ?_
        with_reducible refine wpAny_BinOp ?_
        with_reducible refine wpAny_BinOp ?_
        with_reducible refine e_local (by assumption) (by with_unfolding_all rfl) (by with_unfolding_all rfl) (by with_unfolding_all rfl) (by with_unfolding_all rfl) (by decide) ?_
        with_reducible refine wpAny_BinOp ?_
        with_reducible refine e_local (by assumption) (by with_unfolding_all rfl) (by with_unfolding_all rfl) (by with_unfolding_all rfl) (by with_unfolding_all rfl) (by decide) ?_
        with_reducible refine z_int ?_
        with_reducible refine z_sub ?_
        with_reducible refine z_shr (by omega) (by omega) ?_
        with_reducible refine z_int ?_
        with_reducible refine z_and ?_
        have ei : Builtin.bitAnd ((LC : Int) / 2 ^ ((lb' : Int) - 6).toNat) 63 = ((LC / 2 ^ (lb' - 6) % 64 : Nat) : Int) := by
          rw [bitAnd_m6, show ((lb' : Int) - 6).toNat = lb' - 6 from by omega]; simp
        have hi64 : LC / 2 ^ (lb' - 6) % 64 < 64 := Nat.mod_lt _ (by decide)
        rw [ei]
        refine z_bitem (by decide) (by omega) (by show _ < ((64 : Nat) : Int); omega) (by wtm_at "rf") ?_
        rw [Int.toNat_natCast]
        show wpAny _ _ (call _ [_, Value.int ((sy (LC / 2 ^ (lb' - 6) % 64) : Nat) : Int) _]) _ _ _
        ((rename St _ _ _ _ _ => S0); (with_reducible refine s_append S0 (by wtm_at "mem") (by wtm_at "up") (by wtm_at "small") ?_); (intro _ _; clear S0))
        with_reducible refine xs_assign (by with_unfolding_all rfl) ?_
        with_reducible refine wpAny_BinOp ?_
        with_reducible refine e_local (by assumption) (by with_unfolding_all rfl) (by with_unfolding_all rfl) (by with_unfolding_all rfl) (by with_unfolding_all rfl) (by decide) ?_
        with_reducible refine z_int ?_
        with_reducible refine z_sub ?_
        ((rename St _ _ _ _ _ => S0); (with_reducible refine s_store S0 (by with_unfolding_all rfl) (by with_unfolding_all rfl) (by with_unfolding_all rfl) ?_); (intro _ _; clear S0))
        with_reducible refine xs_nil ?_
        rename St _ _ _ _ _ => S
        rw [show (lb' : Int) - 6 = ((lb' - 6 : Nat) : Int) from by omega] at S
        refine turn_next (out' ++ [sy (LC / 2 ^ (lb' - 6) % 64)], lb' - 6) (by dsimp only; omega) ⟨by dsimp only; omega, by simp; omega, ?_, _, _, _, by rw [nI_snoc]; exact ints_snoc hvs, S.names (by wtm_at "nm")⟩
        rw [← hk3]
        conv => rhs; rw [emit_eq, if_pos (by omega)]
      · with_reducible refine xs_nil ?_
        rename St _ _ _ _ _ => S
        rw [emit_eq, if_neg (by omega)] at hk3
        refine turnf_next ?_
        rw [ef, ← hk3]
        exact ⟨o, vs, _, _, hvs, S.names (by wtm_at "nm")⟩
    · rintro h₄ tk₄ ⟨o, vs, t1, t2, hvs, S⟩
      rw [List.take_length] at hvs S
      refine nx_bytes_end r'.hh S (by simp) fun h₅ S => ⟨rfl, ?_⟩
      obtain ⟨hlb, hlc, hlen, hall⟩ := b2f_ok bs
      unfold b2a at q
      generalize b2f bs = st at *
      obtain ⟨out, lb, lc⟩ := st
      dsimp only at *
      have hvl : vs.length = out.length := by rw [hvs.length]; simp [nI]
      with_reducible refine xs_if ?_
      with_reducible refine wpAny_isTrue_Compare1 ?_ (by with_unfolding_all rfl)
      with_reducible refine e_local (by assumption) (by with_unfolding_all rfl) (by with_unfolding_all rfl) (by with_unfolding_all rfl) (by with_unfolding_all rfl) (by decide) ?_
      with_reducible refine z_int ?_
      with_reducible refine z_eqi ?_
      with_reducible refine wpAny_truthy_bool ?_
      refine i_dec (fun h2 => ?_) (fun h2 => ?_)
      · have h2' : lb = 2 := by omega
        subst h2'
        with_reducible refine xs_expr (by with_unfolding_all rfl) (by with_unfolding_all rfl) ?_
        (with_reducible refine wpAny_Call_append (by with_unfolding_all rfl) (by with_unfolding_all rfl) (by with_unfolding_all rfl) (by with_unfolding_all rfl) ?_)
        with_reducible refine e_local (by assumption) (by with_unfolding_all rfl) (by with_unfolding_all rfl) (by with_unfolding_all rfl) (by with_unfolding_all rfl) (by decide) ?_
        with_reducible refine ex_append (by wtm_at "at") ?_
        with_reducible refine Subscript_ ?_
        with_reducible refine e_glob (by assumption) (by assumption) (by k_is) (by with_unfolding_all rfl) (by with_unfolding_all rfl) (by with_unfolding_all rfl) (by decide) ?_
        with_reducible refine wpAny_BinOp ?_
        with_reducible refine wpAny_BinOp ?_
        with_reducible refine e_local (by assumption) (by with_unfolding_all rfl) (by with_unfolding_all rfl) (by with_unfolding_all rfl) (by with_unfolding_all rfl) (by decide) ?_
        with_reducible refine z_int ?_
        with_reducible refine z_and ?_
        with_reducible refine z_int ?_
        rw [bitAnd_m2]
        with_reducible refine z_shl (by omega) (by omega) (by omega) ?_
        have ei : (lc : Int) % 4 * 2 ^ (4 : Int).toNat = ((lc % 4 * 16 : Nat) : Int) := by
          show _ * 16 = _; omega
        rw [ei]
        refine z_bitem (by decide) (by omega) (by show _ < ((64 : Nat) : Int); omega) (by wtm_at "rf") ?_
        rw [Int.toNat_natCast]
        show wpAny _ _ (call _ [_, Value.int ((sy (lc % 4 * 16) : Nat) : Int) _]) _ _ _
        ((rename St _ _ _ _ _ => S0); (with_reducible refine s_append S0 (by wtm_at "mem") (by wtm_at "up") (by wtm_at "small") ?_); (intro _ _; clear S0))
        with_reducible refine xs_expr (by with_unfolding_all rfl) (by with_unfolding_all rfl) ?_
        (with_reducible refine wpAny_Call_append (by with_unfolding_all rfl) (by with_unfolding_all rfl) (by with_unfolding_all rfl) (by with_unfolding_all rfl) ?_)
        with_reducible refine e_local (by assumption) (by with_unfolding_all rfl) (by with_unfolding_all rfl) (by with_unfolding_all rfl) (by with_unfolding_all rfl) (by decide) ?_
        with_reducible refine ex_append (by wtm_at "at") ?_
        with_reducible refine z_int ?_
        ((rename St _ _ _ _ _ => S0); (with_reducible refine s_append S0 (by wtm_at "mem") (by wtm_at "up") (by wtm_at "small") ?_); (intro _ _; clear S0))
        with_reducible refine xs_expr (by with_unfolding_all rfl) (by with_unfolding_all rfl) ?_
        (with_reducible refine wpAny_Call_append (by with_unfolding_all rfl) (by with_unfolding_all rfl) (by with_unfolding_all rfl) (by with_unfolding_all rfl) ?_)
        with_reducible refine e_local (by assumption) (by with_unfolding_all rfl) (by with_unfolding_all rfl) (by with_unfolding_all rfl) (by with_unfolding_all rfl) (by decide) ?_
        with_reducible refine ex_append (by wtm_at "at") ?_
        with_reducible refine z_int ?_
        ((rename St _ _ _ _ _ => S0); (with_reducible refine s_append S0 (by wtm_at "mem") (by wtm_at "up") (by wtm_at "small") ?_); (intro _ _; clear S0))
        with_reducible refine xs_nil ?_
        with_reducible refine after_next ?_
        with_reducible refine xs_if ?_
        with_reducible refine wpAny_isTrue_value ?_ (by with_unfolding_all rfl)
        with_reducible refine e_local (by assumption) (by with_unfolding_all rfl) (by with_unfolding_all rfl) (by with_unfolding_all rfl) (by with_unfolding_all rfl) (by decide) ?_
        with_reducible refine wpAny_truthy_bool ?_
        with_reducible refine i_ff ?_
        with_reducible refine xs_nil ?_
        with_reducible refine after_next ?_
        with_reducible refine xs_return ?_
        with_reducible refine wpAny_Call_NameR ?_
        with_reducible refine e_built (by assumption) (by assumption) (by k_is) (by wtm_at "boot") (by decide) (by with_unfolding_all rfl) (by with_unfolding_all rfl) (by with_unfolding_all rfl) (by with_unfolding_all rfl) (by decide) ?_
        with_reducible refine callWith_type1 ?_ (by with_unfolding_all rfl) (by with_unfolding_all rfl)
        with_reducible refine spliced_more ?_ (by with_unfolding_all rfl)
        with_reducible refine e_local (by assumption) (by with_unfolding_all rfl) (by with_unfolding_all rfl) (by with_unfolding_all rfl) (by with_unfolding_all rfl) (by decide) ?_
        with_reducible refine spliced_none ?_
        rename St _ _ _ _ _ => S
        refine s_bytes (ns := nI (out ++ [sy (lc % 4 * 16), 61, 61])) r'.hh S (by wtm_at "at") ?_ ?_ (by simp [sizeLine]; omega) fun h' t' k S => ?_
        · have := ints_snoc (n := 61) (t := tk₄ + 1 + 1 + 1 + 1 + 1 + 1 + 1) (ints_snoc (n := 61) (t := tk₄ + 1 + 1 + 1 + 1 + 1 + 1) (ints_snoc (n := (sy (lc % 4 * 16) : Nat)) (t := tk₄ + 1 + 1 + 1 + 1 + 1) hvs))
          simpa [nI] using this
        · intro n hn
          obtain ⟨m, hm, rfl⟩ := List.mem_map.mp hn
          have hs := sy_lt (lc % 4 * 16)
          rcases List.mem_append.mp hm with h1 | h1
          · have := hall m h1; omega
          · simp at h1; omega
        · exact q _ _ _ fun a o e n => S.keep a o (kg a o e n)
      · with_reducible refine xs_if ?_
        with_reducible refine wpAny_isTrue_Compare1 ?_ (by with_unfolding_all rfl)
        with_reducible refine e_local (by assumption) (by with_unfolding_all rfl) (by with_unfolding_all rfl) (by with_unfolding_all rfl) (by with_unfolding_all rfl) (by decide) ?_
        with_reducible refine z_int ?_
        with_reducible refine z_eqi ?_
        with_reducible refine wpAny_truthy_bool ?_
        refine i_dec (fun h4 => ?_) (fun h4 => ?_)
        · have h4' : lb = 4 := by omega
          subst h4'
          with_reducible refine xs_expr (by with_unfolding_all rfl) (by with_unfolding_all rfl) ?_
          (with_reducible refine wpAny_Call_append (by with_unfolding_all rfl) (by with_unfolding_all rfl) (by with_unfolding_all rfl) (by with_unfolding_all rfl) ?_)
          with_reducible refine e_local (by assumption) (by with_unfolding_all rfl) (by with_unfolding_all rfl) (by with_unfolding_all rfl) (by with_unfolding_all rfl) (by decide) ?_
          with_reducible refine ex_append (by wtm_at "at") ?_
          with_reducible refine Subscript_ ?_
          with_reducible refine e_glob (by assumption) (by assumption) (by k_is) (by with_unfolding_all rfl) (by with_unfolding_all rfl) (by with_unfolding_all rfl) (by decide) ?_
          with_reducible refine wpAny_BinOp ?_
          with_reducible refine wpAny_BinOp ?_
          with_reducible refine e_local (by assumption) (by with_unfolding_all rfl) (by with_unfolding_all rfl) (by with_unfolding_all rfl) (by with_unfolding_all rfl) (by decide) ?_
          with_reducible refine z_int ?_
          with_reducible refine z_and ?_
          with_reducible refine z_int ?_
          rw [bitAnd_m4]
          with_reducible refine z_shl (by omega) (by omega) (by omega) ?_
          have ei : (lc : Int) % 16 * 2 ^ (2 : Int).toNat = ((lc % 16 * 4 : Nat) : Int) := by
            show _ * 4 = _; omega
          rw [ei]
          refine z_bitem (by decide) (by omega) (by show _ < ((64 : Nat) : Int); omega) (by wtm_at "rf") ?_
          rw [Int.toNat_natCast]
          show wpAny _ _ (call _ [_, Value.int ((sy (lc % 16 * 4) : Nat) : Int) _]) _ _ _
          ((rename St _ _ _ _ _ => S0); (with_reducible refine s_append S0 (by wtm_at "mem") (by wtm_at "up") (by wtm_at "small") ?_); (intro _ _; clear S0))
          with_reducible refine xs_expr (by with_unfolding_all rfl) (by with_unfolding_all rfl) ?_
          (with_reducible refine wpAny_Call_append (by with_unfolding_all rfl) (by with_unfolding_all rfl) (by with_unfolding_all rfl) (by with_unfolding_all rfl) ?_)
          with_reducible refine e_local (by assumption) (by with_unfolding_all rfl) (by with_unfolding_all rfl) (by with_unfolding_all rfl) (by with_unfolding_all rfl) (by decide) ?_
          with_reducible refine ex_append (by wtm_at "at") ?_
          with_reducible refine z_int ?_
          ((rename St _ _ _ _ _ => S0); (with_reducible refine s_append S0 (by wtm_at "mem") (by wtm_at "up") (by wtm_at "small") ?_); (intro _ _; clear S0))
          with_reducible refine xs_nil ?_
          with_reducible refine after_next ?_
          with_reducible refine xs_nil ?_
          with_reducible refine after_next ?_
          with_reducible refine xs_if ?_
          with_reducible refine wpAny_isTrue_value ?_ (by with_unfolding_all rfl)
          with_reducible refine e_local (by assumption) (by with_unfolding_all rfl) (by with_unfolding_all rfl) (by with_unfolding_all rfl) (by with_unfolding_all rfl) (by decide) ?_
          with_reducible refine wpAny_truthy_bool ?_
          with_reducible refine i_ff ?_
          with_reducible refine xs_nil ?_
          with_reducible refine after_next ?_
          with_reducible refine xs_return ?_
          with_reducible refine wpAny_Call_NameR ?_
          with_reducible refine e_built (by assumption) (by assumption) (by k_is) (by wtm_at "boot") (by decide) (by with_unfolding_all rfl) (by with_unfolding_all rfl) (by with_unfolding_all rfl) (by with_unfolding_all rfl) (by decide) ?_
          with_reducible refine callWith_type1 ?_ (by with_unfolding_all rfl) (by with_unfolding_all rfl)
          with_reducible refine spliced_more ?_ (by with_unfolding_all rfl)
          with_reducible refine e_local (by assumption) (by with_unfolding_all rfl) (by with_unfolding_all rfl) (by with_unfolding_all rfl) (by with_unfolding_all rfl) (by decide) ?_
          with_reducible refine spliced_none ?_
          rename St _ _ _ _ _ => S
          refine s_bytes (ns := nI (out ++ [sy (lc % 16 * 4), 61])) r'.hh S (by wtm_at "at") ?_ ?_ (by simp [sizeLine]; omega) fun h' t' k S => ?_
          · have := ints_snoc (n := 61) (t := tk₄ + 1 + 1 + 1 + 1 + 1 + 1 + 1) (ints_snoc (n := (sy (lc % 16 * 4) : Nat)) (t := tk₄ + 1 + 1 + 1 + 1 + 1 + 1) hvs)
            simpa [nI] using this
          · intro n hn
            obtain ⟨m, hm, rfl⟩ := List.mem_map.mp hn
            have hs := sy_lt (lc % 16 * 4)
            rcases List.mem_append.mp hm with h1 | h1
            · have := hall m h1; omega
            · simp at h1; omega
          · exact q _ _ _ fun a o e n => S.keep a o (kg a o e n)
        · with_reducible refine xs_nil ?_
          with_reducible refine after_next ?_
          with_reducible refine xs_nil ?_
          with_reducible refine after_next ?_
          with_reducible refine xs_if ?_
          with_reducible refine wpAny_isTrue_value ?_ (by with_unfolding_all rfl)
          with_reducible refine e_local (by assumption) (by with_unfolding_all rfl) (by with_unfolding_all rfl) (by with_unfolding_all rfl) (by with_unfolding_all rfl) (by decide) ?_
          with_reducible refine wpAny_truthy_bool ?_
          with_reducible refine i_ff ?_
          with_reducible refine xs_nil ?_
          with_reducible refine after_next ?_
          with_reducible refine xs_return ?_
          with_reducible refine wpAny_Call_NameR ?_
          with_reducible refine e_built (by assumption) (by assumption) (by k_is) (by wtm_at "boot") (by decide) (by with_unfolding_all rfl) (by with_unfolding_all rfl) (by with_unfolding_all rfl) (by with_unfolding_all rfl) (by decide) ?_
          with_reducible refine callWith_type1 ?_ (by with_unfolding_all rfl) (by with_unfolding_all rfl)
          with_reducible refine spliced_more ?_ (by with_unfolding_all rfl)
          with_reducible refine e_local (by assumption) (by with_unfolding_all rfl) (by with_unfolding_all rfl) (by with_unfolding_all rfl) (by with_unfolding_all rfl) (by decide) ?_
          with_reducible refine spliced_none ?_
          rename St _ _ _ _ _ => S
          have e2 : ¬ lb = 2 := by omega
          have e4 : ¬ lb = 4 := by omega
          rw [if_neg e2, if_neg e4] at q
          refine s_bytes (ns := nI out) r'.hh S (by wtm_at "at") hvs ?_ (by simp [sizeLine]; omega) fun h' t' k S => ?_
          · intro n hn
            obtain ⟨m, hm, rfl⟩ := List.mem_map.mp hn
            have := hall m hm
            omega
          · exact q _ _ _ fun a o e n => S.keep a o (kg a o e n)
end
section
section
variable {w : World} {A : Around} {E : Value → Shared → Prop} {z : Shared} {g h : Heap} {env : Env} {Q : Value → Shared → Prop} {s : Shared}
theorem c_kw {pos p p' : Pos} {f : Value} {e : Expr} {rest : List Expr} {n : Str} {b : Bool} {k : Nat} (G : Gd w g) (hk : keepIn (hd.heap_1 w.params) f = true) (he : starEach (e :: rest) env = (false, eval e env) :: starEach rest env) (hp : (backTo pos (starEach (e :: rest) env)).any (·.1) = false)
    (q : wpAny (MM w) A (spliced (backTo pos (starEach (e :: rest) env))) (fun vs s₁ => (hd.heap_1 w.params).In s₁.heap ∧ wpAny (MM w) A (call f vs [(n, .bool b)]) Q E s₁) E s) :
    wpAny (MM w) A (callWith pos f [] (backTo pos (starEach (e :: rest) env)) (backToKw pos (keywordEach [⟨some n, .Constant (.bool b) k p, p'⟩] env))) Q E s := by
  refine callWith_KW G.X hk rfl (wpAny_mono q (fun vs s₁ h₁ => ?_) fun _ _ x => x) (by rw [hp]; rfl) he
  exact fun Γ p hΓ => h₁
end
set_option maxRecDepth 100000 in
set_option maxHeartbeats 4000000 in
theorem b64encode_c {w : World} {A : Around} {E : Value → Shared → Prop} {z : Shared} {g₀ h : Heap} {tk : Nat} {Q : Value → Shared → Prop} {bs : List UInt8} {t : Tok}
    (r : Rm A 3) (G : Gd w g₀) (k₀ : ∀ b o, g₀.get? b = some o → h.get? b = some o) (hz : bs.length ≤ 100)
    (q : ∀ h' t' tk', Keep [] h h' → Q (.bytes (byteArr (nI (b2a bs))) t') (Z z h' tk')) :
    wpAny (MM w) A (call (.ref 65) [.bytes bs.toArray t]) Q E (Z z h tk) := by
  refine' enter [] [("s", .bytes bs.toArray t), ("altchars", .none)] r G k₀ ?hM ?nd ?ho ?hcd ?hb ?hr ?hlc ?c1 ?c2 ?c3 ?c4 ?body
  case hM => intro p hp; cases hp
  case nd => simp
  (case ho => k_is); (case hcd => k_is); (case hb => exact BindsTo.of_defaults rfl ((G.keeps k₀).X _ _ (by k_is)) rfl rfl rfl); (case hr => wtm_at "nm"); (case hlc => exact locs rfl); (case c1 => rfl); (case c2 => rfl); (case c3 => rfl); (case c4 => decide)
  case body =>
    intro A' g L h₁ tk₁ r' G' kg gk S
    with_reducible refine xs_assign (by with_unfolding_all rfl) ?_
    refine wpAny_Call_ofName ?_
    with_reducible refine e_glob (by assumption) (by assumption) (by k_is) (by with_unfolding_all rfl) (by with_unfolding_all rfl) (by with_unfolding_all rfl) (by decide) ?_
    refine c_kw G' (by k_is) (by wtm_at "rf") (by wtm_at "rf") ?_
    with_reducible refine spliced_more ?_ (by with_unfolding_all rfl)
    with_reducible refine e_local (by assumption) (by with_unfolding_all rfl) (by with_unfolding_all rfl) (by with_unfolding_all rfl) (by with_unfolding_all rfl) (by decide) ?_
    with_reducible refine spliced_none ?_
    with_reducible refine c_in (by assumption) (by assumption) ?_
    refine b2a_c r' G' S.keep hz fun h₂ t₂ tk₂ kp => ?_
    replace S := S.keepAll kp
    ((rename St _ _ _ _ _ => S0); (with_reducible refine s_store S0 (by with_unfolding_all rfl) (by with_unfolding_all rfl) (by with_unfolding_all rfl) ?_); (intro _ _; clear S0))
    with_reducible refine xs_if ?_
    with_reducible refine wpAny_isTrue_Compare1 ?_ (by with_unfolding_all rfl)
    with_reducible refine e_local (by assumption) (by with_unfolding_all rfl) (by with_unfolding_all rfl) (by with_unfolding_all rfl) (by with_unfolding_all rfl) (by decide) ?_
    with_reducible refine z_none ?_
    with_reducible refine z_isnot_ff (by with_unfolding_all rfl) (by with_unfolding_all rfl) ?_
    with_reducible refine wpAny_truthy_bool ?_
    with_reducible refine i_ff ?_
    with_reducible refine xs_nil ?_
    with_reducible refine after_next ?_
    with_reducible refine xs_return ?_
    with_reducible refine e_local (by assumption) (by with_unfolding_all rfl) (by with_unfolding_all rfl) (by with_unfolding_all rfl) (by with_unfolding_all rfl) (by decide) ?_
    rename St _ _ _ _ _ => S
    exact q _ _ _ fun a o e n => S.keep a o (kg a o e n)
end
section
noncomputable def wmany (n : Nat) : Nat := (n * 8 + 5) / 6
noncomputable def wnum (bs : List UInt8) : Nat := bs.foldl (fun n b => n * 256 + b.toNat) 0
noncomputable def wr (bs : List UInt8) : List Nat :=
  (List.range (wmany bs.length)).map (fun k => sy (wnum bs * 2 ^ (wmany bs.length * 6 - bs.length * 8) / 64 ^ (wmany bs.length - 1 - k) % 64)) ++ List.replicate ((4 - wmany bs.length % 4) % 4) 61
theorem wnum_lt (bs : List UInt8) : wnum bs < 256 ^ bs.length := by
  have : ∀ (l : List UInt8) (n k : Nat), n < 256 ^ k → l.foldl (fun n b => n * 256 + b.toNat) n < 256 ^ (k + l.length) := by
    intro l
    induction l with
    | nil => intro n k h; simpa using h
    | cons b r ih =>
      intro n k h
      have hb := UInt8.toNat_lt b
      have := ih (n * 256 + b.toNat) (k + 1) (by rw [Nat.pow_succ]; omega)
      rw [List.foldl_cons, List.length_cons]
      rw [show k + (r.length + 1) = k + 1 + r.length from by omega]
      exact this
  have := this bs 0 0 (by decide)
  simpa [wnum] using this
noncomputable abbrev sgn : Str := Str.ofString "ABCDEFGHIJKLMNOPQRSTUVWXYZabcdefghijklmnopqrstuvwxyz0123456789+/"
theorem sgn_at : ∀ i, i < 64 → sgn.cps[i]? = some (sy i) := by decide +kernel
theorem str_app (a b : List Nat) : (⟨(a ++ b).toArray⟩ : Str) = (⟨a.toArray⟩ : Str) ++ (⟨b.toArray⟩ : Str) := by
  show _ = (⟨a.toArray ++ b.toArray⟩ : Str)
  simp
set_option maxRecDepth 100000 in
set_option maxHeartbeats 4000000 in
theorem writing_c {w : World} {A : Around} {E : Value → Shared → Prop} {z : Shared} {g₀ h : Heap} {tk : Nat} {Q : Value → Shared → Prop} {bs : List UInt8} {t : Tok}
    (r : Rm A 2) (G : Gd w g₀) (k₀ : ∀ b o, g₀.get? b = some o → h.get? b = some o) (hz : bs.length ≤ 5)
    (q : ∀ h' t' tk', Keep [] h h' → Q (.str ⟨(wr bs).toArray⟩ t') (Z z h' tk')) :
    wpAny (MM w) A (call (.ref 131) [.bytes bs.toArray t]) Q E (Z z h tk) := by
  refine' enterC [] [("octets", .bytes bs.toArray t)] (fun L => [(L + 1 + 1 + 1, .cell none), (L + 1 + 1, .cell none), (L + 1, .cell none)]) r G k₀ ?hM ?nd ?ho ?hcd ?hb ?hr ?hC ?hlc ?c1 ?c2 ?c3 ?c4 ?body
  case hM => intro p hp; cases hp
  case nd => simp
  wtm_at "enterC"
  case body =>
    intro A' g L h₁ tk₁ r' G' kg gk S
    simp only [List.append_nil] at S
    with_reducible refine xs_assign_tup (by with_unfolding_all rfl) (by with_unfolding_all rfl) ?_
    with_reducible refine e_tuple ?_
    with_reducible refine spliced_more ?_ (by with_unfolding_all rfl)
    with_reducible refine z_str ?_
    with_reducible refine spliced_more ?_ (by with_unfolding_all rfl)
    with_reducible refine z_int ?_
    with_reducible refine spliced_more ?_ (by with_unfolding_all rfl)
    with_reducible refine wpAny_BinOp ?_
    with_reducible refine wpAny_BinOp ?_
    with_reducible refine wpAny_BinOp ?_
    with_reducible refine wpAny_Call_NameR ?_
    with_reducible refine e_built (by assumption) (by assumption) (by k_is) (by wtm_at "boot") (by decide) (by with_unfolding_all rfl) (by with_unfolding_all rfl) (by with_unfolding_all rfl) (by with_unfolding_all rfl) (by decide) ?_
    with_reducible refine callWith_builtin1 ?_ (by with_unfolding_all rfl) (by with_unfolding_all rfl)
    with_reducible refine spliced_more ?_ (by with_unfolding_all rfl)
    with_reducible refine e_local (by assumption) (by with_unfolding_all rfl) (by with_unfolding_all rfl) (by with_unfolding_all rfl) (by with_unfolding_all rfl) (by decide) ?_
    with_reducible refine spliced_none ?_
    with_reducible refine z_blen (by first | omega | (simp; done) | (simp; omega)) ?_
    with_reducible refine z_int ?_
    with_reducible refine z_mul (IntMulOk.of_right (intBits_le_64 (by omega) (by omega))) ?_
    with_reducible refine z_int ?_
    with_reducible refine z_add ?_
    with_reducible refine z_int ?_
    with_reducible refine z_fdiv (by omega) (by omega) ?_
    with_reducible refine spliced_none ?_
    ((rename St _ _ _ _ _ => S0); (with_reducible refine s_newTuple S0 (by wtm_at "small") ?_); (intro _ _ _ _ _; clear S0))
    ((rename St _ _ _ _ _ => S0); (first | with_reducible refine as_tup (Rm.hh (by assumption)) S0 (by wtm_at "at") (by with_unfolding_all rfl) (by with_unfolding_all rfl) ?_ | with_reducible refine as_list (Rm.hh (by assumption)) S0 (by wtm_at "at") (by with_unfolding_all rfl) (by with_unfolding_all rfl) ?_); (intro _ _; clear S0))
    with_reducible refine ao_cons (by with_unfolding_all rfl) ?_
    with_reducible refine as_name ?_
    ((rename St _ _ _ _ _ => S0); (with_reducible refine s_storeC S0 (by with_unfolding_all rfl) (by wtm_at "mem") (by wtm_at "up") (by with_unfolding_all rfl) (by with_unfolding_all rfl) ?_); (intro _ _; clear S0))
    with_reducible refine ao_cons (by with_unfolding_all rfl) ?_
    with_reducible refine as_name ?_
    ((rename St _ _ _ _ _ => S0); (with_reducible refine s_storeC S0 (by with_unfolding_all rfl) (by wtm_at "mem") (by wtm_at "up") (by with_unfolding_all rfl) (by with_unfolding_all rfl) ?_); (intro _ _; clear S0))
    with_reducible refine ao_cons (by with_unfolding_all rfl) ?_
    with_reducible refine as_name ?_
    ((rename St _ _ _ _ _ => S0); (with_reducible refine s_storeC S0 (by with_unfolding_all rfl) (by wtm_at "mem") (by wtm_at "up") (by with_unfolding_all rfl) (by with_unfolding_all rfl) ?_); (intro _ _; clear S0))
    with_reducible refine ao_nil ?_
    refine xs_for (by intro x; rfl) ?_
    with_reducible refine e_local (by assumption) (by with_unfolding_all rfl) (by with_unfolding_all rfl) (by with_unfolding_all rfl) (by with_unfolding_all rfl) (by decide) ?_
    rename St _ _ _ _ _ => S
    refine it_bytes S fun it h₃ _ _ S => ?_
    have em : ((bs.toArray.size : Int) * 8 + 5) / 6 = ((wmany bs.length : Nat) : Int) := by unfold wmany; simp
    rw [em] at S
    have hm1 : bs.length * 8 ≤ wmany bs.length * 6 ∧ wmany bs.length * 6 ≤ bs.length * 8 + 5 := by unfold wmany; omega
    generalize hM : wmany bs.length = many at *
    refine for_at bs.length (fun i h => ∃ t1 t2 t3 : Tok, St g L [("octets", .bytes bs.toArray t)] [(it, .pr (biP bs.toArray t i)), (L + 1 + 1 + 1, .cell (some (.int (many : Nat) t1))), (L + 1 + 1, .cell (some (.int (wnum (bs.take i) : Nat) t2))), (L + 1, .cell (some (.str sgn t3)))] h)
      ⟨_, _, _, S.sub (by wtm_at "sub")⟩ ?_ ?_
    · rintro i h₄ tk₄ hi ⟨t1, t2, t3, S⟩
      obtain ⟨c, hc⟩ : ∃ c, bs[i]? = some c := ⟨bs[i], by simp [hi]⟩
      refine nx_bytes S (by simpa using hc) fun h₅ S => ⟨_, rfl, lo_name (as_name ?_)⟩
      have e : bs.take (i + 1) = bs.take i ++ [c] := by rw [List.take_add_one, hc]; rfl
      have ew : wnum (bs.take (i + 1)) = wnum (bs.take i) * 256 + c.toNat := by unfold wnum; rw [e, List.foldl_append]; rfl
      have hb := wnum_lt (bs.take i)
      have hb2 : 256 ^ (bs.take i).length ≤ 256 ^ 5 := Nat.pow_le_pow_right (by decide) (by rw [List.length_take]; omega)
      have hb3 : wnum (bs.take i) < 1099511627776 := by omega
      clear hb hb2
      ((rename St _ _ _ _ _ => S0); (with_reducible refine s_store S0 (by with_unfolding_all rfl) (by with_unfolding_all rfl) (by with_unfolding_all rfl) ?_); (intro _ _; clear S0))
      with_reducible refine xs_assign (by with_unfolding_all rfl) ?_
      with_reducible refine wpAny_BinOp ?_
      with_reducible refine wpAny_BinOp ?_
      with_reducible refine e_cell (by with_unfolding_all rfl) (by wtm_at "at") (by with_unfolding_all rfl) (by with_unfolding_all rfl) (by decide) ?_
      with_reducible refine z_int ?_
      with_reducible refine z_mul (IntMulOk.of_left (intBits_le_64 (by omega) (by omega))) ?_
      with_reducible refine e_local (by assumption) (by with_unfolding_all rfl) (by with_unfolding_all rfl) (by with_unfolding_all rfl) (by with_unfolding_all rfl) (by decide) ?_
      with_reducible refine z_add ?_
      ((rename St _ _ _ _ _ => S0); (with_reducible refine s_storeC S0 (by with_unfolding_all rfl) (by wtm_at "mem") (by wtm_at "up") (by with_unfolding_all rfl) (by with_unfolding_all rfl) ?_); (intro _ _; clear S0))
      with_reducible refine xs_nil ?_
      rename St _ _ _ _ _ => S
      refine turnf_next ?_
      rw [ew]
      have e2 : ((wnum (bs.take i) : Nat) : Int) * 256 + (c.toNat : Int) = ((wnum (bs.take i) * 256 + c.toNat : Nat) : Int) := by omega
      rw [e2] at S
      exact ⟨t1, _, t3, S.names (by wtm_at "nm")⟩
    · rintro h₄ tk₄ ⟨t1, t2, t3, S⟩
      rw [List.take_length] at S
      refine nx_bytes_end r'.hh S (by simp) fun h₅ S => ⟨rfl, ?_⟩
      have hb := wnum_lt bs
      have hb2 : 256 ^ bs.length ≤ 256 ^ 5 := Nat.pow_le_pow_right (by decide) hz
      have hb3 : wnum bs < 1099511627776 := by omega
      clear hb hb2
      have hsz : (bs.toArray.size : Int) = (bs.length : Nat) := by simp
      with_reducible refine xs_assign (by with_unfolding_all rfl) ?_
      with_reducible refine wpAny_BinOp ?_
      with_reducible refine e_cell (by with_unfolding_all rfl) (by wtm_at "at") (by with_unfolding_all rfl) (by with_unfolding_all rfl) (by decide) ?_
      with_reducible refine wpAny_BinOp ?_
      with_reducible refine z_int ?_
      with_reducible refine wpAny_BinOp ?_
      with_reducible refine wpAny_BinOp ?_
      with_reducible refine e_cell (by with_unfolding_all rfl) (by wtm_at "at") (by with_unfolding_all rfl) (by with_unfolding_all rfl) (by decide) ?_
      with_reducible refine z_int ?_
      with_reducible refine z_mul (IntMulOk.of_left (intBits_le_64 (by omega) (by omega))) ?_
      with_reducible refine wpAny_BinOp ?_
      with_reducible refine wpAny_Call_NameR ?_
      with_reducible refine e_built (by assumption) (by assumption) (by k_is) (by wtm_at "boot") (by decide) (by with_unfolding_all rfl) (by with_unfolding_all rfl) (by with_unfolding_all rfl) (by with_unfolding_all rfl) (by decide) ?_
      with_reducible refine callWith_builtin1 ?_ (by with_unfolding_all rfl) (by with_unfolding_all rfl)
      with_reducible refine spliced_more ?_ (by with_unfolding_all rfl)
      with_reducible refine e_local (by assumption) (by with_unfolding_all rfl) (by with_unfolding_all rfl) (by with_unfolding_all rfl) (by with_unfolding_all rfl) (by decide) ?_
      with_reducible refine spliced_none ?_
      with_reducible refine z_blen (by first | omega | (simp; done) | (simp; omega)) ?_
      with_reducible refine z_int ?_
      with_reducible refine z_mul (IntMulOk.of_left (intBits_le_64 (by omega) (by omega))) ?_
      with_reducible refine z_sub ?_
      with_reducible refine z_pow (by omega) (by omega) (by omega) (by omega) ?_
      with_reducible refine z_mul (IntMulOk.of_left (intBits_le_64 (by omega) (by omega))) ?_
      ((rename St _ _ _ _ _ => S0); (with_reducible refine s_storeC S0 (by with_unfolding_all rfl) (by wtm_at "mem") (by wtm_at "up") (by with_unfolding_all rfl) (by with_unfolding_all rfl) ?_); (intro _ _; clear S0))
      with_reducible refine xs_return ?_
      with_reducible refine wpAny_BinOp ?_
      rename St _ _ _ _ _ => S
      have eN : ((wnum bs : Nat) : Int) * 2 ^ ((many : Int) * 6 - (bs.toArray.size : Int) * 8).toNat = ((wnum bs * 2 ^ (many * 6 - bs.length * 8) : Nat) : Int) := by
        rw [hsz, show ((many : Int) * 6 - ((bs.length : Nat) : Int) * 8).toNat = many * 6 - bs.length * 8 from by omega]
        push_cast; rfl
      rw [eN] at S
      clear eN
      unfold wr at q
      rw [hM] at q
      generalize wnum bs * 2 ^ (many * 6 - bs.length * 8) = N at *
      have hmany : many ≤ 7 := by omega
      refine m_call1 F.plainAttrs_str F.slot_str_join F.type_str_join (by wtm_at "rf") (by wtm_at "rf") (by wtm_at "rf") (by wtm_at "rf") (by wtm_at "rf") ?_
      with_reducible refine z_str ?_
      refine m_str ?_
      with_reducible refine spliced_more ?_ (by with_unfolding_all rfl)
      refine e_comp (by intro x; rfl) (by wtm_at "rf") (by wtm_at "rf") (by decide) ?_
      with_reducible refine wpAny_Call_NameR ?_
      with_reducible refine e_built (by assumption) (by assumption) (by k_is) (by wtm_at "boot") (by decide) (by with_unfolding_all rfl) (by with_unfolding_all rfl) (by with_unfolding_all rfl) (by with_unfolding_all rfl) (by decide) ?_
      with_reducible refine callWith_type1 ?_ (by with_unfolding_all rfl) (by with_unfolding_all rfl)
      with_reducible refine spliced_more ?_ (by with_unfolding_all rfl)
      with_reducible refine e_cell (by with_unfolding_all rfl) (by wtm_at "at") (by with_unfolding_all rfl) (by with_unfolding_all rfl) (by decide) ?_
      with_reducible refine spliced_none ?_
      refine s_range S fun r h₆ S => ?_
      refine it_range S (by wtm_at "at") (by omega) fun it h₇ _ _ S => ?_
      refine comp_at (M := [(it, .pr (riP 0 many 0))]) S G' (by decide) rfl fun gi C acc h₈ tk₈ Gi hs hsi hacc Si => ?_
      have c1 : At gi (L + 1 + 1 + 1) (.cell (some (.int (many : Nat) t1))) := S.inn hs (by wtm_at "mem")
      have c2 : At gi (L + 1 + 1) (.cell (some (.int (N : Nat) _))) := S.inn hs (by wtm_at "mem")
      have c3 : At gi (L + 1) (.cell (some (.str sgn t3))) := S.inn hs (by wtm_at "mem")
      have hm7 : (many : Int) ≤ 7 := by omega
      refine comp_loop (by intro v; rfl) (fun Q' E' q => sf_range Si (by wtm_at "mem") q) many
        (I := fun i h => ∃ (ρ' : List (Str × Value)) (cs : List (Nat × Tok)), cs.map (·.1) = (List.range i).map (fun k => sy (N / 64 ^ (many - 1 - k) % 64)) ∧ St gi C ρ' [(it, .pr (riP 0 many i)), (acc, .list (cs.map fun p => .str (ch p.1) p.2))] h) ⟨[], [], rfl, Si⟩ ?_ ?_
      · rintro i h₉ tk₉ hi ⟨ρ', cs, hcs, Si⟩
        have hlen : cs.length = i := by simpa using congrArg List.length hcs
        refine nx_range Si hi fun h₉ Si => ⟨_, rfl, as_name ?_⟩
        ((rename St _ _ _ _ _ => S0); (with_reducible refine s_store S0 (by with_unfolding_all rfl) (by with_unfolding_all rfl) (by with_unfolding_all rfl) ?_); (intro _ _; clear S0))
        with_reducible refine Subscript_ ?_
        with_reducible refine e_cell (by with_unfolding_all rfl) (by wtm_at "at") (by with_unfolding_all rfl) (by with_unfolding_all rfl) (by decide) ?_
        with_reducible refine wpAny_BinOp ?_
        with_reducible refine wpAny_BinOp ?_
        with_reducible refine e_cell (by with_unfolding_all rfl) (by wtm_at "at") (by with_unfolding_all rfl) (by with_unfolding_all rfl) (by decide) ?_
        with_reducible refine wpAny_BinOp ?_
        with_reducible refine z_int ?_
        with_reducible refine wpAny_BinOp ?_
        with_reducible refine wpAny_BinOp ?_
        with_reducible refine e_cell (by with_unfolding_all rfl) (by wtm_at "at") (by with_unfolding_all rfl) (by with_unfolding_all rfl) (by decide) ?_
        with_reducible refine z_int ?_
        with_reducible refine z_sub ?_
        with_reducible refine e_local (by assumption) (by with_unfolding_all rfl) (by with_unfolding_all rfl) (by with_unfolding_all rfl) (by with_unfolding_all rfl) (by decide) ?_
        with_reducible refine z_sub ?_
        with_reducible refine z_pow (by omega) (by omega) (by omega) (by omega) ?_
        have he : ((many : Int) - 1 - (0 + (i : Int))).toNat = many - 1 - i := by omega
        have hp : (64 : Int) ^ ((many : Int) - 1 - (0 + (i : Int))).toNat = ((64 ^ (many - 1 - i) : Nat) : Int) := by rw [he]; push_cast; rfl
        have hp1 : 64 ^ (many - 1 - i) ≤ 64 ^ 6 := Nat.pow_le_pow_right (by decide) (by omega)
        have hp2 : 0 < 64 ^ (many - 1 - i) := Nat.pow_pos (by decide)
        rw [hp]
        generalize hpe : 64 ^ (many - 1 - i) = p at *
        refine z_fdivL (by omega) (by omega) ?_
        with_reducible refine z_int ?_
        with_reducible refine z_fmod (by omega) ?_
        have hq : ((N : Int) / (p : Int) % 64) = ((N / p % 64 : Nat) : Int) := by omega
        have hq2 : N / p % 64 < 64 := Nat.mod_lt _ (by decide)
        rw [hq]
        refine z_sitem (c := sy (N / p % 64)) (by omega) (by omega) (sgn_at _ hq2) (by wtm_at "rf") ?_
        ((rename St _ _ _ _ _ => S0); (with_reducible refine s_append S0 (by wtm_at "mem") (by wtm_at "up") (by wtm_at "small") ?_); (intro _ _; clear S0))
        rename St _ _ _ _ _ => S9
        have e9 : (cs.map fun p => Value.str (ch p.1) p.2) ++ [.str ⟨#[sy (N / p % 64)]⟩ (tk₉ + 1 + 1 + 1 + 1 + 1 + 1 + 1 + 1 + 1 + 1)] = (cs ++ [(sy (N / p % 64), tk₉ + 1 + 1 + 1 + 1 + 1 + 1 + 1 + 1 + 1 + 1)]).map fun p => Value.str (ch p.1) p.2 := by rw [List.map_append]; rfl
        rw [e9] at S9
        exact ⟨_, _, rfl, _, _, by rw [List.range_succ, List.map_append, List.map_append, hcs, ← hpe]; rfl, S9⟩
      · rintro h₉ tk₉ ⟨ρ', cs, hcs, Si⟩
        refine nx_range_end r'.hh Si (Nat.le_refl _) fun h₁₀ Si => ⟨rfl, rfl, h₁₀, _, _, _, rfl, Si, fun h₁₁ S => ?_⟩
        have S := S.sub (Δ' := [(acc, .list (cs.map fun p => .str (ch p.1) p.2)), (L + 1 + 1 + 1, .cell (some (.int (many : Nat) t1)))]) (by wtm_at "sub")
        have hlen : cs.length = many := by simpa using congrArg List.length hcs
        with_reducible refine spliced_none ?_
        rw [show Str.ofString "" = Str.empty from by first | rfl | with_unfolding_all rfl | decide]
        refine z_join (S.at (by wtm_at "mem")) (by omega) fun t' k => ?_
        rw [hcs]
        with_reducible refine wpAny_BinOp ?_
        with_reducible refine z_str ?_
        with_reducible refine wpAny_BinOp ?_
        with_reducible refine wpAny_UnaryOp ?_
        with_reducible refine e_cell (by with_unfolding_all rfl) (by wtm_at "at") (by with_unfolding_all rfl) (by with_unfolding_all rfl) (by decide) ?_
        with_reducible refine z_neg ?_
        with_reducible refine z_int ?_
        with_reducible refine z_fmod (by omega) ?_
        have e4 : (-(many : Int) % 4) = (((4 - many % 4) % 4 : Nat) : Int) := by omega
        rw [e4]
        refine z_smul (by omega) (by omega) (by decide) fun t' k => ?_
        have emul : Txt.mul (Str.ofString "=") (((4 - many % 4) % 4 : Nat) : Int) = ⟨(List.replicate ((4 - many % 4) % 4) 61).toArray⟩ := by
          have : (4 - many % 4) % 4 < 4 := Nat.mod_lt _ (by decide)
          generalize (4 - many % 4) % 4 = m at *
          match m, this with
          | 0, _ => rfl
          | 1, _ => rfl
          | 2, _ => rfl
          | 3, _ => rfl
        rw [emul]
        refine z_sadd (by rw [len_ch, len_ch]; simp [sizeLine]; omega) fun t' k => ?_
        have := q h₁₁ t' k (fun a o e n => S.keep a o (kg a o e n))
        rw [str_app] at this
        exact this
end
section
theorem sl_fn_sa : Slot "function" "__setattr__" "object.__setattr__" :=
  .of (owner := "object") (n := "__setattr__") (by rw [typeLookup_type, builtinLookup_eq_fast]; kernel_rfl) (by decide +kernel) (by decide +kernel) (by decide +kernel)
    (by first | exact .inl (by decide +kernel) | exact .inr (by decide +kernel)) (by rw [isSubtype_type]; kernel_rfl)
theorem sl_fn_ga : Slot "function" "__getattribute__" "object.__getattribute__" :=
  .of (owner := "object") (n := "__getattribute__") (by rw [typeLookup_type, builtinLookup_eq_fast]; kernel_rfl) (by decide +kernel) (by decide +kernel) (by decide +kernel)
    (by first | exact .inl (by decide +kernel) | exact .inr (by decide +kernel)) (by rw [isSubtype_type]; kernel_rfl)
theorem mro_fn : mroOf (.type "function") = pure [.type "function", .type "object"] := by kernel_rfl
theorem fn_passes (self : Value) : refuseLoop self "__setattr__" [.type "function", .type "object"] = pure () := by kernel_rfl
theorem lk_fn_read : typeLookup (.type "function") "read" = pure none := by rw [typeLookup_type, builtinLookup_eq_fast]; kernel_rfl
theorem lk_fn_ga : typeLookup (.type "function") "__getattribute__" = pure (some (.builtin "object.__getattribute__")) := by rw [typeLookup_type, builtinLookup_eq_fast]; kernel_rfl
theorem lk_fn_gh : typeLookup (.type "function") "__getattr__" = pure none := by rw [typeLookup_type, builtinLookup_eq_fast]; kernel_rfl
theorem hasDict_fn : typeHasDict (.type "function") = true := by decide +kernel
section
open Builtin Builtin.ObjectAttr
variable {w : World} {A : Around} {E : Value → Shared → Prop} {z : Shared} {h : Heap} {tk : Nat} {x : Addr} {fd : FuncData} {v : Value}
/-- f.read = v upon a function that has no dict yet -/
theorem fn_setattr {Q : Unit → Shared → Prop} (hx : h.get? x = some { cls := .type "function", data := .func fd })
    (q : ∀ h' d tk', h.get? d = none → d ≠ x → h'.get? x = some { cls := .type "function", dict := some d, data := .func fd } → h'.Ns d (fun y => if y = "read" then some v else none) →
      (∀ b o, b ≠ x → h.get? b = some o → h'.get? b = some o) → Q () (Z z h' tk')) : wpAny (MM w) A (setAttr (.ref x) "read" v) Q E (Z z h tk) := by
  have hT : ∀ tk, (Z z h tk).TypeIs (.ref x) "function" := fun tk => ⟨_, hx, rfl⟩
  have hpass := fn_passes (.ref x)
  unfold setAttr
  refine wpAny_bind (wpAny_mkText ?_)
  refine wpAny_bind (wpAny_callSpecial?_slot (hT _) sl_fn_sa ?_)
  refine wpAny_call (codeAny_call_builtin sl_fn_sa.plain F.entry_object_setattr (sl_fn_sa.check _ _ _ _ _ _ _ _ (hT _) (F.args_object_setattr_3 _ _ _) ?_))
  unfold Builtin.«object.__setattr__»
  have hx₁ : (h.push { cls := .type "dict", data := .dict #[] }).get? x = some { cls := .type "function", data := .func fd } := Heap.get?_push_of_some _ hx
  have hxs : x ≠ h.objs.size := Nat.ne_of_lt (Heap.lt_size hx)
  have hgd : ((h.push { cls := .type "dict", data := .dict #[] }).update x fun o => { cls := o.cls, dict := some h.objs.size, data := o.data, slots := o.slots }).get? h.objs.size
      = some { cls := .type "dict", data := .dict #[] } := (Heap.get?_update_ne _ _ _ _ hxs.symm).trans (Heap.get?_push_at rfl rfl)
  have hnd : ((h.push { cls := .type "dict", data := .dict #[] }).update x fun o => { cls := o.cls, dict := some h.objs.size, data := o.data, slots := o.slots }).Ns h.objs.size (fun _ => none) :=
    ⟨_, #[], _, hgd, rfl, fun e he => absurd he (by simp), fun _ => rfl⟩
  repeat (first | rw [refuse_eq] | (rw [mro_fn]) | (rw [hpass]) | (rw [lk_fn_read]) | (with_reducible refine wpAny_loadPart_at hx ?_) | ((fail_if_success (with_reducible show wpAny _ _ (instanceDict _ _) _ _ _)); (fail_if_success (with_reducible show wpAny _ _ (nsSet _ _ _) _ _ _)); wp_step))
  unfold instanceDict
  refine wpAny_bind (wpAny_loadPart_at hx ?_)
  have e1 : (!true || !typeHasDict (Value.type "function")) = false := by rw [hasDict_fn]; rfl
  show wpAny _ _ (if (!true || !typeHasDict (Value.type "function")) = true then _ else _) _ _ _
  rw [e1, if_neg Bool.false_ne_true]
  refine wpAny_bind (wpAny_alloc' ?_)
  refine wpAny_bind (wpAny_update' hx₁ ?_)
  refine wpAny_pure ?_
  show wpAny _ _ (storeInDict h.objs.size _ _ v) _ _ _
  unfold storeInDict newKeyGuard
  refine wpAny_bind (wpAny_pure (wpAny_bind (wpAny_nsSet1 (Heap.Ns1.of_empty hnd) fun h' hn' hs => ?_)))
  obtain ⟨oD, esD, epD, hoD, hdD, hcD⟩ := hn'.count (Within.cons "read" v Within.nil)
  refine wpAny_bind (wpAny_lookBehind hoD (by rw [hdD]; exact pastItsLine_dict (Nat.le_trans hcD (by rw [List.length_cons, List.length_nil, sizeLine_eq]; omega))) ?_)
  refine wpAny_pure ?_
  refine wpAny_pure (q h' h.objs.size _ (get_size h) hxs.symm ?_ hn'.ns (fun b o hb e => ?_))
  · exact (hs.2 x hxs).trans (Heap.get?_update_self _ hx₁ rfl)
  · exact (hs.2 b (Nat.ne_of_lt (Heap.lt_size e))).trans ((Heap.get?_update_ne _ _ _ _ hb).trans (Heap.get?_push_of_some _ e))
set_option maxRecDepth 100000 in
/-- f.read(..) where f is a function that holds read in its dict -/
theorem fn_method {pl : Sem Bool} {d : Addr} {m : Str → Option Value} {Q : Value × List Value → Shared → Prop} (hx : h.get? x = some { cls := .type "function", dict := some d, data := .func fd }) (hn : h.Ns d m) {rd : Addr} (hv : m "read" = some (.ref rd))
    (q : ∀ tk', Q (.ref rd, []) (Z z h tk')) : wpAny (MM w) A (getMethod (.ref x) "read" pl) Q E (Z z h tk) := by
  have hT : ∀ tk, (Z z h tk).TypeIs (.ref x) "function" := fun tk => ⟨_, hx, rfl⟩
  have hcan := F.canon_object_ga
  unfold getMethod
  refine wpAny_bind (wpAny_specialOf (hT _) lk_fn_ga ?_)
  simp only [hcan, Bool.false_eq_true, if_false]
  refine wpAny_bind (wpAny_specialOf (hT _) lk_fn_gh ?_)
  refine wpAny_bind (wpAny_specialOf (hT _) lk_fn_read ?_)
  refine wpAny_bind ?_
  unfold getAttr getAttrBy
  refine wpAny_bind (wpAny_mkText (wpAny_holding ?_))
  refine wpAny_bind (wpAny_typeOf (hT _) ?_)
  rw [lk_fn_ga]
  refine wpAny_bind (wpAny_pure ?_)
  show wpAny _ _ (getAttrByItsOwn (.ref x) (.str "read" tk) (.type "function") (.builtin "object.__getattribute__") true false) _ _ _
  unfold getAttrByItsOwn hookBefore callGetattribute boundAndCalled
  refine wpAny_bind (wpAny_pure ?_)
  refine wpAny_bind (wpAny_attempt (wpAny_holding ?_))
  show wpAny _ _ (do let (g, first) ← bindSpecial (.builtin "object.__getattribute__") (.ref x); call g (first ++ [.str "read" tk])) _ _ _
  rw [sl_fn_ga.bind]
  refine wpAny_bind (wpAny_pure ?_)
  refine wpAny_call (codeAny_call_builtin sl_fn_ga.plain F.entry_object_getattribute (sl_fn_ga.check _ _ _ _ _ _ _ _ (hT _) (F.args_object_getattribute_2 _ _) ?_))
  unfold Builtin.«object.__getattribute__»
  refine wpAny_bind (show wpAny _ _ (pure (Value.ref x, [Value.str "read" tk])) _ _ _ from wpAny_pure ?_)
  refine wpAny_bind (show wpAny _ _ (pure (Str.ofString "read")) _ _ _ from wpAny_pure ?_)
  refine wpAny_bind (wpAny_typeOf (hT _) ?_)
  unfold find getOf dataDescriptor? ownThenClass inOwnDict inDict ObjectAttr.ownDict
  refine wpAny_bind ?_
  rw [lk_fn_read]
  refine wpAny_bind (wpAny_pure ?_)
  refine wpAny_bind (wpAny_pure ?_)
  refine wpAny_bind (wpAny_pure ?_)
  refine wpAny_bind (wpAny_bind (wpAny_bind (wpAny_loadPart_at hx ?_)))
  unfold instanceDict
  refine wpAny_bind (wpAny_loadPart_at hx ?_)
  refine wpAny_pure ?_
  refine wpAny_nsGet hn ?_
  rw [hv]
  refine wpAny_bind (wpAny_rule (wpAny_pure ?_))
  refine wpAny_pure ?_
  refine wpAny_pure (wpAny_pure (q _))
end
end
section
noncomputable def codeP (qual : Str) (o : Obj) : Prop := ∃ vs t, o.data = .fields vs ∧ vs[1]? = some (.str qual t)
/-- a namespace's object -/
noncomputable def nsP (m : Str → Option Value) (o : Obj) : Prop := ∃ h : Heap, ∃ a, h.get? a = some o ∧ h.Ns a m
theorem nsP_at {h : Heap} {a : Addr} {m : Str → Option Value} (x : h.Ns a m) : At h a (.pr (nsP m)) := let ⟨o, _, _, ho, _⟩ := id x; ⟨o, ho, h, a, ho, x⟩
theorem nsP_ns {h : Heap} {a : Addr} {m : Str → Option Value} (x : At h a (.pr (nsP m))) : h.Ns a m := by
  obtain ⟨o, ho, h₂, a₂, ho₂, o', es, ep, e, r⟩ := x
  rw [ho₂] at e; cases e
  exact ⟨o, es, ep, ho, r⟩
section
variable {g h h' : Heap} {L a : Addr} {ρ : List (Str × Value)} {Δ Δ' D : List (Addr × Ct)} {c : Ct}
theorem St.off (S : St g L ρ Δ h) (hn : h.get? a = none) : (∀ p ∈ Δ, p.1 ≠ a) ∧ a ≠ L ∧ g.get? a = none := by
  refine ⟨fun p hp e => ?_, fun e => ?_, ?_⟩
  · obtain ⟨o, ho⟩ := (S.nw p hp).1.has
    rw [e, hn] at ho; cases ho
  · obtain ⟨m, ⟨o, _, _, ho, _⟩, _⟩ := S.loc
    rw [← e, hn] at ho; cases ho
  · cases q : g.get? a with
    | none => rfl
    | some o => rw [S.keep _ _ q] at hn; cases hn
theorem St.add (S : St g L ρ Δ h) (hn : ∀ p ∈ Δ, p.1 ≠ a) (hL : a ≠ L) (hg : g.get? a = none) (x : At h a c) : St g L ρ ((a, c) :: Δ) h := by
  refine ⟨S.loc, S.keep, S.offL, fun p hp => ?_, ?_⟩
  · rcases List.mem_cons.mp hp with rfl | hp
    · exact ⟨x, hL, hg⟩
    · exact S.nw p hp
  · refine List.nodup_cons.mpr ⟨fun q => ?_, S.nd⟩
    obtain ⟨p, hp, e⟩ := List.mem_map.mp q
    exact hn p hp e
/-- what will not change any more goes into the base -/
theorem St.seal (S : St g L ρ (D ++ Δ) h) : ∃ g', St g' L ρ Δ h ∧ (∀ b o, g.get? b = some o → g'.get? b = some o) ∧ (∀ p ∈ D, At g' p.1 p.2) ∧ (∀ b o, g'.get? b = some o → h.get? b = some o) := by
  have nd := S.nd
  rw [List.map_append, List.nodup_append] at nd
  have hin : ∀ b o, h.get? b = some o → b ≠ L → b ∉ Δ.map (·.1) → (hideAll h (L :: Δ.map (·.1))).get? b = some o := fun b o e n1 n2 => hideAll_get _ e (by simpa using ⟨n1, by simpa using n2⟩)
  refine ⟨hideAll h (L :: Δ.map (·.1)), ⟨S.loc, fun b o e => of_hideAll _ e, hideAll_none _ (.head _), fun p hp => ?_, nd.2.1⟩, fun b o e => ?_, fun p hp => ?_, fun b o e => of_hideAll _ e⟩
  · have := S.nw p (List.mem_append_right _ hp)
    exact ⟨this.1, this.2.1, hideAll_none _ (.tail _ (List.mem_map_of_mem hp))⟩
  · refine hin b o (S.keep b o e) (fun q => ?_) fun q => ?_
    · rw [q, S.offL] at e; cases e
    · obtain ⟨p, hp, rfl⟩ := List.mem_map.mp q
      rw [(S.nw p (List.mem_append_right _ hp)).2.2] at e; cases e
  · obtain ⟨x, hL, _⟩ := S.nw p (List.mem_append_left _ hp)
    exact x.keeps fun o e => hin _ o e hL fun q => nd.2.2 p.1 (List.mem_map_of_mem hp) p.1 q rfl
theorem St.base {g' : Heap} (S : St g' L ρ Δ h) (hk : ∀ b o, g.get? b = some o → g'.get? b = some o) : St g L ρ Δ h := by
  have hn : ∀ b, g'.get? b = none → g.get? b = none := fun b e => by
    cases q : g.get? b with
    | none => rfl
    | some o => rw [hk _ _ q] at e; cases e
  exact ⟨S.loc, fun b o e => S.keep b o (hk b o e), hn _ S.offL, fun p hp => let ⟨a, b, c⟩ := S.nw p hp; ⟨a, b, hn _ c⟩, S.nd⟩
end
section
variable {w : World} {A : Around} {E : Value → Shared → Prop} {z : Shared} {g h : Heap} {tk : Nat} {L : Addr} {ρ : List (Str × Value)} {Δ : List (Addr × Ct)} {Δ' : Array Value → List (Addr × Ct)} {env : Env} {Q : Value → Shared → Prop}
  {name qual : Str} {params : Arguments} {scope : Scope} {pos : Pos} {firstLine : Nat} {clos : List (Str × Addr)} {c P : Addr} {ps : Array Value}
theorem bmain_at (G : Gd w g) (S : St g L ρ Δ h) (hm : (P, .obj (tabObj ps)) ∈ Δ) : ∃ mg, h.Ns mainGlobals mg ∧ mainGlobals ≠ P ∧ h.BuiltinsAt mg P := by
  obtain ⟨p, l, mn, mg, mb, T⟩ := G.T
  obtain ⟨o', hP, rfl⟩ := S.at hm
  have hgs := T.g.keeps S.keep
  obtain ⟨bm, ob, b1, b2, b3, b4, b5, b6⟩ := T.bmain
  have hgP : mainGlobals ≠ P := fun q => by
    obtain ⟨o, es, ep, e, hd, _⟩ := hgs
    rw [q, hP] at e; cases e; cases hd
  have hbP : bm ≠ P := fun q => by
    have e := S.keep _ _ b3
    rw [q, hP] at e; cases e; cases b4
  have hbG : bm ≠ mainGlobals := fun q => by
    obtain ⟨o, es, ep, e, hd, _⟩ := T.g
    rw [q, e] at b3; cases b3; rw [hd] at b6; cases b6
  exact ⟨mg, hgs, hgP, bm, ob, b1, b2, hbG, hbP, S.keep _ _ b3, b4, b5, b6⟩
theorem mk_def {body : List Stmt} (S : St g L ρ Δ h) (G : Gd w g) (C : CodeHd g c P) (hm : (P, .obj (tabObj ps)) ∈ Δ) (u : ∀ ps', Up P (.obj (tabObj ps')) Δ (Δ' ps')) (ht : TriplesOk ps.toList) (hnf : codeAmong pos ps.toList = none)
    (hcl : closureFor scope env = pure clos) (hge0 : env.globals = mainGlobals) (hcode : env.code = .ref c)
    (q : ∀ f c' ctv doc pm h' tk', St g L ρ ((f, .obj (fnMade name qual params body scope clos doc pm c' ctv)) :: (c', .pr (codeP qual)) :: Δ' (ps ++ #[rawInt pos.line, rawInt pos.col, .ref c'])) h' → Q (.ref f) (Z z h' tk')) :
    wpAny (MM w) A (makeFunction name qual params (.stmts body) scope env [] [] [] pos firstLine) Q E (Z z h tk) := by
  obtain ⟨mg, h1, h2, h3⟩ := bmain_at G S hm
  obtain ⟨o', hP, rfl⟩ := S.at hm
  refine makeFunction_K (s := Z z h tk) hcl hge0 h1 hcode (C.keeps S.keep) hP ht hnf h2 h3 fun c' ctv doc h' tk' hx hge hlt hrec htb => ?_
  obtain ⟨c₂, oc, vs, t, e2, hoc, hd, hv⟩ := hrec
  cases e2
  have S1 := S.call1 (u (ps ++ #[rawInt pos.line, rawInt pos.col, .ref c'])) (fun b o e n => hx b o (by simpa using n) e) ⟨_, htb, rfl⟩
  have hcn : h.get? c' = none := Heap.get?_none_of_le hge
  obtain ⟨o1, o2, o3⟩ := S.off hcn
  have S2 := S1.add (a := c') (c := .pr (codeP qual)) (fun p hp e => by
    have := List.mem_map_of_mem (f := (·.1)) hp
    rw [(u _).keys] at this
    obtain ⟨p', hp', e'⟩ := List.mem_map.mp this
    exact o1 p' hp' (e'.trans e)) o2 o3 ⟨oc, hoc, vs, t, hd, hv⟩
  exact q _ _ _ _ _ _ _ (S2.newAt (Keep.push _) (get_size h') ⟨_, Heap.get?_push_size _ rfl, rfl⟩)
theorem mk_defHit {body : List Stmt} {cv : Value} (S : St g L ρ Δ h) (G : Gd w g) (C : CodeHd g c P) (hm : (P, .obj (tabObj ps)) ∈ Δ) (ht : TriplesOk ps.toList) (hf : codeAmong pos ps.toList = some cv)
    (hcl : closureFor scope env = pure clos) (hge0 : env.globals = mainGlobals) (hcode : env.code = .ref c)
    (q : ∀ f ctv doc pm h' tk', h.get? f = none → Keep [] h h' → St g L ρ ((f, .obj { cls := .type "function", data := .func (fnX name qual params body scope clos .none .none doc pm none cv ctv) }) :: Δ) h' → Q (.ref f) (Z z h' tk')) :
    wpAny (MM w) A (makeFunction name qual params (.stmts body) scope env [] [] [] pos firstLine) Q E (Z z h tk) := by
  obtain ⟨mg, h1, h2, h3⟩ := bmain_at G S hm
  obtain ⟨o', hP, rfl⟩ := S.at hm
  refine makeFunction_hit (s := Z z h tk) hcl hge0 h1 hcode (C.keeps S.keep) hP ht hf h3 fun ctv doc h' tk' hk hsz => ?_
  have S1 := S.keepAll (h' := h') fun b o e _ => hk b o e
  exact q _ _ _ _ _ _ (Heap.get?_none_of_le hsz) (fun b o e _ => Heap.get?_push_of_some _ (hk b o e)) (S1.newAt (Keep.push _) (get_size h') ⟨_, Heap.get?_push_size _ rfl, rfl⟩)
theorem mk_lam {body : Expr} (S : St g L ρ Δ h) (G : Gd w g) (C : CodeHd g c P) (hm : (P, .obj (tabObj ps)) ∈ Δ) (u : ∀ ps', Up P (.obj (tabObj ps')) Δ (Δ' ps')) (ht : TriplesOk ps.toList) (hnf : codeAmong pos ps.toList = none)
    (hcl : closureFor scope env = pure clos) (hge0 : env.globals = mainGlobals) (hcode : env.code = .ref c)
    (q : ∀ f c' ctv pm h' tk', St g L ρ ((f, .obj (kla_obj name qual params body scope clos pm c' ctv)) :: (c', .pr (codeP qual)) :: Δ' (ps ++ #[rawInt pos.line, rawInt pos.col, .ref c'])) h' → Q (.ref f) (Z z h' tk')) :
    wpAny (MM w) A (makeFunction name qual params (.expr body) scope env [] [] [] pos firstLine) Q E (Z z h tk) := by
  obtain ⟨mg, h1, h2, h3⟩ := bmain_at G S hm
  obtain ⟨o', hP, rfl⟩ := S.at hm
  refine kla_makeFunction (s := Z z h tk) hcl hge0 h1 hcode (C.keeps S.keep) hP ht hnf h2 h3 fun c' ctv h' tk' hx hge hlt hrec htb => ?_
  obtain ⟨c₂, oc, vs, t, e2, hoc, hd, hv⟩ := hrec
  cases e2
  have S1 := S.call1 (u (ps ++ #[rawInt pos.line, rawInt pos.col, .ref c'])) (fun b o e n => hx b o (by simpa using n) e) ⟨_, htb, rfl⟩
  have hcn : h.get? c' = none := Heap.get?_none_of_le hge
  obtain ⟨o1, o2, o3⟩ := S.off hcn
  have S2 := S1.add (a := c') (c := .pr (codeP qual)) (fun p hp e => by
    have := List.mem_map_of_mem (f := (·.1)) hp
    rw [(u _).keys] at this
    obtain ⟨p', hp', e'⟩ := List.mem_map.mp this
    exact o1 p' hp' (e'.trans e)) o2 o3 ⟨oc, hoc, vs, t, hd, hv⟩
  exact q _ _ _ _ _ _ (S2.newAt (Keep.push _) (get_size h') ⟨_, Heap.get?_push_size _ rfl, rfl⟩)
theorem mk_lamHit {body : Expr} {cv : Value} (S : St g L ρ Δ h) (G : Gd w g) (C : CodeHd g c P) (hm : (P, .obj (tabObj ps)) ∈ Δ) (ht : TriplesOk ps.toList) (hf : codeAmong pos ps.toList = some cv)
    (hcl : closureFor scope env = pure clos) (hge0 : env.globals = mainGlobals) (hcode : env.code = .ref c)
    (q : ∀ f ctv pm h' tk', h.get? f = none → Keep [] h h' → St g L ρ ((f, .obj { cls := .type "function", data := .func (kla_fn name qual params body scope clos pm cv ctv) }) :: Δ) h' → Q (.ref f) (Z z h' tk')) :
    wpAny (MM w) A (makeFunction name qual params (.expr body) scope env [] [] [] pos firstLine) Q E (Z z h tk) := by
  obtain ⟨mg, h1, h2, h3⟩ := bmain_at G S hm
  obtain ⟨o', hP, rfl⟩ := S.at hm
  refine kla_makeFunctionHit (s := Z z h tk) hcl hge0 h1 hcode (C.keeps S.keep) hP ht hf h3 fun ctv h' tk' hk hsz => ?_
  have S1 := S.keepAll (h' := h') fun b o e _ => hk b o e
  exact q _ _ _ _ _ (Heap.get?_none_of_le hsz) (fun b o e _ => Heap.get?_push_of_some _ (hk b o e)) (S1.newAt (Keep.push _) (get_size h') ⟨_, Heap.get?_push_size _ rfl, rfl⟩)
/-- f.read = v -/
theorem s_setattr {x : Addr} {fd : FuncData} {v : Value} {Q : Unit → Shared → Prop} {Δ₁ Δ₂ : List (Addr × Ct)} (S : St g L ρ Δ₁ h) (hm : (x, .obj { cls := .type "function", data := .func fd }) ∈ Δ₁) (u : ∀ d, Up x (.obj { cls := .type "function", dict := some d, data := .func fd }) Δ₁ (Δ' #[.ref d]))
    (q : ∀ h' d tk', St g L ρ ((d, .pr (nsP fun y => if y = "read" then some v else none)) :: Δ' #[.ref d]) h' → Q () (Z z h' tk')) : wpAny (MM w) A (setAttr (.ref x) "read" v) Q E (Z z h tk) := by
  obtain ⟨o', hx, rfl⟩ := S.at hm
  refine fn_setattr hx fun h' d tk' hd hdx hx' hn hk => q h' d tk' ?_
  have S1 := S.call1 (u d) (fun b o e n => hk b o (by simpa using n) e) ⟨_, hx', rfl⟩
  obtain ⟨o1, o2, o3⟩ := S.off hd
  exact S1.add (fun p hp e => by
    have := List.mem_map_of_mem (f := (·.1)) hp
    rw [(u _).keys] at this
    obtain ⟨p', hp', e'⟩ := List.mem_map.mp this
    exact o1 p' hp' (e'.trans e)) o2 o3 (nsP_at hn)
end
end
section
noncomputable def slP (l u : Value) (o : Obj) : Prop := o = { cls := .type "slice", data := .fields #[l, u, .none] }
/-- xs[lo:hi] -/
noncomputable def cutL {α : Type} (xs : List α) (lo hi : Option Int) : List α := (xs.drop (lo.elim 0 (clipAt xs.length))).take (hi.elim xs.length (clipAt xs.length) - lo.elim 0 (clipAt xs.length))
theorem cut_run (items : List Value) (lo hi : Option Int) : slicePick items.toArray lo hi none = (cutL items lo hi).toArray := by
  unfold slicePick cutL
  rw [sliceBounds_plain]
  simp only [sliceRange_one, pick_run, List.size_toArray]
section
variable {w : World} {A : Around} {E : Value → Shared → Prop} {z : Shared} {g h : Heap} {tk : Nat} {L : Addr} {ρ : List (Str × Value)} {Δ : List (Addr × Ct)} {env : Env} {Q : Value → Shared → Prop} {s : Shared} {t : Tok}
theorem e_slice {lower upper : Option Expr} {p : Pos}
    (q : wpAny (MM w) A (evalPart lower env) (fun l s₁ => wpAny (MM w) A (evalPart upper env) (fun u s₂ => wpAny (MM w) A (newFields "slice" [l, u, .none]) Q E s₂) E s₁) E s) :
    wpAny (MM w) A (eval (.Slice lower upper none p) env) Q E s := by
  rw [arm_eval_Slice]
  refine wpAny_bind (wpAny_mono q (fun l s₁ h₁ => wpAny_bind (wpAny_holding (wpAny_mono h₁ (fun u s₂ h₂ => wpAny_bind (wpAny_holding (wpAny_pure h₂))) fun _ _ x => x))) fun _ _ x => x)
theorem ep_none (q : Q .none s) : wpAny (MM w) A (evalPart none env) Q E s := wpAny_pure q
theorem ep_some {e : Expr} (q : wpAny (MM w) A (eval e env) Q E s) : wpAny (MM w) A (evalPart (some e) env) Q E s := q
theorem s_newSlice {l u : Value} (S : St g L ρ Δ h) (q : ∀ a h', St g L ρ ((a, .pr (slP l u)) :: Δ) h' → Q (.ref a) (Z z h' tk)) : wpAny (MM w) A (newFields "slice" [l, u, .none]) Q E (Z z h tk) :=
  wpAny_newObj_type (s := Z z h tk) (q _ _ (S.newAt (Keep.push _) (get_size h) ⟨_, Heap.get?_push_size _ rfl, rfl⟩))
theorem slP_is {a : Addr} {l u : Value} (x : At h a (.pr (slP l u))) : h.IsSliceOf a l u .none := by
  obtain ⟨o, ho, rfl⟩ := x
  exact ⟨_, ho, rfl, rfl⟩
theorem z_bslice {value slice : Expr} {b : List UInt8} {sl : Addr} {l u : Value} {lo hi : Option Int} (hs : At h sl (.pr (slP l u))) (hl : IsPart l lo) (hu : IsPart u hi) (hz : b.length ≤ 1000000)
    (hs' : subscripted slice false (.bytes b.toArray t) (.ref sl) = operate [.ref sl, .bytes b.toArray t] (getItem (.bytes b.toArray t) (.ref sl))) (ht : ∀ r, letTemporaryGo value (.bytes b.toArray t) r = pure ())
    (q : ∀ t' k, Q (.bytes (cutL b lo hi).toArray t') (Z z h k)) : wpAny (MM w) A (subscriptTail value slice (.bytes b.toArray t) (.ref sl)) Q E (Z z h tk) := by
  have e : KBy.picked b.toArray lo hi = (cutL b lo hi).toArray := by rw [KBc.picked_eq]; unfold cutL; simp
  refine tail_of_ItemOn ⟨"bytes", _, FB.slot_bytes_getitem.lookup, typeIs_bytes _ _ _, getItem_meets (typeIs_bytes _ _ _) (by decide) FB.slot_bytes_getitem FB.entry_bytes_getitem (FB.args_bytes_getitem_2 _ _) (KBc.meets_slice2 b.toArray t _ hl hu)
    ⟨slP_is hs, Nat.le_trans (KBc.size_picked_le b.toArray lo hi) (by simp [sizeLine]; omega), fun t' k => ?_⟩⟩ hs' ht
  rw [e]
  exact q t' k
theorem z_lslice {value slice : Expr} {a : Addr} {vs : List Value} {sl : Addr} {l u : Value} {lo hi : Option Int} (S : St g L ρ Δ h) (hs : At h sl (.pr (slP l u))) (hv : At h a (.list vs)) (hl : IsPart l lo) (hu : IsPart u hi) (hz : vs.length ≤ 1000000)
    (hs' : subscripted slice false (.ref a) (.ref sl) = operate [.ref sl, .ref a] (getItem (.ref a) (.ref sl))) (ht : ∀ r, letTemporaryGo value (.ref a) r = pure ())
    (q : ∀ n h', h.get? n = none → Keep [] h h' → St g L ρ ((n, .list (cutL vs lo hi)) :: Δ) h' → Q (.ref n) (Z z h' tk)) : wpAny (MM w) A (subscriptTail value slice (.ref a) (.ref sl)) Q E (Z z h tk) := by
  refine tail_of_ItemOn ⟨"list", _, list_getitem_lookup, hv.isList.typeIs, wpAny_getItem_list_slice (s := Z z h tk) hv.isList (slP_is hs) hl hu .none (by simp) ?_ (by simp [sizeLine]; omega)⟩ hs' ht
  refine q _ _ (get_size h) (Keep.push _) (S.newAt (Keep.push _) (get_size h) ⟨_, Heap.get?_push_size _ rfl, 0, ?_⟩)
  rw [cut_run]
end
end
section
section
variable {w : World} {A : Around} {E : Value → Shared → Prop} {z : Shared} {h : Heap} {tk : Nat}
/-- into a def that another def has made -/
theorem enterX {g₀ : Heap} {f : Addr} {pos : List Value} {kw : List (Str × Value)} {k : Nat} {Q : Value → Shared → Prop}
    {name qual : Str} {params : Arguments} {body : List Stmt} {scope : Scope} {cl : List (Str × Addr)} {doc pm cdv ct : Value} {od : Option Addr} {osl : Array (Option Value)} {binds : List (Str × Value)}
    (M : List (Addr × Ct)) (ρ : List (Str × Value)) (r : Rm A (k + 1)) (G : Gd w g₀) (k₀ : ∀ b o, g₀.get? b = some o → h.get? b = some o) (hM : ∀ p ∈ M, At h p.1 p.2 ∧ g₀.get? p.1 = none) (nd : (M.map (·.1)).Nodup)
    (ho : h.get? f = some ⟨.type "function", od, .func (fnX name qual params body scope cl .none .none doc pm none cdv ct), osl⟩) (hcd : h.CodeRec cdv qual)
    (hbind : BindsTo (Z z h tk) (fnX name qual params body scope cl .none .none doc pm none cdv ct) ⟨pos, kw⟩ binds) (hρ : ∀ x v, ρ.lookup x = some v → binds.reverse.lookup x = some v) (hloc : ∀ y ∈ binds, scope.names.lookup y.1 = some .local)
    (hco : scope.isCoroutine = false) (hgen : scope.isGenerator = false) (hk : scope.kind = .function) (hcell : ∀ x ∈ scope.names, x.2 ≠ .cell)
    (body' : ∀ A' g L h₁ tk₁, Rm A' k → Gd w g → (∀ b o, h.get? b = some o → b ∉ M.map (·.1) → g.get? b = some o) → (∀ b o, g.get? b = some o → h.get? b = some o) → St g L ρ M h₁ →
      wpAny (MM w) A' (execs body (envX qual scope L f cdv cl)) (fun fl s' => Q (retv fl) s') NoE (Z z h₁ tk₁)) :
    wpAny (MM w) A (call (.ref f) pos kw) Q E (Z z h tk) := by
  have Gh := G.keeps k₀
  obtain ⟨p, l, mn, mg, mb, T⟩ := Gh.T
  refine wpAny_call (codeAny_call_def (fd := fnX name qual params body scope cl .none .none doc pm none cdv ct) (body := body) (binds := binds) r.room ho rfl T.nolimit hcd rfl hbind hcell hloc (fun h₁ hns hk₁ => ?_) hco hgen hk)
  have hs : ∀ b o, h.get? b = some o → b ∉ M.map (·.1) → (hideAll h (M.map (·.1))).get? b = some o := fun b o e n => hideAll_get _ e n
  have G' : Gd w (hideAll h (M.map (·.1))) := G.keeps fun b o e => hs b o (k₀ b o e) fun q => by
    obtain ⟨p, hp, rfl⟩ := List.mem_map.mp q
    rw [(hM p hp).2] at e; cases e
  have x := body' (A.deeper (envX qual scope h.objs.size f cdv cl)) (hideAll h (M.map (·.1))) h.objs.size h₁ (tk + binds.length) (r.deeper _) G' hs (fun b o e => of_hideAll _ e)
    ⟨⟨_, hns, hρ⟩, fun b o e => hk₁ b o (of_hideAll _ e), by
      cases q : (hideAll h (M.map (·.1))).get? h.objs.size with
      | none => rfl
      | some o => exact absurd (Heap.lt_size (of_hideAll _ q)) (Nat.lt_irrefl _), fun p hp => ⟨(hM p hp).1.keeps fun o e => hk₁ _ _ e, Nat.ne_of_lt (hM p hp).1.lt, hideAll_none _ (List.mem_map_of_mem hp)⟩, nd⟩
  refine wpAny_mono x (fun fl s' q => ?_) fun _ _ e => e.elim
  cases fl <;> exact q
theorem xs_def {name : Str} {params : Arguments} {body rest : List Stmt} {scope : Scope} {pos : Pos} {env : Env} {s : Shared} {Q : Flow → Shared → Prop} (hd0 : params.defaults = []) (hk0 : params.kw_defaults = []) (ha : annTrees params none env = [])
    (q : wpAny (MM w) A (makeFunction name (qualnameIn env name name) params (.stmts body) scope env [] [] [] pos pos.line) (fun v s' => wpAny (MM w) A (storeName env name v) (fun _ s'' => wpAny (MM w) A (execs rest env) Q E s'') E s') E s) :
    wpAny (MM w) A (execs (.FunctionDef name params body [] none [] scope none name pos :: rest) env) Q E s := wpAny_execs_cons (nestDef_K hd0 hk0 ha q)
theorem xs_setattr {o value : Expr} {attr : Str} {pos' pos : Pos} {rest : List Stmt} {env : Env} {s : Shared} {Q : Flow → Shared → Prop} (hs : swapsWith value (some (.Attribute o attr pos')) pos.line env = pure false)
    (q : wpAny (MM w) A (eval value env) (fun v s₁ => wpAny (MM w) A (eval o env) (fun ov s₂ => wpAny (MM w) A (setAttr ov attr v) (fun _ s₃ => wpAny (MM w) A (execs rest env) Q E s₃) E s₂) E s₁) E s) :
    wpAny (MM w) A (execs (.Assign [.Attribute o attr pos'] value pos :: rest) env) Q E s := wpAny_execs_cons (plainObj_wpAny_Assign_Attribute q hs)
end
noncomputable abbrev rdQ : Str := "_law_file.<locals>.read"
/-- what a stream's read does -/
noncomputable def RdP (w : World) (co cp k : Addr) (o : Obj) : Prop := (∃ oc od fd sl, o = ⟨oc, od, .func fd, sl⟩) ∧
  ∀ {A : Around} {E : Value → Shared → Prop} {z : Shared} {g₀ h : Heap} {tk kk : Nat} {Q : Value → Shared → Prop} {rd pl : Addr} {bs : List UInt8} {t u v : Tok} {p n : Nat},
    Rm A (kk + 1) → Gd w g₀ → (∀ b o, g₀.get? b = some o → h.get? b = some o) → g₀.get? rd = some o → At g₀ k (.pr (codeP rdQ)) → At g₀ co (.cell (some (.bytes bs.toArray t))) → At g₀ cp (.cell (some (.ref pl))) →
    At h pl (.list [.int p u]) → g₀.get? pl = none → bs.length ≤ 1000000 → p ≤ 1000000 → n ≤ 1000000 →
    (∀ h' t' t'' tk', Keep [pl] h h' → At h' pl (.list [.int (p + n : Nat) t'']) → Q (.bytes ((bs.drop p).take n).toArray t') (Z z h' tk')) →
    wpAny (MM w) A (call (.ref rd) [.int n v]) Q E (Z z h tk)
/-- the function that holds its read in its dict -/
noncomputable def fnD (d : Addr) (o : Obj) : Prop := ∃ fd, o = { cls := .type "function", dict := some d, data := .func fd }
theorem St.weak {g h : Heap} {L a : Addr} {ρ : List (Str × Value)} {Δ Δ' : List (Addr × Ct)} {c c' : Ct} (S : St g L ρ Δ h) (u : Up a c' Δ Δ') (hm : (a, c) ∈ Δ) (hi : ∀ o, c.is o → c'.is o) : St g L ρ Δ' h :=
  S.upd u (Heap.SameBut.refl _ _) (let ⟨o, ho, x⟩ := S.at hm; ⟨o, ho, hi o x⟩)
theorem s_setattr0 {w : World} {A : Around} {E : Value → Shared → Prop} {z : Shared} {g h : Heap} {tk : Nat} {L x : Addr} {ρ : List (Str × Value)} {R : List (Addr × Ct)} {fd : FuncData} {v : Value} {Q : Unit → Shared → Prop} (S : St g L ρ ((x, .obj { cls := .type "function", data := .func fd }) :: R) h)
    (q : ∀ h' d tk', St g L ρ ((d, .pr (nsP fun y => if y = "read" then some v else none)) :: (x, .pr (fnD d)) :: R) h' → Q () (Z z h' tk')) : wpAny (MM w) A (setAttr (.ref x) "read" v) Q E (Z z h tk) := by
  obtain ⟨o', hx, rfl⟩ := S.at (.head _)
  refine fn_setattr hx fun h' d tk' hd hdx hx' hn hk => q h' d tk' ?_
  have S1 := S.call1 (c' := .pr (fnD d)) .head (fun b o e n => hk b o (by simpa using n) e) ⟨_, hx', _, rfl⟩
  obtain ⟨o1, o2, o3⟩ := S.off hd
  refine S1.add (fun p hp e => ?_) o2 o3 (nsP_at hn)
  rcases List.mem_cons.mp hp with rfl | hp
  · exact hdx e.symm
  · exact o1 p (.tail _ hp) e
theorem St.fresh2 {g h h' : Heap} {L T : Addr} {ρ : List (Str × Value)} {D : List (Addr × Ct)} {c : Ct} (S : St g L ρ (D ++ [(T, c)]) h') (kg : ∀ b o, h.get? b = some o → b ∉ [T] → g.get? b = some o) : ∀ p ∈ D, h.get? p.1 = none := by
  intro p hp
  cases q : h.get? p.1 with
  | none => rfl
  | some o =>
    have nd := S.nd
    rw [List.map_append, List.nodup_append] at nd
    have := kg p.1 o q fun e => nd.2.2 p.1 (List.mem_map_of_mem hp) T (by simp) (List.mem_singleton.mp e)
    rw [(S.nw p (List.mem_append_left _ hp)).2.2] at this; cases this
noncomputable abbrev fullTab (k k2 : Addr) : Array Value := #[rawInt 106, rawInt 4, .ref k, rawInt 110, rawInt 11, .ref k2]
noncomputable abbrev FE (w : World) (bs : List UInt8) (t : Tok) (f d rd co cp k pl : Addr) (t' : Tok) : List (Addr × Ct) :=
  [(d, .pr (nsP fun y => if y = "read" then some (.ref rd) else none)), (f, .pr (fnD d)), (rd, .pr (RdP w co cp k)), (pl, .list [.int 0 t']), (cp, .cell (some (.ref pl))), (co, .cell (some (.bytes bs.toArray t)))]
set_option maxRecDepth 100000 in
set_option maxHeartbeats 4000000 in
theorem file_miss {w : World} {A : Around} {E : Value → Shared → Prop} {z : Shared} {g₀ h : Heap} {tk : Nat} {Q : Value → Shared → Prop} {bs : List UInt8} {t : Tok}
    (r : Rm A 2) (G : Gd w g₀) (k₀ : ∀ b o, g₀.get? b = some o → h.get? b = some o) (ht : At h 102 (.obj (tabObj #[]))) (ht₀ : g₀.get? 102 = none) (hz : bs.length ≤ 1000000)
    (q : ∀ (h' : Heap) (tk' : Nat) (f k k2 d rd co cp pl : Addr) (t' : Tok), Keep [102] h h' → At h' 102 (.obj (tabObj (fullTab k k2))) →
      (∀ p ∈ (k, .pr (codeP rdQ)) :: FE w bs t f d rd co cp k pl t', h.get? p.1 = none ∧ At h' p.1 p.2) → (((k, Ct.pr (codeP rdQ)) :: FE w bs t f d rd co cp k pl t').map (·.1)).Nodup → Q (.ref f) (Z z h' tk')) :
    wpAny (MM w) A (call (.ref 107) [.bytes bs.toArray t]) Q E (Z z h tk) := by
  refine' enterC [(102, .obj (tabObj #[]))] [] (fun L => [(L + 1 + 1, .cell none), (L + 1, .cell (some (.bytes bs.toArray t)))]) r G k₀ ?hM ?nd ?ho ?hcd ?hb ?hr ?hC ?hlc ?c1 ?c2 ?c3 ?c4 ?body
  case hM => intro p hp; simp only [List.mem_singleton] at hp; subst hp; exact ⟨ht, ht₀⟩
  case nd => simp
  wtm_at "enterC"
  case body =>
    intro A' g L h₁ tk₁ r' G' kg gk S
    simp only [List.cons_append, List.nil_append] at S
    with_reducible refine xs_assign (by with_unfolding_all rfl) ?_
    with_reducible refine e_list ?_
    with_reducible refine spliced_more ?_ (by with_unfolding_all rfl)
    with_reducible refine z_int ?_
    with_reducible refine spliced_none ?_
    ((rename St _ _ _ _ _ => S0); (with_reducible refine s_newList S0 (by wtm_at "small") ?_); (intro _ _ _ _ _; clear S0))
    ((rename St _ _ _ _ _ => S0); (with_reducible refine s_storeC S0 (by with_unfolding_all rfl) (by wtm_at "mem") (by wtm_at "up") (by with_unfolding_all rfl) (by with_unfolding_all rfl) ?_); (intro _ _; clear S0))
    rename St _ _ _ _ _ => S
    rename Addr => pl
    refine xs_def (by rfl) (by rfl) (by rfl) ?_
    refine mk_def (qual := rdQ) (c := 106) (Δ' := fun ps => [(pl, Ct.list [Value.int 0 tk₁]), (L + 1 + 1, Ct.cell (some (Value.ref pl))), (L + 1, Ct.cell (some (Value.bytes bs.toArray t))), (102, Ct.obj (tabObj ps))]) S G' G'.C.1 (by wtm_at "mem") (fun ps' => by wtm_at "up") (by simp [TriplesOk]) rfl (by wtm_at "rf") rfl rfl fun rd k ctv doc pm h₂ tk₂ S => ?_
    have S := S.weak (a := rd) (c' := .pr (RdP w (L + 1) (L + 1 + 1) k)) (by wtm_at "up") (by wtm_at "mem") (by
      rintro o rfl
      refine ⟨⟨_, _, _, _, rfl⟩, ?_⟩
      intro A E z g₀ h tk kk Q rd pl bs t u v p n r G k₀ hrd hk hco hcp hpl hpl₀ hz1 hz2 hz3 q
      refine' enterX [(pl, .list [.int p u])] [("many", .int n v)] r G k₀ ?hM ?nd (k₀ _ _ hrd) ?hcd ?hb ?hr ?hlc ?c1 ?c2 ?c3 ?c4 ?body
      case hM => intro x hx; simp only [List.mem_singleton] at hx; subst hx; exact ⟨hpl, hpl₀⟩
      case nd => simp
      case hcd =>
        obtain ⟨oc, hoc, vs, tc, hd1, hv1⟩ := hk
        exact ⟨k, oc, vs, tc, rfl, k₀ _ _ hoc, hd1, hv1⟩
      case hb => exact BindsTo.of_eq rfl
      case hr => wtm_at "nm"
      case hlc => exact locs rfl
      case c1 => rfl
      case c2 => rfl
      case c3 => rfl
      case c4 => decide
      case body =>
        intro A' g L' h₁ tk₁ r' G' kg gk S
        have hne : ∀ {a c}, At g₀ a c → a ∉ [pl] := fun x e => by
          obtain ⟨o, ho⟩ := x.has
          rw [List.mem_singleton.mp e, hpl₀] at ho; cases ho
        have hcog := hco.keeps fun o e => kg _ _ (k₀ _ _ e) (hne hco)
        have hcpg := hcp.keeps fun o e => kg _ _ (k₀ _ _ e) (hne hcp)
        with_reducible refine xs_assign (by with_unfolding_all rfl) ?_
        with_reducible refine Subscript_ ?_
        with_reducible refine e_free (by with_unfolding_all rfl) (by wtm_at "at") (by with_unfolding_all rfl) (by with_unfolding_all rfl) (by decide) (by decide) ?_
        with_reducible refine z_int ?_
        refine e_item (by wtm_at "at") (by omega) (by omega) (v := .int p u) (by rfl) (by wtm_at "rf") ?_
        ((rename St _ _ _ _ _ => S0); (with_reducible refine s_store S0 (by with_unfolding_all rfl) (by with_unfolding_all rfl) (by with_unfolding_all rfl) ?_); (intro _ _; clear S0))
        with_reducible refine xs_assign_sub (by with_unfolding_all rfl) ?_
        with_reducible refine wpAny_BinOp ?_
        with_reducible refine e_local (by assumption) (by with_unfolding_all rfl) (by with_unfolding_all rfl) (by with_unfolding_all rfl) (by with_unfolding_all rfl) (by decide) ?_
        with_reducible refine e_local (by assumption) (by with_unfolding_all rfl) (by with_unfolding_all rfl) (by with_unfolding_all rfl) (by with_unfolding_all rfl) (by decide) ?_
        with_reducible refine z_add ?_
        with_reducible refine e_free (by with_unfolding_all rfl) (by wtm_at "at") (by with_unfolding_all rfl) (by with_unfolding_all rfl) (by decide) (by decide) ?_
        with_reducible refine z_int ?_
        ((rename St _ _ _ _ _ => S0); (with_reducible refine s_setItem S0 (by wtm_at "mem") (by wtm_at "up") (by omega) (by omega) (by first | omega | (simp; done) | (simp; omega)) ?_); (intro _ _; clear S0))
        with_reducible refine xs_return ?_
        with_reducible refine Subscript_ ?_
        with_reducible refine e_free (by with_unfolding_all rfl) (by wtm_at "at") (by with_unfolding_all rfl) (by with_unfolding_all rfl) (by decide) (by decide) ?_
        with_reducible refine e_slice ?_
        with_reducible refine ep_some ?_
        with_reducible refine e_local (by assumption) (by with_unfolding_all rfl) (by with_unfolding_all rfl) (by with_unfolding_all rfl) (by with_unfolding_all rfl) (by decide) ?_
        with_reducible refine ep_some ?_
        with_reducible refine wpAny_BinOp ?_
        with_reducible refine e_local (by assumption) (by with_unfolding_all rfl) (by with_unfolding_all rfl) (by with_unfolding_all rfl) (by with_unfolding_all rfl) (by decide) ?_
        with_reducible refine e_local (by assumption) (by with_unfolding_all rfl) (by with_unfolding_all rfl) (by with_unfolding_all rfl) (by with_unfolding_all rfl) (by decide) ?_
        with_reducible refine z_add ?_
        ((rename St _ _ _ _ _ => S0); (with_reducible refine s_newSlice S0 ?_); (intro _ _ _; clear S0))
        rename St _ _ _ _ _ => S
        refine z_bslice (by wtm_at "at") (.int _ _) (.int _ _) hz1 (by wtm_at "rf") (by intro r; wtm_at "rf") fun t' k => ?_
        have ec : cutL bs (some (p : Int)) (some ((p : Int) + (n : Int))) = (bs.drop p).take n := by
          unfold cutL
          show (bs.drop (clipAt bs.length ((p : Nat) : Int))).take (clipAt bs.length ((p : Int) + (n : Int)) - clipAt bs.length ((p : Nat) : Int)) = _
          rw [show (p : Int) + (n : Int) = ((p + n : Nat) : Int) from by omega, clipAt_nat, clipAt_nat]
          by_cases hp : p ≤ bs.length
          · rw [Nat.min_eq_left hp]
            by_cases hn : p + n ≤ bs.length
            · rw [Nat.min_eq_left hn, Nat.add_sub_cancel_left]
            · rw [Nat.min_eq_right (by omega), List.take_of_length_le (by rw [List.length_drop]; omega), List.take_of_length_le (by rw [List.length_drop]; omega)]
          · rw [show min p bs.length = bs.length from by omega, List.drop_length, List.drop_eq_nil_of_le (by omega)]; simp
        rw [ec]
        have hl := S.sub (Δ' := [(pl, .list [.int (p + n : Nat) _])]) (by wtm_at "sub")
        exact q _ _ _ _ (fun a o e n => S.keep a o (kg a o e n)) (hl.at (by wtm_at "mem")))
    ((rename St _ _ _ _ _ => S0); (with_reducible refine s_store S0 (by with_unfolding_all rfl) (by with_unfolding_all rfl) (by with_unfolding_all rfl) ?_); (intro _ _; clear S0))
    with_reducible refine xs_assign (by with_unfolding_all rfl) ?_
    rename St _ _ _ _ _ => S
    refine kla_eval (by rfl) ?_
    refine mk_lam (c := 106) (Δ' := fun ps => [(rd, Ct.pr (RdP w (L + 1) (L + 1 + 1) k)), (k, Ct.pr (codeP rdQ)), (pl, Ct.list [Value.int 0 tk₁]), (L + 1 + 1, Ct.cell (some (Value.ref pl))), (L + 1, Ct.cell (some (Value.bytes bs.toArray t))), (102, Ct.obj (tabObj ps))]) S G' G'.C.1 (by wtm_at "mem") (fun ps' => by wtm_at "up") (by simp [TriplesOk, rawInt]) rfl (by wtm_at "rf") rfl rfl fun f k2 ctv pm h₂ tk₂ S => ?_
    ((rename St _ _ _ _ _ => S0); (with_reducible refine s_store S0 (by with_unfolding_all rfl) (by with_unfolding_all rfl) (by with_unfolding_all rfl) ?_); (intro _ _; clear S0))
    refine xs_setattr (by wtm_at "rf") ?_
    with_reducible refine e_local (by assumption) (by with_unfolding_all rfl) (by with_unfolding_all rfl) (by with_unfolding_all rfl) (by with_unfolding_all rfl) (by decide) ?_
    with_reducible refine e_local (by assumption) (by with_unfolding_all rfl) (by with_unfolding_all rfl) (by with_unfolding_all rfl) (by with_unfolding_all rfl) (by decide) ?_
    rename St _ _ _ _ _ => S
    refine s_setattr0 S fun h₃ d tk₃ S => ?_
    with_reducible refine xs_return ?_
    with_reducible refine e_local (by assumption) (by with_unfolding_all rfl) (by with_unfolding_all rfl) (by with_unfolding_all rfl) (by with_unfolding_all rfl) (by decide) ?_
    have S := S.sub (Δ' := [(d, .pr (nsP fun y => if y = "read" then some (.ref rd) else none)), (f, .pr (fnD d)), (rd, .pr (RdP w (L + 1) (L + 1 + 1) k)), (k, .pr (codeP rdQ)), (pl, .list [.int 0 tk₁]), (L + 1 + 1, .cell (some (.ref pl))), (L + 1, .cell (some (.bytes bs.toArray t))), (102, .obj (tabObj (fullTab k k2)))]) (by wtm_at "sub")
    have S := S.perm (Δ' := ((k, .pr (codeP rdQ)) :: FE w bs t f d rd (L + 1) (L + 1 + 1) k pl tk₁) ++ [(102, .obj (tabObj (fullTab k k2)))]) (List.perm_middle (l₁ := [_, _, _]) (a := (k, Ct.pr (codeP rdQ)))).symm
    have fr := S.fresh2 kg
    have nd := S.nd
    rw [List.map_append, List.nodup_append] at nd
    exact q _ _ f k k2 d rd (L + 1) (L + 1 + 1) pl tk₁ (fun a o e n => S.keep a o (kg a o e n)) (S.at (List.mem_append_right _ (.head _))) (fun p hp => ⟨fr p hp, S.at (List.mem_append_left _ hp)⟩) nd.1
set_option maxRecDepth 100000 in
set_option maxHeartbeats 4000000 in
theorem file_hit {w : World} {A : Around} {E : Value → Shared → Prop} {z : Shared} {g₀ h : Heap} {tk : Nat} {Q : Value → Shared → Prop} {bs : List UInt8} {t : Tok} {k k2 : Addr}
    (r : Rm A 2) (G : Gd w g₀) (k₀ : ∀ b o, g₀.get? b = some o → h.get? b = some o) (ht : At h 102 (.obj (tabObj (fullTab k k2)))) (ht₀ : g₀.get? 102 = none) (hz : bs.length ≤ 1000000)
    (q : ∀ (h' : Heap) (tk' : Nat) (f d rd co cp pl : Addr) (t' : Tok), Keep [102] h h' → At h' 102 (.obj (tabObj (fullTab k k2))) →
      (∀ p ∈ FE w bs t f d rd co cp k pl t', h.get? p.1 = none ∧ At h' p.1 p.2) → ((FE w bs t f d rd co cp k pl t').map (·.1)).Nodup → Q (.ref f) (Z z h' tk')) :
    wpAny (MM w) A (call (.ref 107) [.bytes bs.toArray t]) Q E (Z z h tk) := by
  refine' enterC [(102, .obj (tabObj (fullTab k k2)))] [] (fun L => [(L + 1 + 1, .cell none), (L + 1, .cell (some (.bytes bs.toArray t)))]) r G k₀ ?hM ?nd ?ho ?hcd ?hb ?hr ?hC ?hlc ?c1 ?c2 ?c3 ?c4 ?body
  case hM => intro p hp; simp only [List.mem_singleton] at hp; subst hp; exact ⟨ht, ht₀⟩
  case nd => simp
  wtm_at "enterC"
  case body =>
    intro A' g L h₁ tk₁ r' G' kg gk S
    simp only [List.cons_append, List.nil_append] at S
    with_reducible refine xs_assign (by with_unfolding_all rfl) ?_
    with_reducible refine e_list ?_
    with_reducible refine spliced_more ?_ (by with_unfolding_all rfl)
    with_reducible refine z_int ?_
    with_reducible refine spliced_none ?_
    ((rename St _ _ _ _ _ => S0); (with_reducible refine s_newList S0 (by wtm_at "small") ?_); (intro _ _ _ _ _; clear S0))
    ((rename St _ _ _ _ _ => S0); (with_reducible refine s_storeC S0 (by with_unfolding_all rfl) (by wtm_at "mem") (by wtm_at "up") (by with_unfolding_all rfl) (by with_unfolding_all rfl) ?_); (intro _ _; clear S0))
    rename St _ _ _ _ _ => S
    rename Addr => pl
    refine xs_def (by rfl) (by rfl) (by rfl) ?_
    refine mk_defHit (qual := rdQ) (c := 106) (cv := .ref k) S G' G'.C.1 (by wtm_at "mem") (by simp [TriplesOk, rawInt]) rfl (by wtm_at "rf") rfl rfl fun rd ctv doc pm h₂ tk₂ _ _ S => ?_
    have S := S.weak (a := rd) (c' := .pr (RdP w (L + 1) (L + 1 + 1) k)) (by wtm_at "up") (by wtm_at "mem") (by
      rintro o rfl
      refine ⟨⟨_, _, _, _, rfl⟩, ?_⟩
      intro A E z g₀ h tk kk Q rd pl bs t u v p n r G k₀ hrd hk hco hcp hpl hpl₀ hz1 hz2 hz3 q
      refine' enterX [(pl, .list [.int p u])] [("many", .int n v)] r G k₀ ?hM ?nd (k₀ _ _ hrd) ?hcd ?hb ?hr ?hlc ?c1 ?c2 ?c3 ?c4 ?body
      case hM => intro x hx; simp only [List.mem_singleton] at hx; subst hx; exact ⟨hpl, hpl₀⟩
      case nd => simp
      case hcd =>
        obtain ⟨oc, hoc, vs, tc, hd1, hv1⟩ := hk
        exact ⟨k, oc, vs, tc, rfl, k₀ _ _ hoc, hd1, hv1⟩
      case hb => exact BindsTo.of_eq rfl
      case hr => wtm_at "nm"
      case hlc => exact locs rfl
      case c1 => rfl
      case c2 => rfl
      case c3 => rfl
      case c4 => decide
      case body =>
        intro A' g L' h₁ tk₁ r' G' kg gk S
        have hne : ∀ {a c}, At g₀ a c → a ∉ [pl] := fun x e => by
          obtain ⟨o, ho⟩ := x.has
          rw [List.mem_singleton.mp e, hpl₀] at ho; cases ho
        have hcog := hco.keeps fun o e => kg _ _ (k₀ _ _ e) (hne hco)
        have hcpg := hcp.keeps fun o e => kg _ _ (k₀ _ _ e) (hne hcp)
        with_reducible refine xs_assign (by with_unfolding_all rfl) ?_
        with_reducible refine Subscript_ ?_
        with_reducible refine e_free (by with_unfolding_all rfl) (by wtm_at "at") (by with_unfolding_all rfl) (by with_unfolding_all rfl) (by decide) (by decide) ?_
        with_reducible refine z_int ?_
        refine e_item (by wtm_at "at") (by omega) (by omega) (v := .int p u) (by rfl) (by wtm_at "rf") ?_
        ((rename St _ _ _ _ _ => S0); (with_reducible refine s_store S0 (by with_unfolding_all rfl) (by with_unfolding_all rfl) (by with_unfolding_all rfl) ?_); (intro _ _; clear S0))
        with_reducible refine xs_assign_sub (by with_unfolding_all rfl) ?_
        with_reducible refine wpAny_BinOp ?_
        with_reducible refine e_local (by assumption) (by with_unfolding_all rfl) (by with_unfolding_all rfl) (by with_unfolding_all rfl) (by with_unfolding_all rfl) (by decide) ?_
        with_reducible refine e_local (by assumption) (by with_unfolding_all rfl) (by with_unfolding_all rfl) (by with_unfolding_all rfl) (by with_unfolding_all rfl) (by decide) ?_
        with_reducible refine z_add ?_
        with_reducible refine e_free (by with_unfolding_all rfl) (by wtm_at "at") (by with_unfolding_all rfl) (by with_unfolding_all rfl) (by decide) (by decide) ?_
        with_reducible refine z_int ?_
        ((rename St _ _ _ _ _ => S0); (with_reducible refine s_setItem S0 (by wtm_at "mem") (by wtm_at "up") (by omega) (by omega) (by first | omega | (simp; done) | (simp; omega)) ?_); (intro _ _; clear S0))
        with_reducible refine xs_return ?_
        with_reducible refine Subscript_ ?_
        with_reducible refine e_free (by with_unfolding_all rfl) (by wtm_at "at") (by with_unfolding_all rfl) (by with_unfolding_all rfl) (by decide) (by decide) ?_
        with_reducible refine e_slice ?_
        with_reducible refine ep_some ?_
        with_reducible refine e_local (by assumption) (by with_unfolding_all rfl) (by with_unfolding_all rfl) (by with_unfolding_all rfl) (by with_unfolding_all rfl) (by decide) ?_
        with_reducible refine ep_some ?_
        with_reducible refine wpAny_BinOp ?_
        with_reducible refine e_local (by assumption) (by with_unfolding_all rfl) (by with_unfolding_all rfl) (by with_unfolding_all rfl) (by with_unfolding_all rfl) (by decide) ?_
        with_reducible refine e_local (by assumption) (by with_unfolding_all rfl) (by with_unfolding_all rfl) (by with_unfolding_all rfl) (by with_unfolding_all rfl) (by decide) ?_
        with_reducible refine z_add ?_
        ((rename St _ _ _ _ _ => S0); (with_reducible refine s_newSlice S0 ?_); (intro _ _ _; clear S0))
        rename St _ _ _ _ _ => S
        refine z_bslice (by wtm_at "at") (.int _ _) (.int _ _) hz1 (by wtm_at "rf") (by intro r; wtm_at "rf") fun t' k => ?_
        have ec : cutL bs (some (p : Int)) (some ((p : Int) + (n : Int))) = (bs.drop p).take n := by
          unfold cutL
          show (bs.drop (clipAt bs.length ((p : Nat) : Int))).take (clipAt bs.length ((p : Int) + (n : Int)) - clipAt bs.length ((p : Nat) : Int)) = _
          rw [show (p : Int) + (n : Int) = ((p + n : Nat) : Int) from by omega, clipAt_nat, clipAt_nat]
          by_cases hp : p ≤ bs.length
          · rw [Nat.min_eq_left hp]
            by_cases hn : p + n ≤ bs.length
            · rw [Nat.min_eq_left hn, Nat.add_sub_cancel_left]
            · rw [Nat.min_eq_right (by omega), List.take_of_length_le (by rw [List.length_drop]; omega), List.take_of_length_le (by rw [List.length_drop]; omega)]
          · rw [show min p bs.length = bs.length from by omega, List.drop_length, List.drop_eq_nil_of_le (by omega)]; simp
        rw [ec]
        have hl := S.sub (Δ' := [(pl, .list [.int (p + n : Nat) _])]) (by wtm_at "sub")
        exact q _ _ _ _ (fun a o e n => S.keep a o (kg a o e n)) (hl.at (by wtm_at "mem")))
    ((rename St _ _ _ _ _ => S0); (with_reducible refine s_store S0 (by with_unfolding_all rfl) (by with_unfolding_all rfl) (by with_unfolding_all rfl) ?_); (intro _ _; clear S0))
    with_reducible refine xs_assign (by with_unfolding_all rfl) ?_
    rename St _ _ _ _ _ => S
    refine kla_eval (by rfl) ?_
    refine mk_lamHit (c := 106) (cv := .ref k2) S G' G'.C.1 (by wtm_at "mem") (by simp [TriplesOk, rawInt]) rfl (by wtm_at "rf") rfl rfl fun f ctv pm h₂ tk₂ _ _ S => ?_
    ((rename St _ _ _ _ _ => S0); (with_reducible refine s_store S0 (by with_unfolding_all rfl) (by with_unfolding_all rfl) (by with_unfolding_all rfl) ?_); (intro _ _; clear S0))
    refine xs_setattr (by wtm_at "rf") ?_
    with_reducible refine e_local (by assumption) (by with_unfolding_all rfl) (by with_unfolding_all rfl) (by with_unfolding_all rfl) (by with_unfolding_all rfl) (by decide) ?_
    with_reducible refine e_local (by assumption) (by with_unfolding_all rfl) (by with_unfolding_all rfl) (by with_unfolding_all rfl) (by with_unfolding_all rfl) (by decide) ?_
    rename St _ _ _ _ _ => S
    refine s_setattr0 S fun h₃ d tk₃ S => ?_
    with_reducible refine xs_return ?_
    with_reducible refine e_local (by assumption) (by with_unfolding_all rfl) (by with_unfolding_all rfl) (by with_unfolding_all rfl) (by with_unfolding_all rfl) (by decide) ?_
    have S := S.sub (Δ' := FE w bs t f d rd (L + 1) (L + 1 + 1) k pl tk₁ ++ [(102, .obj (tabObj (fullTab k k2)))]) (by wtm_at "sub")
    have fr := S.fresh2 kg
    have nd := S.nd
    rw [List.map_append, List.nodup_append] at nd
    exact q _ _ f d rd (L + 1) (L + 1 + 1) pl tk₁ (fun a o e n => S.keep a o (kg a o e n)) (S.at (List.mem_append_right _ (.head _))) (fun p hp => ⟨fr p hp, S.at (List.mem_append_left _ hp)⟩) nd.1
end
section
/-- the frames outside: their namespaces -/
noncomputable abbrev Fs := List (Addr × (Str → Option Value))
noncomputable def frE (F : Fs) : List (Addr × Ct) := F.map fun p => (p.1, .pr (nsP p.2))
theorem frE_keys (F : Fs) : (frE F).map (·.1) = F.map (·.1) := by unfold frE; rw [List.map_map]; rfl
noncomputable def FOk : List Env → Fs → Prop
  | [], [] => True
  | env :: o, p :: F => env.scope.kind ≠ .module ∧ env.frame = some p.1 ∧ FOk o F
  | _, _ => False
theorem FOk.fun {g h : Heap} : ∀ {outer : List Env} {F : Fs}, FOk outer F → (∀ p ∈ F, h.Ns p.1 p.2 ∧ g.get? p.1 = none) → h.FunFrames g outer
  | [], [], _, _ => trivial
  | env :: o, p :: F, x, k => by
    obtain ⟨h1, h2, h3⟩ := x
    obtain ⟨⟨ob, es, ep, ho, hd, _⟩, hg⟩ := k p (.head _)
    exact ⟨h1, ⟨p.1, ob, h2, hg, ho, fun vs q => by rw [hd] at q; cases q⟩, FOk.fun h3 fun q hq => k q (.tail _ hq)⟩
  | [], _ :: _, x, _ => x.elim
  | _ :: _, [], x, _ => x.elim
theorem St.frs {g h : Heap} {L : Addr} {ρ : List (Str × Value)} {Δ : List (Addr × Ct)} {F : Fs} (S : St g L ρ Δ h) (hs : ∀ p ∈ frE F, p ∈ Δ) : ∀ p ∈ F, h.Ns p.1 p.2 ∧ g.get? p.1 = none := fun p hp => by
  have := S.nw _ (hs _ (List.mem_map_of_mem hp))
  exact ⟨nsP_ns this.1, this.2.2⟩
/-- a ValueError flies -/
noncomputable def Fly (z : Shared) (g₀ : Heap) (outer : List Env) (F : Fs) (pl : Addr) (p' : Nat) (msg : Str) (e : Value) (s' : Shared) : Prop :=
  ∃ a g' h' tk t u v, e = .ref a ∧ s' = Z z h' tk ∧ g₀.StaysIn g' ∧ At g' pl (.list [.int p' u]) ∧ Heap.FlyingW g' outer a (.type "ValueError") (.ref t) h' ∧ h'.TupAt t [.str msg v] ∧ ∀ p ∈ F, h'.Ns p.1 p.2
section
variable {w : World} {A : Around} {E : Value → Shared → Prop} {z : Shared} {g h h' : Heap} {tk : Nat} {L : Addr} {ρ : List (Str × Value)} {env : Env} {outer : List Env} {F : Fs} {pl a : Addr} {p' : Nat} {u v : Tok} {msg : Str}
theorem raise_leaves (hfr : A.frames = some (env :: outer)) (hf : env.frame = some L) (hkd : env.scope.kind ≠ .module) (hO : FOk outer F) (S : St g L ρ ((pl, .list [.int p' u]) :: frE F) h) (hx : Heap.MadeExc h h' a "ValueError" [.str msg v]) :
    wpAny (MM w) A (leaving env (.ref a)) (fun _ s'' => Fly z g outer F pl p' msg (.ref a) s'') E (Z z h' tk) := by
  obtain ⟨g', S', hg, hD, _⟩ := St.seal (D := [(pl, .list [.int p' u])]) S
  obtain ⟨m, hn, _⟩ := S'.loc
  have hF := S'.frs (F := F) fun p hp => hp
  have hl : h.FunFrames g' (env :: outer) := by
    obtain ⟨ob, es, ep, ho, hd, _⟩ := hn
    exact ⟨hkd, ⟨L, ob, hf, S'.offL, ho, fun vs q => by rw [hd] at q; cases q⟩, hO.fun hF⟩
  refine wpAny_leaves_madeW (s := Z z h' tk) (cls := .type "ValueError") (args := [.str msg v]) hfr hf S'.keep hl ⟨hx.keeps, hx.new, hx.there⟩ fun h₂ t fl ht _ us => ?_
  exact ⟨a, g', h₂, tk, t, u, v, rfl, rfl, hg, hD _ (.head _), fl, ht, fun p hp => us.ns ((hF p hp).1.keeps hx.keeps)⟩
theorem fly_leaves {g₁ : Heap} {m : Str → Option Value} {e : Value} {s' : Shared} (hfr : A.frames = some (env :: outer)) (hf : env.frame = some L) (hg : g₁.StaysIn g) (x : Fly z g (env :: outer) ((L, m) :: F) pl p' msg e s') :
    wpAny (MM w) A (leaving env e) (fun _ s'' => Fly z g₁ outer F pl p' msg e s'') E s' := by
  obtain ⟨a, g', h', tk, t, u, v, rfl, rfl, h1, h2, h3, h4, h5⟩ := x
  refine wpAny_leaves_onW (s := Z z h' tk) hfr hf h3 fun h₂ fl us => ?_
  exact ⟨a, g', h₂, tk, t, u, v, rfl, rfl, fun b o e => h1 b o (hg b o e), h2, fl, h4.of_slots us, fun p hp => us.ns (h5 p (.tail _ hp))⟩
/-- into a def that may raise -/
theorem enterE {g₀ : Heap} {f : Addr} {pos : List Value} {kw : List (Str × Value)} {k : Nat} {Q : Value → Shared → Prop}
    {name qual : Str} {params : Arguments} {body : List Stmt} {scope : Scope} {dV kV doc pm cdv ct oc : Value} {an od : Option Addr} {osl : Array (Option Value)} {binds : List (Str × Value)}
    (hA : A.frames = some outer) (M : List (Addr × Ct)) (ρ : List (Str × Value)) (r : Rm A (k + 1)) (G : Gd w g₀) (k₀ : ∀ b o, g₀.get? b = some o → h.get? b = some o) (hM : ∀ p ∈ M, At h p.1 p.2 ∧ g₀.get? p.1 = none) (nd : (M.map (·.1)).Nodup)
    (ho : (hd.heap_1 w.params).lookup f = some ⟨oc, od, .func (fnOf name qual params body scope dV kV doc pm an cdv ct), osl⟩) (hcd : codeIn (hd.heap_1 w.params) cdv qual = true)
    (hbind : BindsTo (Z z h tk) (fnOf name qual params body scope dV kV doc pm an cdv ct) ⟨pos, kw⟩ binds) (hρ : ∀ x v, ρ.lookup x = some v → binds.reverse.lookup x = some v) (hloc : ∀ y ∈ binds, scope.names.lookup y.1 = some .local)
    (hco : scope.isCoroutine = false) (hgen : scope.isGenerator = false) (hk : scope.kind = .function) (hcell : ∀ x ∈ scope.names, x.2 ≠ .cell)
    (body' : ∀ A' L h₁ tk₁, Rm A' k → A'.frames = some (envOf qual scope L f cdv :: outer) → St g₀ L ρ M h₁ →
      wpAny (MM w) A' (execs body (envOf qual scope L f cdv)) (fun fl s' => Q (retv fl) s') (fun e s' => wpAny (MM w) A' (leaving (envOf qual scope L f cdv) e) (fun _ s'' => E e s'') (fun e' s'' => E e' s'') s') (Z z h₁ tk₁)) :
    wpAny (MM w) A (call (.ref f) pos kw) Q E (Z z h tk) := by
  have Gh := G.keeps k₀
  obtain ⟨p, l, mn, mg, mb, T⟩ := Gh.T
  refine wpAny_call (codeAny_call_def (fd := fnOf name qual params body scope dV kV doc pm an cdv ct) (body := body) (binds := binds) r.room (Gh.X _ _ ho) rfl T.nolimit (codeRec_of Gh.X hcd) rfl hbind hcell hloc (fun h₁ hns hk₁ => ?_) hco hgen hk)
  have x := body' (A.deeper (envOf qual scope h.objs.size f cdv)) h.objs.size h₁ (tk + binds.length) (r.deeper _) (Around.frames_deeper hA)
    ⟨⟨_, hns, hρ⟩, fun b o e => hk₁ b o (k₀ b o e), by
      cases q : g₀.get? h.objs.size with
      | none => rfl
      | some o => exact absurd (Heap.lt_size (k₀ _ _ q)) (Nat.lt_irrefl _), fun p hp => ⟨(hM p hp).1.keeps fun o e => hk₁ _ _ e, Nat.ne_of_lt (hM p hp).1.lt, (hM p hp).2⟩, nd⟩
  refine wpAny_mono x (fun fl s' q => ?_) fun _ _ e => e
  cases fl <;> exact q
end
end
section
inductive FileP (w : World) (P : Addr → Ct → Prop) (f pl : Addr) (bs : List UInt8) : Prop
  | mk (d rd co cp k : Addr) (t : Tok) (h1 : P f (.pr (fnD d))) (h2 : P d (.pr (nsP fun y => if y = "read" then some (.ref rd) else none))) (h3 : P rd (.pr (RdP w co cp k))) (h4 : P k (.pr (codeP rdQ)))
    (h5 : P co (.cell (some (.bytes bs.toArray t)))) (h6 : P cp (.cell (some (.ref pl)))) : FileP w P f pl bs
theorem FileP.mono {w : World} {P P' : Addr → Ct → Prop} {f pl : Addr} {bs : List UInt8} (h : FileP w P f pl bs) (k : ∀ a c, P a c → P' a c) : FileP w P' f pl bs := by
  cases h with | mk d rd co cp kk t h1 h2 h3 h4 h5 h6 => exact .mk d rd co cp kk t (k _ _ h1) (k _ _ h2) (k _ _ h3) (k _ _ h4) (k _ _ h5) (k _ _ h6)
noncomputable abbrev FileAt (w : World) (g : Heap) (f pl : Addr) (bs : List UInt8) : Prop := FileP w (At g) f pl bs
theorem FileAt.keeps {w : World} {g g' : Heap} {f pl : Addr} {bs : List UInt8} (x : FileAt w g f pl bs) (k : ∀ b o, g.get? b = some o → g'.get? b = some o) : FileAt w g' f pl bs := x.mono fun _ _ y => y.keeps fun _ e => k _ _ e
section
variable {w : World} {A : Around} {E : Value → Shared → Prop} {z : Shared} {g h : Heap} {tk : Nat} {env : Env} {s : Shared} {Q : Value → Shared → Prop}
/-- f.read(n): the call -/
noncomputable def ReadOn (w : World) (A : Around) (E : Value → Shared → Prop) (Q : Value → Shared → Prop) (trees : List (Bool × Sem Value)) (ov : Value) (s : Shared) : Prop :=
  ∃ f d rd z h tk fd, ov = .ref f ∧ s = Z z h tk ∧ h.get? f = some { cls := .type "function", dict := some d, data := .func fd } ∧ h.Ns d (fun y => if y = "read" then some (.ref rd) else none) ∧ FnAt rd h ∧
    ∀ tk', wpAny (MM w) A (spliced trees) (fun vs s₂ => FnAt rd s₂.heap ∧ wpAny (MM w) A (call (.ref rd) vs) Q E s₂) E (Z z h tk')
theorem m_read {o e : Expr} {apos pos : Pos} (hbase : attributeBase o "read" env (eval o env) = eval o env)
    (hfew : ((backTo pos (starEach [e] env)).all (fun x => !x.1) && (backToKw pos (keywordEach [] env)).all (fun x => x.1.isSome)
      && decide (([e] : List Expr).length + ([] : List Keyword).length + (if ([] : List Keyword).isEmpty then 0 else 1) < 30)) = true)
    (hline : (apos.endLine == pos.line) = true) (he : starEach [e] env = (false, eval e env) :: starEach [] env) (hp : (backTo pos (starEach [] env)).any (·.1) = false)
    (q : wpAny (MM w) A (eval o env) (fun ov s₁ => ReadOn w A E Q (backTo pos (starEach [e] env)) ov s₁) E s) :
    wpAny (MM w) A (eval (.Call (.Attribute o "read" apos) [e] [] pos) env) Q E s := by
  rw [arm_eval_Call, hbase]
  refine wpAny_bind (wpAny_mono q (fun ov s₁ h₁ => ?_) fun _ _ e => e)
  obtain ⟨f, d, rd, z, h, tk, fd, rfl, rfl, h1, h2, h3, h4⟩ := h₁
  refine wpAny_bind (wpAny_standAt ?_)
  have hform : methodCallForm (([e] : List Expr).length + ([] : List Keyword).length) (backTo pos (starEach [e] env)) (backToKw pos (keywordEach [] env)) = true := hfew
  have hpos : methodCallPos true o env apos pos = pure pos := by unfold methodCallPos; simp [hline]
  unfold methodCall
  rw [hform]
  refine wpAny_bind (wpAny_holding (fn_method (rd := rd) h1 h2 (if_pos rfl) fun tk' => ?_))
  refine wpAny_bind (wpAny_of_eq hpos ?_)
  exact callWith_F (s := Z z h tk') h3 (wpAny_mono (h4 tk') (fun vs s₂ h => h) fun _ _ x => x) he hp
end

section
variable {w : World} {A : Around} {E : Value → Shared → Prop} {z : Shared} {g h : Heap} {tk : Nat} {L : Addr} {ρ : List (Str × Value)} {Δ : List (Addr × Ct)} {env : Env} {s : Shared} {Q : Value → Shared → Prop}
theorem rd_on {f pl : Addr} {bs : List UInt8} {trees : List (Bool × Sem Value)} (S : St g L ρ Δ h) (hf : FileAt w g f pl bs)
    (q : ∀ rd tk', FnAt rd h → (∀ {k p n : Nat} {h₂ : Heap} {tk₂ : Nat} {u v : Tok} {ρ₂ : List (Str × Value)} {Δ₂ : List (Addr × Ct)}, Rm A (k + 1) → Gd w g → St g L ρ₂ ((pl, .list [.int p u]) :: Δ₂) h₂ → bs.length ≤ 1000000 → p ≤ 1000000 → n ≤ 1000000 →
      (∀ h' t' t'' tk', St g L ρ₂ ((pl, .list [.int (p + n : Nat) t'']) :: Δ₂) h' → Q (.bytes ((bs.drop p).take n).toArray t') (Z z h' tk')) → FnAt rd h₂ ∧ wpAny (MM w) A (call (.ref rd) [.int n v]) Q E (Z z h₂ tk₂)) →
      wpAny (MM w) A (spliced trees) (fun vs s₂ => FnAt rd s₂.heap ∧ wpAny (MM w) A (call (.ref rd) vs) Q E s₂) E (Z z h tk')) :
    ReadOn w A E Q trees (.ref f) (Z z h tk) := by
  obtain ⟨d, rd, co, cp, k, t, ⟨of, h1, fd, rfl⟩, h2, ⟨or, h3, ⟨oc, od, fdr, sl, hor⟩, hR⟩, h4, h5, h6⟩ := hf
  have fn : FnAt rd g := ⟨oc, od, fdr, sl, hor ▸ h3⟩
  have fk : ∀ {h' : Heap}, (∀ b o, g.get? b = some o → h'.get? b = some o) → FnAt rd h' := fun k => let ⟨a, b, c, d, e⟩ := fn; ⟨a, b, c, d, k _ _ e⟩
  refine ⟨f, d, rd, z, h, tk, fd, rfl, rfl, S.keep _ _ h1, (nsP_ns h2).keeps S.keep, fk S.keep, fun tk' => q rd tk' (fk S.keep) ?_⟩
  intro kk p n h₂ tk₂ u v ρ₂ Δ₂ r G S₂ hz1 hz2 hz3 q'
  refine ⟨fk S₂.keep, hR r G S₂.keep h3 h4 h5 h6 (S₂.at (.head _)) (S₂.fresh (.head _)) hz1 hz2 hz3 fun h' t' t'' tk' hk hp => ?_⟩
  exact q' h' t' t'' tk' (S₂.call1 .head hk hp)
end
section
variable {w : World} {A : Around} {E : Value → Shared → Prop} {z : Shared} {h : Heap} {tk : Nat} {env : Env} {s : Shared} {rest : List Stmt}
theorem xs_raise {np cpos pos : Pos} {e : Expr} {Q : Flow → Shared → Prop} (hh : A.handled = none) (he : starEach [e] env = (false, eval e env) :: starEach [] env) (hplain : (backTo cpos (starEach [e] env)).any (·.1) = false)
    (q : wpAny (MM w) A (eval (.Name "ValueError" np) env) (fun f s₁ => f = .type "ValueError" ∧ wpAny (MM w) A (spliced (backTo cpos (starEach [e] env))) (fun vs s₂ => vs.length ≤ sizeLine ∧ ∀ h' a, Heap.MadeExc s₂.heap h' a "ValueError" vs → E (.ref a) { s₂ with heap := h' }) E s₁) E s) :
    wpAny (MM w) A (execs (.Raise (some (.Call (.Name "ValueError" np) [e] [] cpos)) none pos :: rest) env) Q E s := by
  refine wpAny_execs_cons (wpAny_Raise_call F.excCall_ValueError F.excRaise_ValueError hh hplain (wpAny_mono q (fun f s₁ h₁ => ⟨h₁.1, ?_⟩) fun _ _ x => x))
  have h₂ := h₁.2
  rw [he] at h₂ ⊢
  exact evalArgs_plain (wpAny_mono h₂ (fun vs s₂ h₃ => ⟨rfl, h₃.1, h₃.2⟩) fun _ _ x => x)
theorem and_rfl {α : Type} {a : α} {X : Prop} (x : X) : a = a ∧ X := ⟨rfl, x⟩
theorem b_truthy {b : List UInt8} {t : Tok} {Q : Bool → Shared → Prop} (hz : b.length ≤ 1000000) (q : Q (!b.isEmpty) (Z z h (tk + 2))) : wpAny (MM w) A (truthy (.bytes b.toArray t)) Q E (Z z h tk) := by
  refine truthy_bytes (s := Z z h tk) (by simp; omega) ?_
  have e : (((b.toArray.size : Nat) : Int) != 0) = !b.isEmpty := by
    cases b with
    | nil => rfl
    | cons x r => simp; omega
  rw [e]
  exact q
end
noncomputable def ru1Msg : Str := "not enough data in stream to read uint1"
set_option maxRecDepth 100000 in
set_option maxHeartbeats 4000000 in
theorem ru1_c {w : World} {A : Around} {E : Value → Shared → Prop} {z : Shared} {g₀ h : Heap} {tk : Nat} {Q : Value → Shared → Prop} {outer : List Env} {F : Fs} {f pl : Addr} {bs : List UInt8} {p : Nat} {u : Tok}
    (r : Rm A 3) (hA : A.frames = some outer) (hO : FOk outer F) (G : Gd w g₀) (k₀ : ∀ b o, g₀.get? b = some o → h.get? b = some o) (hf : FileAt w g₀ f pl bs) (hM : ∀ x ∈ (pl, Ct.list [.int p u]) :: frE F, At h x.1 x.2 ∧ g₀.get? x.1 = none) (nd : (((pl, Ct.list [.int p u]) :: frE F).map (·.1)).Nodup)
    (hz : bs.length ≤ 100000) (hp : p ≤ 100000)
    (q1 : ∀ c, bs[p]? = some c → ∀ h' tk' t t', g₀.StaysIn h' → At h' pl (.list [.int (p + 1 : Nat) t']) → (∀ x ∈ F, h'.Ns x.1 x.2) → Q (.int c.toNat t) (Z z h' tk'))
    (q2 : bs.length ≤ p → ∀ e s', Fly z g₀ outer F pl (p + 1) ru1Msg e s' → E e s') :
    wpAny (MM w) A (call (.ref 28) [.ref f]) Q E (Z z h tk) := by
  refine' enterE hA ((pl, .list [.int p u]) :: frE F) [("f", .ref f)] r G k₀ hM nd ?ho ?hcd ?hb ?hr ?hlc ?c1 ?c2 ?c3 ?c4 ?body
  wtm_at "enter"
  case body =>
    intro A' L h₁ tk₁ r' hA' S
    with_reducible refine xs_assign (by with_unfolding_all rfl) ?_
    refine m_read (by wtm_at "rf") (by wtm_at "rf") (by wtm_at "rf") (by wtm_at "rf") (by wtm_at "rf") ?_
    with_reducible refine e_local (by assumption) (by with_unfolding_all rfl) (by with_unfolding_all rfl) (by with_unfolding_all rfl) (by with_unfolding_all rfl) (by decide) ?_
    refine rd_on S hf fun rd tk' fn go => ?_
    with_reducible refine spliced_more ?_ (by with_unfolding_all rfl)
    with_reducible refine z_int ?_
    with_reducible refine spliced_none ?_
    refine go (n := 1) r' G S (by omega) (by omega) (by omega) fun h' t' t'' tk' S => ?_
    ((rename St _ _ _ _ _ => S0); (with_reducible refine s_store S0 (by with_unfolding_all rfl) (by with_unfolding_all rfl) (by with_unfolding_all rfl) ?_); (intro _ _; clear S0))
    with_reducible refine xs_if ?_
    with_reducible refine wpAny_isTrue_value ?_ (by with_unfolding_all rfl)
    with_reducible refine e_local (by assumption) (by with_unfolding_all rfl) (by with_unfolding_all rfl) (by with_unfolding_all rfl) (by with_unfolding_all rfl) (by decide) ?_
    rename St _ _ _ _ _ => S
    cases hb : bs[p]? with
    | some c =>
      have hlt : p < bs.length := (List.getElem?_eq_some_iff.mp hb).1
      have e1 : (bs.drop p).take 1 = [c] := by
        rw [List.drop_eq_getElem_cons hlt, List.take_succ_cons, List.take_zero]
        rw [List.getElem?_eq_getElem hlt] at hb; cases hb; rfl
      rw [e1] at S ⊢
      refine b_truthy (by simp) (i_tt ?_)
      with_reducible refine xs_return ?_
      with_reducible refine Subscript_ ?_
      with_reducible refine e_local (by assumption) (by with_unfolding_all rfl) (by with_unfolding_all rfl) (by with_unfolding_all rfl) (by with_unfolding_all rfl) (by decide) ?_
      with_reducible refine z_int ?_
      refine z_bitem (by simp) (by omega) (by simp) (by wtm_at "rf") ?_
      with_reducible refine after_ret ?_
      exact q1 c hb _ _ _ _ S.keep (S.at (.head _)) fun x hx => (S.frs (F := F) (fun y hy => .tail _ hy) x hx).1
    | none =>
      have hle : bs.length ≤ p := List.getElem?_eq_none_iff.mp hb
      have e1 : (bs.drop p).take 1 = [] := by rw [List.drop_eq_nil_of_le hle]; rfl
      rw [e1] at S ⊢
      refine b_truthy (by simp) (i_ff ?_)
      with_reducible refine xs_nil ?_
      with_reducible refine after_next ?_
      refine xs_raise r'.hh (by wtm_at "rf") (by wtm_at "rf") ?_
      with_reducible refine e_built (by assumption) (by assumption) (by k_is) (by wtm_at "boot") (by decide) (by with_unfolding_all rfl) (by with_unfolding_all rfl) (by with_unfolding_all rfl) (by with_unfolding_all rfl) (by decide) ?_
      refine and_rfl ?_
      with_reducible refine spliced_more ?_ (by with_unfolding_all rfl)
      with_reducible refine z_str ?_
      with_reducible refine spliced_none ?_
      refine ⟨by wtm_at "small", fun h₂ a hx => ?_⟩
      exact wpAny_mono (raise_leaves (E := NoE) hA' rfl (fun q => ScopeKind.noConfusion q) hO S hx) (fun _ s'' x => q2 hle _ _ x) fun _ _ x => x.elim
end
section
noncomputable abbrev msgF : Str := Str.ofString "expected %d bytes in a bytes1, but only %d remain"
noncomputable def msgT (n m : Int) : Str := (((Str.ofString "expected " ++ Str.ofString (toString n)) ++ Str.ofString " bytes in a bytes1, but only ") ++ Str.ofString (toString m)) ++ Str.ofString " remain"
set_option maxRecDepth 100000 in
theorem meets_msg (n m : Int) (t u v : Tok) (b : Addr) (h1 : 0 ≤ n) (h2 : n < 10 ^ 10) (h3 : 0 ≤ m) (h4 : m < 10 ^ 10) :
    ∃ X', msgF = X' ∧ Meets (Builtin.«str.__mod__» ⟨[.str X' t, .ref b], []⟩) (fun _ R s => IsTup s.heap b #[.int n u, .int m v] ∧ ∀ t' k, R (.ok (.ret (.str (msgT n m) t'))) { s with toks := k }) := by
  refine ⟨_, (by kpt_eq), ?_⟩
  unfold msgT
  kpt_run
section
variable {w : World} {A : Around} {E : Value → Shared → Prop} {z : Shared} {h : Heap} {tk : Nat} {Q : Value → Shared → Prop} {t : Tok}
theorem z_msg {b : Addr} {n m : Int} {u v : Tok} (hb : At h b (.tup [.int n u, .int m v])) (h1 : 0 ≤ n) (h2 : n < 10 ^ 10) (h3 : 0 ≤ m) (h4 : m < 10 ^ 10) (q : ∀ t' k, Q (.str (msgT n m) t') (Z z h k)) :
    wpAny (MM w) A (binaryOp .Mod (.str msgF t) (.ref b)) Q E (Z z h tk) := by
  obtain ⟨X', hX, hm⟩ := meets_msg n m t u v b h1 h2 h3 h4
  have ht : IsTup h b #[.int n u, .int m v] := by
    obtain ⟨nn, ho⟩ := hb.gett
    exact ⟨_, ho, rfl, nn, rfl⟩
  have hT : (Z z h tk).TypeIs (.ref b) "tuple" := by
    obtain ⟨o, ho, hc, _⟩ := ht
    exact ⟨o, ho, hc⟩
  rw [hX]
  exact KPt.bin_left (T := "str") (U := "tuple") (op := .Mod) (by decide) (typeIs_str _ _ t) hT F.fills_str_mod KPt.fills_tuple F.slot_str_mod
    (call_meets F.slot_str_mod (typeIs_str _ _ t) F.entry_str_mod (F.args_str_mod_2 _ _) hm ⟨ht, fun t' k => ⟨(fun e => nomatch e), q t' k⟩⟩)
end
end
section
theorem St.backE {g h h' : Heap} {L pl : Addr} {ρ : List (Str × Value)} {c c' : Ct} {F : Fs} {m : Str → Option Value} (S : St g L ρ ((pl, c) :: frE F) h) (hm : ∀ x v, ρ.lookup x = some v → m x = some v) (k : g.StaysIn h') (hp : At h' pl c') (hF : ∀ x ∈ (L, m) :: F, h'.Ns x.1 x.2) :
    St g L ρ ((pl, c') :: frE F) h' := by
  refine ⟨⟨m, hF _ (.head _), hm⟩, k, S.offL, fun p hp' => ?_, S.nd⟩
  rcases List.mem_cons.mp hp' with rfl | hq
  · exact ⟨hp, (S.nw _ (.head _)).2⟩
  · obtain ⟨x, hx, rfl⟩ := List.mem_map.mp hq
    exact ⟨nsP_at (hF x (.tail _ hx)), (S.nw _ (.tail _ hq)).2⟩
theorem St.outE {g h : Heap} {L pl : Addr} {ρ : List (Str × Value)} {c : Ct} {F : Fs} {m : Str → Option Value} (S : St g L ρ ((pl, c) :: frE F) h) (hn : h.Ns L m) :
    (∀ x ∈ (pl, c) :: frE ((L, m) :: F), At h x.1 x.2 ∧ g.get? x.1 = none) ∧ (((pl, c) :: frE ((L, m) :: F)).map (·.1)).Nodup := by
  constructor
  · intro x hx
    rcases List.mem_cons.mp hx with rfl | hx
    · have := S.nw _ (.head _); exact ⟨this.1, this.2.2⟩
    · rcases List.mem_cons.mp hx with rfl | hx
      · exact ⟨nsP_at hn, S.offL⟩
      · have := S.nw x (.tail _ hx); exact ⟨this.1, this.2.2⟩
  · have nd := S.nd
    simp only [List.map_cons, List.nodup_cons] at nd
    show (pl :: L :: (frE F).map (·.1)).Nodup
    refine List.nodup_cons.mpr ⟨fun q => ?_, List.nodup_cons.mpr ⟨fun q => ?_, nd.2⟩⟩
    · rcases List.mem_cons.mp q with q | q
      · exact (S.nw _ (.head _)).2.1 q
      · exact nd.1 q
    · obtain ⟨x, hx, e⟩ := List.mem_map.mp q
      exact (S.nw x (.tail _ hx)).2.1 e
theorem xs_assert {w : World} {A : Around} {E : Value → Shared → Prop} {env : Env} {s : Shared} {rest : List Stmt} {test : Expr} {msg : Option Expr} {pos : Pos} {Q : Flow → Shared → Prop}
    (q : wpAny (MM w) A (isTrue test env (eval test env)) (fun b s₁ => b = true ∧ wpAny (MM w) A (execs rest env) Q E s₁) E s) : wpAny (MM w) A (execs (.Assert test msg pos :: rest) env) Q E s :=
  wpAny_execs_cons (wpAny_Assert_holds q)
set_option maxRecDepth 100000 in
set_option maxHeartbeats 4000000 in
theorem rb1_c {w : World} {A : Around} {E : Value → Shared → Prop} {z : Shared} {g₀ h : Heap} {tk : Nat} {Q : Value → Shared → Prop} {outer : List Env} {F : Fs} {f pl : Addr} {bs : List UInt8} {p : Nat} {u : Tok}
    (r : Rm A 4) (hA : A.frames = some outer) (hO : FOk outer F) (G : Gd w g₀) (k₀ : ∀ b o, g₀.get? b = some o → h.get? b = some o) (hf : FileAt w g₀ f pl bs) (hM : ∀ x ∈ (pl, Ct.list [.int p u]) :: frE F, At h x.1 x.2 ∧ g₀.get? x.1 = none) (nd : (((pl, Ct.list [.int p u]) :: frE F).map (·.1)).Nodup)
    (hz : bs.length ≤ 10000) (hp : p ≤ 10000)
    (q1 : ∀ c, bs[p]? = some c → p + 1 + c.toNat ≤ bs.length → ∀ h' tk' t t', g₀.StaysIn h' → At h' pl (.list [.int (p + 1 + c.toNat : Nat) t']) → (∀ x ∈ F, h'.Ns x.1 x.2) → Q (.bytes ((bs.drop (p + 1)).take c.toNat).toArray t) (Z z h' tk'))
    (q2 : bs.length ≤ p → ∀ e s', Fly z g₀ outer F pl (p + 1) ru1Msg e s' → E e s')
    (q3 : ∀ c, bs[p]? = some c → bs.length < p + 1 + c.toNat → ∀ e s', Fly z g₀ outer F pl (p + 1 + c.toNat) (msgT c.toNat ((bs.length - (p + 1) : Nat) : Int)) e s' → E e s') :
    wpAny (MM w) A (call (.ref 35) [.ref f]) Q E (Z z h tk) := by
  refine' enterE hA ((pl, .list [.int p u]) :: frE F) [("f", .ref f)] r G k₀ hM nd ?ho ?hcd ?hb ?hr ?hlc ?c1 ?c2 ?c3 ?c4 ?body
  wtm_at "enter"
  case body =>
    intro A' L h₁ tk₁ r' hA' S
    with_reducible refine xs_assign (by with_unfolding_all rfl) ?_
    with_reducible refine wpAny_Call_NameR ?_
    with_reducible refine e_glob (by assumption) (by assumption) (by k_is) (by with_unfolding_all rfl) (by with_unfolding_all rfl) (by with_unfolding_all rfl) (by decide) ?_
    with_reducible refine c_def (by assumption) (by k_is) (by with_unfolding_all rfl) (by with_unfolding_all rfl) ?_
    with_reducible refine spliced_more ?_ (by with_unfolding_all rfl)
    with_reducible refine e_local (by assumption) (by with_unfolding_all rfl) (by with_unfolding_all rfl) (by with_unfolding_all rfl) (by with_unfolding_all rfl) (by decide) ?_
    with_reducible refine spliced_none ?_
    with_reducible refine c_in (by assumption) (by assumption) ?_
    obtain ⟨m, hn, hm⟩ := S.loc
    obtain ⟨hM', nd'⟩ := S.outE hn
    refine ru1_c (outer := _ :: outer) (F := (L, m) :: F) r' hA' ⟨fun q => ScopeKind.noConfusion q, rfl, hO⟩ G S.keep hf hM' nd' (by omega) (by omega) ?_ ?_
    rotate_left 1
    · intro hle e s' x
      exact wpAny_mono (fly_leaves (E := NoE) hA' rfl (fun _ _ e => e) x) (fun _ s'' y => q2 hle _ _ y) fun _ _ y => y.elim
    · intro c hc h₂ tk₂ t₁ t₂ hk hpl hF
      have S := S.backE hm hk hpl hF
      have hc8 := UInt8.toNat_lt c
      ((rename St _ _ _ _ _ => S0); (with_reducible refine s_store S0 (by with_unfolding_all rfl) (by with_unfolding_all rfl) (by with_unfolding_all rfl) ?_); (intro _ _; clear S0))
      refine xs_assert ?_
      with_reducible refine wpAny_isTrue_Compare1 ?_ (by with_unfolding_all rfl)
      with_reducible refine e_local (by assumption) (by with_unfolding_all rfl) (by with_unfolding_all rfl) (by with_unfolding_all rfl) (by with_unfolding_all rfl) (by decide) ?_
      with_reducible refine z_int ?_
      with_reducible refine ge_int ?_
      with_reducible refine wpAny_truthy_bool ?_
      refine ⟨by simp, ?_⟩
      with_reducible refine xs_assign (by with_unfolding_all rfl) ?_
      refine m_read (by wtm_at "rf") (by wtm_at "rf") (by wtm_at "rf") (by wtm_at "rf") (by wtm_at "rf") ?_
      with_reducible refine e_local (by assumption) (by with_unfolding_all rfl) (by with_unfolding_all rfl) (by with_unfolding_all rfl) (by with_unfolding_all rfl) (by decide) ?_
      rename St _ _ _ _ _ => S
      refine rd_on S hf fun rd tk' fn go => ?_
      with_reducible refine spliced_more ?_ (by with_unfolding_all rfl)
      with_reducible refine e_local (by assumption) (by with_unfolding_all rfl) (by with_unfolding_all rfl) (by with_unfolding_all rfl) (by with_unfolding_all rfl) (by decide) ?_
      with_reducible refine spliced_none ?_
      refine go (n := c.toNat) r' G S (by omega) (by omega) (by omega) fun h' t' t'' tk' S => ?_
      have hdl : ((bs.drop (p + 1)).take c.toNat).length = min c.toNat (bs.length - (p + 1)) := by rw [List.length_take, List.length_drop]
      ((rename St _ _ _ _ _ => S0); (with_reducible refine s_store S0 (by with_unfolding_all rfl) (by with_unfolding_all rfl) (by with_unfolding_all rfl) ?_); (intro _ _; clear S0))
      with_reducible refine xs_if ?_
      with_reducible refine wpAny_isTrue_Compare1 ?_ (by with_unfolding_all rfl)
      with_reducible refine wpAny_Call_NameR ?_
      with_reducible refine e_built (by assumption) (by assumption) (by k_is) (by wtm_at "boot") (by decide) (by with_unfolding_all rfl) (by with_unfolding_all rfl) (by with_unfolding_all rfl) (by with_unfolding_all rfl) (by decide) ?_
      with_reducible refine callWith_builtin1 ?_ (by with_unfolding_all rfl) (by with_unfolding_all rfl)
      with_reducible refine spliced_more ?_ (by with_unfolding_all rfl)
      with_reducible refine e_local (by assumption) (by with_unfolding_all rfl) (by with_unfolding_all rfl) (by with_unfolding_all rfl) (by with_unfolding_all rfl) (by decide) ?_
      with_reducible refine spliced_none ?_
      with_reducible refine z_blen (by first | omega | (simp; done) | (simp; omega)) ?_
      with_reducible refine e_local (by assumption) (by with_unfolding_all rfl) (by with_unfolding_all rfl) (by with_unfolding_all rfl) (by with_unfolding_all rfl) (by decide) ?_
      with_reducible refine z_eqi ?_
      with_reducible refine wpAny_truthy_bool ?_
      rename St _ _ _ _ _ => S
      have hsz : (((bs.drop (p + 1)).take c.toNat).toArray.size : Int) = ((min c.toNat (bs.length - (p + 1)) : Nat) : Int) := by rw [List.size_toArray, hdl]
      have hlt : p < bs.length := (List.getElem?_eq_some_iff.mp hc).1
      refine i_dec (fun he => ?_) fun he => ?_
      · rw [hsz] at he
        with_reducible refine xs_return ?_
        with_reducible refine e_local (by assumption) (by with_unfolding_all rfl) (by with_unfolding_all rfl) (by with_unfolding_all rfl) (by with_unfolding_all rfl) (by decide) ?_
        with_reducible refine after_ret ?_
        exact q1 c hc (by omega) _ _ _ _ S.keep (S.at (.head _)) fun x hx => (S.frs (F := F) (fun y hy => .tail _ hy) x hx).1
      · rw [hsz] at he
        have hlt2 : bs.length < p + 1 + c.toNat := by omega
        with_reducible refine xs_nil ?_
        with_reducible refine after_next ?_
        refine xs_raise r'.hh (by wtm_at "rf") (by wtm_at "rf") ?_
        with_reducible refine e_built (by assumption) (by assumption) (by k_is) (by wtm_at "boot") (by decide) (by with_unfolding_all rfl) (by with_unfolding_all rfl) (by with_unfolding_all rfl) (by with_unfolding_all rfl) (by decide) ?_
        refine and_rfl ?_
        with_reducible refine spliced_more ?_ (by with_unfolding_all rfl)
        with_reducible refine wpAny_BinOp ?_
        with_reducible refine z_str ?_
        with_reducible refine e_tuple ?_
        with_reducible refine spliced_more ?_ (by with_unfolding_all rfl)
        with_reducible refine e_local (by assumption) (by with_unfolding_all rfl) (by with_unfolding_all rfl) (by with_unfolding_all rfl) (by with_unfolding_all rfl) (by decide) ?_
        with_reducible refine spliced_more ?_ (by with_unfolding_all rfl)
        with_reducible refine wpAny_Call_NameR ?_
        with_reducible refine e_built (by assumption) (by assumption) (by k_is) (by wtm_at "boot") (by decide) (by with_unfolding_all rfl) (by with_unfolding_all rfl) (by with_unfolding_all rfl) (by with_unfolding_all rfl) (by decide) ?_
        with_reducible refine callWith_builtin1 ?_ (by with_unfolding_all rfl) (by with_unfolding_all rfl)
        with_reducible refine spliced_more ?_ (by with_unfolding_all rfl)
        with_reducible refine e_local (by assumption) (by with_unfolding_all rfl) (by with_unfolding_all rfl) (by with_unfolding_all rfl) (by with_unfolding_all rfl) (by decide) ?_
        with_reducible refine spliced_none ?_
        with_reducible refine z_blen (by first | omega | (simp; done) | (simp; omega)) ?_
        with_reducible refine spliced_none ?_
        ((rename St _ _ _ _ _ => S0); (with_reducible refine s_newTuple S0 (by wtm_at "small") ?_); (intro _ _ _ _ _; clear S0))
        rename St _ _ _ _ _ => S
        refine z_msg (S.at (.head _)) (by omega) (by omega) (by omega) (by omega) fun t k => ?_
        with_reducible refine spliced_none ?_
        refine ⟨by wtm_at "small", fun h₂ a hx => ?_⟩
        rw [hsz, show min c.toNat (bs.length - (p + 1)) = bs.length - (p + 1) from by omega] at hx
        exact wpAny_mono (raise_leaves (E := NoE) hA' rfl (fun q => ScopeKind.noConfusion q) hO (S.sub (List.Sublist.cons _ (List.Sublist.refl _))) hx) (fun _ s'' x => q3 c hc hlt2 _ _ x) fun _ _ x => x.elim
end
section
section
variable {w : World} {A : Around} {E : Value → Shared → Prop} {z : Shared} {g h : Heap} {tk : Nat} {L : Addr} {ρ : List (Str × Value)} {env : Env} {outer : List Env} {F : Fs} {pl : Addr} {p' : Nat} {msg : Str} {rest : List Stmt} {s : Shared} {c : Ct} {m : Str → Option Value}
theorem xs_try {body : List Stmt} {h₀ : ExceptHandler} {hs : List ExceptHandler} {pos : Pos} {Q : Flow → Shared → Prop}
    (q : wpAny (MM w) A (execs body env) (After w A env rest Q E)
      (fun e s₁ => wpAny (MM w) A (noteFrame e env) (fun _ s₂ => wpAny (MM w) A (setFlight e none) (fun _ s₃ => wpAny (MM w) A (handleBy e env (h₀ :: hs)) (After w A env rest Q E) E s₃) E s₂) E s₁) s) :
    wpAny (MM w) A (execs (.Try body (h₀ :: hs) [] [] pos :: rest) env) Q E s := by
  refine wpAny_execs_cons (wpAny_Try_except ?_)
  have e : ∀ f s', After w A env rest Q E f s' → (match f with | .next => wpAny (MM w) A (execs rest env) Q E s' | f => Q f s') := fun f s' h => by cases f <;> exact h
  refine wpAny_mono q (fun f s₁ h => ?_) fun _ _ x => wpAny_mono x (fun _ _ x => wpAny_mono x (fun _ _ x => wpAny_mono x e fun _ _ x => x) fun _ _ x => x) fun _ _ x => x
  cases f with
  | next => exact wpAny_execs_nil h
  | _ => exact h
/-- what a landed error leaves -/
theorem fly_at {e : Value} {s' : Shared} (x : Fly z g (env :: outer) ((L, m) :: F) pl p' msg e s') :
    ∃ a g' h' tk t u v, e = .ref a ∧ s' = Z z h' tk ∧ g.StaysIn g' ∧ At g' pl (.list [.int p' u]) ∧ Heap.FlyingW g' (env :: outer) a (.type "ValueError") (.ref t) h' ∧ h'.TupAt t [.str msg v] ∧ ∀ p ∈ (L, m) :: F, h'.Ns p.1 p.2 := x
theorem caught0 {e : Value} {s' : Shared} {np pos : Pos} {b₀ : Stmt} {suite : List Stmt} {Q : Flow → Shared → Prop} (hfr : A.frames = some (env :: outer)) (hf : env.frame = some L) (G : Gd w g)
    (S : St g L ρ ((pl, c) :: frE F) h) (hm : ∀ x v, ρ.lookup x = some v → m x = some v) (x : Fly z g (env :: outer) ((L, m) :: F) pl p' msg e s')
    (hx : env.kindOf "ValueError" = some .globalImplicit) (hg : env.globals = mainGlobals) (hb : env.builtins = builtinsNs) (hk : env.scope.kind = .function) (hnn : nsIn (hd.heap_1 w.params) mainGlobals "ValueError" = some none)
    (q : ∀ a h' tk' u, St g L ρ ((pl, .list [.int p' u]) :: frE F) h' → wpAny (MM w) (A.mark (some (.ref a))) (execs (b₀ :: suite) env) Q (notedBy (MM w) (A.mark (some (.ref a))) env (cameBackBy (MM w) A env E)) (Z z h' tk')) :
    wpAny (MM w) A (noteFrame e env) (fun _ s₂ => wpAny (MM w) A (setFlight e none) (fun _ s₃ => wpAny (MM w) A (handleBy e env [.ExceptHandler (some (.Name "ValueError" np)) none (b₀ :: suite) pos]) Q E s₃) E s₂) E s' := by
  obtain ⟨a, g', h', tk, t, u, v, rfl, rfl, h1, h2, h3, h4, h5⟩ := x
  refine wpAny_looks_onW (s := Z z h' tk) hfr hf h3 fun h₄ hheld₄ us₄ => ?_
  refine wpAny_landsW (s := Z z h₄ tk) hheld₄ fun h₅ fl₅ us₅ => ?_
  have us := us₄.trans us₅
  have S₅ := S.backE hm (fun b o e => fl₅.1 b o (h1 b o e)) (h2.keeps fun o e => fl₅.1 _ _ e) fun p hp => us.ns (h5 p hp)
  obtain ⟨ob, hob, hobc⟩ := fl₅.there
  refine wpAny_handleBy_builtin (X := "ValueError") (T := "ValueError") (b := true) PySem.F.isExc_ValueError PySem.F.notTuple_ValueError PySem.F.self_ValueError
    (e_built G S₅ hnn bt_VE (by decide) hx hg hb hk (by decide) ⟨rfl, ⟨ob, hob, hobc⟩, ?_⟩)
  refine lands_againW (s := Z z h₅ tk) fl₅ fun h₆ fl₆ us₆ => ?_
  exact q a h₆ tk u (S.backE hm (fun b o e => fl₆.1 b o (h1 b o e)) (h2.keeps fun o e => fl₆.1 _ _ e) fun p hp => (us.trans us₆).ns (h5 p hp))
theorem caughtAs {e : Value} {s' : Shared} {n : Str} {np pos : Pos} {b₀ : Stmt} {suite : List Stmt} {Q : Flow → Shared → Prop} (hfr : A.frames = some (env :: outer)) (hf : env.frame = some L) (G : Gd w g)
    (S : St g L ρ ((pl, c) :: frE F) h) (hm : ∀ x v, ρ.lookup x = some v → m x = some v) (x : Fly z g (env :: outer) ((L, m) :: F) pl p' msg e s')
    (hx : env.kindOf "ValueError" = some .globalImplicit) (hg : env.globals = mainGlobals) (hb : env.builtins = builtinsNs) (hk : env.scope.kind = .function) (hnn : nsIn (hd.heap_1 w.params) mainGlobals "ValueError" = some none)
    (hn : env.kindOf n = some .local) (hL : env.locals = L)
    (q : ∀ a t v h' tk' u, St g L ((n, .ref a) :: ρ) ((pl, .list [.int p' u]) :: frE F) h' → h'.ExcAt a "ValueError" (.ref t) → h'.TupAt t [.str msg v] →
      wpAny (MM w) (A.mark (some (.ref a))) (execs (b₀ :: suite) env) (fun f s₄ => wpAny (MM w) A (do bindName env n .none; unbindBehindTheSuite env n pos) (fun _ s₅ => Q f s₅) E s₄)
        (AsSuiteRaised (MM w) (A.mark (some (.ref a))) env n pos (notedBy (MM w) (A.mark (some (.ref a))) env (cameBackBy (MM w) A env E))) (Z z h' tk')) :
    wpAny (MM w) A (noteFrame e env) (fun _ s₂ => wpAny (MM w) A (setFlight e none) (fun _ s₃ => wpAny (MM w) A (handleBy e env [.ExceptHandler (some (.Name "ValueError" np)) (some n) (b₀ :: suite) pos]) Q E s₃) E s₂) E s' := by
  obtain ⟨a, g', h', tk, t, u, v, rfl, rfl, h1, h2, h3, h4, h5⟩ := x
  refine wpAny_looks_onW (s := Z z h' tk) hfr hf h3 fun h₄ hheld₄ us₄ => ?_
  refine wpAny_landsW (s := Z z h₄ tk) hheld₄ fun h₅ fl₅ us₅ => ?_
  have us := us₄.trans us₅
  have S₅ := S.backE hm (fun b o e => fl₅.1 b o (h1 b o e)) (h2.keeps fun o e => fl₅.1 _ _ e) fun p hp => us.ns (h5 p hp)
  obtain ⟨ob, hob, hobc⟩ := fl₅.there
  refine wpAny_handleBy_builtin_as (X := "ValueError") (T := "ValueError") (b := true) PySem.F.isExc_ValueError PySem.F.notTuple_ValueError PySem.F.self_ValueError
    (e_built G S₅ hnn bt_VE (by decide) hx hg hb hk (by decide) ⟨rfl, ⟨ob, hob, hobc⟩, ?_⟩)
  refine lands_againW (s := Z z h₅ tk) fl₅ fun h₆ fl₆ us₆ => ?_
  have S₆ := S.backE hm (fun b o e => fl₆.1 b o (h1 b o e)) (h2.keeps fun o e => fl₆.1 _ _ e) fun p hp => (us.trans us₆).ns (h5 p hp)
  obtain ⟨m₆, hn₆, hm₆⟩ := S₆.loc
  obtain ⟨oe, ws, hoe, hoec, hoed, hoe0⟩ := fl₆.first
  have ht₆ := (h4.of_slots us).of_slots us₆
  obtain ⟨oL, es, ep, hoL, hdL, _⟩ := id hn₆
  have haL : a ≠ L := fun q => by rw [q, hoL] at hoe; cases hoe; rw [hdL] at hoed; cases hoed
  subst hL
  refine wpAny_storeName_local (s := Z z h₆ tk) hn hn₆ (fun h₇ hn₇ hs₇ => ?_) (by rw [hk]; rfl)
  refine q a t v h₇ _ u (S₆.store hm₆ hn₇ hs₇) ⟨oe, ws, (hs₇.2 a haL).trans hoe, hoec, hoed, hoe0⟩ ?_
  obtain ⟨ot, k, hot, hotc, hotd⟩ := ht₆
  refine ⟨ot, k, (hs₇.2 t fun q => ?_).trans hot, hotc, hotd⟩
  rw [q, hoL] at hot; cases hot; rw [hdL] at hotd; cases hotd
theorem name_goes0 {n : Str} {pos : Pos} {Δ : List (Addr × Ct)} {Q : Unit → Shared → Prop} (S : St g L ρ Δ h) (hn : env.kindOf n = some .local) (hL : env.locals = L) (hk : env.scope.kind = .function)
    (q : ∀ h' tk', St g L [] Δ h' → Q () (Z z h' tk')) : wpAny (MM w) A (do bindName env n .none; unbindBehindTheSuite env n pos) Q E (Z z h tk) := by
  obtain ⟨m, hm, _⟩ := S.loc
  subst hL
  refine wpAny_nameGoes (s := Z z h tk) hn hm (by rw [hk]; rfl) fun h' m' hn' hs => q h' _ ?_
  refine ⟨⟨m', hn', fun x v e => nomatch e⟩, fun b o e => ?_, S.offL, fun p hp => ?_, S.nd⟩
  · refine (hs.2 b fun q => ?_).trans (S.keep b o e)
    rw [q, S.offL] at e; cases e
  · obtain ⟨h1, h2, h3⟩ := S.nw p hp
    exact ⟨h1.keeps fun o e => (hs.2 _ h2).trans e, h2, h3⟩
end
/-- a letter, as the stream tells it -/
inductive Ltr where
  | none
  | bad (msg : Str)
  | ok (r : Nat) (o : List UInt8)
noncomputable def nextL (bs : List UInt8) (p : Nat) : Ltr × Nat :=
  match bs[p]? with
  | none => (.none, p + 1)
  | some r => match bs[p + 1]? with
    | none => (.bad ru1Msg, p + 2)
    | some n => if p + 2 + n.toNat ≤ bs.length then (.ok r.toNat ((bs.drop (p + 2)).take n.toNat), p + 2 + n.toNat)
      else (.bad (msgT n.toNat ((bs.length - (p + 2) : Nat) : Int)), p + 2 + n.toNat)
noncomputable def LtrAt (g : Heap) (ks : List Addr) (h : Heap) : Ltr → Value → Prop
  | .none, v => v = .none
  | .bad msg, v => ∃ a t, v = .ref a ∧ At h a (.list [.none, .str msg t]) ∧ g.get? a = none ∧ a ∉ ks
  | .ok r o, v => ∃ a t t', v = .ref a ∧ At h a (.list [.int r t, .bytes o.toArray t']) ∧ g.get? a = none ∧ a ∉ ks
theorem nodup_ne {a b : Addr} {l : List Addr} (h : (a :: l).Nodup) (hb : b ∈ l) : a ≠ b := fun q => (List.nodup_cons.mp h).1 (q ▸ hb)
set_option maxRecDepth 100000 in
set_option maxHeartbeats 4000000 in
theorem next_c {w : World} {A : Around} {E : Value → Shared → Prop} {z : Shared} {g₀ h : Heap} {tk : Nat} {Q : Value → Shared → Prop} {outer : List Env} {F : Fs} {f pl : Addr} {bs : List UInt8} {p : Nat} {u : Tok}
    (r : Rm A 5) (hA : A.frames = some outer) (hO : FOk outer F) (G : Gd w g₀) (k₀ : ∀ b o, g₀.get? b = some o → h.get? b = some o) (hf : FileAt w g₀ f pl bs) (hM : ∀ x ∈ (pl, Ct.list [.int p u]) :: frE F, At h x.1 x.2 ∧ g₀.get? x.1 = none) (nd : (((pl, Ct.list [.int p u]) :: frE F).map (·.1)).Nodup)
    (hz : bs.length ≤ 1000) (hp : p ≤ 1000)
    (q : ∀ v h' tk' t, g₀.StaysIn h' → At h' pl (.list [.int (nextL bs p).2 t]) → (∀ x ∈ F, h'.Ns x.1 x.2) → LtrAt g₀ (pl :: F.map (·.1)) h' (nextL bs p).1 v → Q v (Z z h' tk')) :
    wpAny (MM w) A (call (.ref 114) [.ref f]) Q E (Z z h tk) := by
  refine' enterE hA ((pl, .list [.int p u]) :: frE F) [("file", .ref f)] r G k₀ hM nd ?ho ?hcd ?hb ?hr ?hlc ?c1 ?c2 ?c3 ?c4 ?body
  wtm_at "enter"
  case body =>
    intro A' L h₁ tk₁ r' hA' S
    refine xs_try ?_
    with_reducible refine xs_assign (by with_unfolding_all rfl) ?_
    with_reducible refine wpAny_Call_NameR ?_
    with_reducible refine e_glob (by assumption) (by assumption) (by k_is) (by with_unfolding_all rfl) (by with_unfolding_all rfl) (by with_unfolding_all rfl) (by decide) ?_
    with_reducible refine c_def (by assumption) (by k_is) (by with_unfolding_all rfl) (by with_unfolding_all rfl) ?_
    with_reducible refine spliced_more ?_ (by with_unfolding_all rfl)
    with_reducible refine e_local (by assumption) (by with_unfolding_all rfl) (by with_unfolding_all rfl) (by with_unfolding_all rfl) (by with_unfolding_all rfl) (by decide) ?_
    with_reducible refine spliced_none ?_
    with_reducible refine c_in (by assumption) (by assumption) ?_
    obtain ⟨m, hn, hm⟩ := S.loc
    obtain ⟨hM', nd'⟩ := S.outE hn
    refine ru1_c (outer := _ :: outer) (F := (L, m) :: F) (r'.less (by omega)) hA' ⟨fun q => ScopeKind.noConfusion q, rfl, hO⟩ G S.keep hf hM' nd' (by omega) (by omega) ?_ ?_
    rotate_left 1
    · intro hle e s' x
      refine caught0 hA' rfl G S hm x rfl rfl rfl rfl (by k_is) fun a h₂ tk₂ u₂ S => ?_
      with_reducible refine xs_return ?_
      with_reducible refine z_none ?_
      with_reducible refine after_ret ?_
      have e1 : nextL bs p = (.none, p + 1) := by unfold nextL; rw [List.getElem?_eq_none_iff.mpr hle]
      rw [e1] at q
      exact q _ _ _ _ S.keep (S.at (.head _)) (fun x hx => (S.frs (F := F) (fun y hy => .tail _ hy) x hx).1) rfl
    · intro c hc h₂ tk₂ t₁ t₂ hk hpl hF
      have S := S.backE hm hk hpl hF
      ((rename St _ _ _ _ _ => S0); (with_reducible refine s_store S0 (by with_unfolding_all rfl) (by with_unfolding_all rfl) (by with_unfolding_all rfl) ?_); (intro _ _; clear S0))
      with_reducible refine xs_nil ?_
      with_reducible refine after_next ?_
      rename St _ _ _ _ _ => S
      refine xs_try ?_
      with_reducible refine xs_assign (by with_unfolding_all rfl) ?_
      with_reducible refine wpAny_Call_NameR ?_
      with_reducible refine e_glob (by assumption) (by assumption) (by k_is) (by with_unfolding_all rfl) (by with_unfolding_all rfl) (by with_unfolding_all rfl) (by decide) ?_
      with_reducible refine c_def (by assumption) (by k_is) (by with_unfolding_all rfl) (by with_unfolding_all rfl) ?_
      with_reducible refine spliced_more ?_ (by with_unfolding_all rfl)
      with_reducible refine e_local (by assumption) (by with_unfolding_all rfl) (by with_unfolding_all rfl) (by with_unfolding_all rfl) (by with_unfolding_all rfl) (by decide) ?_
      with_reducible refine spliced_none ?_
      with_reducible refine c_in (by assumption) (by assumption) ?_
      obtain ⟨m, hn, hm⟩ := S.loc
      obtain ⟨hM', nd'⟩ := S.outE hn
      refine rb1_c (outer := _ :: outer) (F := (L, m) :: F) r' hA' ⟨fun q => ScopeKind.noConfusion q, rfl, hO⟩ G S.keep hf hM' nd' (by omega) (by omega) ?_ ?_ ?_
      · intro n hn hle h₃ tk₃ t₃ t₄ hk hpl hF
        have S := S.backE hm hk hpl hF
        have e1 : nextL bs p = (.ok c.toNat ((bs.drop (p + 2)).take n.toNat), p + 2 + n.toNat) := by unfold nextL; rw [hc]; dsimp only; rw [hn]; dsimp only; rw [if_pos (by omega)]
        rw [e1] at q
        ((rename St _ _ _ _ _ => S0); (with_reducible refine s_store S0 (by with_unfolding_all rfl) (by with_unfolding_all rfl) (by with_unfolding_all rfl) ?_); (intro _ _; clear S0))
        with_reducible refine xs_nil ?_
        with_reducible refine after_next ?_
        with_reducible refine xs_return ?_
        with_reducible refine e_list ?_
        with_reducible refine spliced_more ?_ (by with_unfolding_all rfl)
        with_reducible refine wpAny_IfExp ?_
        with_reducible refine wpAny_isTrue_Compare1 ?_ (by with_unfolding_all rfl)
        with_reducible refine wpAny_Call_NameR ?_
        with_reducible refine e_built (by assumption) (by assumption) (by k_is) (by wtm_at "boot") (by decide) (by with_unfolding_all rfl) (by with_unfolding_all rfl) (by with_unfolding_all rfl) (by with_unfolding_all rfl) (by decide) ?_
        with_reducible refine callWith_type1 ?_ (by with_unfolding_all rfl) (by with_unfolding_all rfl)
        with_reducible refine spliced_more ?_ (by with_unfolding_all rfl)
        with_reducible refine e_local (by assumption) (by with_unfolding_all rfl) (by with_unfolding_all rfl) (by with_unfolding_all rfl) (by with_unfolding_all rfl) (by decide) ?_
        with_reducible refine spliced_none ?_
        with_reducible refine z_type_int ?_
        with_reducible refine e_built (by assumption) (by assumption) (by k_is) (by wtm_at "boot") (by decide) (by with_unfolding_all rfl) (by with_unfolding_all rfl) (by with_unfolding_all rfl) (by with_unfolding_all rfl) (by decide) ?_
        with_reducible refine z_is_tt (by with_unfolding_all rfl) (by with_unfolding_all rfl) ?_
        with_reducible refine wpAny_truthy_bool ?_
        with_reducible refine i_tt ?_
        with_reducible refine e_local (by assumption) (by with_unfolding_all rfl) (by with_unfolding_all rfl) (by with_unfolding_all rfl) (by with_unfolding_all rfl) (by decide) ?_
        with_reducible refine spliced_more ?_ (by with_unfolding_all rfl)
        with_reducible refine wpAny_IfExp ?_
        with_reducible refine wpAny_isTrue_Compare1 ?_ (by with_unfolding_all rfl)
        with_reducible refine wpAny_Call_NameR ?_
        with_reducible refine e_built (by assumption) (by assumption) (by k_is) (by wtm_at "boot") (by decide) (by with_unfolding_all rfl) (by with_unfolding_all rfl) (by with_unfolding_all rfl) (by with_unfolding_all rfl) (by decide) ?_
        with_reducible refine callWith_type1 ?_ (by with_unfolding_all rfl) (by with_unfolding_all rfl)
        with_reducible refine spliced_more ?_ (by with_unfolding_all rfl)
        with_reducible refine e_local (by assumption) (by with_unfolding_all rfl) (by with_unfolding_all rfl) (by with_unfolding_all rfl) (by with_unfolding_all rfl) (by decide) ?_
        with_reducible refine spliced_none ?_
        with_reducible refine z_type_bytes ?_
        with_reducible refine e_built (by assumption) (by assumption) (by k_is) (by wtm_at "boot") (by decide) (by with_unfolding_all rfl) (by with_unfolding_all rfl) (by with_unfolding_all rfl) (by with_unfolding_all rfl) (by decide) ?_
        with_reducible refine z_is_tt (by with_unfolding_all rfl) (by with_unfolding_all rfl) ?_
        with_reducible refine wpAny_truthy_bool ?_
        with_reducible refine i_tt ?_
        with_reducible refine e_local (by assumption) (by with_unfolding_all rfl) (by with_unfolding_all rfl) (by with_unfolding_all rfl) (by with_unfolding_all rfl) (by decide) ?_
        with_reducible refine spliced_none ?_
        ((rename St _ _ _ _ _ => S0); (with_reducible refine s_newList S0 (by wtm_at "small") ?_); (intro _ _ _ _ _; clear S0))
        rename St _ _ _ _ _ => S
        have nd3 := S.nd
        refine q _ _ _ _ S.keep (S.at (.tail _ (.head _))) (fun x hx => (S.frs (F := F) (fun y hy => .tail _ (.tail _ hy)) x hx).1) ⟨_, _, _, rfl, S.at (.head _), S.fresh (.head _), fun q => (List.nodup_cons.mp nd3).1 ?_⟩
        rw [List.map_cons, frE_keys]; exact q
      · intro hle e s' x
        have e1 : nextL bs p = (.bad ru1Msg, p + 2) := by unfold nextL; rw [hc]; dsimp only; rw [List.getElem?_eq_none_iff.mpr hle]
        rw [e1] at q
        refine caughtAs hA' rfl G S hm x rfl rfl rfl rfl (by k_is) rfl rfl fun a t v h₂ tk₂ u₂ S hE hT => ?_
        with_reducible refine xs_return ?_
        with_reducible refine e_list ?_
        with_reducible refine spliced_more ?_ (by with_unfolding_all rfl)
        with_reducible refine z_none ?_
        with_reducible refine spliced_more ?_ (by with_unfolding_all rfl)
        with_reducible refine wpAny_Call_NameR ?_
        with_reducible refine e_built (by assumption) (by assumption) (by k_is) (by wtm_at "boot") (by decide) (by with_unfolding_all rfl) (by with_unfolding_all rfl) (by with_unfolding_all rfl) (by with_unfolding_all rfl) (by decide) ?_
        with_reducible refine callWith_type1 ?_ (by with_unfolding_all rfl) (by with_unfolding_all rfl)
        with_reducible refine spliced_more ?_ (by with_unfolding_all rfl)
        with_reducible refine e_local (by assumption) (by with_unfolding_all rfl) (by with_unfolding_all rfl) (by with_unfolding_all rfl) (by with_unfolding_all rfl) (by decide) ?_
        with_reducible refine spliced_none ?_
        refine P.str_of_exc_one PySem.F.excStr_ValueError (by have := r'.hu; show A'.units + 2 < cLine; omega) hE hT ?_
        with_reducible refine spliced_none ?_
        ((rename St _ _ _ _ _ => S0); (with_reducible refine s_newList S0 (by wtm_at "small") ?_); (intro _ _ _ _ _; clear S0))
        rename St _ _ _ _ _ => S
        refine name_goes0 S rfl rfl rfl fun h₃ tk₃ S => ?_
        with_reducible refine after_ret ?_
        have nd3 := S.nd
        refine q _ _ _ _ S.keep (S.at (.tail _ (.head _))) (fun x hx => (S.frs (F := F) (fun y hy => .tail _ (.tail _ hy)) x hx).1) ⟨_, _, rfl, S.at (.head _), S.fresh (.head _), fun q => (List.nodup_cons.mp nd3).1 ?_⟩
        rw [List.map_cons, frE_keys]; exact q
      · intro n hn hlt e s' x
        have e1 : nextL bs p = (.bad (msgT n.toNat ((bs.length - (p + 2) : Nat) : Int)), p + 2 + n.toNat) := by unfold nextL; rw [hc]; dsimp only; rw [hn]; dsimp only; rw [if_neg (by omega)]
        rw [e1] at q
        refine caughtAs hA' rfl G S hm x rfl rfl rfl rfl (by k_is) rfl rfl fun a t v h₂ tk₂ u₂ S hE hT => ?_
        with_reducible refine xs_return ?_
        with_reducible refine e_list ?_
        with_reducible refine spliced_more ?_ (by with_unfolding_all rfl)
        with_reducible refine z_none ?_
        with_reducible refine spliced_more ?_ (by with_unfolding_all rfl)
        with_reducible refine wpAny_Call_NameR ?_
        with_reducible refine e_built (by assumption) (by assumption) (by k_is) (by wtm_at "boot") (by decide) (by with_unfolding_all rfl) (by with_unfolding_all rfl) (by with_unfolding_all rfl) (by with_unfolding_all rfl) (by decide) ?_
        with_reducible refine callWith_type1 ?_ (by with_unfolding_all rfl) (by with_unfolding_all rfl)
        with_reducible refine spliced_more ?_ (by with_unfolding_all rfl)
        with_reducible refine e_local (by assumption) (by with_unfolding_all rfl) (by with_unfolding_all rfl) (by with_unfolding_all rfl) (by with_unfolding_all rfl) (by decide) ?_
        with_reducible refine spliced_none ?_
        refine P.str_of_exc_one PySem.F.excStr_ValueError (by have := r'.hu; show A'.units + 2 < cLine; omega) hE hT ?_
        with_reducible refine spliced_none ?_
        ((rename St _ _ _ _ _ => S0); (with_reducible refine s_newList S0 (by wtm_at "small") ?_); (intro _ _ _ _ _; clear S0))
        rename St _ _ _ _ _ => S
        refine name_goes0 S rfl rfl rfl fun h₃ tk₃ S => ?_
        with_reducible refine after_ret ?_
        have nd3 := S.nd
        refine q _ _ _ _ S.keep (S.at (.tail _ (.head _))) (fun x hx => (S.frs (F := F) (fun y hy => .tail _ (.tail _ hy)) x hx).1) ⟨_, _, rfl, S.at (.head _), S.fresh (.head _), fun q => (List.nodup_cons.mp nd3).1 ?_⟩
        rw [List.map_cons, frE_keys]; exact q
end
section
/-- a is new since g₀, and stands as c in g -/
noncomputable def Nw (g₀ g : Heap) (a : Addr) (c : Ct) : Prop := At g a c ∧ g₀.get? a = none
noncomputable abbrev Sub (g g' : Heap) : Prop := ∀ b o, g.get? b = some o → g'.get? b = some o
theorem Sub.refl (g : Heap) : Sub g g := fun _ _ e => e
theorem Sub.trans {a b c : Heap} (x : Sub a b) (y : Sub b c) : Sub a c := fun q o e => y q o (x q o e)
theorem Sub.none {g g' : Heap} (k : Sub g g') {b : Addr} (e : g'.get? b = none) : g.get? b = none := by
  cases q : g.get? b with
  | none => rfl
  | some o => rw [k _ _ q] at e; cases e
theorem Nw.more {g₀ g g' : Heap} {a : Addr} {c : Ct} (x : Nw g₀ g a c) (k : Sub g g') : Nw g₀ g' a c := ⟨x.1.keeps fun o e => k _ o e, x.2⟩
theorem Nw.less {g₀ g₁ g : Heap} {a : Addr} {c : Ct} (x : Nw g₁ g a c) (k : Sub g₀ g₁) : Nw g₀ g a c := ⟨x.1, k.none x.2⟩
section
variable {g h h' gf : Heap} {L a : Addr} {ρ : List (Str × Value)} {Δ Δ' D : List (Addr × Ct)} {c c' : Ct}
/-- the base made as great as it can be -/
theorem St.max (S : St g L ρ Δ h) : ∃ g', St g' L ρ Δ h ∧ Sub g g' ∧ Sub g' h ∧ ∀ a c, At h a c → a ≠ L → a ∉ Δ.map (·.1) → At g' a c := by
  obtain ⟨g', S', k1, _, k2⟩ := St.seal (D := []) S
  have hin : ∀ b o, h.get? b = some o → b ≠ L → b ∉ Δ.map (·.1) → (hideAll h (L :: Δ.map (·.1))).get? b = some o := fun b o e n1 n2 => hideAll_get _ e (by simpa using ⟨n1, by simpa using n2⟩)
  refine ⟨hideAll h (L :: Δ.map (·.1)), ⟨S.loc, fun b o e => of_hideAll _ e, hideAll_none _ (.head _), fun p hp => ?_, S.nd⟩, fun b o e => ?_, fun b o e => of_hideAll _ e, fun a c x n1 n2 => x.keeps fun o e => hin _ o e n1 n2⟩
  · have := S.nw p hp
    exact ⟨this.1, this.2.1, hideAll_none _ (.tail _ (List.mem_map_of_mem hp))⟩
  · refine hin b o (S.keep b o e) (fun q => ?_) fun q => ?_
    · rw [q, S.offL] at e; cases e
    · obtain ⟨p, hp, rfl⟩ := List.mem_map.mp q
      rw [(S.nw p hp).2.2] at e; cases e
theorem St.locn (S : St g L ρ Δ h) : ∃ o, h.get? L = some o := by
  obtain ⟨m, ⟨o, _, _, ho, _⟩, _⟩ := S.loc
  exact ⟨o, ho⟩
/-- behind a call that made things and changed none -/
theorem St.after (S : St g L ρ Δ h) (kp : Keep [] h h') (gs : gf.StaysIn h') : ∃ g', St g' L ρ Δ h' ∧ Sub g g' ∧ ∀ a c, Nw h gf a c → Nw g g' a c := by
  obtain ⟨g', S', k1, k2, k3⟩ := (S.keepAll kp).max
  refine ⟨g', S', k1, fun a c x => ⟨k3 a c (x.1.keeps fun o e => gs _ _ e) (fun q => ?_) fun q => ?_, Sub.none S.keep x.2⟩⟩
  · obtain ⟨o, ho⟩ := S.locn
    rw [← q, x.2] at ho; cases ho
  · obtain ⟨p, hp, e⟩ := List.mem_map.mp q
    obtain ⟨o, ho⟩ := (S.nw p hp).1.has
    have e' : p.1 = a := e
    rw [e', x.2] at ho; cases ho
/-- the first of the objects goes into the base -/
theorem St.put (S : St g L ρ ((a, c) :: Δ) h) : ∃ g', St g' L ρ Δ h ∧ Sub g g' ∧ Nw g g' a c := by
  obtain ⟨g', S', k1, k2, _⟩ := St.seal (D := [(a, c)]) S
  exact ⟨g', S', k1, k2 _ (.head _), S.fresh (.head _)⟩
/-- what has been put into the base stands as entries again -/
theorem St.unseal {g₂ : Heap} (S : St g₂ L ρ Δ h) (k : Sub g g₂) : ∃ D, St g L ρ (D ++ Δ) h ∧ ∀ a o, g₂.get? a = some o → g.get? a = none → (a, .obj o) ∈ D := by
  let D : List (Addr × Ct) := (List.range h.objs.size).filterMap fun a => match g₂.get? a, g.get? a with
    | some o, none => some ((a, Ct.obj o) : Addr × Ct)
    | _, _ => none
  have hD : ∀ p ∈ D, ∃ o, p.2 = .obj o ∧ g₂.get? p.1 = some o ∧ g.get? p.1 = none := by
    intro p hp
    obtain ⟨a, _, e⟩ := List.mem_filterMap.mp hp
    split at e
    · rename_i o h1 h2
      cases e
      exact ⟨o, rfl, h1, h2⟩
    · cases e
  refine ⟨D, ⟨S.loc, fun b o e => S.keep b o (k b o e), k.none S.offL, fun p hp => ?_, ?_⟩, fun a o e n => ?_⟩
  · rcases List.mem_append.mp hp with hp | hp
    · obtain ⟨o, e1, e2, e3⟩ := hD p hp
      refine ⟨⟨o, S.keep _ _ e2, by rw [e1]; rfl⟩, fun q => ?_, e3⟩
      rw [q, S.offL] at e2; cases e2
    · obtain ⟨y1, y2, y3⟩ := S.nw p hp
      exact ⟨y1, y2, k.none y3⟩
  · rw [List.map_append, List.nodup_append]
    refine ⟨?_, S.nd, fun x hx y hy e => ?_⟩
    · have : ∀ (l : List Nat), l.Nodup → ((l.filterMap fun a => match g₂.get? a, g.get? a with
        | some o, none => some ((a, Ct.obj o) : Addr × Ct)
        | _, _ => none).map (·.1)).Nodup ∧ ∀ x ∈ (l.filterMap fun a => match g₂.get? a, g.get? a with
        | some o, none => some ((a, Ct.obj o) : Addr × Ct)
        | _, _ => none).map (·.1), x ∈ l := by
        intro l
        induction l with
        | nil => intro _; exact ⟨List.nodup_nil, fun x hx => by simp at hx⟩
        | cons b r ih =>
          intro nd
          obtain ⟨n1, n2⟩ := List.nodup_cons.mp nd
          obtain ⟨i1, i2⟩ := ih n2
          rw [List.filterMap_cons]
          split
          · exact ⟨i1, fun x hx => .tail _ (i2 x hx)⟩
          · rename_i q e
            have eq : q.1 = b := by
              split at e
              · cases e; rfl
              · cases e
            rw [List.map_cons, eq]
            refine ⟨List.nodup_cons.mpr ⟨fun hb => n1 (i2 _ hb), i1⟩, fun x hx => ?_⟩
            rcases List.mem_cons.mp hx with rfl | hx
            · exact .head _
            · exact .tail _ (i2 x hx)
      exact (this _ List.nodup_range).1
    · obtain ⟨p, hp, rfl⟩ := List.mem_map.mp hx
      obtain ⟨q, hq, rfl⟩ := List.mem_map.mp hy
      obtain ⟨o, _, e2, _⟩ := hD p hp
      rw [e, (S.nw q hq).2.2] at e2; cases e2
  · refine List.mem_filterMap.mpr ⟨a, ?_, ?_⟩
    · exact List.mem_range.mpr (Heap.lt_size (S.keep _ _ e))
    · rw [e, n]
theorem Up.idx : ∀ {Δ : List (Addr × Ct)} {i : Nat}, Δ[i]? = some (a, c) → Up a c' Δ (Δ.set i (a, c'))
  | [], i, e => by simp at e
  | p :: r, 0, e => by
    simp at e; subst e
    exact .head
  | p :: r, i + 1, e => by
    simp at e
    exact .tail (Up.idx e)
theorem Up.app {X Δ Δ' : List (Addr × Ct)} (u : Up a c' Δ Δ') : Up a c' (X ++ Δ) (X ++ Δ') := by
  induction X with
  | nil => exact u
  | cons p r ih => exact .tail ih
theorem Up.appr {X Δ Δ' : List (Addr × Ct)} (u : Up a c' Δ Δ') : Up a c' (Δ ++ X) (Δ' ++ X) := by
  induction u with
  | head => exact .head
  | tail _ ih => exact .tail ih
end
section
variable {w : World} {A : Around} {z : Shared} {g h : Heap} {tk : Nat} {L : Addr} {ρ : List (Str × Value)} {Δ M Δr : List (Addr × Ct)} {env : Env} {s : Shared} {Q : Value → Shared → Prop} {cl : List (Str × Addr)} {scope : Scope}
/-- a comprehension whose turns may put things into the base -/
theorem comp_atG {e : Expr} {it : Value} (S : St g L ρ (M ++ Δr) h) (G : Gd w g) (hcell : ∀ y ∈ scope.names, y.2 ≠ .cell) (hkind : scope.kind = .function)
    (loop : ∀ gi C acc h₁ tk₁, Gd w gi → (∀ b o, h.get? b = some o → b ∉ M.map (·.1) → gi.get? b = some o) → (∀ b o, gi.get? b = some o → h.get? b = some o) → h.get? acc = none → St gi C [] (M ++ [(acc, .list [])]) h₁ →
      codeAny (MM w) A (.compStart e 0 it (.ref acc) (compEnvC scope cl C env)) (fun r s' => r = .ok .next ∧ ∃ g₂ h₂ tk₂ ρ' Δi, s' = Z z h₂ tk₂ ∧ Sub gi g₂ ∧ St g₂ C ρ' Δi h₂ ∧
        ∀ g₃ h₃, Sub g g₃ → (∀ a c, Nw gi g₂ a c → Nw g g₃ a c) → St g₃ L ρ (Δi ++ Δr) h₃ → Q (.ref acc) (Z z h₃ tk₂)) (Z z h₁ tk₁)) :
    CompAt w A env e scope cl none Q it (Z z h tk) := by
  refine comp_at S G hcell hkind fun gi C acc h₁ tk₁ Gi hs hsi hacc Si => codeAny_mono (loop gi C acc h₁ tk₁ Gi hs hsi hacc Si) fun r s' q => ?_
  obtain ⟨hr, g₂, h₂, tk₂, ρ', Δi, hs', kk, S₂, fin⟩ := q
  obtain ⟨D, SD, hD⟩ := S₂.unseal kk
  refine ⟨hr, h₂, tk₂, ρ', D ++ Δi, hs', SD, fun h₃ S₃ => ?_⟩
  rw [List.append_assoc] at S₃
  obtain ⟨g₃, S₄, k1, k2, _⟩ := S₃.seal
  refine fin g₃ h₃ k1 (fun a c x => ?_) S₄
  obtain ⟨⟨o, ho, hc⟩, hn⟩ := x
  have hm := hD a o ho hn
  obtain ⟨o', ho', e'⟩ := k2 _ hm
  have e'' : o' = o := e'
  subst e''
  exact ⟨⟨o', ho', hc⟩, (S₃.nw _ (List.mem_append_left _ hm)).2.2⟩
end
end
section
/-! the sort, as a tree of questions: right where no two keys are alike -/
noncomputable def wpK {α : Type} (lt : Nat → Nat → Bool) (n : Nat) : KasT α → (α → Prop) → Prop
  | .ret a, Q => Q a
  | .ask i j k, Q => i < n ∧ j < n ∧ i ≠ j ∧ wpK lt n (k (lt i j)) Q
theorem wpK_bind {α β : Type} {lt : Nat → Nat → Bool} {n : Nat} {f : α → KasT β} {Q : β → Prop} : ∀ (t : KasT α), wpK lt n t (fun a => wpK lt n (f a) Q) → wpK lt n (t.bind f) Q
  | .ret _, h => h
  | .ask _ _ k, h => ⟨h.1, h.2.1, h.2.2.1, wpK_bind (k _) h.2.2.2⟩
theorem wpK_mono {α : Type} {lt : Nat → Nat → Bool} {n : Nat} {Q Q' : α → Prop} (hq : ∀ a, Q a → Q' a) : ∀ (t : KasT α), wpK lt n t Q → wpK lt n t Q'
  | .ret _, h => hq _ h
  | .ask _ _ k, h => ⟨h.1, h.2.1, h.2.2.1, wpK_mono hq (k _) h.2.2.2⟩
theorem wpK_run {α : Type} {lt : Nat → Nat → Bool} {n : Nat} {cmp : Nat → Nat → (Bool → Shared → Prop) → Shared → Prop} {s : Shared} (hc : ∀ i j C, i < n → j < n → i ≠ j → C (lt i j) s → cmp i j C s) {Q : α → Shared → Prop} :
    ∀ (t : KasT α), wpK lt n t (fun a => Q a s) → t.kasWp cmp Q s
  | .ret _, h => h
  | .ask i j k, h => hc i j _ h.1 h.2.1 h.2.2.1 (wpK_run hc (k (lt i j)) h.2.2.2)
section
variable {key : Nat → Int} {n : Nat} {p : Array Nat}
noncomputable def kP (key : Nat → Int) (p : Array Nat) (i : Nat) : Int := key (p.getD i 0)
noncomputable def Pm (n : Nat) (p : Array Nat) : Prop := p.toList.Perm (List.range n)
noncomputable abbrev klt (key : Nat → Int) (i j : Nat) : Bool := decide (key i < key j)
noncomputable def Asc (key : Nat → Int) (p : Array Nat) (k : Nat) : Prop := ∀ i j, i < j → j < k → kP key p i < kP key p j
noncomputable def Dsc (key : Nat → Int) (p : Array Nat) (k : Nat) : Prop := ∀ i j, i < j → j < k → kP key p j < kP key p i
theorem Pm.size (h : Pm n p) : p.size = n := by simpa using h.length_eq
theorem Pm.lt (h : Pm n p) {i : Nat} (hi : i < n) : p.getD i 0 < n := by
  have hs := h.size
  have hi' : i < p.size := by omega
  have e : p.getD i 0 = p[i] := by simp [Array.getD, hi']
  rw [e]
  have : p[i] ∈ p.toList := by simp
  simpa using h.mem_iff.mp this
theorem Pm.ne (h : Pm n p) (inj : ∀ i j, i < n → j < n → key i = key j → i = j) {i j : Nat} (hi : i < n) (hj : j < n) (hne : i ≠ j) : kP key p i ≠ kP key p j := by
  intro e
  have e2 := inj _ _ (h.lt hi) (h.lt hj) e
  have hs := h.size
  have hi' : i < p.size := by omega
  have hj' : j < p.size := by omega
  have e3 : p.getD i 0 = p[i] := by simp [Array.getD, hi']
  have e4 : p.getD j 0 = p[j] := by simp [Array.getD, hj']
  rw [e3, e4] at e2
  have nd : p.toList.Nodup := h.nodup_iff.mpr List.nodup_range
  refine hne ((List.getElem?_inj (l := p.toList) (by simpa using hi') nd).mp ?_)
  simp [hi', hj', e2]
theorem kP_ix {i j : Nat} (h : kP key p i ≠ kP key p j) : p.getD i 0 ≠ p.getD j 0 := fun e => h (by unfold kP; rw [e])
theorem kP_congr {xs ys : Array Nat} {i j : Nat} (h : xs[i]? = ys[j]?) : kP key xs i = kP key ys j := by
  unfold kP; rw [Array.getD_eq_getD_getElem?, Array.getD_eq_getD_getElem?, h]
theorem asc_ok (h : Pm n p) (inj : ∀ i j, i < n → j < n → key i = key j → i = j) {Q : Nat → Prop} : ∀ (f m : Nat), 1 ≤ m → m + f ≤ n → Asc key p m →
    (∀ r, m ≤ r → r ≤ m + f → Asc key p r → (r = m + f ∨ kP key p r < kP key p (r - 1)) → Q r) → wpK (klt key) n (kas_asc p f m) Q
  | 0, m, h1, hn, hs, q => q m (Nat.le_refl _) (Nat.le_refl _) hs (.inl rfl)
  | f + 1, m, h1, hn, hs, q => by
    have hne := h.ne inj (i := m) (j := m - 1) (by omega) (by omega) (by omega)
    refine ⟨h.lt (by omega), h.lt (by omega), kP_ix hne, ?_⟩
    show wpK _ _ (if decide (kP key p m < kP key p (m - 1)) = true then _ else _) _
    by_cases c : kP key p m < kP key p (m - 1)
    · rw [if_pos (decide_eq_true c)]
      exact q m (Nat.le_refl _) (by omega) hs (.inr c)
    · rw [if_neg (by simpa using c)]
      refine asc_ok h inj f (m + 1) (by omega) (by omega) (fun i j hij hj => ?_) fun r h3 h4 h5 h6 => q r (by omega) (by omega) h5 (by rcases h6 with h6 | h6; exact .inl (by omega); exact .inr h6)
      by_cases hjm : j < m
      · exact hs i j hij hjm
      · have hj' : j = m := by omega
        subst hj'
        by_cases hi : i = j - 1
        · subst hi; omega
        · have := hs i (j - 1) (by omega) (by omega)
          omega
theorem dsc_ok (h : Pm n p) (inj : ∀ i j, i < n → j < n → key i = key j → i = j) {Q : Array Nat × Nat × Nat → Prop} : ∀ (f m : Nat), 1 ≤ m → m + f ≤ n → Dsc key p m →
    (∀ r, m ≤ r → r ≤ m + f → Dsc key p r → Q (p, r, 0)) → wpK (klt key) n (kas_desc f p m 0) Q
  | 0, m, h1, hn, hs, q => q m (Nat.le_refl _) (Nat.le_refl _) hs
  | f + 1, m, h1, hn, hs, q => by
    have hne := h.ne inj (i := m) (j := m - 1) (by omega) (by omega) (by omega)
    refine ⟨h.lt (by omega), h.lt (by omega), kP_ix hne, ?_⟩
    show wpK _ _ (if decide (kP key p m < kP key p (m - 1)) = true then _ else _) _
    by_cases c : kP key p m < kP key p (m - 1)
    · rw [if_pos (decide_eq_true c), if_neg (by omega)]
      refine dsc_ok h inj f (m + 1) (by omega) (by omega) (fun i j hij hj => ?_) fun r h3 h4 h5 => q r (by omega) (by omega) h5
      by_cases hjm : j < m
      · exact hs i j hij hjm
      · have hj' : j = m := by omega
        subst hj'
        by_cases hi : i = j - 1
        · subst hi; exact c
        · have := hs i (j - 1) (by omega) (by omega)
          omega
    · rw [if_neg (by simpa using c)]
      refine ⟨h.lt (by omega), h.lt (by omega), kP_ix hne.symm, ?_⟩
      show wpK _ _ (if decide (kP key p (m - 1) < kP key p m) = true then _ else _) _
      rw [if_pos (by simp; omega)]
      exact q m (Nat.le_refl _) (by omega) hs
theorem rev_pm (h : Pm n p) (i j : Nat) : Pm n (kas_rev p i j) := (Array.perm_iff_toList_perm.mp (mirror_perm p i j _)).trans h
theorem kP_rev {m : Nat} (hm : m ≤ p.size) (k : Nat) : kP key (kas_rev p 0 m) k = if k < m then kP key p (m - 1 - k) else kP key p k := by
  have e := getElem?_mirror_all (i := 0) hm k
  by_cases c : k < m
  · rw [if_pos c]
    rw [if_pos (by omega)] at e
    refine kP_congr ?_
    rw [show m - 1 - k = 0 + m - 1 - k from by omega]
    exact e
  · rw [if_neg c]
    rw [if_neg (by omega)] at e
    exact kP_congr e
theorem tail3_ok (h : Pm n p) (inj : ∀ i j, i < n → j < n → key i = key j → i = j) {m : Nat} (h1 : 1 ≤ m) (hm : m ≤ n) (hs : Dsc key p m) {Q : Nat × Array Nat → Prop}
    (q : ∀ r p', Pm n p' → 1 ≤ r → r ≤ n → Asc key p' r → Q (r, p')) : wpK (klt key) n (kas_tail3 m n p) Q := by
  have hz := h.size
  refine wpK_bind _ (asc_ok (rev_pm h 0 m) inj _ _ h1 (by omega) (fun i j hij hj => ?_) fun r h3 h4 h5 _ => q r _ (rev_pm h 0 m) (by omega) (by omega) h5)
  rw [kP_rev (by omega), kP_rev (by omega), if_pos (by omega), if_pos (by omega)]
  exact hs _ _ (by omega) (by omega)
theorem count_ok (h : Pm n p) (inj : ∀ i j, i < n → j < n → key i = key j → i = j) (h1 : 1 ≤ n) {Q : Nat × Array Nat → Prop}
    (q : ∀ r p', Pm n p' → 1 ≤ r → r ≤ n → Asc key p' r → Q (r, p')) : wpK (klt key) n (kas_count n p) Q := by
  refine wpK_bind _ (asc_ok h inj _ _ (Nat.le_refl _) (by omega) (fun i j hij hj => by omega) fun r h3 h4 h5 h6 => ?_)
  by_cases c : r = n
  · rw [if_pos (by simpa using c)]
    exact q r p h (by omega) (by omega) h5
  · rw [if_neg (by simpa using c)]
    by_cases c2 : r > 1
    · rw [if_pos c2]
      refine ⟨h.lt (by omega), h.lt (by omega), kP_ix (h.ne inj (by omega) (by omega) (by omega)), ?_⟩
      show wpK _ _ (if decide (kP key p 0 < kP key p (r - 1)) = true then _ else _) _
      rw [if_pos (decide_eq_true (h5 0 (r - 1) (by omega) (by omega)))]
      exact q r p h (by omega) (by omega) h5
    · rw [if_neg c2]
      have hr : r = 1 := by omega
      subst hr
      have h7 : kP key p 1 < kP key p 0 := by
        rcases h6 with h6 | h6
        · omega
        · exact h6
      refine wpK_bind _ (dsc_ok h inj _ _ (by omega) (by omega) (fun i j hij hj => ?_) fun m h8 h9 h10 => ?_)
      · have hi : i = 0 := by omega
        have hj' : j = 1 := by omega
        subst hi; subst hj'
        exact h7
      · rw [if_neg (by simp)]
        exact tail3_ok h inj (by omega) (by omega) h10 q
theorem place_ok (h : Pm n p) (inj : ∀ i j, i < n → j < n → key i = key j → i = j) {k : Nat} (hk : k < n) (hs : Asc key p k) {Q : Nat → Prop}
    (q : ∀ l, l ≤ k → (∀ i, i < l → kP key p i < kP key p k) → (∀ i, l ≤ i → i < k → kP key p k < kP key p i) → Q l) : ∀ (f l r : Nat), l ≤ r → r ≤ k → r - l ≤ f →
    (∀ i, i < l → kP key p i < kP key p k) → (∀ i, r ≤ i → i < k → kP key p k < kP key p i) → wpK (klt key) n (kas_place p k f l r) Q
  | 0, l, r, h1, h2, h3, h4, h5 => q l (by omega) h4 (by have : l = r := by omega
                                                         subst this; exact h5)
  | f + 1, l, r, h1, h2, h3, h4, h5 => by
    show wpK _ _ (if l ≥ r then _ else _) _
    by_cases c : l ≥ r
    · rw [if_pos c]
      have : l = r := by omega
      subst this
      exact q l h2 h4 h5
    · rw [if_neg c]
      have hne := h.ne inj (i := k) (j := (l + r) / 2) hk (by omega) (by omega)
      refine ⟨h.lt hk, h.lt (by omega), kP_ix hne, ?_⟩
      show wpK _ _ (if decide (kP key p k < kP key p ((l + r) / 2)) = true then _ else _) _
      by_cases d : kP key p k < kP key p ((l + r) / 2)
      · rw [if_pos (decide_eq_true d)]
        refine place_ok h inj hk hs q f l _ (by omega) (by omega) (by omega) h4 fun i h6 h7 => ?_
        by_cases e : i = (l + r) / 2
        · subst e; exact d
        · have := hs ((l + r) / 2) i (by omega) h7
          omega
      · rw [if_neg (by simpa using d)]
        refine place_ok h inj hk hs q f _ r (by omega) h2 (by omega) (fun i h6 => ?_) h5
        by_cases e : i = (l + r) / 2
        · subst e; omega
        · have := hs i ((l + r) / 2) (by omega) (by omega)
          omega
theorem bubble_pm (h : Pm n p) (k d : Nat) : Pm n (bubble p k d) := (Array.perm_iff_toList_perm.mp (bubble_perm p k d)).trans h
theorem kP_bubble {k d : Nat} (hk : k < p.size) (hd : d ≤ k) (i : Nat) : kP key (bubble p k d) i = if i = k - d then kP key p k else if k - d < i ∧ i ≤ k then kP key p (i - 1) else kP key p i := by
  have e := getElem?_bubble hk d hd i
  by_cases c : i = k - d
  · rw [if_pos c] at e ⊢; exact kP_congr e
  · rw [if_neg c] at e ⊢
    by_cases c2 : k - d < i ∧ i ≤ k
    · rw [if_pos c2] at e ⊢; exact kP_congr e
    · rw [if_neg c2] at e ⊢; exact kP_congr e
end
theorem bin_ok {key : Nat → Int} {n : Nat} (inj : ∀ i j, i < n → j < n → key i = key j → i = j) {Q : Array Nat → Prop} (q : ∀ p', Pm n p' → Asc key p' n → Q p') :
    ∀ (f : Nat) (p : Array Nat) (k : Nat), Pm n p → k + f = n → Asc key p k → wpK (klt key) n (kas_bin f p k) Q
  | 0, p, k, h, hk, hs => q p h (by have : k = n := by omega
                                    subst this; exact hs)
  | f + 1, p, k, h, hk, hs => by
    have hz := h.size
    refine wpK_bind _ (place_ok h inj (by omega) hs (fun l hl h4 h5 => ?_) k 0 k (by omega) (by omega) (by omega) (fun i hi => by omega) (fun i h1 h2 => by omega))
    refine bin_ok inj q f _ (k + 1) (bubble_pm h _ _) (by omega) fun i j hij hj => ?_
    rw [kP_bubble (by omega) (by omega), kP_bubble (by omega) (by omega), show k - (k - l) = l from by omega]
    by_cases c1 : i = l
    · rw [if_pos c1, if_neg (by omega), if_pos (by omega)]
      exact h5 _ (by omega) (by omega)
    · rw [if_neg c1]
      by_cases c2 : l < i ∧ i ≤ k
      · rw [if_pos c2, if_neg (by omega), if_pos (by omega)]
        exact hs _ _ (by omega) (by omega)
      · rw [if_neg c2]
        by_cases c3 : j = l
        · rw [if_pos c3]
          exact h4 i (by omega)
        · rw [if_neg c3]
          by_cases c4 : l < j ∧ j ≤ k
          · rw [if_pos c4]
            by_cases c5 : i = j - 1
            · omega
            · exact hs _ _ (by omega) (by omega)
          · rw [if_neg c4]
            exact hs _ _ (by omega) (by omega)
theorem sort_ok {key : Nat → Int} {n : Nat} (inj : ∀ i j, i < n → j < n → key i = key j → i = j) (h1 : 1 ≤ n) {Q : Array Nat → Prop} (q : ∀ p', Pm n p' → Asc key p' n → Q p') : wpK (klt key) n (kas_sort n) Q := by
  refine wpK_bind _ (count_ok (by show (List.toArray (List.range n)).toList.Perm _; simp) inj h1 fun r p' h2 h3 h4 h5 => ?_)
  dsimp only
  by_cases c : r < n
  · rw [if_pos c]
    exact bin_ok inj q _ _ _ h2 (by omega) (by rw [show max r 1 = r from by omega]; exact h5)
  · rw [if_neg c]
    have : r = n := by omega
    subst this
    exact q p' h2 h5
end
section
open AutoSeq1 (wpAny_loadPart')
open MeetsSeq MeetsSeq2 MeetsSeq3 SeqRoads2
noncomputable def lexb : List Int → List Int → Bool
  | x :: xs, y :: ys => if x = y then lexb xs ys else decide (x < y)
  | _, _ => false
section
variable {prog : Program} {w : World} {A : Around} {E : Value → Shared → Prop} {s : Shared} {Q : Value → Shared → Prop}
theorem lt_loop {a b : Addr} {vs ws : List Value} {R : Result → Shared → Prop} (ha : At s.heap a (.list vs)) (hb : At s.heap b (.list ws)) : ∀ (xs ys : List Int) (i : Nat), IntsAre (vs.drop i) xs → IntsAre (ws.drop i) ys →
    xs.length = ys.length → xs ≠ ys → R (.ok (.ret (.bool (lexb xs ys)))) s → codeAny (model prog w) A (.builtin "list.__eq__.loop" ⟨[.ref a, .ref b, rawInt i, rawInt 0], []⟩) R s
  | [], [], _, _, _, _, hne, _ => absurd rfl hne
  | [], _ :: _, _, _, _, hl, _, _ => by simp at hl
  | _ :: _, [], _, _, _, hl, _, _ => by simp at hl
  | x :: xs, y :: ys, i, h1, h2, hl, hne, q => by
    generalize e1 : vs.drop i = vd at h1
    generalize e2 : ws.drop i = wd at h2
    cases h1 with
    | cons _ t h1 =>
      cases h2 with
      | cons _ u h2 =>
        rename_i vr wr
        have g1 : vs[i]? = some (.int x t) := by
          have : (vs.drop i)[0]? = some (.int x t) := by rw [e1]; rfl
          simpa using this
        have g2 : ws[i]? = some (.int y u) := by
          have : (ws.drop i)[0]? = some (.int y u) := by rw [e2]; rfl
          simpa using this
        have d1 : vs.drop (i + 1) = vr := by
          have := congrArg (List.drop 1) e1
          simpa using this
        have d2 : ws.drop (i + 1) = wr := by
          have := congrArg (List.drop 1) e2
          simpa using this
        refine lt_step ha hb g1 g2 (fun e => ?_) fun e => ?_
        · have : lexb (x :: xs) (y :: ys) = decide (x < y) := by show (if x = y then _ else _) = _; rw [if_neg e]
          rw [this] at q; exact q
        · have : lexb (x :: xs) (y :: ys) = lexb xs ys := by show (if x = y then _ else _) = _; rw [if_pos e]
          rw [this] at q
          exact lt_loop ha hb xs ys (i + 1) (d1 ▸ h1) (d2 ▸ h2) (by simpa using hl) (fun q => hne (by rw [e, q])) q
theorem call_list_lt {a b : Addr} {vs ws : List Value} {xs ys : List Int} (ha : At s.heap a (.list vs)) (hb : At s.heap b (.list ws)) (h1 : IntsAre vs xs) (h2 : IntsAre ws ys) (hl : xs.length = ys.length) (hne : xs ≠ ys) (q : Q (.bool (lexb xs ys)) s) :
    wpAny (model prog w) A (call (.builtin "list.__lt__") [.ref a, .ref b]) Q E s := by
  refine wpAny_call (codeAny_call_builtin F.slot_list_lt.plain F.entry_list_lt (F.slot_list_lt.check _ _ _ _ _ _ _ _ ha.isList.typeIs (F.args_list_lt_2 _ _) ?_))
  have h := lt_loop (prog := prog) (w := w) (A := A) (R := fun r s' => match r with | .ok (.ret v) => Q v s' | .ok _ => False | .error e => E e s') ha hb xs ys 0 h1 h2 hl hne q
  obtain ⟨hp, g, d, tk, os⟩ := s
  obtain ⟨d1, n1, sl1, hl⟩ := ha.opened
  obtain ⟨d2, n2, sl2, hb⟩ := hb.opened
  dsimp only at hl hb
  have f3 := AutoSeq1.sub_list_list
  wp_walk using wpAny_loadPart' hl, wpAny_loadPart' hb
  exact ⟨plainId_quiet plain_eq_loop _, h⟩
theorem one_lt {a b : Addr} {vs ws : List Value} {xs ys : List Int} {Q : Bool → Shared → Prop} (hu : A.units < cLine) (ha : At s.heap a (.list vs)) (hb : At s.heap b (.list ws)) (h1 : IntsAre vs xs) (h2 : IntsAre ws ys) (hl : xs.length = ys.length) (hne : xs ≠ ys) (q : Q (lexb xs ys) s) :
    wpAny (model prog w) A (keyLt' oneType' (.ref a) (.ref b)) Q E s := by
  rw [keyLt'_oneType, oneLt'_eq]
  simp only [if_true]
  refine wpAny_bind (wpAny_cRoomFor hu ?_)
  refine wpAny_bind (wpAny_callSpecialIfBound?_slot ha.isList.typeIs F.slot_list_lt (call_list_lt ha hb h1 h2 hl hne ?_))
  exact wpAny_truthy_bool q
end
end
section
section
variable {prog : Program} {w : World} {A : Around} {E : Value → Shared → Prop} {s : Shared}
/-- the heap within the sort -/
noncomputable def inSort (h : Heap) (a : Addr) (vs : List Value) : Heap := ((h.update a (Obj.mapSeq fun _ => (#[] : Array Value))).push (seqObj "tuple" vs.toArray 0)).push (seqObj "list" #[] 0)
theorem inSort_old {h : Heap} {a b : Addr} {vs : List Value} {o : Obj} (hb : b ≠ a) (e : h.get? b = some o) : (inSort h a vs).get? b = some o :=
  Heap.get?_push_of_some _ (Heap.get?_push_of_some _ ((Heap.get?_update_ne _ _ _ _ hb).trans e))
theorem inSort_at {h : Heap} {a : Addr} {vs : List Value} {n : Nat} (ho : h.get? a = some (seqObj "list" vs.toArray n)) : ∃ e, (h.update a (Obj.mapSeq fun _ => (#[] : Array Value))).get? a = some (seqObj "list" #[] e) ∧ (inSort h a vs).get? a = some (seqObj "list" #[] e) :=
  ⟨_, get?_update_seq ho fun _ => #[], Heap.get?_push_of_some _ (Heap.get?_push_of_some _ (get?_update_seq ho fun _ => #[]))⟩
theorem sort_list {a : Addr} {vs : List Value} {n : Nat} {P : PySem.Fin → Shared → Prop} (ho : s.heap.get? a = some (seqObj "list" vs.toArray n)) (h2 : 2 ≤ vs.length) (h64 : vs.length < 64)
    (hT : ∀ v ∈ vs, Looks (model prog w) (inSort s.heap a vs) (typeOf v) (.type "list"))
    (ask : (kas_sort vs.length).kasWp (kas_cmp prog w A oneType' (pairsOf vs)) (fun p s' => s' = { s with heap := inSort s.heap a vs } ∧
      P (.done (.ret .none)) { s with heap := (inSort s.heap a vs).update a (Obj.mapSeq fun _ => List.toArray (p.toList.map fun i => vs.getD i .none)) }) { s with heap := inSort s.heap a vs }) :
    wpAny (model prog w) A (Builtin.«list.sort» ⟨[.ref a], []⟩) P E s := by
  obtain ⟨e1, ho1, ho2⟩ := inSort_at (vs := vs) ho
  have hn : vs.toArray.size = vs.length := List.size_toArray
  have h16 : vs.length ≤ sizeLine := by rw [sizeLine_eq]; omega
  rw [list_sort_plain]
  refine wpAny_bind (listItems_at ho rfl (wpAny_bind (listUpdate_at ho rfl ?_ (by rw [hn]; exact h16) (Nat.zero_le _))))
  refine wpAny_bind (seqEpoch_at ho1 rfl (wpAny_bind (wpAny_newTuple ?_ h16)))
  refine wpAny_bind (wpAny_newList (wpAny_holding ?_) (Nat.zero_le _))
  show wpAny (model prog w) A _ P E { s with heap := inSort s.heap a vs }
  dsimp only
  rw [if_neg (by omega), if_neg (by omega)]
  refine wpAny_bind (kas_kind h2 hT (by decide) (by decide) ?_)
  have est : SortSt.mk' oneType' (vs.toArray.zip vs.toArray) #[] 7 none = kas_st oneType' (pairsOf vs) (List.toArray (List.range vs.length)) := by
    have e := kas_range (pairsOf vs)
    rw [pairsOf_size] at e
    show SortSt.mk' oneType' (pairsOf vs) #[] 7 none = SortSt.mk' oneType' ((List.toArray (List.range vs.length)).map (kas_item (pairsOf vs))) #[] 7 none
    rw [e]
  rw [est]
  refine wpAny_bind (wpAny_mono (kas_runs (E := E) (Q := fun _ st' s' => ∃ p : Array Nat, p.size = vs.length ∧ arrOf st' = p.map (kas_item (pairsOf vs)) ∧ failedOf st' = none ∧ s' = { s with heap := inSort s.heap a vs } ∧
      P (.done (.ret .none)) { s with heap := (inSort s.heap a vs).update a (Obj.mapSeq fun _ => List.toArray (p.toList.map fun i => vs.getD i .none)) })
    h2 h64 (fun p' st' s' a1 a2 a3 a4 => ⟨p', a1, a2, a3, a4⟩) ask) ?_ fun _ _ e => e)
  rintro ⟨⟨⟩, st'⟩ s' ⟨p, hp, har, hf, rfl, hP⟩
  dsimp only
  have hout : (arrOf st').map (·.2) = List.toArray (p.toList.map fun i => vs.getD i Value.none) := by
    apply Array.toList_inj.mp
    rw [har, Array.map_map, Array.toList_map]
    refine List.map_congr_left fun i _ => ?_
    show (kas_item (pairsOf vs) i).2 = _
    rw [kas_item_eq]
  rw [hout, hf]
  refine wpAny_bind (seqEpoch_at ho2 rfl (wpAny_bind (listUpdate_at ho2 rfl ?_ (Nat.zero_le _) ?_)))
  · simp only [bne_self_eq_false, Bool.false_eq_true, if_false]
    exact wpAny_pure hP
  · rw [List.size_toArray, List.length_map, Array.length_toList, hp, sizeLine_eq]; omega
end
theorem lexb_self : ∀ xs : List Int, lexb xs xs = false
  | [] => rfl
  | x :: xs => by show (if x = x then _ else _) = _; rw [if_pos rfl]; exact lexb_self xs
section
variable {w : World} {A : Around} {E : Value → Shared → Prop} {z : Shared} {g h : Heap} {tk : Nat} {L : Addr} {ρ : List (Str × Value)} {Δ : List (Addr × Ct)} {Q : Value → Shared → Prop}
/-- sorted(xs) where xs holds lists of ints, no two alike -/
theorem s_sorted {l : Addr} {vs : List Value} {ks : Nat → List Int} {key : Nat → Int} {m : Nat} (S : St g L ρ Δ h) (hu : A.units + 20 < cLine) (hl : At h l (.list vs)) (h2 : 2 ≤ vs.length) (h64 : vs.length < 64)
    (hk : ∀ i, i < vs.length → ∃ b ws, vs.getD i .none = .ref b ∧ At h b (.list ws) ∧ IntsAre ws (ks i) ∧ (ks i).length = m)
    (hkey : ∀ i j, i < vs.length → j < vs.length → i ≠ j → lexb (ks i) (ks j) = decide (key i < key j)) (inj : ∀ i j, i < vs.length → j < vs.length → key i = key j → i = j)
    (q : ∀ (p : Array Nat) D h', Pm vs.length p → Asc key p vs.length → h.get? D = none → Keep [] h h' → St g L ρ ((D, .list (p.toList.map fun i => vs.getD i .none)) :: Δ) h' → Q (.ref D) (Z z h' tk)) : wpAny (MM w) A (call (.builtin "sorted") [.ref l]) Q E (Z z h tk) := by
  refine Calls.call_function_entry kind_sorted plain_sorted entry_sorted (args_sorted1 _) ?_
  unfold Builtin.«sorted»
  have h16 : vs.length ≤ sizeLine := by rw [sizeLine_eq]; omega
  refine wpAny_bind (m := checkCount "sorted" 1 1 _) (wpAny_pure ?_)
  refine wpAny_bind (collect_list hl.isList (wpAny_bind (wpAny_newList ?_ h16)) h16)
  dsimp only
  have hsz : ((h.push (seqObj "list" #[] 0)).update h.objs.size (Obj.mapSeq (· ++ vs.toArray))).objs.size = h.objs.size + 1 := by
    rw [Heap.size_update, size_push']
  generalize hh₁ : (h.push (seqObj "list" #[] 0)).update h.objs.size (Obj.mapSeq (· ++ vs.toArray)) = h₁ at hsz ⊢
  have k₁ : ∀ b o, h.get? b = some o → h₁.get? b = some o := fun b o e => by
    rw [← hh₁]
    exact (Heap.get?_update_ne _ _ _ _ (Nat.ne_of_lt (Heap.lt_size e))).trans (Heap.get?_push_of_some _ e)
  have hD : (h₁.push (seqObj "list" vs.toArray 0)).get? h₁.objs.size = some (seqObj "list" vs.toArray 0) := Heap.get?_push_size _ rfl
  have hDn : h.get? h₁.objs.size = none := Heap.get?_none_of_le (by rw [hsz]; exact Nat.le_succ _)
  generalize h₁.objs.size = D at *
  have k₂ : ∀ b o, h.get? b = some o → (h₁.push (seqObj "list" vs.toArray 0)).get? b = some o := fun b o e => Heap.get?_push_of_some _ (k₁ b o e)
  generalize hh₂ : h₁.push (seqObj "list" vs.toArray 0) = h₂ at *
  have hin : ∀ b o, h.get? b = some o → (inSort h₂ D vs).get? b = some o := fun b o e => inSort_old (fun q => by rw [q, hDn] at e; cases e) (k₂ b o e)
  obtain ⟨e1, _, ho2⟩ := inSort_at (vs := vs) hD
  refine wpAny_bind (wpAny_holding (wpAny_call_entry slot_list_sort ⟨_, hD, rfl⟩ entry_list_sort (sort_list (s := Z z h₂ tk) hD h2 h64 (fun v hv => ?_) ?_) (args_list_sort _)))
  · obtain ⟨i, hi, rfl⟩ := List.mem_iff_getElem.mp hv
    obtain ⟨b, ws, e, x, _⟩ := hk i hi
    have e' : vs[i] = .ref b := by simpa [List.getD, hi] using e
    rw [e']
    obtain ⟨n, ho⟩ := x.get
    exact (Looks.ld (hin _ _ ho)).andThen .now
  · refine wpK_run (lt := klt key) (n := vs.length) (fun i j C hi hj hne hC => ?_) _ (sort_ok inj (by omega) fun p hp hs => ⟨rfl, ?_⟩)
    · obtain ⟨a, ws, e1, x1, i1, l1⟩ := hk i hi
      obtain ⟨b, us, e2, x2, i2, l2⟩ := hk j hj
      unfold kas_cmp
      rw [kas_item_eq, kas_item_eq]
      dsimp only
      rw [e1, e2]
      refine one_lt ?_ (x1.keeps fun o e => hin _ o e) (x2.keeps fun o e => hin _ o e) i1 i2 (by rw [l1, l2]) (fun e => ?_) ?_
      · show A.units + 1 + 1 < _; omega
      · have h3 := hkey i j hi hj hne
        have h4 := hkey j i hj hi (Ne.symm hne)
        rw [e, lexb_self] at h3
        rw [e, lexb_self] at h4
        have h5 := of_decide_eq_false h3.symm
        have h6 := of_decide_eq_false h4.symm
        exact hne (inj i j hi hj (by omega))
      · rw [hkey i j hi hj hne]; exact hC
    · refine ⟨_, rfl, wpAny_pure ⟨_, rfl, ?_⟩⟩
      have kf : Keep [] h ((inSort h₂ D vs).update D (Obj.mapSeq fun _ => List.toArray (p.toList.map fun i => vs.getD i Value.none))) := fun b o e _ =>
        (Heap.get?_update_ne _ _ _ _ (fun q => by rw [q, hDn] at e; cases e)).trans (hin b o e)
      exact q p D _ hp hs hDn kf (S.newAt kf hDn (At.list (get?_update_seq ho2 _)))
end
end
section
open SeqAt
section
variable {w : World} {A : Around} {E : Value → Shared → Prop} {z : Shared} {g h : Heap} {tk : Nat} {L : Addr} {ρ : List (Str × Value)} {Δ Δ' : List (Addr × Ct)} {env : Env} {Q : Value → Shared → Prop} {s : Shared} {t u : Tok}
theorem z_ne_len {a b : Addr} {vs ws : List Value} (ha : At s.heap a (.list vs)) (hb : At s.heap b (.list ws)) (hu : A.units < cLine) (hn : vs.length ≠ ws.length) (q : Q (.bool true) s) : wpAny (MM w) A (compareOp .NotEq (.ref a) (.ref b)) Q E s :=
  RcNeAt.lists_lengths ha.isList hb.isList (by simpa using hn) hu _ w E Q q
theorem z_ne_same {a b : Addr} {vs : List Value} (ha : At s.heap a (.list vs)) (hb : At s.heap b (.list vs)) (hu : A.units < cLine) (q : Q (.bool false) s) : wpAny (MM w) A (compareOp .NotEq (.ref a) (.ref b)) Q E s :=
  RcNeAt.lists (e := fun _ => true) ha.isList hb.isList rfl hu (fun j _ _ => EqAt.same _) _ w E Q (by rw [show (List.range vs.toArray.size).all (fun _ => true) = true from List.all_eq_true.mpr fun _ _ => rfl]; exact q)
theorem z_eq_len {a b : Addr} {vs ws : List Value} (ha : At s.heap a (.list vs)) (hb : At s.heap b (.list ws)) (hu : A.units < cLine) (hn : vs.length ≠ ws.length) (q : Q (.bool false) s) : wpAny (MM w) A (compareOp .Eq (.ref a) (.ref b)) Q E s :=
  RcAt.lists_lengths ha.isList hb.isList (by simpa using hn) hu _ w E Q q
theorem z_eq_same {a b : Addr} {vs : List Value} (ha : At s.heap a (.list vs)) (hb : At s.heap b (.list vs)) (hu : A.units < cLine) (q : Q (.bool true) s) : wpAny (MM w) A (compareOp .Eq (.ref a) (.ref b)) Q E s :=
  RcAt.lists (e := fun _ => true) ha.isList hb.isList rfl hu (fun j _ _ => EqAt.same _) _ w E Q (by rw [show (List.range vs.toArray.size).all (fun _ => true) = true from List.all_eq_true.mpr fun _ _ => rfl]; exact q)
theorem z_nestr {x y : Str} {b : Bool} (e : (x.cps.toList != y.cps.toList) = b) (q : Q (.bool b) s) : wpAny (MM w) A (compareOp .NotEq (.str x t) (.str y u)) Q E s := P.ne_str (e ▸ q)
theorem s_addL {a b : Addr} {vs ws : List Value} (S : St g L ρ Δ h) (ha : At h a (.list vs)) (hb : At h b (.list ws)) (hz : vs.length + ws.length ≤ sizeLine) (q : ∀ n h', h.get? n = none → Keep [] h h' → St g L ρ ((n, .list (vs ++ ws)) :: Δ) h' → Q (.ref n) (Z z h' tk)) :
    wpAny (MM w) A (binaryOp .Add (.ref a) (.ref b)) Q E (Z z h tk) := by
  obtain ⟨n, ho⟩ := ha.get
  obtain ⟨n2, ho2⟩ := hb.get
  refine concat_meets (s := Z z h tk) ha.isList.typeIs hb.isList.typeIs noFill_list_add seq_list_add PySem.F.slot_list_add PySem.F.entry_list_add (PySem.F.args_list_add_2 _ _) (AutoSeq1.list___add___list_list_0 a vs.toArray n b ws.toArray n2 (by simpa using hz)) ⟨ho, ho2, ?_⟩
  refine q _ _ (get_size h) (Keep.push _) (S.newAt (Keep.push _) (get_size h) ⟨_, Heap.get?_push_size _ rfl, 0, ?_⟩)
  show _ = lo (vs ++ ws) 0
  rw [show vs.toArray ++ ws.toArray = (vs ++ ws).toArray from by simp]
theorem s_extend {a b : Addr} {vs ws : List Value} (S : St g L ρ Δ h) (hm : (a, .list vs) ∈ Δ) (u : Up a (.list (vs ++ ws)) Δ Δ') (hb : At h b (.list ws)) (hz : vs.length + ws.length ≤ 1000000) (q : ∀ h', St g L ρ Δ' h' → Q .none (Z z h' tk)) :
    wpAny (MM w) A (call (.builtin "list.extend") [.ref a, .ref b]) Q E (Z z h tk) := by
  have x := S.at hm
  obtain ⟨n, ho⟩ := x.get
  obtain ⟨n2, ho2⟩ := hb.get
  have h16 : vs.toArray.size + ws.toArray.size ≤ sizeLine := by simp [sizeLine]; omega
  refine call_meets (s := Z z h tk) PySem.F.slot_list_extend x.isList.typeIs PySem.F.entry_list_extend (PySem.F.args_list_extend_2 _ _) (AutoSeq1.list_extend_list_list_0 a vs.toArray n b ws.toArray n2 ?_ (by omega) (by omega)) ⟨ho, ho2, ?_⟩
  · simp [Builtin.List.listTooLong, sizeLine]; omega
  · exact q _ (S.upd u (Heap.SameBut.update ..) (x.updated (by simp)))
theorem z_badd {b c : Array UInt8} (hz : b.size + c.size ≤ 1000000) (q : ∀ t' k, Q (.bytes (b ++ c) t') (Z z h k)) : wpAny (MM w) A (binaryOp .Add (.bytes b t) (.bytes c u)) Q E (Z z h tk) :=
  KBy.add_bytes (s := Z z h tk) (by omega) q
theorem s_sum {l : Addr} {vs : List Value} {ns : List Int} (hh : A.handled = none) (S : St g L ρ Δ h) (hl : At h l (.list vs)) (hi : IntsAre vs ns) (q : ∀ h' tk t, St g L ρ Δ h' → Q (.int ns.sum t) (Z z h' tk)) : wpAny (MM w) A (call (.builtin "sum") [.ref l]) Q E (Z z h tk) := by
  obtain ⟨xs, e⟩ := hi.allInts.items
  have hs : (numsOf vs.toArray.toList).sum = ns.sum := by rw [show vs.toArray.toList = vs from rfl, hi.numsOf]
  refine sum_intListG (s := Z z h tk) hh (by rw [← e]; exact hl.isList) fun h' tk' t' hk => ?_
  have := q h' tk' t' (S.keepAll fun b o e _ => hk b o e)
  rw [← hs, e, nums_intItems] at this
  rw [preSum_eq, List.take_of_length_le (by simp)]
  exact this
end
end
section
namespace BJ
open Builtin
set_option maxRecDepth 100000
theorem args2 (a b : Value) : argsOk "bytes.decode" ⟨[a, b], []⟩ := by unfold argsOk; kernel_rfl
theorem dec_entry {c : UInt8} {cs : List UInt8} {t u : Tok} : «bytes.decode» ⟨[.bytes (c :: cs).toArray t, .str (PySem.Str.ofString "ascii") u], []⟩ = (mkStr (PySem.Str.ofString "utf-8") >>= fun _ => mkStr (PySem.Str.ofString "ascii") >>= fun e => mkStr (PySem.Str.ofString "bytes.decode") >>= fun d =>
    call (.builtin "_codecs.decode.text") [.bytes (c :: cs).toArray t, e, .none, d] >>= fun v => ret v) := by kernel_rfl
theorem dec_empty {t u : Tok} : «bytes.decode» ⟨[.bytes #[] t, .str (PySem.Str.ofString "ascii") u], []⟩ = (rule "bytes.decode.empty" >>= fun _ => retStr Str.empty) := by kernel_rfl
theorem road_ascii {id : String} {b : Array UInt8} : _codecs.decodeRoad id b (PySem.Str.ofString "ascii") none [] = (_codecs.runDecoder id _codecs.asciiDecoder none true b 0 [] >>= fun r => mkStr ⟨r.1⟩) := by kernel_rfl
theorem run_ascii {M : Model} {A : Around} {E : Value → Shared → Prop} {s : Shared} {id : String} {b : Array UInt8} {Q : Array Nat × Nat → Shared → Prop} (hb : ∀ i, i < b.size → (b.getD i 0).toNat < 128) (hz : b.size ≤ 1000000)
   (q : Q ((b.toList.map (·.toNat)).toArray, b.size) s) : wpAny M A (_codecs.runDecoder id _codecs.asciiDecoder none true b 0 []) Q E s := by
  unfold _codecs.runDecoder
  refine wpAny_bind ?_
  rw [Std.Legacy.Range.forIn_eq_forIn_range']
  refine wpAny_forIn_list _ (fun l acc s' => l.length ≤ b.size ∧ acc.1 = b.size - l.length ∧ acc.2.1 = ((b.toList.take acc.1).map (·.toNat)).toArray ∧ s' = s) _ ?_ ?_ _ _ ?_
  · rintro x rest ⟨p, out, st⟩ s' ⟨hl, hp, ho, rfl⟩
    dsimp only at hp ho ⊢
    simp only [List.length_cons] at hl hp
    have hlt : p < b.size := by omega
    have hsz : out.size ≤ b.size := by rw [ho]; simp; omega
    have hc := hb p hlt
    have hfind : _codecs.asciiDecoder.find true b p = .text [(b.getD p 0).toNat] (p + 1) := by
      show (if (b.getD p 0).toNat < 128 then _ else _) = _
      rw [if_pos hc]
      rfl
    rw [if_neg (by rw [sizeLine_eq]; omega), if_neg (by omega), hfind]
    refine wpAny_pure ⟨by omega, by show p + 1 = _; omega, ?_, rfl⟩
    show out ++ [(b.getD p 0).toNat].toArray = ((b.toList.take (p + 1)).map (·.toNat)).toArray
    have e : b.toList.take (p + 1) = b.toList.take p ++ [b.getD p 0] := by
      rw [List.take_add_one]
      congr 1
      simp [Array.getD, hlt]
    rw [e, ho]
    simp
  · rintro ⟨p, out, st⟩ s' ⟨hl, hp, ho, rfl⟩
    dsimp only at hp ho ⊢
    refine wpAny_pure ?_
    simp only [List.length_nil] at hp
    have e : p = b.size := by omega
    subst e
    have e2 : List.take b.size b.toList = b.toList := List.take_of_length_le (by simp)
    rw [e2] at ho
    rw [ho]
    exact q
  · refine ⟨by simp [Std.Legacy.Range.size], by simp [Std.Legacy.Range.size], by simp, rfl⟩
theorem meets_text {b : Array UInt8} {t t1 t2 : Tok} {d : PySem.Str} (hb : ∀ i, i < b.size → (b.getD i 0).toNat < 128) (hz : b.size ≤ 1000000) :
    Meets («_codecs.decode.text» ⟨[.bytes b t, .str (PySem.Str.ofString "ascii") t1, .none, .str d t2], []⟩) (fun _ R s => R (.ok (.ret (.str ⟨(b.toList.map (·.toNat)).toArray⟩ s.toks))) { s with toks := s.toks + 1 }) := by
  refine .of_wp fun prog w A R s h => ?_
  show wpAny _ _ (Bytes.bytesLike _ (.bytes b t) >>= fun r => _) _ _ s
  refine wpAny_bind (wpAny_of_eq KBd.like_eq ?_)
  refine wpAny_bind (wpAny_of_eq KBd.held_eq ?_)
  show wpAny _ _ (_codecs.decodeRoad _ b (PySem.Str.ofString "ascii") none [] >>= fun v => _) _ _ s
  rw [road_ascii]
  refine wpAny_bind (wpAny_bind (run_ascii hb hz ?_))
  exact wpAny_mkStr (wpAny_pure ⟨_, rfl, h⟩) (by rw [len_ch]; simp [sizeLine]; omega)
theorem meets_decode {c : UInt8} {cs : List UInt8} {t u : Tok} (hb : ∀ i, i < (c :: cs).toArray.size → ((c :: cs).toArray.getD i 0).toNat < 128) (hz : (c :: cs).toArray.size ≤ 1000000) :
    Meets («bytes.decode» ⟨[.bytes (c :: cs).toArray t, .str (PySem.Str.ofString "ascii") u], []⟩) (fun _ R s => ∀ t' k, R (.ok (.ret (.str ⟨((c :: cs).map (·.toNat)).toArray⟩ t'))) { s with toks := k }) := by
  refine .of_wp fun prog w A R s h => ?_
  rw [dec_entry]
  refine wpAny_bind (wpAny_mkStr ?_ (by decide))
  refine wpAny_bind (wpAny_mkStr ?_ (by decide))
  refine wpAny_bind (wpAny_mkStr ?_ (by decide))
  exact wpAny_bind (call_function_meets KBd.kind_text KBd.plain_text KBd.entry_text (KBd.args_text _ _ _ _) (meets_text hb hz) (wpAny_pure ⟨_, rfl, h _ _⟩))
theorem meets_decode0 {t u : Tok} : Meets («bytes.decode» ⟨[.bytes #[] t, .str (PySem.Str.ofString "ascii") u], []⟩) (fun _ R s => ∀ t' k, R (.ok (.ret (.str ⟨#[]⟩ t'))) { s with toks := k }) := by
  refine .of_wp fun prog w A R s h => ?_
  rw [dec_empty]
  refine wpAny_bind (wpAny_rule ?_)
  show wpAny _ _ (do ret (← mkStr Str.empty)) _ _ _
  exact wpAny_bind (wpAny_mkStr (wpAny_pure ⟨_, rfl, h _ _⟩) (by decide))
theorem take_eq {id : String} {b : Array UInt8} {t : Tok} : Bytes.takeBufferQuiet? id (.bytes b t) 0 = pure (some (b, none)) := by
  unfold Bytes.takeBufferQuiet? Bytes.takeBuffer?
  rw [KBy.special_eq KBy.look_buffer, KBy.own_buffer]
  simp only [pure_bind]
  have e0 : ((0 : Int) == Bytes.fullReadOnly) = false := by decide
  rw [e0, KBy.buffer_eq]
  rfl
open AutoSeq1 (wpAny_loadPart')
theorem joined_nil (parts : List (Array UInt8)) : Bytes.joined #[] parts = parts.foldl (· ++ ·) #[] := by
  unfold Bytes.joined
  have : ∀ (l : List (Array UInt8)) (n : Nat) (acc : Array UInt8), (l.zipIdx n).foldl (fun out (p : Array UInt8 × Nat) => (if p.2 > 0 then out ++ #[] else out) ++ p.1) acc = l.foldl (· ++ ·) acc := by
    intro l
    induction l with
    | nil => intro n acc; rfl
    | cons x r ih =>
      intro n acc
      rw [List.zipIdx_cons, List.foldl_cons, List.foldl_cons, ih]
      simp
  exact this parts 0 #[]
theorem m1_one {x : Value} {f : Value → Sem PySem.Fin} {g : Array Value → Sem PySem.Fin} : Bytes.joinM.match_1 (fun _ => Sem PySem.Fin) #[x] f g = f x := rfl
theorem m1_other {items : Array Value} {f : Value → Sem PySem.Fin} {g : Array Value → Sem PySem.Fin} (h : items.size ≠ 1) : Bytes.joinM.match_1 (fun _ => Sem PySem.Fin) items f g = g items := by
  unfold Bytes.joinM.match_1
  exact dif_neg h
theorem letgo {M : Model} {A : Around} {E : Value → Shared → Prop} {s : Shared} {Q : Unit → Shared → Prop} : ∀ (taken : List (Value × Option Value)) (keep : List Value), (∀ x ∈ taken, x.2 = none) → Q () s → wpAny M A (Bytes.joinLetGo taken keep) Q E s
  | [], keep, _, h => wpAny_pure h
  | (x, w) :: r, keep, hn, h => by
    have hw : w = none := hn (x, w) (.head _)
    subst hw
    show wpAny M A (do letGo [x] _; Bytes.joinLetGo r keep) Q E s
    exact wpAny_bind (wpAny_letGo (letgo r keep (fun y hy => hn y (.tail _ hy)) h))
theorem meets_join {l : Addr} {items : Array Value} {n : Nat} {t : Tok} {bs : List (Array UInt8 × Tok)} (hi : items = (bs.map fun p => Value.bytes p.1 p.2).toArray) (hz : ((bs.map (·.1)).foldl (· ++ ·) #[]).size ≤ 100000) :
    Meets («bytes.join» ⟨[.bytes #[] t, .ref l], []⟩) (fun _ R s => s.heap.get? l = some { cls := .type "list", dict := none, data := .seq items n, slots := #[] } ∧ ∀ t' k, R (.ok (.ret (.bytes ((bs.map (·.1)).foldl (· ++ ·) #[]) t'))) { s with toks := k }) := by
  refine .of_wp fun prog w A R s h => ?_
  obtain ⟨hp, g, d, tk, os⟩ := s; obtain ⟨hl, h⟩ := h
  dsimp only at hl h
  unfold «bytes.join» Bytes.joinM
  wp_walk using wpAny_loadPart' hl
  by_cases h1 : bs.length = 1
  · obtain ⟨p, rfl⟩ : ∃ p, bs = [p] := by
      match bs, h1 with
      | [p], _ => exact ⟨p, rfl⟩
    obtain ⟨b, u⟩ := p
    have hx : items = #[.bytes b u] := by rw [hi]; rfl
    rw [hx, m1_one]
    have := h u tk
    simp only [List.map_cons, List.map_nil, List.foldl_cons, List.foldl_nil, Array.empty_append] at this
    wp_walk
    exact ⟨_, rfl, this⟩
  · rw [m1_other (by rw [hi]; simpa using h1)]
    refine wpAny_bind ?_
    rw [Std.Legacy.Range.forIn_eq_forIn_range']
    refine wpAny_forIn_list _ (fun l' acc s' => ∃ k, k ≤ bs.length ∧ l' = List.range' k (bs.length - k) 1 ∧ acc.1 = ((bs.take k).map (·.1)).toArray ∧ acc.2 = (bs.take k).map (fun p => (Value.bytes p.1 p.2, none)) ∧ s' = ⟨hp, g, d, tk, os⟩) _ ?_ ?_ _ _ ?_
    · rintro i rest ⟨parts, taken⟩ s' ⟨k, hk, hl', hp', ht', rfl⟩
      dsimp only at hp' ht' ⊢
      have hk2 : k < bs.length := by
        rcases Nat.lt_or_ge k bs.length with h1 | h1
        · exact h1
        · rw [show bs.length - k = 0 from by omega] at hl'; simp at hl'
      obtain ⟨m, hm⟩ : ∃ m, bs.length - k = m + 1 := ⟨bs.length - k - 1, by omega⟩
      rw [hm, List.range'_succ] at hl'
      obtain ⟨rfl, rfl⟩ := List.cons.inj hl'
      obtain ⟨b, u, hbu⟩ : ∃ b u, bs[i]? = some (b, u) := ⟨bs[i].1, bs[i].2, by simp [hk2]⟩
      have hx : items.getD i Value.none = .bytes b u := by
        rw [hi, Array.getD_eq_getD_getElem?, List.getElem?_toArray, List.getElem?_map, hbu]; rfl
      have hq : (taken.any fun x => x.1.onHeap) = false := by
        rw [ht', List.any_eq_false]
        intro x hx
        obtain ⟨p, _, rfl⟩ := List.mem_map.mp hx
        exact Bool.false_ne_true
      have hcond : (Bytes.Kind.bytes == Bytes.Kind.bytearray || taken.any fun x => x.1.onHeap) = false := by rw [hq]; rfl
      refine wpAny_bind (wpAny_seqItems hl rfl ?_)
      dsimp only
      rw [if_neg (by rw [hcond]; decide), hx]
      refine wpAny_bind (wpAny_holding (wpAny_of_eq take_eq ?_))
      dsimp only
      refine wpAny_bind (wpAny_seqItems hl rfl ?_)
      dsimp only
      rw [if_neg (by simp)]
      have e : bs.take (i + 1) = bs.take i ++ [(b, u)] := by rw [List.take_add_one, hbu]; rfl
      refine wpAny_pure ⟨i + 1, by omega, ?_, ?_, ?_, rfl⟩
      · rw [show bs.length - (i + 1) = m from by omega]
      · rw [e, hp']; simp
      · rw [e, ht']; simp
    · rintro ⟨parts, taken⟩ s' ⟨k, hk, hl', hp', ht', rfl⟩
      dsimp only at hp' ht' ⊢
      have e : k = bs.length := by
        rcases Nat.lt_or_ge k bs.length with h1 | h1
        · obtain ⟨m, hm⟩ : ∃ m, bs.length - k = m + 1 := ⟨bs.length - k - 1, by omega⟩
          rw [hm, List.range'_succ] at hl'
          cases hl'
        · omega
      subst e
      rw [List.take_of_length_le (Nat.le_refl _)] at hp' ht'
      have hsep : Bytes.payload (Value.bytes #[] t) = pure #[] := by rfl
      rw [hsep]
      refine wpAny_bind (wpAny_pure ?_)
      have hsum : ∀ (l : List (Array UInt8)) (acc : Array UInt8) (n : Nat), acc.size = n → (l.foldl (· ++ ·) acc).size = l.foldl (fun x1 x2 => x1 + x2.size) n := by
        intro l
        induction l with
        | nil => intro acc n e; exact e
        | cons x r ih =>
          intro acc n e
          rw [List.foldl_cons, List.foldl_cons]
          exact ih _ _ (by rw [Array.size_append, e])
      have htl : Bytes.tooLong (Array.foldl (fun x1 x2 => x1 + x2.size) ((#[] : Array UInt8).size * (parts.size - 1)) parts) = false := by
        rw [hp', List.foldl_toArray, show ((#[] : Array UInt8).size * ((List.map (fun x => x.1) bs).toArray.size - 1)) = 0 from Nat.zero_mul _, ← hsum _ #[] 0 rfl]
        exact KBy.tooLong_not (by omega)
      rw [if_neg (by rw [htl]; decide), joined_nil]
      have ep : parts.toList = bs.map (·.1) := by rw [hp']
      rw [ep]
      show wpAny _ _ (mkBytes _ >>= _) _ _ _
      refine wpAny_bind (wpAny_mkBytes ?_ (by rw [sizeLine_eq]; omega))
      refine wpAny_bind (wpAny_holding (wpAny_point ?_))
      refine wpAny_bind (letgo _ _ ?_ ?_)
      · intro x hx
        rw [ht'] at hx
        obtain ⟨p, _, rfl⟩ := List.mem_map.mp hx
        rfl
      · exact wpAny_pure ⟨_, rfl, h _ _⟩
    · refine ⟨0, Nat.zero_le _, ?_, by simp, by simp, rfl⟩
      rw [hi]
      simp [Std.Legacy.Range.size]
end BJ
section
variable {w : World} {A : Around} {E : Value → Shared → Prop} {z : Shared} {h : Heap} {tk : Nat} {Q : Value → Shared → Prop} {t u : Tok}
theorem z_decode {cs : List Nat} (hb : ∀ c ∈ cs, c < 128) (hz : cs.length ≤ 1000000) (q : ∀ t' k, Q (.str ⟨cs.toArray⟩ t') (Z z h k)) : wpAny (MM w) A (call (.builtin "bytes.decode") [.bytes (byteArr (nI cs)) t, .str (Str.ofString "ascii") u]) Q E (Z z h tk) := by
  have hT := typeIs_bytes (Z z h tk) (byteArr (nI cs)) t
  have e : byteArr (nI cs) = (cs.map fun c => UInt8.ofNat c).toArray := by
    unfold byteArr nI
    simp
  rw [e] at hT ⊢
  cases cs with
  | nil => exact call_meets FB.slot_bytes_decode hT FB.entry_bytes_decode (BJ.args2 _ _) BJ.meets_decode0 fun t' k => q t' k
  | cons c cs =>
    have e2 : ((c :: cs).map fun c => UInt8.ofNat c).map (·.toNat) = c :: cs := by
      rw [List.map_map]
      conv => rhs; rw [← List.map_id (c :: cs)]
      refine List.map_congr_left fun x hx => ?_
      have := hb x hx
      show (UInt8.ofNat x).toNat = x
      simp; omega
    refine call_meets FB.slot_bytes_decode hT FB.entry_bytes_decode (BJ.args2 _ _) (BJ.meets_decode (c := UInt8.ofNat c) (cs := cs.map fun c => UInt8.ofNat c) (fun i hi => ?_) (by simpa using hz)) fun t' k => ?_
    · have hi' : i < (c :: cs).length := by simpa using hi
      have e3 : (UInt8.ofNat c :: cs.map fun c => UInt8.ofNat c).toArray.getD i 0 = UInt8.ofNat (c :: cs)[i] := by
        rw [show (UInt8.ofNat c :: cs.map fun c => UInt8.ofNat c) = (c :: cs).map fun c => UInt8.ofNat c from rfl]
        rw [Array.getD_eq_getD_getElem?]
        rw [List.getElem?_toArray, List.getElem?_map, List.getElem?_eq_getElem hi']
        rfl
      rw [e3]
      have := hb _ (List.getElem_mem hi')
      simp; omega
    · have := q t' k
      rw [show (UInt8.ofNat c :: cs.map fun c => UInt8.ofNat c) = (c :: cs).map fun c => UInt8.ofNat c from rfl, e2]
      exact this
theorem slot_bytes_join : Slot "bytes" "join" "bytes.join" :=
  .of (owner := "bytes") (n := "join") (by rw [typeLookup_type, builtinLookup_eq_fast]; kernel_rfl) (by decide +kernel) (by decide +kernel) (by decide +kernel)
    (by first | exact .inl (by decide +kernel) | exact .inr (by decide +kernel)) (by rw [isSubtype_type]; kernel_rfl)
theorem type_bytes_join : typeOf (.builtin "bytes.join") = pure (.type "method_descriptor") := by show builtinType _ = _; rw [builtinType_eq_fast]; kernel_rfl
theorem entry_bytes_join : entryFor table "bytes.join" = some Builtin.«bytes.join» := entryFor_of_tree (by kernel_rfl)
theorem args_bytes_join (a b : Value) : argsOk "bytes.join" ⟨[a, b], []⟩ := by unfold argsOk; kernel_rfl
theorem z_bjoin {l : Addr} {bs : List (List UInt8 × Tok)} (hl : At h l (.list (bs.map fun p => .bytes p.1.toArray p.2))) (hz : ((bs.map (·.1)).flatten).length ≤ 100000) (q : ∀ t' k, Q (.bytes ((bs.map (·.1)).flatten).toArray t') (Z z h k)) :
    wpAny (MM w) A (call (.builtin "bytes.join") [.bytes ([] : List UInt8).toArray t, .ref l]) Q E (Z z h tk) := by
  obtain ⟨n, ho⟩ := hl.get
  have e : ((bs.map fun p => ((p.1.toArray, p.2) : Array UInt8 × Tok)).map (·.1)).foldl (· ++ ·) #[] = ((bs.map (·.1)).flatten).toArray := by
    have : ∀ (l : List (List UInt8 × Tok)) (acc : List UInt8), ((l.map fun p => ((p.1.toArray, p.2) : Array UInt8 × Tok)).map (·.1)).foldl (· ++ ·) acc.toArray = (acc ++ (l.map (·.1)).flatten).toArray := by
      intro l
      induction l with
      | nil => intro acc; simp
      | cons x r ih =>
        intro acc
        simp only [List.map_cons, List.foldl_cons, List.flatten_cons]
        rw [show acc.toArray ++ x.1.toArray = (acc ++ x.1).toArray from by simp, ih]
        simp
    have := this bs []
    simpa using this
  refine call_meets (s := Z z h tk) slot_bytes_join (typeIs_bytes _ _ _) entry_bytes_join (args_bytes_join _ _) (BJ.meets_join (n := n) (items := (bs.map fun p => Value.bytes p.1.toArray p.2).toArray) (bs := bs.map fun p => (p.1.toArray, p.2)) (by rw [List.map_map]; rfl) (by rw [e]; simpa using hz)) ⟨ho, fun t' k => ?_⟩
  have := q t' k
  rw [← e] at this
  exact this
end
section
variable {w : World} {A : Around} {E : Value → Shared → Prop} {z : Shared} {h : Heap} {tk : Nat} {env : Env} {Q : Value → Shared → Prop} {s : Shared} {t u : Tok}
theorem e_and1 {e : Expr} {pos : Pos} (q : wpAny (MM w) A (eval e env) Q E s) : wpAny (MM w) A (eval (.BoolOp .And [e] pos) env) Q E s := BoolOp_one q
theorem e_and {e₁ e₂ : Expr} {rest : List Expr} {pos : Pos} (q : wpAny (MM w) A (eval e₁ env) (fun v s₁ => wpAny (MM w) A (truthy v) (fun c s₂ => if c = true then wpAny (MM w) A (eval (.BoolOp .And (e₂ :: rest) pos) env) Q E s₂ else Q v s₂) E s₁) E s) :
    wpAny (MM w) A (eval (.BoolOp .And (e₁ :: e₂ :: rest) pos) env) Q E s := BoolOp_and q
theorem e_itemN {value slice : Expr} {a : Addr} {vs : List Value} {k : Int} {v : Value} (x : At s.heap a (.list vs)) (h0 : k < 0) (h1 : -(vs.length : Int) ≤ k) (hf : -1000 ≤ k) (hx : vs[(k + vs.length).toNat]? = some v)
    (hs : subscripted slice false (.ref a) (.int k u) = operate [.ref a, .int k u] (getItem (.ref a) (.int k u))) (q : Q v s) :
    wpAny (MM w) A (subscriptTail value slice (.ref a) (.int k u)) Q E s :=
  tail_any x.isList.typeIs slot_list_getitem.lookup (wpAny_getItem_list_neg x.isList h0 (by simpa using h1) (by omega) (by simpa using hx) q) hs
end
end
section
noncomputable def wordsS (n l : Nat) : Str := if l = 0 then Str.ofString "" else if l < 2 then ru1Msg else msgT n ((l - 2 : Nat) : Int)
set_option maxRecDepth 100000 in
set_option maxHeartbeats 4000000 in
theorem words_c {w : World} {A : Around} {E : Value → Shared → Prop} {z : Shared} {g₀ h : Heap} {tk : Nat} {Q : Value → Shared → Prop} {n l : Nat} {t u : Tok}
    (r : Rm A 2) (G : Gd w g₀) (k₀ : ∀ b o, g₀.get? b = some o → h.get? b = some o) (hn : n ≤ 1000000) (hl : l ≤ 1000000)
    (q : ∀ h' t' tk', Keep [] h h' → Q (.str (wordsS n l) t') (Z z h' tk')) :
    wpAny (MM w) A (call (.ref 138) [.int n t, .int l u]) Q E (Z z h tk) := by
  refine' enter [] [("wanted", .int n t), ("left", .int l u)] r G k₀ ?hM ?nd ?ho ?hcd ?hb ?hr ?hlc ?c1 ?c2 ?c3 ?c4 ?body
  case hM => intro p hp; cases hp
  case nd => simp
  wtm_at "enter"
  case body =>
    intro A' g L h₁ tk₁ r' G' kg gk S
    with_reducible refine xs_if ?_
    with_reducible refine wpAny_isTrue_Compare1 ?_ (by with_unfolding_all rfl)
    with_reducible refine e_local (by assumption) (by with_unfolding_all rfl) (by with_unfolding_all rfl) (by with_unfolding_all rfl) (by with_unfolding_all rfl) (by decide) ?_
    with_reducible refine z_int ?_
    with_reducible refine wpAny_lt_int ?_
    with_reducible refine wpAny_truthy_bool ?_
    refine i_dec (fun h2 => ?_) (fun h2 => ?_)
    · with_reducible refine xs_return ?_
      with_reducible refine wpAny_IfExp ?_
      with_reducible refine wpAny_isTrue_Compare1 ?_ (by with_unfolding_all rfl)
      with_reducible refine e_local (by assumption) (by with_unfolding_all rfl) (by with_unfolding_all rfl) (by with_unfolding_all rfl) (by with_unfolding_all rfl) (by decide) ?_
      with_reducible refine z_int ?_
      with_reducible refine z_eqi ?_
      with_reducible refine wpAny_truthy_bool ?_
      refine i_dec (fun h0 => ?_) (fun h0 => ?_)
      · with_reducible refine z_str ?_
        with_reducible refine after_ret ?_
        rename St _ _ _ _ _ => S
        have e : wordsS n l = Str.ofString "" := by unfold wordsS; rw [if_pos (by omega)]
        rw [e] at q
        exact q _ _ _ fun a o e n => S.keep a o (kg a o e n)
      · with_reducible refine z_str ?_
        with_reducible refine after_ret ?_
        rename St _ _ _ _ _ => S
        have e : wordsS n l = ru1Msg := by unfold wordsS; rw [if_neg (by omega), if_pos (by omega)]
        rw [e] at q
        exact q _ _ _ fun a o e n => S.keep a o (kg a o e n)
    · with_reducible refine xs_nil ?_
      with_reducible refine after_next ?_
      with_reducible refine xs_return ?_
      with_reducible refine wpAny_BinOp ?_
      with_reducible refine z_str ?_
      with_reducible refine e_tuple ?_
      with_reducible refine spliced_more ?_ (by with_unfolding_all rfl)
      with_reducible refine e_local (by assumption) (by with_unfolding_all rfl) (by with_unfolding_all rfl) (by with_unfolding_all rfl) (by with_unfolding_all rfl) (by decide) ?_
      with_reducible refine spliced_more ?_ (by with_unfolding_all rfl)
      with_reducible refine wpAny_BinOp ?_
      with_reducible refine e_local (by assumption) (by with_unfolding_all rfl) (by with_unfolding_all rfl) (by with_unfolding_all rfl) (by with_unfolding_all rfl) (by decide) ?_
      with_reducible refine z_int ?_
      with_reducible refine z_sub ?_
      with_reducible refine spliced_none ?_
      ((rename St _ _ _ _ _ => S0); (with_reducible refine s_newTuple S0 (by wtm_at "small") ?_); (intro _ _ _ _ _; clear S0))
      rename St _ _ _ _ _ => S
      refine z_msg (S.at (.head _)) (by omega) (by omega) (by omega) (by omega) fun t k => ?_
      have e : wordsS n l = msgT n ((l : Int) - 2) := by unfold wordsS; rw [if_neg (by omega), if_neg (by omega), show ((l - 2 : Nat) : Int) = (l : Int) - 2 from by omega]
      rw [e] at q
      exact q _ _ _ fun a o e n => S.keep a o (kg a o e n)
inductive Ins {α : Type} (x : α) : List α → List α → Prop
  | here {zs} : Ins x zs (x :: zs)
  | there {y zs ys} : Ins x zs ys → Ins x (y :: zs) (y :: ys)
theorem Ins.perm {α : Type} {x : α} {zs ys : List α} (h : Ins x zs ys) : (x :: zs).Perm ys := by
  induction h with
  | here => exact List.Perm.refl _
  | there _ ih => exact (List.Perm.swap _ _ _).trans (ih.cons _)
theorem pm_cons {α : Type} {x : α} {xs zs ys : List α} (h : Ins x zs ys) (p : xs.Perm zs) : (x :: xs).Perm ys := (p.cons x).trans h.perm
end
local macro_rules | `(tactic| wtm_at "ins") => `(tactic| first | exact Ins.here | (apply Ins.there; wtm_at "ins"))
local macro_rules | `(tactic| wtm_at "perm") => `(tactic| first | exact List.Perm.refl _ | (refine' pm_cons ?pa ?pb; (case pa => wtm_at "ins"); (case pb => wtm_at "perm")))
section
--pure
/-! letters and rows -/
noncomputable abbrev Letter := Nat × List UInt8
noncomputable def octs (x : Int) : List UInt8 := (List.range (x / 1536 % 6).toNat).map fun j => UInt8.ofNat (x / 9216 / 256 ^ j % 256).toNat
noncomputable def letter (x : Int) : Letter := ((x / 6 % 256).toNat, octs x)
noncomputable def pick (ns : List Int) (is : List Nat) (s : Nat) : List Letter := (is.filter fun i => (ns.getD i 0 % 6).toNat == s).map fun i => letter (ns.getD i 0)
structure RowsOk (rows : List (List Letter)) : Prop where
  six : rows.length = 6
  ne : ∀ row ∈ rows, row ≠ []
  lo : ∀ row ∈ rows, row.Pairwise fun a b => a.1 ≤ b.1
  small : ∀ row ∈ rows, ∀ x ∈ row, x.1 < 256 ∧ x.2.length ≤ 5
  few : (rows.map List.length).sum ≤ 12
theorem octs_len (x : Int) : (octs x).length ≤ 5 := by
  unfold octs
  simp
  omega
theorem pick_snoc (ns : List Int) (is : List Nat) (i s : Nat) : pick ns (is ++ [i]) s = if (ns.getD i 0 % 6).toNat = s then pick ns is s ++ [letter (ns.getD i 0)] else pick ns is s := by
  unfold pick
  rw [List.filter_append]
  by_cases h : (ns.getD i 0 % 6).toNat = s
  · rw [if_pos h, List.filter_cons, if_pos (by simpa using h), List.filter_nil, List.map_append]; rfl
  · rw [if_neg h, List.filter_cons, if_neg (by simpa using h), List.filter_nil, List.append_nil]
noncomputable def rkey (ns : List Int) (i : Nat) : Int := ns.getD i 0 / 6 % 256 * 1000 + i
theorem Asc.pair {key : Nat → Int} {p : Array Nat} {k : Nat} (h : Asc key p k) (hk : k = p.size) : p.toList.Pairwise fun a b => key a < key b := by
  rw [List.pairwise_iff_getElem]
  intro i j hi hj hij
  have := h i j hij (by simpa [hk] using hj)
  unfold kP at this
  have e1 : p.getD i 0 = p.toList[i] := by simp [Array.getD, show i < p.size from by simpa using hi]
  have e2 : p.getD j 0 = p.toList[j] := by simp [Array.getD, show j < p.size from by simpa using hj]
  rwa [e1, e2] at this
theorem one_more {c : Nat → Nat} {q : Nat} : ∀ l : List Nat, l.Nodup → q ∈ l → (l.map fun s => c s + if (q == s) = true then 1 else 0).sum = (l.map c).sum + 1
  | [], _, h => nomatch h
  | s :: r, nd, h => by
    rw [List.nodup_cons] at nd
    rw [List.map_cons, List.map_cons, List.sum_cons, List.sum_cons]
    by_cases e : q = s
    · subst e
      rw [if_pos (beq_self_eq_true q), List.map_congr_left (g := c) (fun t ht => by rw [if_neg (show ¬ (q == t) = true from fun k => nd.1 ((show q = t from beq_iff_eq.mp k) ▸ ht))]; rfl), Nat.add_right_comm]
    · rw [if_neg (show ¬ (q == s) = true from fun k => e (beq_iff_eq.mp k)), one_more r nd.2 ((List.mem_cons.mp h).resolve_left e), Nat.add_zero, Nat.add_assoc]
theorem pick_sum (ns : List Int) : ∀ (is : List Nat), (((List.range 6).map (pick ns is)).map List.length).sum = is.length := by
  intro is
  have key : ∀ s, (pick ns is s).length = is.countP fun i => (ns.getD i 0 % 6).toNat == s := by
    intro s; unfold pick; rw [List.length_map, List.countP_eq_length_filter]
  rw [List.map_map]
  show ((List.range 6).map fun s => (pick ns is s).length).sum = _
  simp only [key]
  clear key
  induction is with
  | nil => rfl
  | cons i r ih =>
    simp only [List.countP_cons]
    have h6 : (ns.getD i 0 % 6).toNat < 6 := by omega
    rw [List.length_cons, ← ih]
    exact one_more _ List.nodup_range (List.mem_range.mpr h6)
theorem rows_ok {ns : List Int} {p : Array Nat} (hn : ns.length ≤ 12) (h6 : ∀ s, s < 6 → ∃ x ∈ ns, (x % 6).toNat = s) (hp : Pm ns.length p) (hs : Asc (rkey ns) p ns.length) : RowsOk ((List.range 6).map (pick ns p.toList)) := by
  have hz := hp.size
  refine ⟨by simp, ?_, ?_, ?_, ?_⟩
  · intro row hrow e
    obtain ⟨s, hs6, rfl⟩ := List.mem_map.mp hrow
    obtain ⟨x, hx, hxs⟩ := h6 s (by simpa using hs6)
    obtain ⟨i, hi, rfl⟩ := List.mem_iff_getElem.mp hx
    have hm : i ∈ p.toList := hp.mem_iff.mpr (by simpa using hi)
    unfold pick at e
    rw [List.map_eq_nil_iff, List.filter_eq_nil_iff] at e
    have := e i hm
    simp [List.getD, hi] at this
    omega
  · intro row hrow
    obtain ⟨s, hs6, rfl⟩ := List.mem_map.mp hrow
    unfold pick
    rw [List.pairwise_map]
    refine List.Pairwise.filter _ ?_
    refine (hs.pair hz.symm).imp_of_mem ?_
    intro a b ha hb hab
    have ha' : a < ns.length := by simpa using hp.mem_iff.mp ha
    have hb' : b < ns.length := by simpa using hp.mem_iff.mp hb
    show (ns.getD a 0 / 6 % 256).toNat ≤ (ns.getD b 0 / 6 % 256).toNat
    unfold rkey at hab
    omega
  · intro row hrow x hx
    obtain ⟨s, hs6, rfl⟩ := List.mem_map.mp hrow
    unfold pick at hx
    obtain ⟨i, _, rfl⟩ := List.mem_map.mp hx
    refine ⟨?_, octs_len _⟩
    show (ns.getD i 0 / 6 % 256).toNat < 256
    omega
  · rw [pick_sum]
    have := hp.length_eq
    simp at this ⊢
    omega
theorem rkey_inj {ns : List Int} (hn : ns.length ≤ 12) : ∀ i j, i < ns.length → j < ns.length → rkey ns i = rkey ns j → i = j := by
  intro i j hi hj h
  unfold rkey at h
  omega
theorem rkey_lex {ns : List Int} (hn : ns.length ≤ 12) {i j : Nat} (hi : i < ns.length) (hj : j < ns.length) (hne : i ≠ j) : lexb [ns.getD i 0 / 6 % 256, (i : Int)] [ns.getD j 0 / 6 % 256, (j : Int)] = decide (rkey ns i < rkey ns j) := by
  unfold rkey
  have e : ((i : Int) = (j : Int)) ↔ i = j := by omega
  unfold lexb lexb
  by_cases h : ns.getD i 0 / 6 % 256 = ns.getD j 0 / 6 % 256
  · rw [if_pos h, if_neg (by omega)]
    congr 1
    apply propext
    omega
  · rw [if_neg h]
    congr 1
    apply propext
    omega
end
section
theorem ints_get {vs : List Value} {ns : List Int} (h : IntsAre vs ns) : ∀ {i : Nat}, i < ns.length → ∃ t, vs[i]? = some (.int (ns.getD i 0) t) := by
  induction h with
  | nil => intro i hi; simp at hi
  | cons k t _ ih =>
    intro i hi
    cases i with
    | zero => exact ⟨t, rfl⟩
    | succ i =>
      obtain ⟨t', e⟩ := ih (i := i) (by simpa using hi)
      exact ⟨t', by simpa using e⟩
noncomputable def LettersAt (P : Addr → Ct → Prop) (ls : List Addr) (row : List Letter) : Prop :=
  ls.length = row.length ∧ ∀ (i : Nat) (x : Letter), row[i]? = some x → ∃ (l : Addr) (t t' : Tok), ls[i]? = some l ∧ P l (.list [.int x.1 t, .bytes x.2.toArray t'])
noncomputable def RowAt (P : Addr → Ct → Prop) (a : Addr) (row : List Letter) : Prop := ∃ ls : List Addr, P a (.list (ls.map .ref)) ∧ LettersAt P ls row
noncomputable def RowsAt (P : Addr → Ct → Prop) (r : Addr) (rows : List (List Letter)) : Prop :=
  ∃ as : List Addr, P r (.list (as.map .ref)) ∧ as.length = rows.length ∧ ∀ (i : Nat) (row : List Letter), rows[i]? = some row → ∃ a : Addr, as[i]? = some a ∧ RowAt P a row
section
variable {P P' : Addr → Ct → Prop}
theorem LettersAt.mono {ls : List Addr} {row : List Letter} (h : LettersAt P ls row) (k : ∀ a c, P a c → P' a c) : LettersAt P' ls row :=
  ⟨h.1, fun i x e => let ⟨l, t, t', h1, h2⟩ := h.2 i x e; ⟨l, t, t', h1, k _ _ h2⟩⟩
theorem RowAt.mono {a : Addr} {row : List Letter} (h : RowAt P a row) (k : ∀ a c, P a c → P' a c) : RowAt P' a row := let ⟨ls, h1, h2⟩ := h; ⟨ls, k _ _ h1, h2.mono k⟩
theorem RowsAt.mono {r : Addr} {rows : List (List Letter)} (h : RowsAt P r rows) (k : ∀ a c, P a c → P' a c) : RowsAt P' r rows :=
  let ⟨as, h1, h2, h3⟩ := h; ⟨as, k _ _ h1, h2, fun i row e => let ⟨a, e1, e2⟩ := h3 i row e; ⟨a, e1, e2.mono k⟩⟩
theorem LettersAt.snoc {ls : List Addr} {row : List Letter} {l : Addr} {x : Letter} {t t' : Tok} (h : LettersAt P ls row) (hl : P l (.list [.int x.1 t, .bytes x.2.toArray t'])) : LettersAt P (ls ++ [l]) (row ++ [x]) := by
  refine ⟨by simp [h.1], fun i y e => ?_⟩
  by_cases c : i < row.length
  · rw [List.getElem?_append_left c] at e
    obtain ⟨l', u, u', e1, e2⟩ := h.2 i y e
    refine ⟨l', u, u', ?_, e2⟩
    rw [List.getElem?_append_left (by rw [h.1]; exact c)]; exact e1
  · rw [List.getElem?_append_right (by omega)] at e
    have hi : i - row.length = 0 := by
      have := (List.getElem?_eq_some_iff.mp e).1
      simp at this
      omega
    rw [hi] at e
    cases e
    refine ⟨l, t, t', ?_, hl⟩
    rw [List.getElem?_append_right (by rw [h.1]; omega), h.1, hi]; rfl
end
/-- six lists that grow -/
noncomputable def rE (ls : List Addr) (vss : List (List Addr)) : List (Addr × Ct) := List.zipWith (fun l v => (l, .list (v.map Value.ref))) ls vss
theorem rE_get {ls : List Addr} {vss : List (List Addr)} {i : Nat} {l : Addr} {v : List Addr} (h1 : ls[i]? = some l) (h2 : vss[i]? = some v) : (rE ls vss)[i]? = some (l, .list (v.map .ref)) := by
  unfold rE
  rw [List.getElem?_zipWith, h1, h2]
theorem rE_set {ls : List Addr} {vss : List (List Addr)} {i : Nat} {l : Addr} {v : List Addr} (h1 : ls[i]? = some l) (hi : i < vss.length) : (rE ls vss).set i (l, .list (v.map .ref)) = rE ls (vss.set i v) := by
  unfold rE
  refine List.ext_getElem? fun j => ?_
  have hl := (List.getElem?_eq_some_iff.mp h1).1
  by_cases c : j = i
  · subst c
    rw [List.getElem?_set_self (by simp; omega), List.getElem?_zipWith, h1, List.getElem?_set_self hi]
  · rw [List.getElem?_set_ne (Ne.symm c), List.getElem?_zipWith, List.getElem?_zipWith, List.getElem?_set_ne (Ne.symm c)]
theorem byteArr_nI (cs : List Nat) : byteArr (nI cs) = (cs.map UInt8.ofNat).toArray := by
  unfold byteArr nI
  simp
theorem letter_eq {X : Int} {m : Nat} (hm : X / 1536 % 6 = m) (t t2 : Tok) : [Value.int (X / 6 % 256) t, Value.bytes (byteArr (nI ((List.range m).map fun j => (X / 9216 / 256 ^ j % 256).toNat))) t2] = [.int (letter X).1 t, .bytes (letter X).2.toArray t2] := by
  have e1 : (((letter X).1 : Nat) : Int) = X / 6 % 256 := by show (((X / 6 % 256).toNat : Nat) : Int) = _; omega
  have e2 : (letter X).2 = (List.range m).map fun j => UInt8.ofNat (X / 9216 / 256 ^ j % 256).toNat := by
    show octs X = _
    unfold octs
    rw [hm, Int.toNat_natCast]
  rw [e1, e2, byteArr_nI, List.map_map]
  rfl
inductive RwA (gi : Heap) (C it acc : Addr) (ns : List Int) (i : Nat) (h : Heap) : Prop
  | mk (g2 : Heap) (ρ' : List (Str × Value)) (ps : List Addr) (kk : Sub gi g2) (hps : ps.length = i) (hpk : ∀ k, k < i → ∃ (a : Addr) (t t' : Tok), ps[k]? = some a ∧ Nw gi g2 a (.list [.int (ns.getD k 0 / 6 % 256) t, .int k t']))
    (Si : St g2 C ρ' [(it, .pr (riP 0 ns.length i)), (acc, .list (ps.map .ref))] h) : RwA gi C it acc ns i h
inductive RwB (g g₃ : Heap) (L it2 D nl ra a0 a1 a2 a3 a4 a5 : Addr) (ns : List Int) (p : Array Nat) (ps : List Addr) (j : Nat) (h : Heap) : Prop
  | mk (g4 : Heap) (vss : List (List Addr)) (cx : Option Value) (kk4 : Sub g₃ g4) (hv6 : vss.length = 6) (hLs : ∀ s, s < 6 → LettersAt (Nw g g4) (vss.getD s []) (pick ns (p.toList.take j) s))
    (S : St g4 L [("rows", .ref ra)] ((it2, .pr (liP D j)) :: (D, .list (p.toList.map fun i => (ps.map Value.ref).getD i .none)) :: (L + 1 + 1, .cell cx) :: (L + 1, .cell (some (.ref nl))) :: (ra, .list ([a0, a1, a2, a3, a4, a5].map Value.ref)) :: rE [a0, a1, a2, a3, a4, a5] vss) h) :
    RwB g g₃ L it2 D nl ra a0 a1 a2 a3 a4 a5 ns p ps j h
inductive RwC (gi : Heap) (C it3 acc : Addr) (X : Int) (m q : Nat) (h : Heap) : Prop
  | mk (ρ' : List (Str × Value)) (cs : List Value) (hcs : IntsAre cs (nI ((List.range q).map fun j => (X / 9216 / 256 ^ j % 256).toNat))) (Si : St gi C ρ' [(it3, .pr (riP 0 m q)), (acc, .list cs)] h) : RwC gi C it3 acc X m q h
set_option maxRecDepth 100000 in
set_option maxHeartbeats 4000000 in
theorem rows_c {w : World} {A : Around} {E : Value → Shared → Prop} {z : Shared} {g₀ h : Heap} {tk : Nat} {Q : Value → Shared → Prop} {nl : Addr} {vs : List Value} {ns : List Int}
    (r : Rm A 4) (G : Gd w g₀) (k₀ : Sub g₀ h) (hl : At h nl (.list vs)) (hi : IntsAre vs ns) (hn : ns.length ≤ 12) (hn2 : 2 ≤ ns.length) (h6 : ∀ s, s < 6 → ∃ x ∈ ns, (x % 6).toNat = s)
    (q : ∀ h' tk' gf rows r, Keep [] h h' → gf.StaysIn h' → RowsOk rows → RowsAt (Nw h gf) r rows → Q (.ref r) (Z z h' tk')) :
    wpAny (MM w) A (call (.ref 148) [.ref nl]) Q E (Z z h tk) := by
  refine' enterC [] [] (fun L => [(L + 1 + 1, .cell none), (L + 1, .cell (some (.ref nl)))]) r G k₀ ?hM ?nd ?ho ?hcd ?hb ?hr ?hC ?hlc ?c1 ?c2 ?c3 ?c4 ?body
  case hM => intro p hp; cases hp
  case nd => simp
  wtm_at "enterC"
  case body =>
    intro A' g L h₁ tk₁ r' G' kg gk S
    simp only [List.append_nil] at S
    have hlg : At g nl (.list vs) := hl.keeps fun o e => kg _ _ e (by simp)
    with_reducible refine xs_assign (by with_unfolding_all rfl) ?_
    with_reducible refine e_list ?_
    with_reducible refine spliced_more ?_ (by with_unfolding_all rfl)
    with_reducible refine e_list ?_
    with_reducible refine spliced_none ?_
    ((rename St _ _ _ _ _ => S0); (with_reducible refine s_newList S0 (by wtm_at "small") ?_); (intro _ _ _ _ _; clear S0))
    with_reducible refine spliced_more ?_ (by with_unfolding_all rfl)
    with_reducible refine e_list ?_
    with_reducible refine spliced_none ?_
    ((rename St _ _ _ _ _ => S0); (with_reducible refine s_newList S0 (by wtm_at "small") ?_); (intro _ _ _ _ _; clear S0))
    with_reducible refine spliced_more ?_ (by with_unfolding_all rfl)
    with_reducible refine e_list ?_
    with_reducible refine spliced_none ?_
    ((rename St _ _ _ _ _ => S0); (with_reducible refine s_newList S0 (by wtm_at "small") ?_); (intro _ _ _ _ _; clear S0))
    with_reducible refine spliced_more ?_ (by with_unfolding_all rfl)
    with_reducible refine e_list ?_
    with_reducible refine spliced_none ?_
    ((rename St _ _ _ _ _ => S0); (with_reducible refine s_newList S0 (by wtm_at "small") ?_); (intro _ _ _ _ _; clear S0))
    with_reducible refine spliced_more ?_ (by with_unfolding_all rfl)
    with_reducible refine e_list ?_
    with_reducible refine spliced_none ?_
    ((rename St _ _ _ _ _ => S0); (with_reducible refine s_newList S0 (by wtm_at "small") ?_); (intro _ _ _ _ _; clear S0))
    with_reducible refine spliced_more ?_ (by with_unfolding_all rfl)
    with_reducible refine e_list ?_
    with_reducible refine spliced_none ?_
    ((rename St _ _ _ _ _ => S0); (with_reducible refine s_newList S0 (by wtm_at "small") ?_); (intro _ _ _ _ _; clear S0))
    with_reducible refine spliced_none ?_
    ((rename St _ _ _ _ _ => S0); (with_reducible refine s_newList S0 (by wtm_at "small") ?_); (intro _ _ _ _ _; clear S0))
    ((rename St _ _ _ _ _ => S0); (with_reducible refine s_store S0 (by with_unfolding_all rfl) (by with_unfolding_all rfl) (by with_unfolding_all rfl) ?_); (intro _ _; clear S0))
    rename_i a0 e0 n0 k0 a1 e1 n1 k1 a2 e2 n2 k2 a3 e3 n3 k3 a4 e4 n4 k4 a5 e5 n5 k5 ra e6 n6 k6 e7 S
    clear n0 k0 n1 k1 n2 k2 n3 k3 n4 k4 n5 k5 n6 k6
    have hvl : vs.length = ns.length := hi.length
    refine xs_for (by intro x; rfl) ?_
    with_reducible refine wpAny_Call_NameR ?_
    with_reducible refine e_built (by assumption) (by assumption) (by k_is) (by wtm_at "boot") (by decide) (by with_unfolding_all rfl) (by with_unfolding_all rfl) (by with_unfolding_all rfl) (by with_unfolding_all rfl) (by decide) ?_
    with_reducible refine callWith_builtin1 ?_ (by with_unfolding_all rfl) (by with_unfolding_all rfl)
    with_reducible refine spliced_more ?_ (by with_unfolding_all rfl)
    refine e_comp (by intro x; rfl) (by wtm_at "rf") (by wtm_at "rf") (by decide) ?_
    with_reducible refine wpAny_Call_NameR ?_
    with_reducible refine e_built (by assumption) (by assumption) (by k_is) (by wtm_at "boot") (by decide) (by with_unfolding_all rfl) (by with_unfolding_all rfl) (by with_unfolding_all rfl) (by with_unfolding_all rfl) (by decide) ?_
    with_reducible refine callWith_type1 ?_ (by with_unfolding_all rfl) (by with_unfolding_all rfl)
    with_reducible refine spliced_more ?_ (by with_unfolding_all rfl)
    with_reducible refine wpAny_Call_NameR ?_
    with_reducible refine e_built (by assumption) (by assumption) (by k_is) (by wtm_at "boot") (by decide) (by with_unfolding_all rfl) (by with_unfolding_all rfl) (by with_unfolding_all rfl) (by with_unfolding_all rfl) (by decide) ?_
    with_reducible refine callWith_builtin1 ?_ (by with_unfolding_all rfl) (by with_unfolding_all rfl)
    with_reducible refine spliced_more ?_ (by with_unfolding_all rfl)
    with_reducible refine e_cell (by with_unfolding_all rfl) (by wtm_at "at") (by with_unfolding_all rfl) (by with_unfolding_all rfl) (by decide) ?_
    with_reducible refine spliced_none ?_
    with_reducible refine l_len (by wtm_at "at") (by first | omega | (simp; done) | (simp; omega)) ?_
    with_reducible refine spliced_none ?_
    rename St _ _ _ _ _ => S
    rw [hvl]
    refine s_range S fun rg h₆ S => ?_
    refine it_range S (by wtm_at "at") (by omega) fun it h₇ _ _ S => ?_
    refine comp_atG (M := [(it, .pr (riP 0 ns.length 0))]) S G' (by decide) rfl fun gi C acc h₈ tk₈ Gi hs hsi hacc Si => ?_
    have c1 : At gi (L + 1) (.cell (some (.ref nl))) := S.inn hs (by wtm_at "mem")
    have hlgi : At gi nl (.list vs) := S.ing hs hlg
    refine comp_loop (by intro v; rfl) (fun Q' E' q => sf_range Si (by wtm_at "mem") q) ns.length
      (I := RwA gi C it acc ns) ⟨gi, [], [], Sub.refl _, rfl, fun k hk => absurd hk (by omega), Si⟩ ?_ ?_
    · rintro i h₉ tk₉ hii ⟨g2, ρ', ps, kk, hps, hpk, Si⟩
      have c1 := c1.keeps fun o e => kk _ o e
      have hlgi := hlgi.keeps fun o e => kk _ o e
      have Gi := Gi.keeps kk
      obtain ⟨t0, ht0⟩ := ints_get hi hii
      refine nx_range Si hii fun h₉ Si => ⟨_, rfl, as_name ?_⟩
      rw [Int.zero_add]
      ((rename St _ _ _ _ _ => S0); (with_reducible refine s_store S0 (by with_unfolding_all rfl) (by with_unfolding_all rfl) (by with_unfolding_all rfl) ?_); (intro _ _; clear S0))
      with_reducible refine e_list ?_
      with_reducible refine spliced_more ?_ (by with_unfolding_all rfl)
      with_reducible refine wpAny_BinOp ?_
      with_reducible refine wpAny_BinOp ?_
      with_reducible refine Subscript_ ?_
      with_reducible refine e_cell (by with_unfolding_all rfl) (by wtm_at "at") (by with_unfolding_all rfl) (by with_unfolding_all rfl) (by decide) ?_
      with_reducible refine e_local (by assumption) (by with_unfolding_all rfl) (by with_unfolding_all rfl) (by with_unfolding_all rfl) (by with_unfolding_all rfl) (by decide) ?_
      refine e_item (by wtm_at "at") (by omega) (by omega) (v := .int (ns.getD i 0) t0) (by rw [Int.toNat_natCast]; exact ht0) (by wtm_at "rf") ?_
      with_reducible refine z_int ?_
      with_reducible refine z_fdiv (by omega) (by omega) ?_
      with_reducible refine z_int ?_
      with_reducible refine z_fmod (by omega) ?_
      with_reducible refine spliced_more ?_ (by with_unfolding_all rfl)
      with_reducible refine e_local (by assumption) (by with_unfolding_all rfl) (by with_unfolding_all rfl) (by with_unfolding_all rfl) (by with_unfolding_all rfl) (by decide) ?_
      with_reducible refine spliced_none ?_
      ((rename St _ _ _ _ _ => S0); (with_reducible refine s_newList S0 (by wtm_at "small") ?_); (intro _ _ _ _ _; clear S0))
      ((rename St _ _ _ _ _ => S0); (with_reducible refine s_append S0 (by wtm_at "mem") (by wtm_at "up") (by wtm_at "small") ?_); (intro _ _; clear S0))
      rename Addr => pa
      rename St _ _ _ _ _ => Si
      obtain ⟨g3, Si, k3, nw⟩ := Si.put
      rw [show ps.map Value.ref ++ [Value.ref pa] = (ps ++ [pa]).map Value.ref from by simp] at Si
      refine ⟨_, _, rfl, g3, _, ps ++ [pa], kk.trans k3, by simp [hps], fun k hk => ?_, Si⟩
      by_cases c : k < i
      · obtain ⟨a, t, t', e1, e2⟩ := hpk k c
        exact ⟨a, t, t', by rw [List.getElem?_append_left (by omega)]; exact e1, e2.more k3⟩
      · have hk' : k = i := by omega
        subst hk'
        exact ⟨_, _, _, by rw [List.getElem?_append_right (by omega), hps, Nat.sub_self]; rfl, nw.less kk⟩
    · rintro h₉ tk₉ ⟨g2, ρ', ps, kk, hps, hpk, Si⟩
      refine nx_range_end r'.hh Si (Nat.le_refl _) fun h₁₀ Si => ⟨rfl, rfl, g2, h₁₀, _, _, _, rfl, kk, Si, fun g₃ h₁₁ kg3 nw S => ?_⟩
      have hps' : ∀ k, k < ns.length → ∃ (a : Addr) (t t' : Tok), ps[k]? = some a ∧ Nw g g₃ a (.list [.int (ns.getD k 0 / 6 % 256) t, .int k t']) := fun k hk => let ⟨a, t, t', e1, e2⟩ := hpk k hk; ⟨a, t, t', e1, nw _ _ e2⟩
      have G3 := G'.keeps kg3
      have hlg3 : At g₃ nl (.list vs) := hlg.keeps fun o e => kg3 _ o e
      have S := S.sub (Δ' := [(acc, .list (ps.map .ref)), (ra, .list [.ref a0, .ref a1, .ref a2, .ref a3, .ref a4, .ref a5]), (a5, .list []), (a4, .list []), (a3, .list []), (a2, .list []), (a1, .list []), (a0, .list []), (L + 1 + 1, .cell none), (L + 1, .cell (some (.ref nl)))]) (by wtm_at "sub")
      with_reducible refine spliced_none ?_
      have hgd : ∀ k, k < ns.length → (ps.map Value.ref).getD k .none = .ref (ps.getD k 0) := fun k hk => by simp [List.getD, hps, hk]
      refine s_sorted (vs := ps.map .ref) (ks := fun i => [ns.getD i 0 / 6 % 256, (i : Int)]) (key := rkey ns) (m := 2) S (by have := r'.hu; omega) (by wtm_at "at") (by simp [hps]; omega) (by simp [hps]; omega) (fun k hk => ?_) ?_ ?_ fun p D h₁₂ hp hpa _ _ S => ?_
      · have hk' : k < ns.length := by simpa [hps] using hk
        obtain ⟨a, t, t', e1, e2⟩ := hps' k hk'
        refine ⟨a, _, ?_, S.old e2.1, .cons _ _ (.cons _ _ .nil), rfl⟩
        simp [List.getD, e1]
      · intro i j hi' hj' hne
        exact rkey_lex hn (by simpa [hps] using hi') (by simpa [hps] using hj') hne
      · intro i j hi' hj'
        exact rkey_inj hn i j (by simpa [hps] using hi') (by simpa [hps] using hj')
      rw [List.length_map, hps] at hp hpa
      refine it_list S (by wtm_at "at") fun it2 h₁₃ _ _ S => ?_
      have hpl : p.toList.length = ns.length := by simpa using hp.size
      have S := S.sub (Δ' := [(it2, .pr (liP D 0)), (D, .list (p.toList.map fun i => (ps.map Value.ref).getD i .none)), (ra, .list [.ref a0, .ref a1, .ref a2, .ref a3, .ref a4, .ref a5]), (a5, .list []), (a4, .list []), (a3, .list []), (a2, .list []), (a1, .list []), (a0, .list []), (L + 1 + 1, .cell none), (L + 1, .cell (some (.ref nl)))]) (by wtm_at "sub")
      have S := S.perm (Δ' := (it2, .pr (liP D 0)) :: (D, .list (p.toList.map fun i => (ps.map Value.ref).getD i .none)) :: (L + 1 + 1, .cell none) :: (L + 1, .cell (some (.ref nl))) :: (ra, .list [.ref a0, .ref a1, .ref a2, .ref a3, .ref a4, .ref a5]) :: [(a0, .list []), (a1, .list []), (a2, .list []), (a3, .list []), (a4, .list []), (a5, .list [])]) (by wtm_at "perm")
      refine for_at ns.length (RwB g g₃ L it2 D nl ra a0 a1 a2 a3 a4 a5 ns p ps)
        ⟨g₃, [[], [], [], [], [], []], none, Sub.refl _, rfl, fun s hs6 => ?_, S⟩ ?_ ?_
      · have : s = 0 ∨ s = 1 ∨ s = 2 ∨ s = 3 ∨ s = 4 ∨ s = 5 := by omega
        rcases this with rfl | rfl | rfl | rfl | rfl | rfl <;> exact ⟨rfl, fun i x e => nomatch e⟩
      · rintro j h₁₄ tk₁₄ hj ⟨g4, vss, cx, kk4, hv6, hLs, S⟩
        have hpj : p.toList[j]? = some (p.getD j 0) := by
          rw [List.getElem?_eq_getElem (by omega)]
          simp [Array.getD, show j < p.size from by simpa using (hp.size ▸ hj)]
        have hi' : p.getD j 0 < ns.length := hp.lt hj
        have htk : p.toList.take (j + 1) = p.toList.take j ++ [p.getD j 0] := by rw [List.take_add_one, hpj]; rfl
        generalize p.getD j 0 = i at *
        obtain ⟨a, t, t', e1, e2⟩ := hps' i hi'
        have hx : (p.toList.map fun i => (ps.map Value.ref).getD i .none)[j]? = some (.ref a) := by
          rw [List.getElem?_map, hpj]
          simp [List.getD, e1]
        have G4 := G3.keeps kk4
        have hlg4 : At g4 nl (.list vs) := hlg3.keeps fun o e => kk4 _ o e
        have hpa4 : At g4 a (.list [.int (ns.getD i 0 / 6 % 256) t, .int i t']) := e2.1.keeps fun o e => kk4 _ o e
        refine nx_list S (by wtm_at "at") hx fun h₁₅ S => ⟨_, rfl, lo_tup S ?_⟩
        ((rename St _ _ _ _ _ => S0); (first | with_reducible refine as_tup (Rm.hh (by assumption)) S0 (by wtm_at "at") (by with_unfolding_all rfl) (by with_unfolding_all rfl) ?_ | with_reducible refine as_list (Rm.hh (by assumption)) S0 (by wtm_at "at") (by with_unfolding_all rfl) (by with_unfolding_all rfl) ?_); (intro _ _; clear S0))
        with_reducible refine ao_cons (by with_unfolding_all rfl) ?_
        with_reducible refine as_name ?_
        ((rename St _ _ _ _ _ => S0); (with_reducible refine s_store S0 (by with_unfolding_all rfl) (by with_unfolding_all rfl) (by with_unfolding_all rfl) ?_); (intro _ _; clear S0))
        with_reducible refine ao_cons (by with_unfolding_all rfl) ?_
        with_reducible refine as_name ?_
        ((rename St _ _ _ _ _ => S0); (with_reducible refine s_store S0 (by with_unfolding_all rfl) (by with_unfolding_all rfl) (by with_unfolding_all rfl) ?_); (intro _ _; clear S0))
        with_reducible refine ao_nil ?_
        with_reducible refine xs_assign (by with_unfolding_all rfl) ?_
        with_reducible refine Subscript_ ?_
        with_reducible refine e_cell (by with_unfolding_all rfl) (by wtm_at "at") (by with_unfolding_all rfl) (by with_unfolding_all rfl) (by decide) ?_
        with_reducible refine e_local (by assumption) (by with_unfolding_all rfl) (by with_unfolding_all rfl) (by with_unfolding_all rfl) (by with_unfolding_all rfl) (by decide) ?_
        obtain ⟨t1, ht1⟩ := ints_get hi hi'
        refine e_item (by wtm_at "at") (by omega) (by omega) (v := .int (ns.getD i 0) t1) (by rw [Int.toNat_natCast]; exact ht1) (by wtm_at "rf") ?_
        generalize hX : ns.getD i 0 = X at *
        ((rename St _ _ _ _ _ => S0); (with_reducible refine s_storeC S0 (by with_unfolding_all rfl) (by wtm_at "mem") (by wtm_at "up") (by with_unfolding_all rfl) (by with_unfolding_all rfl) ?_); (intro _ _; clear S0))
        with_reducible refine xs_expr (by with_unfolding_all rfl) (by with_unfolding_all rfl) ?_
        (with_reducible refine wpAny_Call_append (by with_unfolding_all rfl) (by with_unfolding_all rfl) (by with_unfolding_all rfl) (by with_unfolding_all rfl) ?_)
        with_reducible refine Subscript_ ?_
        with_reducible refine e_local (by assumption) (by with_unfolding_all rfl) (by with_unfolding_all rfl) (by with_unfolding_all rfl) (by with_unfolding_all rfl) (by decide) ?_
        with_reducible refine wpAny_BinOp ?_
        with_reducible refine e_cell (by with_unfolding_all rfl) (by wtm_at "at") (by with_unfolding_all rfl) (by with_unfolding_all rfl) (by decide) ?_
        with_reducible refine z_int ?_
        with_reducible refine z_fmod (by omega) ?_
        rename St _ _ _ _ _ => S
        have hs6 : (X % 6).toNat < 6 := by omega
        obtain ⟨ls, hls⟩ : ∃ ls, [a0, a1, a2, a3, a4, a5][(X % 6).toNat]? = some ls := ⟨_, List.getElem?_eq_getElem (by simpa using hs6)⟩
        have hvs : vss[(X % 6).toNat]? = some (vss.getD (X % 6).toNat []) := by
          rw [List.getElem?_eq_getElem (by omega)]; simp [List.getD, hv6, hs6]
        have hrg := rE_get hls hvs
        refine e_item (vs := [a0, a1, a2, a3, a4, a5].map Value.ref) (by wtm_at "at") (by omega) (by omega) (v := .ref ls) (by rw [List.getElem?_map, hls]; rfl) (by wtm_at "rf") ?_
        have hmem : ∀ (Y : List (Addr × Ct)), (ls, Ct.list ((vss.getD (X % 6).toNat []).map Value.ref)) ∈ Y ++ rE [a0, a1, a2, a3, a4, a5] vss := fun Y => List.mem_append_right _ (List.mem_of_getElem? hrg)
        refine ex_append (S.at (hmem [_, _, _, _, _])) ?_
        with_reducible refine e_list ?_
        with_reducible refine spliced_more ?_ (by with_unfolding_all rfl)
        with_reducible refine e_local (by assumption) (by with_unfolding_all rfl) (by with_unfolding_all rfl) (by with_unfolding_all rfl) (by with_unfolding_all rfl) (by decide) ?_
        with_reducible refine spliced_more ?_ (by with_unfolding_all rfl)
        with_reducible refine wpAny_Call_NameR ?_
        with_reducible refine e_built (by assumption) (by assumption) (by k_is) (by wtm_at "boot") (by decide) (by with_unfolding_all rfl) (by with_unfolding_all rfl) (by with_unfolding_all rfl) (by with_unfolding_all rfl) (by decide) ?_
        with_reducible refine callWith_type1 ?_ (by with_unfolding_all rfl) (by with_unfolding_all rfl)
        with_reducible refine spliced_more ?_ (by with_unfolding_all rfl)
        refine e_comp (by intro x; rfl) (by wtm_at "rf") (by wtm_at "rf") (by decide) ?_
        with_reducible refine wpAny_Call_NameR ?_
        with_reducible refine e_built (by assumption) (by assumption) (by k_is) (by wtm_at "boot") (by decide) (by with_unfolding_all rfl) (by with_unfolding_all rfl) (by with_unfolding_all rfl) (by with_unfolding_all rfl) (by decide) ?_
        with_reducible refine callWith_type1 ?_ (by with_unfolding_all rfl) (by with_unfolding_all rfl)
        with_reducible refine spliced_more ?_ (by with_unfolding_all rfl)
        with_reducible refine wpAny_BinOp ?_
        with_reducible refine wpAny_BinOp ?_
        with_reducible refine e_cell (by with_unfolding_all rfl) (by wtm_at "at") (by with_unfolding_all rfl) (by with_unfolding_all rfl) (by decide) ?_
        with_reducible refine z_int ?_
        with_reducible refine z_fdiv (by omega) (by omega) ?_
        with_reducible refine z_int ?_
        with_reducible refine z_fmod (by omega) ?_
        with_reducible refine spliced_none ?_
        obtain ⟨m, hm⟩ : ∃ m : Nat, X / 1536 % 6 = m := ⟨(X / 1536 % 6).toNat, by omega⟩
        have hm5 : m < 6 := by omega
        rw [hm]
        rename St _ _ _ _ _ => S
        refine s_range S fun rg2 h₁₆ S => ?_
        refine it_range S (by wtm_at "at") (by omega) fun it3 h₁₇ _ _ S => ?_
        refine comp_at (M := [(it3, .pr (riP 0 m 0))]) S G4 (by decide) rfl fun gi C acc h₁₈ tk₁₈ Gi hs hsi hacc Si => ?_
        have c1 : At gi (L + 1 + 1) (.cell (some (.int X t1))) := S.inn hs (by wtm_at "mem")
        refine comp_loop (by intro v; rfl) (fun Q' E' q => sf_range Si (by wtm_at "mem") q) m
          (I := RwC gi C it3 acc X m) ⟨[], [], .nil, Si⟩ ?_ ?_
        · rintro q h₁₉ tk₁₉ hq ⟨ρ', cs, hcs, Si⟩
          have hlen : cs.length = q := by rw [hcs.length]; simp [nI]
          refine nx_range Si hq fun h₂₀ Si => ⟨_, rfl, as_name ?_⟩
          rw [Int.zero_add]
          ((rename St _ _ _ _ _ => S0); (with_reducible refine s_store S0 (by with_unfolding_all rfl) (by with_unfolding_all rfl) (by with_unfolding_all rfl) ?_); (intro _ _; clear S0))
          with_reducible refine wpAny_BinOp ?_
          with_reducible refine wpAny_BinOp ?_
          with_reducible refine wpAny_BinOp ?_
          with_reducible refine e_cell (by with_unfolding_all rfl) (by wtm_at "at") (by with_unfolding_all rfl) (by with_unfolding_all rfl) (by decide) ?_
          with_reducible refine z_int ?_
          with_reducible refine z_fdiv (by omega) (by omega) ?_
          with_reducible refine wpAny_BinOp ?_
          with_reducible refine z_int ?_
          with_reducible refine e_local (by assumption) (by with_unfolding_all rfl) (by with_unfolding_all rfl) (by with_unfolding_all rfl) (by with_unfolding_all rfl) (by decide) ?_
          with_reducible refine z_pow (by omega) (by omega) (by omega) (by omega) ?_
          rw [Int.toNat_natCast]
          have hp1 : (256 : Int) ^ q = ((256 ^ q : Nat) : Int) := by push_cast; rfl
          have hp2 : 256 ^ q ≤ 256 ^ 5 := Nat.pow_le_pow_right (by decide) (by omega)
          have hp3 : 0 < 256 ^ q := Nat.pow_pos (by decide)
          refine z_fdivL (by rw [hp1]; omega) (by rw [hp1]; omega) ?_
          with_reducible refine z_int ?_
          with_reducible refine z_fmod (by omega) ?_
          ((rename St _ _ _ _ _ => S0); (with_reducible refine s_append S0 (by wtm_at "mem") (by wtm_at "up") (by wtm_at "small") ?_); (intro _ _; clear S0))
          rename St _ _ _ _ _ => S9
          refine ⟨_, _, rfl, _, _, ?_, S9⟩
          rw [List.range_succ, List.map_append, List.map_cons, List.map_nil, nI_snoc]
          have e0 : 0 ≤ X / 9216 / 256 ^ q % 256 := Int.emod_nonneg _ (by decide)
          rw [Int.toNat_of_nonneg e0]
          exact ints_snoc hcs
        · rintro h₁₉ tk₁₉ ⟨ρ', cs, hcs, Si⟩
          refine nx_range_end r'.hh Si (Nat.le_refl _) fun h₂₀ Si => ⟨rfl, rfl, h₂₀, _, _, _, rfl, Si, fun h₂₁ S => ?_⟩
          have hlen : cs.length = m := by rw [hcs.length]; simp [nI]
          have S := S.sub (Δ' := (acc, .list cs) :: (it2, .pr (liP D (j + 1))) :: (D, .list (p.toList.map fun i => (ps.map Value.ref).getD i .none)) :: (L + 1 + 1, .cell (some (.int X t1))) :: (L + 1, .cell (some (.ref nl))) :: (ra, .list ([a0, a1, a2, a3, a4, a5].map Value.ref)) :: rE [a0, a1, a2, a3, a4, a5] vss) (by wtm_at "sub")
          with_reducible refine spliced_none ?_
          refine s_bytes (ns := nI ((List.range m).map fun j => (X / 9216 / 256 ^ j % 256).toNat)) r'.hh S (by wtm_at "at") hcs ?_ (by simp [sizeLine]; omega) fun h₂₂ t2 tk₂₂ S => ?_
          · intro n hn
            obtain ⟨v, hv, rfl⟩ := List.mem_map.mp hn
            obtain ⟨j, _, rfl⟩ := List.mem_map.mp hv
            omega
          with_reducible refine spliced_none ?_
          ((rename St _ _ _ _ _ => S0); (with_reducible refine s_newList S0 (by wtm_at "small") ?_); (intro _ _ _ _ _; clear S0))
          rename Addr => la
          rename St _ _ _ _ _ => S
          rw [letter_eq hm] at S
          obtain ⟨g5, S, kk5, nw5⟩ := S.put
          have S := S.sub (Δ' := [(it2, .pr (liP D (j + 1))), (D, .list (p.toList.map fun i => (ps.map Value.ref).getD i .none)), (L + 1 + 1, .cell (some (.int X t1))), (L + 1, .cell (some (.ref nl))), (ra, .list ([a0, a1, a2, a3, a4, a5].map Value.ref))] ++ rE [a0, a1, a2, a3, a4, a5] vss) (by wtm_at "sub")
          have hL := hLs _ hs6
          refine s_append S (hmem _) (Up.app (Up.idx hrg)) ?_ fun h₂₃ S => ?_
          · rw [List.length_map, hL.1]
            have : (pick ns (p.toList.take j) (X % 6).toNat).length ≤ (p.toList.take j).length := by unfold pick; rw [List.length_map]; exact List.length_filter_le _ _
            rw [List.length_take] at this
            rw [sizeLine_eq]; omega
          rw [show (vss.getD (X % 6).toNat []).map Value.ref ++ [Value.ref la] = (vss.getD (X % 6).toNat [] ++ [la]).map Value.ref from by simp, rE_set hls (by omega)] at S
          with_reducible refine xs_nil ?_
          refine turnf_next ⟨g5, vss.set (X % 6).toNat (vss.getD (X % 6).toNat [] ++ [la]), _, kk4.trans kk5, by simp [hv6], fun s hs => ?_, S.names (by wtm_at "nm")⟩
          rw [htk, pick_snoc, hX]
          by_cases c : (X % 6).toNat = s
          · rw [if_pos c]
            subst c
            rw [show (vss.set (X % 6).toNat (vss.getD (X % 6).toNat [] ++ [la])).getD (X % 6).toNat [] = vss.getD (X % 6).toNat [] ++ [la] from by simp [List.getD, hv6, hs6]]
            exact (hL.mono fun a c x => x.more kk5).snoc (nw5.less (kg3.trans kk4))
          · rw [if_neg c]
            rw [show (vss.set (X % 6).toNat (vss.getD (X % 6).toNat [] ++ [la])).getD s [] = vss.getD s [] from by simp [List.getD, List.getElem?_set_ne c]]
            exact (hLs s hs).mono fun a c x => x.more kk5
      · rintro h₁₄ tk₁₄ ⟨g4, vss, cx, kk4, hv6, hLs, S⟩
        refine nx_list_end r'.hh S (S.at (.tail _ (.head _))) (by rw [List.length_map]; omega) fun h₁₅ S => ⟨rfl, ?_⟩
        with_reducible refine xs_return ?_
        with_reducible refine e_local (by assumption) (by with_unfolding_all rfl) (by with_unfolding_all rfl) (by with_unfolding_all rfl) (by with_unfolding_all rfl) (by decide) ?_
        rename St _ _ _ _ _ => S
        rw [List.take_of_length_le (by omega)] at hLs
        have S := S.sub (Δ' := ((ra, .list ([a0, a1, a2, a3, a4, a5].map Value.ref)) :: rE [a0, a1, a2, a3, a4, a5] vss) ++ []) (by rw [List.append_nil]; wtm_at "sub")
        have fr := fun p hp => S.nw p (List.mem_append_left _ hp)
        obtain ⟨g5, S, kk5, hD, gh5⟩ := St.seal S
        have kgf := (kg3.trans kk4).trans kk5
        refine q h₁₅ _ g5 ((List.range 6).map (pick ns p.toList)) ra (fun a o e n => S.keep a o (kgf a o (kg a o e (by simp)))) S.keep (rows_ok hn h6 hp hpa) ?_
        have hkg : ∀ a c, Nw g g5 a c → Nw h g5 a c := fun a c x => ⟨x.1, by
          cases e : h.get? a with
          | none => rfl
          | some o => have := kg a o e (by simp); rw [x.2] at this; cases this⟩
        refine ⟨[a0, a1, a2, a3, a4, a5], hkg _ _ ⟨hD _ (.head _), (kg3.trans kk4).none (fr _ (.head _)).2.2⟩, by simp, fun i row e => ?_⟩
        have hi6 : i < 6 := by have := (List.getElem?_eq_some_iff.mp e).1; simpa using this
        obtain ⟨ls, hls⟩ : ∃ ls, [a0, a1, a2, a3, a4, a5][i]? = some ls := ⟨_, List.getElem?_eq_getElem (by simpa using hi6)⟩
        have hvs : vss[i]? = some (vss.getD i []) := by
          rw [List.getElem?_eq_getElem (by omega)]; simp [List.getD, hv6, hi6]
        have hm := List.mem_of_getElem? (rE_get hls hvs)
        have er : row = pick ns p.toList i := by
          rw [List.getElem?_map, List.getElem?_range hi6] at e
          cases e; rfl
        subst er
        exact ⟨ls, hls, vss.getD i [], hkg _ _ ⟨hD _ (.tail _ hm), (kg3.trans kk4).none (fr _ (.tail _ hm)).2.2⟩, (hLs i hi6).mono fun a c x => hkg _ _ (x.more kk5)⟩
end
section
--pure
/-! the heap keeps its order -/
noncomputable def Hp (its : List Itm) : Prop := ∀ (i : Nat) (a b : Itm), 0 < i → its[i]? = some a → its[(i - 1) / 2]? = some b → ¬ a.lt b
noncomputable def HpX (T : List Itm) (pos : Nat) : Prop :=
  (∀ (i : Nat) (a b : Itm), 0 < i → i ≠ pos → T[i]? = some a → T[(i - 1) / 2]? = some b → ¬ a.lt b) ∧
  (∀ (i : Nat) (a b : Itm), 0 < pos → 0 < i → (i - 1) / 2 = pos → T[i]? = some a → T[(pos - 1) / 2]? = some b → ¬ a.lt b)
noncomputable def HpH (T : List Itm) (pos : Nat) : Prop :=
  (∀ (i : Nat) (a b : Itm), 0 < i → i ≠ pos → (i - 1) / 2 ≠ pos → T[i]? = some a → T[(i - 1) / 2]? = some b → ¬ a.lt b) ∧
  (∀ (i : Nat) (a b : Itm), 0 < pos → 0 < i → (i - 1) / 2 = pos → T[i]? = some a → T[(pos - 1) / 2]? = some b → ¬ a.lt b)
theorem lt_le {a b : Itm} (h : a.lt b) : ¬ b.lt a := by unfold Itm.lt at *; omega
theorem le_tr {a b c : Itm} (h1 : ¬ a.lt b) (h2 : ¬ b.lt c) : ¬ a.lt c := by unfold Itm.lt at *; omega
theorem set_at {its : List Itm} {p i : Nat} {x a : Itm} (hp : p < its.length) (h : (its.set p x)[i]? = some a) : (i = p ∧ a = x) ∨ (i ≠ p ∧ its[i]? = some a) := by
  by_cases c : i = p
  · subst c
    rw [List.getElem?_set_self hp] at h
    exact .inl ⟨rfl, (Option.some.inj h).symm⟩
  · rw [List.getElem?_set_ne (Ne.symm c)] at h
    exact .inr ⟨c, h⟩
theorem sd_ok {x : Itm} : ∀ (pos : Nat) (its : List Itm), pos < its.length → HpX (its.set pos x) pos → Hp (sd x its pos) ∧ (sd x its pos).Perm (its.set pos x) := by
  intro pos
  induction pos using Nat.strongRecOn with
  | _ pos ih =>
    intro its hp h
    by_cases h0 : pos = 0
    · subst h0
      rw [sd_zero]
      exact ⟨fun i a b hi ha hb => h.1 i a b hi (by omega) ha hb, List.Perm.refl _⟩
    · obtain ⟨p, hpar⟩ : ∃ p, its[(pos - 1) / 2]? = some p := ⟨_, List.getElem?_eq_getElem (by omega)⟩
      have hq : (pos - 1) / 2 < pos := by omega
      have hTq : (its.set pos x)[(pos - 1) / 2]? = some p := by rw [List.getElem?_set_ne (by omega)]; exact hpar
      by_cases c : x.lt p
      · rw [sd_lt (by omega) hpar c]
        have key : HpX ((its.set pos p).set ((pos - 1) / 2) x) ((pos - 1) / 2) := by
          have hl : (pos - 1) / 2 < (its.set pos p).length := by rw [List.length_set]; omega
          have out : ∀ (i : Nat) (a : Itm), ((its.set pos p).set ((pos - 1) / 2) x)[i]? = some a → (i = (pos - 1) / 2 ∧ a = x) ∨ (i = pos ∧ a = p) ∨ (i ≠ (pos - 1) / 2 ∧ i ≠ pos ∧ (its.set pos x)[i]? = some a) := by
            intro i a ha
            rcases set_at hl ha with ⟨e1, e2⟩ | ⟨e1, e2⟩
            · exact .inl ⟨e1, e2⟩
            · rcases set_at hp e2 with ⟨e3, e4⟩ | ⟨e3, e4⟩
              · exact .inr (.inl ⟨e3, e4⟩)
              · exact .inr (.inr ⟨e1, e3, by rw [List.getElem?_set_ne (Ne.symm e3)]; exact e4⟩)
          constructor
          · intro i a b hi hne ha hb
            rcases out i a ha with ⟨e, _⟩ | ⟨e, rfl⟩ | ⟨e1, e2, ha'⟩
            · exact absurd e hne
            · subst e
              rcases out _ b hb with ⟨_, rfl⟩ | ⟨e, _⟩ | ⟨e, _, _⟩
              · exact lt_le c
              · omega
              · exact absurd rfl e
            · rcases out _ b hb with ⟨e, rfl⟩ | ⟨e, rfl⟩ | ⟨_, _, hb'⟩
              · have := h.1 i a p hi e2 ha' (by rw [e]; exact hTq)
                exact le_tr this (lt_le c)
              · exact h.2 i a b (by omega) hi e ha' hTq
              · exact h.1 i a b hi e2 ha' hb'
          · intro i a b hq0 hi hpi ha hb
            have hb' : (its.set pos x)[((pos - 1) / 2 - 1) / 2]? = some b := by
              rcases out _ b hb with ⟨e, _⟩ | ⟨e, _⟩ | ⟨_, _, hb'⟩
              · omega
              · omega
              · exact hb'
            have hpb : ¬ p.lt b := h.1 ((pos - 1) / 2) p b hq0 (by omega) hTq hb'
            rcases out i a ha with ⟨e, _⟩ | ⟨e, rfl⟩ | ⟨e1, e2, ha'⟩
            · omega
            · exact hpb
            · exact le_tr (h.1 i a p hi e2 ha' (by rw [hpi]; exact hTq)) hpb
        obtain ⟨k1, k2⟩ := ih _ hq (its.set pos p) (by rw [List.length_set]; omega) key
        exact ⟨k1, k2.trans (perm_swap hp hpar (by omega))⟩
      · rw [sd_ge (by omega) hpar c]
        refine ⟨fun i a b hi ha hb => ?_, List.Perm.refl _⟩
        by_cases e : i = pos
        · subst e
          rw [hTq] at hb
          rw [List.getElem?_set_self hp] at ha
          cases ha; cases hb
          exact c
        · exact h.1 i a b hi e ha hb
theorem HpH.down {its : List Itm} {pos c : Nat} {y : Itm} (h : HpH its pos) (hp : pos < its.length) (hc : 0 < c) (hpc : (c - 1) / 2 = pos) (hy : its[c]? = some y)
    (hs : ∀ i d, 0 < i → i ≠ c → (i - 1) / 2 = pos → its[i]? = some d → ¬ d.lt y) : HpH (its.set pos y) c := by
  have hne : c ≠ pos := by omega
  constructor
  · intro i a b hi h1 h2 ha hb
    rcases set_at hp ha with ⟨rfl, rfl⟩ | ⟨e1, e2⟩
    · rcases set_at hp hb with ⟨e, _⟩ | ⟨_, hb'⟩
      · omega
      · exact h.2 c a b hi hc hpc hy hb'
    · rcases set_at hp hb with ⟨e, rfl⟩ | ⟨e3, hb'⟩
      · exact hs i a hi h1 e e2
      · exact h.1 i a b hi e1 e3 e2 hb'
  · intro i a b h0 hi hpi ha hb
    rw [hpc] at hb
    rw [List.getElem?_set_self hp] at hb
    cases hb
    have hip : i ≠ pos := by omega
    rw [List.getElem?_set_ne (Ne.symm hip)] at ha
    exact h.1 i a y hi hip (by omega) ha (by rw [hpi]; exact hy)
theorem su_ok : ∀ (n : Nat) (its : List Itm) (pos : Nat), its.length - pos = n → pos < its.length → HpH its pos →
    (su its pos).2 < (su its pos).1.length ∧ (su its pos).1.length ≤ 2 * (su its pos).2 + 1 ∧ HpH (su its pos).1 (su its pos).2 ∧ ∀ x, ((su its pos).1.set (su its pos).2 x).Perm (its.set pos x) := by
  intro n
  induction n using Nat.strongRecOn with
  | _ n ih =>
    intro its pos hn hp h
    by_cases c1 : its.length ≤ 2 * pos + 1
    · rw [su_end c1]
      exact ⟨hp, c1, h, fun x => List.Perm.refl _⟩
    · obtain ⟨a, ha⟩ : ∃ a, its[2 * pos + 1]? = some a := ⟨_, List.getElem?_eq_getElem (by omega)⟩
      have go : ∀ (c : Nat) (y : Itm), (c = 2 * pos + 1 ∨ c = 2 * pos + 2) → its[c]? = some y → (∀ i d, 0 < i → i ≠ c → (i - 1) / 2 = pos → its[i]? = some d → ¬ d.lt y) → su its pos = su (its.set pos y) c →
          (su its pos).2 < (su its pos).1.length ∧ (su its pos).1.length ≤ 2 * (su its pos).2 + 1 ∧ HpH (su its pos).1 (su its pos).2 ∧ ∀ x, ((su its pos).1.set (su its pos).2 x).Perm (its.set pos x) := by
        intro c y hc hy hs e
        have hcl := (List.getElem?_eq_some_iff.mp hy).1
        rw [e]
        obtain ⟨k1, k2, k3, k4⟩ := ih ((its.set pos y).length - c) (by rw [List.length_set]; omega) (its.set pos y) c rfl (by rw [List.length_set]; exact hcl) (h.down hp (by omega) (by omega) hy hs)
        exact ⟨k1, k2, k3, fun x => (k4 x).trans (perm_swap hp hy (by omega))⟩
      by_cases c2 : its.length ≤ 2 * pos + 2
      · refine go _ a (.inl rfl) ha (fun i d hi hne hpi hd => ?_) (su_one ha c2)
        have := (List.getElem?_eq_some_iff.mp hd).1
        omega
      · obtain ⟨b, hb⟩ : ∃ b, its[2 * pos + 2]? = some b := ⟨_, List.getElem?_eq_getElem (by omega)⟩
        by_cases hl : a.lt b
        · refine go _ a (.inl rfl) ha (fun i d hi hne hpi hd => ?_) (su_left ha hb hl)
          have : i = 2 * pos + 2 := by omega
          subst this
          rw [hb] at hd; cases hd
          exact lt_le hl
        · refine go _ b (.inr rfl) hb (fun i d hi hne hpi hd => ?_) (su_right ha hb hl)
          have : i = 2 * pos + 1 := by omega
          subst this
          rw [ha] at hd; cases hd
          exact hl
theorem sup_ok {x : Itm} {its : List Itm} (h0 : its[0]? = some x) (h : HpH its 0) : Hp (sup x its) ∧ (sup x its).Perm its := by
  have hl := (List.getElem?_eq_some_iff.mp h0).1
  obtain ⟨k1, k2, k3, k4⟩ := su_ok _ its 0 rfl hl h
  have e0 : its.set 0 x = its := by
    have := (List.getElem?_eq_some_iff.mp h0).2
    rw [← this]; exact List.set_getElem_self _
  have k5 := k4 x
  rw [e0] at k5
  unfold sup
  generalize su its 0 = q at *
  obtain ⟨T, pos⟩ := q
  dsimp only at *
  have hX : HpX ((T.set pos x).set pos x) pos := by
    rw [List.set_set]
    constructor
    · intro i a b hi hne ha hb
      rcases set_at k1 ha with ⟨e, _⟩ | ⟨e1, ha'⟩
      · exact absurd e hne
      · rcases set_at k1 hb with ⟨e, _⟩ | ⟨e2, hb'⟩
        · have := (List.getElem?_eq_some_iff.mp ha').1
          omega
        · exact k3.1 i a b hi e1 e2 ha' hb'
    · intro i a b h0 hi hpi ha hb
      have := (List.getElem?_eq_some_iff.mp ha).1
      rw [List.length_set] at this
      omega
  obtain ⟨r1, r2⟩ := sd_ok pos (T.set pos x) (by rw [List.length_set]; exact k1) hX
  rw [List.set_set] at r2
  exact ⟨r1, r2.trans k5⟩
theorem Hp.hole {its : List Itm} (h : Hp its) (x : Itm) : HpH (its.set 0 x) 0 := by
  constructor
  · intro i a b hi h1 h2 ha hb
    rw [List.getElem?_set_ne (by omega)] at ha hb
    exact h i a b hi ha hb
  · intro i a b h0; omega
theorem replace_ok {its : List Itm} {x y : Itm} (h : Hp its) (hy : its[0]? = some y) : Hp (sup x (its.set 0 x)) ∧ (sup x (its.set 0 x)).Perm (its.set 0 x) :=
  sup_ok (by rw [List.getElem?_set_self (List.getElem?_eq_some_iff.mp hy).1]) (h.hole x)
theorem Hp.init {its : List Itm} {y : Itm} (h : Hp (its ++ [y])) : Hp its := fun i a b hi ha hb => by
  have h1 := (List.getElem?_eq_some_iff.mp ha).1
  have h2 := (List.getElem?_eq_some_iff.mp hb).1
  exact h i a b hi (by rw [List.getElem?_append_left h1]; exact ha) (by rw [List.getElem?_append_left h2]; exact hb)
theorem push_ok {its : List Itm} (x : Itm) (h : Hp its) : Hp (hpush x its) ∧ (hpush x its).Perm (its ++ [x]) := by
  have e : (its ++ [x]).set its.length x = its ++ [x] := by simp
  have hX : HpX ((its ++ [x]).set its.length x) its.length := by
    rw [e]
    constructor
    · intro i a b hi hne ha hb
      have h1 := (List.getElem?_eq_some_iff.mp ha).1
      rw [List.length_append, List.length_singleton] at h1
      rw [List.getElem?_append_left (by omega)] at ha hb
      exact h i a b hi ha hb
    · intro i a b h0 hi hpi ha hb
      have h1 := (List.getElem?_eq_some_iff.mp ha).1
      rw [List.length_append, List.length_singleton] at h1
      omega
  obtain ⟨r1, r2⟩ := sd_ok its.length (its ++ [x]) (by simp) hX
  rw [e] at r2
  exact ⟨r1, r2⟩
theorem Hp.least {its : List Itm} {r : Itm} (h : Hp its) (hr : its[0]? = some r) : ∀ (i : Nat) (a : Itm), its[i]? = some a → ¬ a.lt r := by
  intro i
  induction i using Nat.strongRecOn with
  | _ i ih =>
    intro a ha
    by_cases c : i = 0
    · subst c
      rw [hr] at ha; cases ha
      unfold Itm.lt; omega
    · have hl := (List.getElem?_eq_some_iff.mp ha).1
      obtain ⟨b, hb⟩ : ∃ b, its[(i - 1) / 2]? = some b := ⟨_, List.getElem?_eq_getElem (by omega)⟩
      exact le_tr (h i a b (by omega) ha hb) (ih _ (by omega) b hb)
end
section
--pure
inductive Ev where
  | ltr (r s : Nat) (o : List UInt8)
  | bad (s : Nat) (msg : Str)
theorem getD_of {α : Type} {l : List α} {i : Nat} {a d : α} (h : l[i]? = some a) : l.getD i d = a := by simp [List.getD, h]
noncomputable def offs (row : List Letter) (k : Nat) : Nat := ((row.take k).map fun x => 2 + x.2.length).sum
noncomputable abbrev rowOf (rows : List (List Letter)) (s : Nat) : List Letter := rows.getD s []
noncomputable def ItmOf (x : Itm) (s : Nat) (l : Letter) : Prop := x.r = l.1 ∧ x.s = s ∧ x.b = l.2.toArray
/-- the heap holds each stream's letter at ks -/
structure HS (rows : List (List Letter)) (m : Nat) (ks : Nat → Nat) (its : List Itm) (ps : List Nat) : Prop where
  hp : Hp its
  nd : Nds its
  le : m ≤ rows.length
  len : ps.length = rows.length
  mem : ∀ x ∈ its, ∃ (s : Nat) (l : Letter), s < m ∧ (rowOf rows s)[ks s]? = some l ∧ ItmOf x s l ∧ ps.getD s 0 = offs (rowOf rows s) (ks s + 1)
  all : ∀ s, s < m → ks s < (rowOf rows s).length → ∃ x ∈ its, x.s = s
  rest : ∀ s, m ≤ s → s < rows.length → ps.getD s 0 = 0
theorem getD_set_ne {ps : List Nat} {s s' p d : Nat} (h : s ≠ s') : (ps.set s p).getD s' d = ps.getD s' d := by simp [List.getD, List.getElem?_set_ne h]
theorem getD_set_eq {ps : List Nat} {s p d : Nat} (h : s < ps.length) : (ps.set s p).getD s d = p := by simp [List.getD, h]
section
variable {rows : List (List Letter)} {m : Nat} {ks : Nat → Nat} {its its' : List Itm} {ps : List Nat}
theorem HS.start (n : Nat) (h : rows.length = n) : HS rows 0 (fun _ => 0) [] (List.replicate n 0) := by
  refine ⟨fun i a b hi ha => by simp at ha, List.nodup_nil, Nat.zero_le _, by simp [h], fun x hx => (nomatch hx), fun s hs => absurd hs (Nat.not_lt_zero _), fun s _ hs => by simp [List.getD, show s < n from by omega]⟩
theorem HS.few (h : HS rows m ks its ps) : its.length ≤ m := by
  have nd : (its.map (·.s)).Nodup := h.nd
  have hsub : (its.map (·.s)) ⊆ (List.range m).map (fun (n : Nat) => (n : Int)) := by
    intro v hv
    obtain ⟨x, hx, rfl⟩ := List.mem_map.mp hv
    obtain ⟨s, l, hs, _, hi, _⟩ := h.mem x hx
    exact List.mem_map.mpr ⟨s, by simpa using hs, hi.2.1.symm⟩
  have := nd.length_le_of_subset hsub
  simpa using this
/-- a stream whose first letter is laid upon the heap -/
theorem HS.enter (h : HS rows m (fun _ => 0) its ps) (hm : m < rows.length) {x : Itm} {l : Letter} (hl : (rowOf rows m)[0]? = some l) (hx : ItmOf x m l) : Nds (its ++ [x]) ∧ HS rows (m + 1) (fun _ => 0) (hpush x its) (ps.set m (offs (rowOf rows m) 1)) := by
  obtain ⟨k1, k2⟩ := push_ok x h.hp
  have nd : Nds (its ++ [x]) := by
    unfold Nds
    rw [List.map_append, List.map_cons, List.map_nil, List.nodup_append]
    refine ⟨h.nd, List.nodup_cons.mpr ⟨by simp, List.nodup_nil⟩, fun a ha b hb e => ?_⟩
    obtain ⟨y, hy, rfl⟩ := List.mem_map.mp ha
    obtain ⟨s, l', hs, _, hi, _⟩ := h.mem y hy
    rw [List.mem_singleton.mp hb, hi.2.1, hx.2.1] at e
    omega
  refine ⟨nd, k1, nd.perm k2, hm, by rw [List.length_set]; exact h.len, fun y hy => ?_, fun s hs hk => ?_, fun s hs hs' => ?_⟩
  · rcases List.mem_append.mp (k2.mem_iff.mp hy) with hy | hy
    · obtain ⟨s, l', hs, hl', hi, hp⟩ := h.mem y hy
      exact ⟨s, l', by omega, hl', hi, by rw [getD_set_ne (by omega)]; exact hp⟩
    · rw [List.mem_singleton.mp hy]
      exact ⟨m, l, by omega, hl, hx, by rw [getD_set_eq (by rw [h.len]; exact hm)]⟩
  · by_cases c : s = m
    · subst c
      exact ⟨x, k2.mem_iff.mpr (List.mem_append_right _ (.head _)), hx.2.1⟩
    · obtain ⟨y, hy, e⟩ := h.all s (by omega) hk
      exact ⟨y, k2.mem_iff.mpr (List.mem_append_left _ hy), e⟩
  · rw [getD_set_ne (by omega)]; exact h.rest s (by omega) hs'
/-- a stream that has no letter -/
theorem HS.pass (h : HS rows m (fun _ => 0) its ps) (hm : m < rows.length) (hl : rowOf rows m = []) (p : Nat) : HS rows (m + 1) (fun _ => 0) its (ps.set m p) := by
  refine ⟨h.hp, h.nd, hm, by rw [List.length_set]; exact h.len, fun y hy => ?_, fun s hs hk => ?_, fun s hs hs' => ?_⟩
  · obtain ⟨s, l', hs, hl', hi, hp⟩ := h.mem y hy
    exact ⟨s, l', by omega, hl', hi, by rw [getD_set_ne (by omega)]; exact hp⟩
  · by_cases c : s = m
    · subst c; rw [hl] at hk; simp at hk
    · exact h.all s (by omega) hk
  · rw [getD_set_ne (by omega)]; exact h.rest s (by omega) hs'
noncomputable def upK (ks : Nat → Nat) (s0 : Nat) : Nat → Nat := fun s => if s = s0 then ks s0 + 1 else ks s
/-- the heap's first letter is served -/
theorem HS.step {y : Itm} {t : List Itm} {s0 p' : Nat} (h : HS rows m ks its ps) (hy : its.Perm (y :: t)) (hs : y.s = s0) (hs0 : s0 < m) (hp' : Hp its')
    (c : (∃ x l, its'.Perm (x :: t) ∧ (rowOf rows s0)[ks s0 + 1]? = some l ∧ ItmOf x s0 l ∧ p' = offs (rowOf rows s0) (ks s0 + 2)) ∨ (its'.Perm t ∧ (rowOf rows s0).length ≤ ks s0 + 1)) :
    HS rows m (upK ks s0) its' (ps.set s0 p') := by
  have hnd : Nds (y :: t) := h.nd.perm hy.symm
  have ht : ∀ z ∈ t, z.s ≠ s0 := fun z hz e => by
    have := (List.nodup_cons.mp (show ((y :: t).map (·.s)).Nodup from hnd)).1
    exact this (List.mem_map.mpr ⟨z, hz, e.trans hs.symm⟩)
  have htm : ∀ z ∈ t, z ∈ its := fun z hz => hy.mem_iff.mpr (.tail _ hz)
  have le := h.le
  have old : ∀ z ∈ t, ∃ (s : Nat) (l : Letter), s < m ∧ (rowOf rows s)[upK ks s0 s]? = some l ∧ ItmOf z s l ∧ (ps.set s0 p').getD s 0 = offs (rowOf rows s) (upK ks s0 s + 1) := fun z hz => by
    obtain ⟨s, l', hs', hl', hi, hp⟩ := h.mem z (htm z hz)
    have hne : s ≠ s0 := fun e => ht z hz (by rw [hi.2.1, e])
    have eu : upK ks s0 s = ks s := if_neg hne
    rw [← eu] at hl' hp
    exact ⟨s, l', hs', hl', hi, by rw [getD_set_ne (Ne.symm hne)]; exact hp⟩
  have allt : ∀ s, s < m → s ≠ s0 → upK ks s0 s < (rowOf rows s).length → ∃ z ∈ t, z.s = s := fun s hsm hne hk => by
    unfold upK at hk
    rw [if_neg hne] at hk
    obtain ⟨z, hz, e⟩ := h.all s hsm hk
    rcases List.mem_cons.mp (hy.mem_iff.mp hz) with rfl | hz
    · rw [hs] at e; exact absurd (by exact_mod_cast e.symm) hne
    · exact ⟨z, hz, e⟩
  rcases c with ⟨x, l, hq, hl, hx, hpe⟩ | ⟨hq, hlen⟩
  · have ndx : Nds (x :: t) := by
      have e : (x :: t).map (·.s) = (y :: t).map (·.s) := by rw [List.map_cons, List.map_cons, hx.2.1, hs]
      unfold Nds; rw [e]; exact hnd
    refine ⟨hp', ndx.perm hq, le, by rw [List.length_set]; exact h.len, fun z hz => ?_, fun s hsm hk => ?_, fun s h1 h2 => ?_⟩
    · rcases List.mem_cons.mp (hq.mem_iff.mp hz) with rfl | hz
      · refine ⟨s0, l, hs0, ?_, hx, ?_⟩
        · unfold upK; rw [if_pos rfl]; exact hl
        · rw [getD_set_eq (by rw [h.len]; omega)]; unfold upK; rw [if_pos rfl]; exact hpe
      · exact old z hz
    · by_cases c : s = s0
      · exact ⟨x, hq.mem_iff.mpr (.head _), by rw [hx.2.1, c]⟩
      · obtain ⟨z, hz, e⟩ := allt s hsm c hk
        exact ⟨z, hq.mem_iff.mpr (.tail _ hz), e⟩
    · rw [getD_set_ne (by omega)]; exact h.rest s h1 h2
  · refine ⟨hp', (show Nds t from (List.nodup_cons.mp (show ((y :: t).map (·.s)).Nodup from hnd)).2).perm hq, le, by rw [List.length_set]; exact h.len, fun z hz => old z (hq.mem_iff.mp hz), fun s hsm hk => ?_, fun s h1 h2 => ?_⟩
    · by_cases c : s = s0
      · subst c
        unfold upK at hk
        rw [if_pos rfl] at hk
        omega
      · obtain ⟨z, hz, e⟩ := allt s hsm c hk
        exact ⟨z, hq.mem_iff.mpr hz, e⟩
    · rw [getD_set_ne (by omega)]; exact h.rest s h1 h2
end
/-- the order in which all letters are served -/
noncomputable def okey (rows : List (List Letter)) (q : Nat × Nat) : Int := ((((rowOf rows q.1).getD q.2 (0, [])).1 : Int) * 1000 + q.1) * 1000 + q.2
structure Ord (rows : List (List Letter)) (os : List (Nat × Nat)) : Prop where
  mem : ∀ s k, (s, k) ∈ os ↔ s < rows.length ∧ k < (rowOf rows s).length
  lt : os.Pairwise fun a b => okey rows a < okey rows b
structure RowsLo (rows : List (List Letter)) : Prop where
  lo : ∀ row ∈ rows, row.Pairwise fun a b => a.1 ≤ b.1
  n : rows.length < 1000
  k : ∀ row ∈ rows, row.length < 1000
noncomputable def Tk (rows : List (List Letter)) (os : List (Nat × Nat)) (i : Nat) (ks : Nat → Nat) : Prop := ∀ s k, s < rows.length → k < (rowOf rows s).length → ((s, k) ∈ os.take i ↔ k < ks s)
section
variable {rows : List (List Letter)} {os : List (Nat × Nat)} {i : Nat} {ks : Nat → Nat} {its its' : List Itm} {ps : List Nat}
theorem RowsLo.row (h : RowsLo rows) {s : Nat} (hs : s < rows.length) : (rowOf rows s).Pairwise (fun a b => a.1 ≤ b.1) ∧ (rowOf rows s).length < 1000 := by
  have hm : rowOf rows s ∈ rows := by
    show rows.getD s [] ∈ rows
    rw [show rows.getD s [] = rows[s] from by simp [List.getD, hs]]
    exact List.getElem_mem hs
  exact ⟨h.lo _ hm, h.k _ hm⟩
theorem okey_row (h : RowsLo rows) {s k k' : Nat} (hs : s < rows.length) (hk : k < k') (hk' : k' < (rowOf rows s).length) : okey rows (s, k) < okey rows (s, k') := by
  have := List.pairwise_iff_getElem.mp (h.row hs).1 k k' (by omega) hk' hk
  unfold okey
  dsimp only
  rw [show (rowOf rows s).getD k (0, []) = (rowOf rows s)[k] from getD_of (List.getElem?_eq_getElem (by omega)), show (rowOf rows s).getD k' (0, []) = (rowOf rows s)[k'] from getD_of (List.getElem?_eq_getElem hk')]
  have : (((rowOf rows s)[k].1 : Nat) : Int) ≤ (((rowOf rows s)[k'].1 : Nat) : Int) := by exact_mod_cast this
  omega
theorem Ord.at (o : Ord rows os) {s0 k0 : Nat} (he : os[i]? = some (s0, k0)) : s0 < rows.length ∧ k0 < (rowOf rows s0).length := (o.mem s0 k0).mp (List.mem_of_getElem? he)
theorem Ord.split (o : Ord rows os) {q : Nat × Nat} (he : os[i]? = some q) : (∀ a ∈ os.take i, okey rows a < okey rows q) ∧ (∀ b ∈ os, b ∉ os.take i → b = q ∨ okey rows q < okey rows b) := by
  have hl := (List.getElem?_eq_some_iff.mp he).1
  have e : os = os.take i ++ q :: os.drop (i + 1) := by
    have h1 := List.take_append_drop i os
    rw [List.drop_eq_getElem_cons hl, (List.getElem?_eq_some_iff.mp he).2] at h1
    exact h1.symm
  have hp := o.lt
  rw [e, List.pairwise_append] at hp
  refine ⟨fun a ha => hp.2.2 a ha q (.head _), fun b hb hn => ?_⟩
  rw [e] at hb
  rcases List.mem_append.mp hb with hb | hb
  · exact absurd hb hn
  · rcases List.mem_cons.mp hb with rfl | hb
    · exact .inl rfl
    · exact .inr ((List.pairwise_cons.mp hp.2.1).1 b hb)
theorem Tk.start : Tk rows os 0 (fun _ => 0) := fun s k _ _ => by simp
theorem Tk.at (lo : RowsLo rows) (o : Ord rows os) (t : Tk rows os i ks) {s0 k0 : Nat} (he : os[i]? = some (s0, k0)) : ks s0 = k0 := by
  obtain ⟨hs0, hk0⟩ := o.at he
  obtain ⟨h1, h2⟩ := o.split he
  have hn : ¬ k0 < ks s0 := fun h => by
    have := h1 _ ((t s0 k0 hs0 hk0).mpr h)
    omega
  by_cases c : ks s0 = k0
  · exact c
  · have hc : ks s0 < k0 := by omega
    have h3 : (s0, ks s0) ∉ os.take i := fun h => by
      have := (t s0 (ks s0) hs0 (by omega)).mp h
      omega
    have h4 := okey_row lo hs0 hc hk0
    rcases h2 _ ((o.mem s0 (ks s0)).mpr ⟨hs0, by omega⟩) h3 with e | h
    · have := congrArg Prod.snd e
      dsimp only at this
      omega
    · omega
theorem Tk.next (lo : RowsLo rows) (o : Ord rows os) (t : Tk rows os i ks) {s0 k0 : Nat} (he : os[i]? = some (s0, k0)) : Tk rows os (i + 1) (upK ks s0) := by
  have hk := t.at lo o he
  intro s k hs hkl
  rw [List.take_add_one, he]
  show (s, k) ∈ os.take i ++ [(s0, k0)] ↔ _
  rw [List.mem_append, List.mem_singleton, t s k hs hkl]
  unfold upK
  by_cases c : s = s0
  · subst c
    rw [if_pos rfl]
    constructor
    · rintro (h | h)
      · omega
      · have := congrArg Prod.snd h; dsimp only at this; omega
    · intro h
      by_cases d : k = k0
      · exact .inr (by rw [d])
      · exact .inl (by omega)
  · rw [if_neg c]
    constructor
    · rintro (h | h)
      · exact h
      · exact absurd (congrArg Prod.fst h) c
    · exact .inl
/-- the heap's first letter is the next in order -/
theorem HS.root (lo : RowsLo rows) (o : Ord rows os) (t : Tk rows os i ks) (h : HS rows rows.length ks its ps) {s0 k0 : Nat} (he : os[i]? = some (s0, k0)) :
    ∃ y u l, its = y :: u ∧ (rowOf rows s0)[k0]? = some l ∧ ItmOf y s0 l ∧ ps.getD s0 0 = offs (rowOf rows s0) (k0 + 1) := by
  obtain ⟨hs0, hk0⟩ := o.at he
  have hk := t.at lo o he
  obtain ⟨x0, hx0, e0⟩ := h.all s0 hs0 (by omega)
  obtain ⟨y, u, rfl⟩ : ∃ y u, its = y :: u := by
    cases its with
    | nil => cases hx0
    | cons y u => exact ⟨y, u, rfl⟩
  obtain ⟨s, l0, hs, hl0, hi0, hp0⟩ := h.mem x0 hx0
  have es : s = s0 := by have := hi0.2.1; rw [e0] at this; exact_mod_cast this.symm
  subst es
  obtain ⟨s1, l1, hs1, hl1, hi1, hp1⟩ := h.mem y (.head _)
  have hk1 := (List.getElem?_eq_some_iff.mp hl1).1
  have hn : (s1, ks s1) ∉ os.take i := fun q => by have := (t s1 (ks s1) hs1 hk1).mp q; omega
  obtain ⟨j, hj, ej⟩ := List.mem_iff_getElem.mp hx0
  have hmin := h.hp.least (r := y) rfl j x0 (by rw [List.getElem?_eq_getElem hj, ej])
  rw [hk] at hl0 hp0
  have e1 : ((rowOf rows s).getD k0 (0, [])) = l0 := getD_of hl0
  have e2 : ((rowOf rows s1).getD (ks s1) (0, [])) = l1 := getD_of hl1
  have hse : s1 = s := by
    rcases (o.split he).2 _ ((o.mem s1 (ks s1)).mpr ⟨hs1, hk1⟩) hn with e | hlt
    · exact congrArg Prod.fst e
    · unfold okey at hlt
      dsimp only at hlt
      rw [e1, e2] at hlt
      unfold Itm.lt at hmin
      rw [hi0.1, hi1.1, hi0.2.1, hi1.2.1] at hmin
      have b1 := lo.n
      have b2 := (lo.row hs).2
      have b3 := (lo.row hs1).2
      omega
  subst hse
  rw [hk] at hl1
  rw [hl0] at hl1
  cases hl1
  exact ⟨y, u, l0, rfl, hl0, hi1, hp0⟩
theorem HS.done (o : Ord rows os) (t : Tk rows os os.length ks) (h : HS rows rows.length ks its ps) : its = [] := by
  cases its with
  | nil => rfl
  | cons y u =>
    obtain ⟨s1, l1, hs1, hl1, hi1, hp1⟩ := h.mem y (.head _)
    have hk1 := (List.getElem?_eq_some_iff.mp hl1).1
    have := (t s1 (ks s1) hs1 hk1).mp (by rw [List.take_length]; exact (o.mem s1 (ks s1)).mpr ⟨hs1, hk1⟩)
    omega
end
end
section
theorem FileP.at {w : World} {g : Heap} {f pl : Addr} {bs : List UInt8} (h : FileP w (At g) f pl bs) : FileAt w g f pl bs := h
noncomputable abbrev Pl := Addr × Nat × Tok
noncomputable def plE (xs : List Pl) : List (Addr × Ct) := xs.map fun x => (x.1, .list [.int x.2.1 x.2.2])
theorem plE_get {xs : List Pl} {i : Nat} {x : Pl} (h : xs[i]? = some x) : (plE xs)[i]? = some (x.1, .list [.int x.2.1 x.2.2]) := by
  unfold plE
  rw [List.getElem?_map, h]; rfl
theorem plE_set {xs : List Pl} {i p : Nat} {a : Addr} {t : Tok} : (plE xs).set i (a, .list [.int p t]) = plE (xs.set i (a, p, t)) := by
  unfold plE
  rw [List.map_set]
theorem nodup_key {Δ : List (Addr × Ct)} (nd : (Δ.map (·.1)).Nodup) : ∀ {p q : Addr × Ct}, p ∈ Δ → q ∈ Δ → p.1 = q.1 → p = q := by
  induction Δ with
  | nil => intro p q hp; cases hp
  | cons x r ih =>
    intro p q hp hq e
    simp only [List.map_cons, List.nodup_cons] at nd
    rcases List.mem_cons.mp hp with e1 | hp1
    · rcases List.mem_cons.mp hq with e2 | hq1
      · rw [e1, e2]
      · exact (nd.1 (List.mem_map.mpr ⟨q, hq1, by rw [← e, e1]⟩)).elim
    · rcases List.mem_cons.mp hq with e2 | hq1
      · exact (nd.1 (List.mem_map.mpr ⟨p, hp1, by rw [e, e2]⟩)).elim
      · exact ih nd.2 hp1 hq1 e
section
variable {g h h' : Heap} {L a pl : Addr} {ρ : List (Str × Value)} {Δ Δ' X : List (Addr × Ct)} {c : Ct} {F : Fs} {m : Str → Option Value}
theorem St.addAll (S : St g L ρ Δ h) (S' : St g L ρ Δ' h') (hk : Δ'.map (·.1) = Δ.map (·.1)) (hX : ∀ p ∈ X, h.get? p.1 = none ∧ At h' p.1 p.2) (nd : (X.map (·.1)).Nodup) : St g L ρ (X ++ Δ') h' := by
  refine ⟨S'.loc, S'.keep, S'.offL, fun p hp => ?_, ?_⟩
  · rcases List.mem_append.mp hp with hp | hp
    · obtain ⟨h1, h2⟩ := hX p hp
      obtain ⟨_, o2, o3⟩ := S.off h1
      exact ⟨h2, o2, o3⟩
    · exact S'.nw p hp
  · rw [List.map_append, List.nodup_append]
    refine ⟨nd, S'.nd, fun x hx y hy e => ?_⟩
    obtain ⟨p, hp, rfl⟩ := List.mem_map.mp hx
    rw [hk] at hy
    obtain ⟨q, hq, e'⟩ := List.mem_map.mp hy
    exact (S.off (hX p hp).1).1 q hq (e'.trans e.symm)
/-- a call that may raise within, seen from here -/
theorem St.callE (S : St g L ρ Δ h) (hn : h.Ns L m) (hm : ∀ x v, ρ.lookup x = some v → m x = some v) (hpl : (pl, c) ∈ Δ) (hF : ∀ x ∈ frE F, x ∈ Δ) (nd : (pl :: F.map (·.1)).Nodup) :
    ∃ g₀, Sub g g₀ ∧ Sub g₀ h ∧ (∀ x ∈ (pl, c) :: frE ((L, m) :: F), At h x.1 x.2 ∧ g₀.get? x.1 = none) ∧ (((pl, c) :: frE ((L, m) :: F)).map (·.1)).Nodup ∧
      (∀ b o, h.get? b = some o → b ∉ pl :: L :: F.map (·.1) → g₀.get? b = some o) ∧
      ∀ c' Δ' h', Up pl c' Δ Δ' → g₀.StaysIn h' → At h' pl c' → (∀ x ∈ (L, m) :: F, h'.Ns x.1 x.2) → St g L ρ Δ' h' := by
  have hin : ∀ b o, h.get? b = some o → b ∉ pl :: L :: F.map (·.1) → (hideAll h (pl :: L :: F.map (·.1))).get? b = some o := fun b o e n => hideAll_get _ e n
  have hkF : ∀ b, b ∈ F.map (·.1) → ∃ x ∈ F, x.1 = b ∧ (x.1, Ct.pr (nsP x.2)) ∈ Δ := fun b hb => by
    obtain ⟨x, hx, rfl⟩ := List.mem_map.mp hb
    exact ⟨x, hx, rfl, hF _ (List.mem_map_of_mem hx)⟩
  have hLpl : pl ≠ L := (S.nw _ hpl).2.1
  have hLF : L ∉ F.map (·.1) := fun q => by
    obtain ⟨x, _, e, hx⟩ := hkF L q
    exact (S.nw _ hx).2.1 e
  have gsub : Sub g (hideAll h (pl :: L :: F.map (·.1))) := fun b o e => hin b o (S.keep b o e) fun q => by
    rcases List.mem_cons.mp q with rfl | q
    · rw [(S.nw _ hpl).2.2] at e; cases e
    · rcases List.mem_cons.mp q with rfl | q
      · rw [S.offL] at e; cases e
      · obtain ⟨x, _, e', hx⟩ := hkF b q
        have := (S.nw _ hx).2.2
        rw [e', e] at this; cases this
  refine ⟨hideAll h (pl :: L :: F.map (·.1)), gsub, fun b o e => of_hideAll _ e, fun x hx => ?_, ?_, hin, fun c' Δ' h' u st hat hns => ?_⟩
  · rcases List.mem_cons.mp hx with rfl | hx
    · exact ⟨S.at hpl, hideAll_none _ (.head _)⟩
    · rcases List.mem_cons.mp hx with rfl | hx
      · exact ⟨nsP_at hn, hideAll_none _ (.tail _ (.head _))⟩
      · refine ⟨(S.nw x (hF x hx)).1, hideAll_none _ (.tail _ (.tail _ ?_))⟩
        have hk : x.1 ∈ (frE F).map (·.1) := List.mem_map_of_mem hx
        rw [frE_keys] at hk
        exact hk
  · show (pl :: L :: (frE F).map (·.1)).Nodup
    rw [frE_keys]
    simp only [List.nodup_cons] at nd
    exact List.nodup_cons.mpr ⟨fun q => by
      rcases List.mem_cons.mp q with q | q
      · exact hLpl q
      · exact nd.1 q, List.nodup_cons.mpr ⟨hLF, nd.2⟩⟩
  · refine ⟨⟨m, hns _ (.head _), hm⟩, fun b o e => st b o (gsub b o e), S.offL, fun p hp => ?_, u.keys ▸ S.nd⟩
    rcases u.each S.nd p hp with rfl | ⟨h1, h2⟩
    · exact ⟨hat, (S.nw _ hpl).2⟩
    · obtain ⟨y1, y2, y3⟩ := S.nw p h1
      refine ⟨?_, y2, y3⟩
      by_cases q : p.1 ∈ F.map (·.1)
      · obtain ⟨x, hx, e, hxm⟩ := hkF _ q
        have ep := nodup_key S.nd h1 hxm e.symm
        rw [ep]
        exact nsP_at (hns x (.tail _ hx))
      · refine y1.keeps fun o e => st _ o (hin _ o e fun q' => ?_)
        rcases List.mem_cons.mp q' with q' | q'
        · exact h2 q'
        · rcases List.mem_cons.mp q' with q' | q'
          · exact y2 q'
          · exact q q'
end
/-- one by one -/
noncomputable def All2 {α β : Type} (R : α → β → Prop) (as : List α) (bs : List β) : Prop := as.length = bs.length ∧ ∀ (i : Nat) (b : β), bs[i]? = some b → ∃ a, as[i]? = some a ∧ R a b
theorem All2.nil {α β : Type} {R : α → β → Prop} : All2 R [] [] := ⟨rfl, fun i b e => nomatch e⟩
theorem All2.mono {α β : Type} {R R' : α → β → Prop} {as : List α} {bs : List β} (h : All2 R as bs) (k : ∀ a b, R a b → R' a b) : All2 R' as bs := ⟨h.1, fun i b e => let ⟨a, e1, e2⟩ := h.2 i b e; ⟨a, e1, k _ _ e2⟩⟩
theorem All2.snoc {α β : Type} {R : α → β → Prop} {as : List α} {bs : List β} {a : α} {b : β} (h : All2 R as bs) (r : R a b) : All2 R (as ++ [a]) (bs ++ [b]) := by
  refine ⟨by simp [h.1], fun i y e => ?_⟩
  by_cases c : i < bs.length
  · rw [List.getElem?_append_left c] at e
    obtain ⟨x, e1, e2⟩ := h.2 i y e
    exact ⟨x, by rw [List.getElem?_append_left (by rw [h.1]; exact c)]; exact e1, e2⟩
  · rw [List.getElem?_append_right (by omega)] at e
    have hi : i - bs.length = 0 := by
      have := (List.getElem?_eq_some_iff.mp e).1
      simp at this
      omega
    rw [hi] at e
    cases e
    exact ⟨a, by rw [List.getElem?_append_right (by rw [h.1]; omega), h.1, hi]; rfl, r⟩
noncomputable def EvP (P : Addr → Ct → Prop) (a : Addr) : Ev → Prop
  | .ltr r s o => ∃ t t' t'', P a (.list [.int r t, .int s t', .str ⟨(b2a o).toArray⟩ t''])
  | .bad s m => ∃ t t', P a (.list [.int s t, .str m t'])
theorem EvP.mono {P P' : Addr → Ct → Prop} {a : Addr} {e : Ev} (h : EvP P a e) (k : ∀ a c, P a c → P' a c) : EvP P' a e := by
  cases e with
  | ltr r s o => obtain ⟨t, t', t'', h⟩ := h; exact ⟨t, t', t'', k _ _ h⟩
  | bad s m => obtain ⟨t, t', h⟩ := h; exact ⟨t, t', k _ _ h⟩
noncomputable def TellAt (P : Addr → Ct → Prop) (r : Addr) (evs : List Ev) : Prop := ∃ as : List Addr, P r (.list (as.map .ref)) ∧ All2 (EvP P) as evs
theorem sy_ascii (i : Nat) : sy i < 128 := by
  unfold sy
  by_cases c : i < 64
  · have : ∀ i, i < 64 → (b64t.getD i 0).toNat < 128 := by decide +kernel
    exact this i c
  · rw [show b64t.getD i 0 = 0 from by simp [List.getD, List.getElem?_eq_none (show b64t.length ≤ i from by show 64 ≤ i; omega)]]
    decide
theorem emit_ascii (lc lb : Nat) (out : List Nat) (h : ∀ x ∈ out, x < 128) : ∀ x ∈ (emit lc lb out).1, x < 128 := by
  induction lb using Nat.strongRecOn generalizing out with
  | _ lb ih =>
    rw [emit_eq]
    split
    · refine ih _ (by omega) _ fun x hx => ?_
      rcases List.mem_append.mp hx with h1 | h1
      · exact h x h1
      · rw [List.mem_singleton.mp h1]; exact sy_ascii _
    · exact h
theorem b2a_ascii (bs : List UInt8) : ∀ x ∈ b2a bs, x < 128 := by
  have key : ∀ (l : List UInt8) (st : List Nat × Nat × Nat), (∀ x ∈ st.1, x < 128) → ∀ x ∈ (l.foldl b2s st).1, x < 128 := by
    intro l
    induction l with
    | nil => intro st h; exact h
    | cons b r ih => intro st h; exact ih _ (emit_ascii _ _ _ h)
  have h := key bs ([], 0, 0) (by simp)
  intro x hx
  unfold b2a at hx
  have hs := sy_ascii ((b2f bs).2.2 % 4 * 16)
  have hs2 := sy_ascii ((b2f bs).2.2 % 16 * 4)
  split at hx
  · rcases List.mem_append.mp hx with h1 | h1
    · exact h x h1
    · simp at h1; omega
  · split at hx
    · rcases List.mem_append.mp hx with h1 | h1
      · exact h x h1
      · simp at h1; omega
    · exact h x hx
theorem b2a_len (bs : List UInt8) : (b2a bs).length ≤ 14 * bs.length + 3 := by
  have h := (b2f_ok bs).2.2.1
  unfold b2a
  split
  · simp; omega
  · split
    · simp; omega
    · omega
end
section
section
variable {w : World} {A : Around} {E : Value → Shared → Prop} {z : Shared} {g h : Heap} {tk : Nat} {L : Addr} {ρ : List (Str × Value)} {Δ : List (Addr × Ct)} {env : Env} {s : Shared} {outer : List Env} {F : Fs}
/-- letter = _law_next(f), seen from the frame that calls -/
theorem next_on {Q : Value → Shared → Prop} {f pl : Addr} {bs : List UInt8} {p : Nat} {t : Tok} {Δ' : Tok → List (Addr × Ct)} (r : Rm A 5) (hA : A.frames = some (env :: outer)) (hek : env.scope.kind ≠ .module) (hef : env.frame = some L) (hO : FOk outer F) (G : Gd w g) (S : St g L ρ Δ h) (hf : FileAt w g f pl bs)
    (hpl : (pl, .list [.int p t]) ∈ Δ) (hF : ∀ x ∈ frE F, x ∈ Δ) (nd : (pl :: F.map (·.1)).Nodup) (hz : bs.length ≤ 1000) (hp : p ≤ 1000) (u : ∀ t', Up pl (.list [.int (nextL bs p).2 t']) Δ (Δ' t'))
    (q0 : (nextL bs p).1 = .none → ∀ h' tk' t', St g L ρ (Δ' t') h' → Q .none (Z z h' tk'))
    (q1 : ∀ msg, (nextL bs p).1 = .bad msg → ∀ a h' tk' t' t'', St g L ρ ((a, .list [.none, .str msg t'']) :: Δ' t') h' → Q (.ref a) (Z z h' tk'))
    (q2 : ∀ r o, (nextL bs p).1 = .ok r o → ∀ a h' tk' t' t1 t2, St g L ρ ((a, .list [.int r t1, .bytes o.toArray t2]) :: Δ' t') h' → Q (.ref a) (Z z h' tk')) :
    wpAny (MM w) A (call (.ref 114) [.ref f]) Q E (Z z h tk) := by
  obtain ⟨m, hn, hm⟩ := S.loc
  obtain ⟨g₀, k1, k2, hM, ndM, hmax, back⟩ := S.callE hn hm hpl hF nd
  have hnew : ∀ (a : Addr) (c : Ct) (h' : Heap) (t' : Tok), g₀.get? a = none → a ∉ pl :: ((L, m) :: F).map (·.1) → At h' a c → St g L ρ (Δ' t') h' → St g L ρ ((a, c) :: Δ' t') h' := fun a c h' t' h1 h2 h3 S' => by
    have hn : h.get? a = none := by
      cases e : h.get? a with
      | none => rfl
      | some o => rw [hmax a o e h2] at h1; cases h1
    exact St.addAll (X := [(a, c)]) S S' (u t').keys (fun p hp => by rw [List.mem_singleton.mp hp]; exact ⟨hn, h3⟩) (by simp)
  refine next_c r hA (F := (L, m) :: F) ⟨hek, hef, hO⟩ (G.keeps k1) k2 (hf.keeps k1) hM ndM hz hp fun v h' tk' t' st hpl' hns hL => ?_
  have S' := back _ _ h' (u t') st hpl' hns
  cases e : (nextL bs p).1 with
  | none => rw [e] at hL; cases hL; exact q0 e _ _ _ S'
  | bad msg =>
    rw [e] at hL
    obtain ⟨a, t2, rfl, h1, h2, h3⟩ := hL
    exact q1 msg e _ _ _ _ _ (hnew _ _ _ _ h2 h3 h1 S')
  | ok r o =>
    rw [e] at hL
    obtain ⟨a, t1, t2, rfl, h1, h2, h3⟩ := hL
    exact q2 r o e _ _ _ _ _ _ (hnew _ _ _ _ h2 h3 h1 S')
theorem ab3 {Q : Unit → Shared → Prop} {n1 n2 n3 : Str} {x1 x2 x3 : Value} (q : wpAny (MM w) A (storeName env n3 x3) (fun _ s₁ => wpAny (MM w) A (storeName env n2 x2) (fun _ s₂ => wpAny (MM w) A (storeName env n1 x1) (fun _ s₃ => Q () s₃) E s₂) E s₁) E s) :
    wpAny (MM w) A (assignInOrder ([n1, n2, n3].reverse.map fun n => bindName env n) [x1, x2, x3].reverse) Q E s := by
  show wpAny _ _ (do holding [x2, x1] (bindName env n3 x3); holding [x1] (bindName env n2 x2); holding [] (bindName env n1 x1); pure ()) _ _ _
  refine wpAny_bind (wpAny_holding (wpAny_bindName (wpAny_mono q (fun _ s₁ h₁ => ?_) fun _ _ x => x)))
  refine wpAny_bind (wpAny_holding (wpAny_bindName (wpAny_mono h₁ (fun _ s₂ h₂ => ?_) fun _ _ x => x)))
  exact wpAny_bind (wpAny_holding (wpAny_bindName (wpAny_mono h₂ (fun _ s₃ h₃ => wpAny_pure h₃) fun _ _ x => x)))
end
theorem At.off {g : Heap} {a b : Addr} {c : Ct} (x : At g a c) (hb : g.get? b = none) : a ≠ b := x.ne (h := g) hb
theorem pop_ok {its0 : List Itm} {y' y : Itm} {u : List Itm} (hh : Hp (y :: u)) (hn : Nds (y :: u)) (e : y :: u = its0 ++ [y']) :
    Nds (its0.set 0 y') ∧ (its0 = [] → y' = y ∧ u = []) ∧ ∀ f, its0[0]? = some f → f = y ∧ Hp (sup y' (its0.set 0 y')) ∧ (sup y' (its0.set 0 y')).Perm u := by
  cases its0 with
  | nil =>
    cases e
    exact ⟨List.nodup_nil, fun _ => ⟨rfl, rfl⟩, fun f hf => (nomatch hf)⟩
  | cons f t =>
    cases e
    have hp1 : Hp (y :: t) := Hp.init (y := y') hh
    obtain ⟨k1, k2⟩ := replace_ok (x := y') hp1 (y := y) rfl
    have k3 : (sup y' ((y :: t).set 0 y')).Perm (t ++ [y']) := k2.trans (List.perm_append_singleton y' t).symm
    refine ⟨?_, fun q => (nomatch q), fun f hf => ?_⟩
    · show Nds (y' :: t)
      have : Nds (t ++ [y']) := (List.nodup_cons.mp (show ((y :: (t ++ [y'])).map (·.s)).Nodup from hn)).2
      exact this.perm (List.perm_append_singleton y' t).symm
    · cases hf
      exact ⟨rfl, k1, k3⟩
end
section
noncomputable def finL : Option Str → Ltr
  | none => .none
  | some m => .bad m
structure Dec (bs : List UInt8) (row : List Letter) (f : Option Str) : Prop where
  ok : ∀ (k : Nat) (l : Letter), row[k]? = some l → nextL bs (offs row k) = (.ok l.1 l.2, offs row (k + 1))
  fin : (nextL bs (offs row row.length)).1 = finL f
  sz : bs.length ≤ 100
  off : ∀ k, offs row k ≤ 100
  oct : ∀ l ∈ row, l.2.length ≤ 5
theorem Dec.at {bs : List UInt8} {row : List Letter} {f : Option Str} (d : Dec bs row f) {k : Nat} (hk : k ≤ row.length) :
    (row.length = k ∧ (nextL bs (offs row k)).1 = finL f) ∨ ∃ l, row[k]? = some l ∧ nextL bs (offs row k) = (.ok l.1 l.2, offs row (k + 1)) := by
  by_cases c : k = row.length
  · subst c; exact .inl ⟨rfl, d.fin⟩
  · exact .inr ⟨row[k], List.getElem?_eq_getElem (by omega), d.ok k _ (List.getElem?_eq_getElem (by omega))⟩
theorem fresh_of {g₀ g h h' : Heap} {L a : Addr} {ρ : List (Str × Value)} {c : Ct} {Δ : List (Addr × Ct)} {K : List Addr} (hmax : ∀ b o, h.get? b = some o → b ∉ K → g₀.get? b = some o) (k : Sub g₀ g) (S : St g L ρ ((a, c) :: Δ) h') (hK : ∀ b ∈ K, b ∈ Δ.map (·.1)) : h.get? a = none := by
  cases e : h.get? a with
  | none => rfl
  | some o =>
    have nd := S.nd
    simp only [List.map_cons, List.nodup_cons] at nd
    have := k _ _ (hmax a o e fun q => nd.1 (hK _ q))
    rw [S.fresh (.head _)] at this; cases this
theorem keysK {P Y : List (Addr × Ct)} {F : Fs} (h : 102 ∈ P.map (·.1)) : ∀ b ∈ 102 :: F.map (·.1), b ∈ (P ++ (Y ++ frE F)).map (·.1) := by
  intro b hb
  rw [List.map_append, List.map_append, frE_keys]
  rcases List.mem_cons.mp hb with rfl | hb
  · exact List.mem_append_left _ h
  · exact List.mem_append_right _ (List.mem_append_right _ hb)
noncomputable def badOf (f : Option Str) (s : Nat) : List Ev := match f with | none => [] | some m => [.bad s m]
noncomputable def startEv (rows : List (List Letter)) (fins : List (Option Str)) (s : Nat) : List Ev := if rowOf rows s = [] then badOf (fins.getD s none) s else []
noncomputable def evOf (rows : List (List Letter)) (fins : List (Option Str)) (q : Nat × Nat) : List Ev :=
  .ltr ((rowOf rows q.1).getD q.2 (0, [])).1 q.1 ((rowOf rows q.1).getD q.2 (0, [])).2 :: (if q.2 + 1 = (rowOf rows q.1).length then badOf (fins.getD q.1 none) q.1 else [])
theorem badOf_len (f : Option Str) (s : Nat) : (badOf f s).length ≤ 1 := by
  cases f <;> simp [badOf]
theorem starts_len (rows : List (List Letter)) (fins : List (Option Str)) : ∀ l : List Nat, (l.flatMap (startEv rows fins)).length ≤ l.length
  | [] => Nat.le_refl _
  | s :: r => by
    rw [List.flatMap_cons, List.length_append, List.length_cons]
    have := starts_len rows fins r
    have : (startEv rows fins s).length ≤ 1 := by
      unfold startEv
      split
      · exact badOf_len _ _
      · simp
    omega
theorem evs_len (rows : List (List Letter)) (fins : List (Option Str)) : ∀ l : List (Nat × Nat), (l.flatMap (evOf rows fins)).length ≤ 2 * l.length
  | [] => Nat.le_refl _
  | s :: r => by
    rw [List.flatMap_cons, List.length_append, List.length_cons]
    have := evs_len rows fins r
    have : (evOf rows fins s).length ≤ 2 := by
      unfold evOf
      rw [List.length_cons]
      split
      · have := badOf_len (fins.getD s.1 none) s.1; omega
      · simp
    omega
theorem plE_snoc {xs : List Pl} {a : Addr} {p : Nat} {t : Tok} : plE (xs ++ [(a, p, t)]) = plE xs ++ [(a, .list [.int p t])] := by
  unfold plE; rw [List.map_append]; rfl
noncomputable def filesI (w : World) (P : Addr → Ct → Prop) (bss : List (List UInt8)) (fs : List Addr) (xs : List Pl) : Prop :=
  fs.length = xs.length ∧ ∀ j, j < xs.length → ∃ (f : Addr) (x : Pl), fs[j]? = some f ∧ xs[j]? = some x ∧ FileP w P f x.1 (bss.getD j [])
theorem filesI.mono {w : World} {P P' : Addr → Ct → Prop} {bss : List (List UInt8)} {fs : List Addr} {xs : List Pl} (h : filesI w P bss fs xs) (k : ∀ a c, P a c → P' a c) : filesI w P' bss fs xs :=
  ⟨h.1, fun j hj => let ⟨f, x, e1, e2, e3⟩ := h.2 j hj; ⟨f, x, e1, e2, e3.mono k⟩⟩
theorem filesI.set {w : World} {P : Addr → Ct → Prop} {bss : List (List UInt8)} {fs : List Addr} {xs : List Pl} {i : Nat} {a : Addr} {p : Nat} {t : Tok} (h : filesI w P bss fs xs) (ha : ∀ x, xs[i]? = some x → x.1 = a) : filesI w P bss fs (xs.set i (a, p, t)) := by
  refine ⟨by rw [List.length_set]; exact h.1, fun j hj => ?_⟩
  rw [List.length_set] at hj
  obtain ⟨f, x, e1, e2, e3⟩ := h.2 j hj
  by_cases c : j = i
  · subst c
    refine ⟨f, (a, p, t), e1, List.getElem?_set_self hj, ?_⟩
    show FileP w P f a _
    rw [← ha x e2]; exact e3
  · exact ⟨f, x, e1, by rw [List.getElem?_set_ne (Ne.symm c)]; exact e2, e3⟩
theorem St.grown {g h : Heap} {L P : Addr} {ρ : List (Str × Value)} {Δ : List (Addr × Ct)} {tb : Obj} (S : St g L ρ Δ h) (hm : (P, .obj tb) ∈ Δ) (e : ∃ ps, tb = tabObj ps) : GrownAt P h := by
  obtain ⟨o1, ho1, e1⟩ := S.at hm
  obtain ⟨ps, rfl⟩ := e
  exact ⟨ps, ho1.trans (congrArg some e1)⟩
/-! what the loops keep, each as one word (one constructor: little to open and to close) -/
inductive MgA (w : World) (gi : Heap) (C it acc sl : Addr) (bss : List (List UInt8)) (i : Nat) (h : Heap) : Prop
  | mk (g2 : Heap) (ρ' : List (Str × Value)) (fs : List Addr) (xs : List Pl) (tb : Obj) (kk : Sub gi g2) (hxs : xs.length = i) (hF : filesI w (Nw gi g2) bss fs xs) (h0 : ∀ x ∈ xs, x.2.1 = 0)
    (htb : (i = 0 ∧ tb = tabObj #[]) ∨ ∃ k k2, tb = tabObj (fullTab k k2) ∧ Nw gi g2 k (.pr (codeP rdQ)))
    (Si : St g2 C ρ' ((it, .pr (liP sl i)) :: (102, .obj tb) :: (acc, .list (fs.map .ref)) :: plE xs) h) : MgA w gi C it acc sl bss i h
inductive MgB (w : World) (z : Shared) (gi g2 : Heap) (C it acc sl : Addr) (ρ' : List (Str × Value)) (fs : List Addr) (xs : List Pl) (b : List UInt8) (t0 : Tok) (i : Nat) (v : Value) (s' : Shared) : Prop
  | mk (g3 : Heap) (h' : Heap) (tk' : Nat) (f pl : Addr) (t' : Tok) (tb' : Obj) (e1 : v = .ref f) (e2 : s' = Z z h' tk') (k3 : Sub g2 g3) (hfp : FileP w (Nw gi g3) f pl b) (htb' : ∃ k k2, tb' = tabObj (fullTab k k2) ∧ Nw gi g3 k (.pr (codeP rdQ)))
    (S3 : St g3 C (("octets", .bytes b.toArray t0) :: ρ') ((it, .pr (liP sl (i + 1))) :: (102, .obj tb') :: (acc, .list (fs.map .ref)) :: plE (xs ++ [(pl, 0, t')])) h') : MgB w z gi g2 C it acc sl ρ' fs xs b t0 i v s'
inductive MgC (w : World) (g₃ h : Heap) (L acc hp ta it2 : Addr) (tb : Obj) (fs : List Addr) (F : Fs) (bss : List (List UInt8)) (rows : List (List Letter)) (fins : List (Option Str)) (i : Nat) (h' : Heap) : Prop
  | mk (g4 : Heap) (its : List Itm) (as : List Addr) (xs : List Pl) (k4 : Sub g₃ g4) (hxs : xs.length = rows.length) (hF4 : filesI w (At g₃) bss fs xs) (hHS : HS rows i (fun _ => 0) its (xs.map fun x => x.2.1)) (hits : ∀ x ∈ its, ItAt g4 x)
    (hAs : All2 (EvP (Nw h g4)) as ((List.range i).flatMap (startEv rows fins)))
    (S : St g4 L [("files", .ref acc), ("heap", .ref hp), ("told", .ref ta)] ((it2, .pr (riP 0 rows.length i)) :: (ta, .list (as.map .ref)) :: (hp, .list (its.map Itm.v)) :: (102, .obj tb) :: (acc, .list (fs.map .ref)) :: (plE xs ++ frE F)) h') :
    MgC w g₃ h L acc hp ta it2 tb fs F bss rows fins i h'
inductive MgD (w : World) (g₃ h : Heap) (L acc hp ta : Addr) (tb : Obj) (fs : List Addr) (F : Fs) (bss : List (List UInt8)) (rows : List (List Letter)) (fins : List (Option Str)) (os : List (Nat × Nat)) (i : Nat) (h' : Heap) : Prop
  | mk (hi : i ≤ os.length) (g4 : Heap) (its : List Itm) (as : List Addr) (xs : List Pl) (ks : Nat → Nat) (k4 : Sub g₃ g4) (hxs : xs.length = rows.length) (hF4 : filesI w (At g₃) bss fs xs) (hHS : HS rows rows.length ks its (xs.map fun x => x.2.1))
    (hTk : Tk rows os i ks) (hits : ∀ x ∈ its, ItAt g4 x) (hAs : All2 (EvP (Nw h g4)) as ((List.range rows.length).flatMap (startEv rows fins) ++ (os.take i).flatMap (evOf rows fins)))
    (S : St g4 L [("files", .ref acc), ("heap", .ref hp), ("told", .ref ta)] ((ta, .list (as.map .ref)) :: (hp, .list (its.map Itm.v)) :: (102, .obj tb) :: (acc, .list (fs.map .ref)) :: (plE xs ++ frE F)) h') :
    MgD w g₃ h L acc hp ta tb fs F bss rows fins os i h'
set_option maxRecDepth 100000 in
set_option maxHeartbeats 4000000 in
theorem merged_c {w : World} {A : Around} {E : Value → Shared → Prop} {z : Shared} {g₀ h : Heap} {tk : Nat} {Q : Value → Shared → Prop} {outer : List Env} {F : Fs} {sl : Addr} {bss : List (List UInt8)} {vs : List Value}
    {rows : List (List Letter)} {fins : List (Option Str)} {os : List (Nat × Nat)}
    (r : Rm A 8) (hA : A.frames = some outer) (hO : FOk outer F) (G : Gd w g₀) (k₀ : Sub g₀ h) (hM : ∀ x ∈ (102, Ct.obj (tabObj #[])) :: frE F, At h x.1 x.2 ∧ g₀.get? x.1 = none) (nd : (((102, Ct.obj (tabObj #[])) :: frE F).map (·.1)).Nodup)
    (hmax : ∀ b o, h.get? b = some o → b ∉ 102 :: F.map (·.1) → g₀.get? b = some o)
    (hl : At g₀ sl (.list vs)) (hvl : vs.length = bss.length) (hv : ∀ (i : Nat) (b : List UInt8), bss[i]? = some b → ∃ t, vs[i]? = some (.bytes b.toArray t))
    (hn : bss.length = rows.length) (hn1 : 1 ≤ rows.length) (hn2 : rows.length ≤ 20) (hdec : ∀ s, s < rows.length → Dec (bss.getD s []) (rowOf rows s) (fins.getD s none)) (lo : RowsLo rows) (o : Ord rows os) (hos : os.length ≤ 100)
    (q : ∀ h' tk' gf r, GrownAt 102 h' → g₀.StaysIn h' → (∀ x ∈ F, h'.Ns x.1 x.2) → gf.StaysIn h' → TellAt (Nw h gf) r ((List.range rows.length).flatMap (startEv rows fins) ++ os.flatMap (evOf rows fins)) → Q (.ref r) (Z z h' tk')) :
    wpAny (MM w) A (call (.ref 126) [.ref sl]) Q E (Z z h tk) := by
  refine' enterE hA ((102, .obj (tabObj #[])) :: frE F) [("streams", .ref sl)] r G k₀ hM nd ?ho ?hcd ?hb ?hr ?hlc ?c1 ?c2 ?c3 ?c4 ?body
  wtm_at "enter"
  case body =>
    intro A' L h₁ tk₁ r' hA' S
    refine wpAny_mono (E := NoE) ?_ (fun _ _ x => x) fun _ _ x => x.elim
    refine xs_assign_swap (names := ["files", "heap", "told"]) (by wtm_at "rf") (by wtm_at "rf") ?_
    with_reducible refine e_tuple ?_
    with_reducible refine spliced_more ?_ (by with_unfolding_all rfl)
    refine e_comp (by intro x; rfl) (by wtm_at "rf") (by wtm_at "rf") (by decide) ?_
    with_reducible refine e_local (by assumption) (by with_unfolding_all rfl) (by with_unfolding_all rfl) (by with_unfolding_all rfl) (by with_unfolding_all rfl) (by decide) ?_
    refine it_list S (by wtm_at "at") fun it h₂ _ _ S => ?_
    refine comp_atG (M := [(it, .pr (liP sl 0)), (102, .obj (tabObj #[]))]) S G (by decide) rfl fun gi C acc h₈ tk₈ Gi hs hsi hacc Si => ?_
    have hlgi : At gi sl (.list vs) := S.ing hs hl
    refine comp_loop (by intro v; rfl) (fun Q' E' q => sf_list (C := C) Si (by wtm_at "mem") q) rows.length
      (I := MgA w gi C it acc sl bss) ⟨gi, [], [], [], _, Sub.refl _, rfl, ⟨rfl, fun j hj => absurd hj (by simp)⟩, fun x hx => (nomatch hx), .inl ⟨rfl, rfl⟩, Si⟩ ?_ ?_
    · rintro i h₉ tk₉ hii ⟨g2, ρ', fs, xs, tb, kk, hxs, hF, h0, htb, Si⟩
      have hlgi := hlgi.keeps fun o e => kk _ o e
      have Gi := Gi.keeps kk
      obtain ⟨b, hb⟩ : ∃ b, bss[i]? = some b := ⟨_, List.getElem?_eq_getElem (by omega)⟩
      have hbg : bss.getD i [] = b := getD_of hb
      obtain ⟨t0, ht0⟩ := hv i b hb
      refine nx_list Si (by wtm_at "at") ht0 fun h₉ Si => ⟨_, rfl, as_name ?_⟩
      ((rename St _ _ _ _ _ => S0); (with_reducible refine s_store S0 (by with_unfolding_all rfl) (by with_unfolding_all rfl) (by with_unfolding_all rfl) ?_); (intro _ _; clear S0))
      with_reducible refine wpAny_Call_NameR ?_
      with_reducible refine e_glob (by assumption) (by assumption) (by k_is) (by with_unfolding_all rfl) (by with_unfolding_all rfl) (by with_unfolding_all rfl) (by decide) ?_
      with_reducible refine c_def (by assumption) (by k_is) (by with_unfolding_all rfl) (by with_unfolding_all rfl) ?_
      with_reducible refine spliced_more ?_ (by with_unfolding_all rfl)
      with_reducible refine e_local (by assumption) (by with_unfolding_all rfl) (by with_unfolding_all rfl) (by with_unfolding_all rfl) (by with_unfolding_all rfl) (by decide) ?_
      with_reducible refine spliced_none ?_
      with_reducible refine c_in (by assumption) (by assumption) ?_
      rename St _ _ _ _ _ => Si
      have hbz : b.length ≤ 1000000 := by have := (hdec i (by omega)).sz; rw [hbg] at this; omega
      refine wpAny_mono (Q := MgB w z gi g2 C it acc sl ρ' fs xs b t0 i) ?_ ?_ fun _ _ x => x
      · rcases htb with ⟨_, rfl⟩ | ⟨k, k2, rfl, hkk⟩
        · refine file_miss (r'.less (by omega)) Gi Si.keep (Si.at (by wtm_at "mem")) (Si.fresh (c := .obj (tabObj #[])) (by wtm_at "mem")) hbz fun h' tk' f k k2 d rd co cp pl t' hk hat hX ndX => ?_
          have S1 := Si.call1 (c' := .obj (tabObj (fullTab k k2))) (by wtm_at "up") hk hat
          have S2 := St.addAll Si S1 rfl hX ndX
          have S2 := S2.perm (Δ' := [(k, .pr (codeP rdQ)), (d, .pr (nsP fun y => if y = "read" then some (.ref rd) else none)), (f, .pr (fnD d)), (rd, .pr (RdP w co cp k)), (cp, .cell (some (.ref pl))), (co, .cell (some (.bytes b.toArray t0)))] ++ ((pl, .list [.int (0 : Nat) t']) :: (it, .pr (liP sl (i + 1))) :: (102, .obj (tabObj (fullTab k k2))) :: (acc, .list (fs.map .ref)) :: plE xs)) (by wtm_at "perm")
          have fr := fun (p : Addr × Ct) hp => (S2.nw p (List.mem_append_left _ hp)).2.2
          obtain ⟨g3, S3, k3, hD, _⟩ := St.seal S2
          have nw : ∀ (a : Addr) (c : Ct), _ → Nw gi g3 a c := fun a c hp => ⟨hD (a, c) hp, kk.none (fr (a, c) hp)⟩
          refine ⟨g3, h', tk', f, pl, t', _, rfl, rfl, k3, ⟨d, rd, co, cp, k, t0, nw _ _ (by wtm_at "mem"), nw _ _ (by wtm_at "mem"), nw _ _ (by wtm_at "mem"), nw _ _ (by wtm_at "mem"), nw _ _ (by wtm_at "mem"), nw _ _ (by wtm_at "mem")⟩, ⟨k, k2, rfl, nw _ _ (by wtm_at "mem")⟩, ?_⟩
          rw [plE_snoc]
          exact S3.perm (Δ' := ((it, .pr (liP sl (i + 1))) :: (102, .obj (tabObj (fullTab k k2))) :: (acc, .list (fs.map .ref)) :: plE xs) ++ [(pl, .list [.int (0 : Nat) t'])]) (List.perm_append_singleton _ _)
        · refine file_hit (r'.less (by omega)) Gi Si.keep (Si.at (by wtm_at "mem")) (Si.fresh (c := .obj (tabObj (fullTab k k2))) (by wtm_at "mem")) hbz fun h' tk' f d rd co cp pl t' hk hat hX ndX => ?_
          have S1 := Si.call1 (c' := .obj (tabObj (fullTab k k2))) (by wtm_at "up") hk hat
          have S2 := St.addAll Si S1 rfl hX ndX
          have S2 := S2.perm (Δ' := [(d, .pr (nsP fun y => if y = "read" then some (.ref rd) else none)), (f, .pr (fnD d)), (rd, .pr (RdP w co cp k)), (cp, .cell (some (.ref pl))), (co, .cell (some (.bytes b.toArray t0)))] ++ ((pl, .list [.int (0 : Nat) t']) :: (it, .pr (liP sl (i + 1))) :: (102, .obj (tabObj (fullTab k k2))) :: (acc, .list (fs.map .ref)) :: plE xs)) (by wtm_at "perm")
          have fr := fun (p : Addr × Ct) hp => (S2.nw p (List.mem_append_left _ hp)).2.2
          obtain ⟨g3, S3, k3, hD, _⟩ := St.seal S2
          have nw : ∀ (a : Addr) (c : Ct), _ → Nw gi g3 a c := fun a c hp => ⟨hD (a, c) hp, kk.none (fr (a, c) hp)⟩
          refine ⟨g3, h', tk', f, pl, t', _, rfl, rfl, k3, ⟨d, rd, co, cp, k, t0, nw _ _ (by wtm_at "mem"), nw _ _ (by wtm_at "mem"), nw _ _ (by wtm_at "mem"), hkk.more k3, nw _ _ (by wtm_at "mem"), nw _ _ (by wtm_at "mem")⟩, ⟨k, k2, rfl, hkk.more k3⟩, ?_⟩
          rw [plE_snoc]
          exact S3.perm (Δ' := ((it, .pr (liP sl (i + 1))) :: (102, .obj (tabObj (fullTab k k2))) :: (acc, .list (fs.map .ref)) :: plE xs) ++ [(pl, .list [.int (0 : Nat) t'])]) (List.perm_append_singleton _ _)
      · rintro v s' ⟨g3, h', tk', f, pl, t', tb', rfl, rfl, k3, hfp, htb', S3⟩
        have hfl : fs.length ≤ 20 := by rw [hF.1]; omega
        ((rename St _ _ _ _ _ => S0); (with_reducible refine s_append S0 (by wtm_at "mem") (by wtm_at "up") (by wtm_at "small") ?_); (intro _ _; clear S0))
        rename St _ _ _ _ _ => S3
        rw [show fs.map Value.ref ++ [Value.ref f] = (fs ++ [f]).map Value.ref from by simp] at S3
        refine ⟨_, _, rfl, g3, _, fs ++ [f], xs ++ [(pl, 0, t')], tb', kk.trans k3, by simp [hxs], ⟨by simp [hF.1], fun j hj => ?_⟩, fun x hx => ?_, .inr htb', S3⟩
        · by_cases c : j < xs.length
          · obtain ⟨f', x, e1, e2, e3⟩ := hF.2 j c
            exact ⟨f', x, by rw [List.getElem?_append_left (by rw [hF.1]; exact c)]; exact e1, by rw [List.getElem?_append_left c]; exact e2, e3.mono fun a c x => x.more k3⟩
          · have hj' : j = i := by simp at hj; omega
            subst hj'
            refine ⟨f, (pl, 0, t'), by rw [List.getElem?_append_right (by rw [hF.1]; omega), hF.1, hxs, Nat.sub_self]; rfl, by rw [List.getElem?_append_right (by omega), hxs, Nat.sub_self]; rfl, ?_⟩
            rw [hbg]
            exact hfp
        · rcases List.mem_append.mp hx with hx | hx
          · exact h0 x hx
          · rw [List.mem_singleton.mp hx]
    · rintro h₉ tk₉ ⟨g2, ρ', fs, xs, tb, kk, hxs, hF, h0, htb, Si⟩
      have hlgi := hlgi.keeps fun o e => kk _ o e
      refine nx_list_end r'.hh Si (by wtm_at "at") (by omega) fun h₁₀ Si => ⟨rfl, rfl, g2, h₁₀, _, _, _, rfl, kk, Si, fun g₃ h₁₁ kg3 nw S => ?_⟩
      have hF3 : filesI w (Nw g₀ g₃) bss fs xs := ⟨hF.1, fun j hj => let ⟨f, x, e1, e2, e3⟩ := hF.2 j hj; ⟨f, x, e1, e2, e3.mono nw⟩⟩
      have G3 := G.keeps kg3
      have S := S.perm (Δ' := (102, .obj tb) :: (acc, .list (fs.map .ref)) :: (plE xs ++ frE F)) (List.Perm.refl _)
      clear Si hF nw
      with_reducible refine spliced_more ?_ (by with_unfolding_all rfl)
      with_reducible refine e_list ?_
      with_reducible refine spliced_none ?_
      ((rename St _ _ _ _ _ => S0); (with_reducible refine s_newList S0 (by wtm_at "small") ?_); (intro _ _ _ _ _; clear S0))
      with_reducible refine spliced_more ?_ (by with_unfolding_all rfl)
      with_reducible refine e_list ?_
      with_reducible refine spliced_none ?_
      ((rename St _ _ _ _ _ => S0); (with_reducible refine s_newList S0 (by wtm_at "small") ?_); (intro _ _ _ _ _; clear S0))
      with_reducible refine spliced_none ?_
      ((rename St _ _ _ _ _ => S0); (with_reducible refine s_newTuple S0 (by wtm_at "small") ?_); (intro _ _ _ _ _; clear S0))
      rename_i hp _ _ _ ta _ _ _ _ _ _ _ S
      refine un_tup r'.hh S (by wtm_at "at") rfl fun h₁₂ S => ?_
      refine ab3 ?_
      ((rename St _ _ _ _ _ => S0); (with_reducible refine s_store S0 (by with_unfolding_all rfl) (by with_unfolding_all rfl) (by with_unfolding_all rfl) ?_); (intro _ _; clear S0))
      ((rename St _ _ _ _ _ => S0); (with_reducible refine s_store S0 (by with_unfolding_all rfl) (by with_unfolding_all rfl) (by with_unfolding_all rfl) ?_); (intro _ _; clear S0))
      ((rename St _ _ _ _ _ => S0); (with_reducible refine s_store S0 (by with_unfolding_all rfl) (by with_unfolding_all rfl) (by with_unfolding_all rfl) ?_); (intro _ _; clear S0))
      rename St _ _ _ _ _ => S
      have S := S.sub (Δ' := (ta, .list []) :: (hp, .list []) :: (102, .obj tb) :: (acc, .list (fs.map .ref)) :: (plE xs ++ frE F)) (by wtm_at "sub")
      have hn3 : (List.map Value.ref fs).length = rows.length := by rw [List.length_map, hF3.1, hxs]
      have hps : xs.map (fun x => x.2.1) = List.replicate rows.length 0 := by
        rw [← hxs]
        refine List.ext_getElem (by simp) fun i h1 h2 => ?_
        rw [List.getElem_map, List.getElem_replicate]
        exact h0 _ (List.getElem_mem _)
      refine xs_for (by intro x; rfl) ?_
      with_reducible refine wpAny_Call_NameR ?_
      with_reducible refine e_built (by assumption) (by assumption) (by k_is) (by wtm_at "boot") (by decide) (by with_unfolding_all rfl) (by with_unfolding_all rfl) (by with_unfolding_all rfl) (by with_unfolding_all rfl) (by decide) ?_
      with_reducible refine callWith_type1 ?_ (by with_unfolding_all rfl) (by with_unfolding_all rfl)
      with_reducible refine spliced_more ?_ (by with_unfolding_all rfl)
      with_reducible refine wpAny_Call_NameR ?_
      with_reducible refine e_built (by assumption) (by assumption) (by k_is) (by wtm_at "boot") (by decide) (by with_unfolding_all rfl) (by with_unfolding_all rfl) (by with_unfolding_all rfl) (by with_unfolding_all rfl) (by decide) ?_
      with_reducible refine callWith_builtin1 ?_ (by with_unfolding_all rfl) (by with_unfolding_all rfl)
      with_reducible refine spliced_more ?_ (by with_unfolding_all rfl)
      with_reducible refine e_local (by assumption) (by with_unfolding_all rfl) (by with_unfolding_all rfl) (by with_unfolding_all rfl) (by with_unfolding_all rfl) (by decide) ?_
      with_reducible refine spliced_none ?_
      with_reducible refine l_len (by wtm_at "at") (by first | omega | (simp; done) | (simp; omega)) ?_
      with_reducible refine spliced_none ?_
      rename St _ _ _ _ _ => S
      rw [hn3]
      refine s_range S fun rg h₁₃ S => ?_
      refine it_range S (by wtm_at "at") (by omega) fun it2 h₁₄ _ _ S => ?_
      have S := S.sub (Δ' := (it2, .pr (riP 0 rows.length 0)) :: (ta, .list []) :: (hp, .list []) :: (102, .obj tb) :: (acc, .list (fs.map .ref)) :: (plE xs ++ frE F)) (by wtm_at "sub")
      refine for_at rows.length (MgC w g₃ h L acc hp ta it2 tb fs F bss rows fins)
        ⟨g₃, [], [], xs, Sub.refl _, hxs, hF3.mono fun _ _ x => x.1, by rw [hps]; exact HS.start _ rfl, fun x hx => (nomatch hx), All2.nil, S.names (by wtm_at "nm")⟩ ?_ ?_
      · rintro i h₁₅ tk₁₅ hi ⟨g4, its, as, xs, k4, hxs, hF4, hHS, hits, hAs, S⟩
        have G4 := G3.keeps k4
        obtain ⟨f, x, e1, e2, e3⟩ := hF4.2 i (by omega)
        obtain ⟨pl, p0, t0⟩ := x
        have hp0 : p0 = 0 := by
          have := hHS.rest i (Nat.le_refl _) hi
          rw [getD_of (l := xs.map fun x => x.2.1) (by rw [List.getElem?_map, e2]; rfl)] at this
          exact this
        subst hp0
        have hd := hdec i hi
        have hpg := plE_get e2
        have hsz := hd.sz
        refine nx_range S hi fun h₁₆ S => ⟨_, rfl, lo_name (as_name ?_)⟩
        rw [Int.zero_add]
        ((rename St _ _ _ _ _ => S0); (with_reducible refine s_store S0 (by with_unfolding_all rfl) (by with_unfolding_all rfl) (by with_unfolding_all rfl) ?_); (intro _ _; clear S0))
        with_reducible refine xs_assign (by with_unfolding_all rfl) ?_
        with_reducible refine wpAny_Call_NameR ?_
        with_reducible refine e_glob (by assumption) (by assumption) (by k_is) (by with_unfolding_all rfl) (by with_unfolding_all rfl) (by with_unfolding_all rfl) (by decide) ?_
        with_reducible refine c_def (by assumption) (by k_is) (by with_unfolding_all rfl) (by with_unfolding_all rfl) ?_
        with_reducible refine spliced_more ?_ (by with_unfolding_all rfl)
        with_reducible refine Subscript_ ?_
        with_reducible refine e_local (by assumption) (by with_unfolding_all rfl) (by with_unfolding_all rfl) (by with_unfolding_all rfl) (by with_unfolding_all rfl) (by decide) ?_
        with_reducible refine e_local (by assumption) (by with_unfolding_all rfl) (by with_unfolding_all rfl) (by with_unfolding_all rfl) (by with_unfolding_all rfl) (by decide) ?_
        rename St _ _ _ _ _ => S
        refine e_item (by wtm_at "at") (by omega) (by omega) (v := .ref f) (by rw [Int.toNat_natCast, List.getElem?_map, e1]; rfl) (by wtm_at "rf") ?_
        with_reducible refine spliced_none ?_
        with_reducible refine c_in (by assumption) (by assumption) ?_
        have hmF : ∀ (P : List (Addr × Ct)), ∀ x ∈ frE F, x ∈ P ++ (plE xs ++ frE F) := fun P x hx => List.mem_append_right _ (List.mem_append_right _ hx)
        have hmp : ∀ (P : List (Addr × Ct)), (pl, Ct.list [.int (0 : Nat) t0]) ∈ P ++ (plE xs ++ frE F) := fun P => List.mem_append_right _ (List.mem_append_left _ (List.mem_of_getElem? hpg))
        have ndp : (pl :: F.map (·.1)).Nodup := by
          have nd := S.nd
          rw [show ∀ (a b c d e : Addr × Ct) (Y : List (Addr × Ct)), a :: b :: c :: d :: e :: Y = [a, b, c, d, e] ++ Y from fun _ _ _ _ _ _ => rfl, List.map_append, List.nodup_append] at nd
          have nd2 := nd.2.1
          rw [List.map_append, frE_keys, List.nodup_append] at nd2
          exact List.nodup_cons.mpr ⟨fun q => nd2.2.2 pl (List.mem_map.mpr ⟨_, List.mem_of_getElem? hpg, rfl⟩) pl q rfl, nd2.2.1⟩
        have hat := hd.at (Nat.zero_le _)
        rw [show offs (rowOf rows i) 0 = 0 from by simp [offs]] at hat
        refine next_on (Δ' := fun t' => (it2, .pr (riP 0 rows.length (i + 1))) :: (ta, .list (as.map .ref)) :: (hp, .list (its.map Itm.v)) :: (102, .obj tb) :: (acc, .list (fs.map .ref)) :: (plE (xs.set i (pl, (nextL (bss.getD i []) 0).2, t')) ++ frE F)) (r'.less (by omega)) hA' (fun q => ScopeKind.noConfusion q) rfl hO G4 S ((e3.mono fun _ _ x => x.keeps fun o e => k4 _ o e).at) (hmp [_, _, _, _, _]) (hmF [_, _, _, _, _]) ndp (by omega) (by omega)
          (fun t' => by rw [← plE_set]; exact Up.app (X := [_, _, _, _, _]) (Up.appr (Up.idx hpg))) ?_ ?_ ?_
        · intro e h' tk' t' S
          have hrow : rowOf rows i = [] ∧ fins.getD i none = none := by
            rcases hat with ⟨h1, h2⟩ | ⟨l, _, h2⟩
            · refine ⟨List.length_eq_zero_iff.mp h1, ?_⟩
              rw [e] at h2
              cases c : fins.getD i none with
              | none => rfl
              | some m => rw [c] at h2; cases h2
            · rw [h2] at e; cases e
          ((rename St _ _ _ _ _ => S0); (with_reducible refine s_store S0 (by with_unfolding_all rfl) (by with_unfolding_all rfl) (by with_unfolding_all rfl) ?_); (intro _ _; clear S0))
          with_reducible refine xs_if ?_
          with_reducible refine wpAny_isTrue_BoolOp ?_
          with_reducible refine wpAny_allTrue_And_cons ?_
          with_reducible refine wpAny_isTrue_Compare1 ?_ (by with_unfolding_all rfl)
          with_reducible refine e_local (by assumption) (by with_unfolding_all rfl) (by with_unfolding_all rfl) (by with_unfolding_all rfl) (by with_unfolding_all rfl) (by decide) ?_
          with_reducible refine z_none ?_
          with_reducible refine z_isnot_ff (by with_unfolding_all rfl) (by with_unfolding_all rfl) ?_
          with_reducible refine wpAny_truthy_bool ?_
          with_reducible refine i_ff ?_
          with_reducible refine i_ff ?_
          with_reducible refine xs_if ?_
          with_reducible refine wpAny_isTrue_Compare1 ?_ (by with_unfolding_all rfl)
          with_reducible refine e_local (by assumption) (by with_unfolding_all rfl) (by with_unfolding_all rfl) (by with_unfolding_all rfl) (by with_unfolding_all rfl) (by decide) ?_
          with_reducible refine z_none ?_
          with_reducible refine z_isnot_ff (by with_unfolding_all rfl) (by with_unfolding_all rfl) ?_
          with_reducible refine wpAny_truthy_bool ?_
          with_reducible refine i_ff ?_
          with_reducible refine xs_nil ?_
          with_reducible refine after_next ?_
          with_reducible refine xs_nil ?_
          with_reducible refine after_next ?_
          with_reducible refine xs_nil ?_
          rename St _ _ _ _ _ => S
          refine turnf_next ⟨g4, its, as, xs.set i (pl, (nextL (bss.getD i []) 0).2, t'), k4, by rw [List.length_set]; exact hxs, hF4.set fun x e => (by rw [e2] at e; cases e; rfl), ?_, hits, ?_, S.names (by wtm_at "nm")⟩
          · rw [List.map_set]
            exact hHS.pass hi hrow.1 _
          · rw [List.range_succ, List.flatMap_append, List.flatMap_singleton]
            rw [show startEv rows fins i = [] from by unfold startEv; rw [if_pos hrow.1, hrow.2]; rfl, List.append_nil]
            exact hAs
        · intro msg e a h' tk' t' t'' S
          have hrow : rowOf rows i = [] ∧ fins.getD i none = some msg := by
            rcases hat with ⟨h1, h2⟩ | ⟨l, _, h2⟩
            · refine ⟨List.length_eq_zero_iff.mp h1, ?_⟩
              rw [e] at h2
              cases c : fins.getD i none with
              | none => rw [c] at h2; cases h2
              | some m => rw [c] at h2; cases h2; rfl
            · rw [h2] at e; cases e
          have hasl : as.length ≤ 20 := by
            have h1 := starts_len rows fins (List.range i)
            rw [List.length_range, ← hAs.1] at h1
            omega
          ((rename St _ _ _ _ _ => S0); (with_reducible refine s_store S0 (by with_unfolding_all rfl) (by with_unfolding_all rfl) (by with_unfolding_all rfl) ?_); (intro _ _; clear S0))
          with_reducible refine xs_if ?_
          with_reducible refine wpAny_isTrue_BoolOp ?_
          with_reducible refine wpAny_allTrue_And_cons ?_
          with_reducible refine wpAny_isTrue_Compare1 ?_ (by with_unfolding_all rfl)
          with_reducible refine e_local (by assumption) (by with_unfolding_all rfl) (by with_unfolding_all rfl) (by with_unfolding_all rfl) (by with_unfolding_all rfl) (by decide) ?_
          with_reducible refine z_none ?_
          with_reducible refine z_isnot_tt (by with_unfolding_all rfl) (by with_unfolding_all rfl) ?_
          with_reducible refine wpAny_truthy_bool ?_
          with_reducible refine i_tt ?_
          with_reducible refine wpAny_allTrue_And_cons ?_
          with_reducible refine wpAny_isTrue_Compare1 ?_ (by with_unfolding_all rfl)
          with_reducible refine Subscript_ ?_
          with_reducible refine e_local (by assumption) (by with_unfolding_all rfl) (by with_unfolding_all rfl) (by with_unfolding_all rfl) (by with_unfolding_all rfl) (by decide) ?_
          with_reducible refine z_int ?_
          refine e_item (by wtm_at "at") (by omega) (by omega) (v := .none) (by rfl) (by wtm_at "rf") ?_
          with_reducible refine z_none ?_
          with_reducible refine z_is_tt (by with_unfolding_all rfl) (by with_unfolding_all rfl) ?_
          with_reducible refine wpAny_truthy_bool ?_
          with_reducible refine i_tt ?_
          with_reducible refine wpAny_allTrue_And_nil ?_
          with_reducible refine i_tt ?_
          with_reducible refine xs_expr (by with_unfolding_all rfl) (by with_unfolding_all rfl) ?_
          (with_reducible refine wpAny_Call_append (by with_unfolding_all rfl) (by with_unfolding_all rfl) (by with_unfolding_all rfl) (by with_unfolding_all rfl) ?_)
          with_reducible refine e_local (by assumption) (by with_unfolding_all rfl) (by with_unfolding_all rfl) (by with_unfolding_all rfl) (by with_unfolding_all rfl) (by decide) ?_
          with_reducible refine ex_append (by wtm_at "at") ?_
          with_reducible refine e_list ?_
          with_reducible refine spliced_more ?_ (by with_unfolding_all rfl)
          with_reducible refine e_local (by assumption) (by with_unfolding_all rfl) (by with_unfolding_all rfl) (by with_unfolding_all rfl) (by with_unfolding_all rfl) (by decide) ?_
          with_reducible refine spliced_more ?_ (by with_unfolding_all rfl)
          with_reducible refine Subscript_ ?_
          with_reducible refine e_local (by assumption) (by with_unfolding_all rfl) (by with_unfolding_all rfl) (by with_unfolding_all rfl) (by with_unfolding_all rfl) (by decide) ?_
          with_reducible refine z_int ?_
          refine e_item (by wtm_at "at") (by omega) (by omega) (v := .str msg t'') (by rfl) (by wtm_at "rf") ?_
          with_reducible refine spliced_none ?_
          ((rename St _ _ _ _ _ => S0); (with_reducible refine s_newList S0 (by wtm_at "small") ?_); (intro _ _ _ _ _; clear S0))
          ((rename St _ _ _ _ _ => S0); (with_reducible refine s_append S0 (by wtm_at "mem") (by wtm_at "up") (by wtm_at "small") ?_); (intro _ _; clear S0))
          with_reducible refine xs_nil ?_
          with_reducible refine after_next ?_
          with_reducible refine xs_nil ?_
          rename Addr => ea
          rename St _ _ _ _ _ => S
          rw [show as.map Value.ref ++ [Value.ref ea] = (as ++ [ea]).map Value.ref from by simp] at S
          have S := S.sub (Δ' := (ea, .list [.int i tk₁₅, .str msg t'']) :: (it2, .pr (riP 0 rows.length (i + 1))) :: (ta, .list ((as ++ [ea]).map .ref)) :: (hp, .list (its.map Itm.v)) :: (102, .obj tb) :: (acc, .list (fs.map .ref)) :: (plE (xs.set i (pl, (nextL (bss.getD i []) 0).2, t')) ++ frE F)) (by wtm_at "sub")
          have hfr := fresh_of hmax (kg3.trans k4) S (keysK (P := [_, _, _, _, _]) (by simp))
          obtain ⟨g5, S, k5, nw5⟩ := S.put
          refine turnf_next ⟨g5, its, as ++ [ea], xs.set i (pl, (nextL (bss.getD i []) 0).2, t'), k4.trans k5, by rw [List.length_set]; exact hxs, hF4.set fun x e => (by rw [e2] at e; cases e; rfl), ?_, fun x hx => ?_, ?_, S.names (by wtm_at "nm")⟩
          · rw [List.map_set]
            exact hHS.pass hi hrow.1 _
          · obtain ⟨u1, u2, u3, hA⟩ := hits x hx
            exact ⟨u1, u2, u3, hA.keeps fun o e => k5 _ o e⟩
          · rw [List.range_succ, List.flatMap_append, List.flatMap_singleton]
            rw [show startEv rows fins i = [.bad i msg] from by unfold startEv; rw [if_pos hrow.1, hrow.2]; rfl]
            exact (hAs.mono fun a ev x => x.mono fun a c x => x.more k5).snoc ⟨_, _, nw5.1, hfr⟩
        · intro r o e a h' tk' t' t1 t2 S
          obtain ⟨l, hl0, hl1⟩ : ∃ l, (rowOf rows i)[0]? = some l ∧ nextL (bss.getD i []) 0 = (.ok l.1 l.2, offs (rowOf rows i) 1) := by
            rcases hat with ⟨h1, h2⟩ | h
            · rw [e] at h2
              cases c : fins.getD i none with
              | none => rw [c] at h2; cases h2
              | some m => rw [c] at h2; cases h2
            · exact h
          rw [hl1] at e S
          cases e
          dsimp only at S
          have hil := hHS.few
          ((rename St _ _ _ _ _ => S0); (with_reducible refine s_store S0 (by with_unfolding_all rfl) (by with_unfolding_all rfl) (by with_unfolding_all rfl) ?_); (intro _ _; clear S0))
          with_reducible refine xs_if ?_
          with_reducible refine wpAny_isTrue_BoolOp ?_
          with_reducible refine wpAny_allTrue_And_cons ?_
          with_reducible refine wpAny_isTrue_Compare1 ?_ (by with_unfolding_all rfl)
          with_reducible refine e_local (by assumption) (by with_unfolding_all rfl) (by with_unfolding_all rfl) (by with_unfolding_all rfl) (by with_unfolding_all rfl) (by decide) ?_
          with_reducible refine z_none ?_
          with_reducible refine z_isnot_tt (by with_unfolding_all rfl) (by with_unfolding_all rfl) ?_
          with_reducible refine wpAny_truthy_bool ?_
          with_reducible refine i_tt ?_
          with_reducible refine wpAny_allTrue_And_cons ?_
          with_reducible refine wpAny_isTrue_Compare1 ?_ (by with_unfolding_all rfl)
          with_reducible refine Subscript_ ?_
          with_reducible refine e_local (by assumption) (by with_unfolding_all rfl) (by with_unfolding_all rfl) (by with_unfolding_all rfl) (by with_unfolding_all rfl) (by decide) ?_
          with_reducible refine z_int ?_
          refine e_item (by wtm_at "at") (by omega) (by omega) (v := .int l.1 t1) (by rfl) (by wtm_at "rf") ?_
          with_reducible refine z_none ?_
          with_reducible refine z_is_ff (by with_unfolding_all rfl) (by with_unfolding_all rfl) ?_
          with_reducible refine wpAny_truthy_bool ?_
          with_reducible refine i_ff ?_
          with_reducible refine i_ff ?_
          with_reducible refine xs_if ?_
          with_reducible refine wpAny_isTrue_Compare1 ?_ (by with_unfolding_all rfl)
          with_reducible refine e_local (by assumption) (by with_unfolding_all rfl) (by with_unfolding_all rfl) (by with_unfolding_all rfl) (by with_unfolding_all rfl) (by decide) ?_
          with_reducible refine z_none ?_
          with_reducible refine z_isnot_tt (by with_unfolding_all rfl) (by with_unfolding_all rfl) ?_
          with_reducible refine wpAny_truthy_bool ?_
          with_reducible refine i_tt ?_
          with_reducible refine xs_expr (by with_unfolding_all rfl) (by with_unfolding_all rfl) ?_
          with_reducible refine wpAny_Call_NameR ?_
          with_reducible refine e_glob (by assumption) (by assumption) (by k_is) (by with_unfolding_all rfl) (by with_unfolding_all rfl) (by with_unfolding_all rfl) (by decide) ?_
          with_reducible refine c_def (by assumption) (by k_is) (by with_unfolding_all rfl) (by with_unfolding_all rfl) ?_
          with_reducible refine spliced_more ?_ (by with_unfolding_all rfl)
          with_reducible refine e_local (by assumption) (by with_unfolding_all rfl) (by with_unfolding_all rfl) (by with_unfolding_all rfl) (by with_unfolding_all rfl) (by decide) ?_
          with_reducible refine spliced_more ?_ (by with_unfolding_all rfl)
          with_reducible refine e_list ?_
          with_reducible refine spliced_more ?_ (by with_unfolding_all rfl)
          with_reducible refine Subscript_ ?_
          with_reducible refine e_local (by assumption) (by with_unfolding_all rfl) (by with_unfolding_all rfl) (by with_unfolding_all rfl) (by with_unfolding_all rfl) (by decide) ?_
          with_reducible refine z_int ?_
          refine e_item (by wtm_at "at") (by omega) (by omega) (v := .int l.1 t1) (by rfl) (by wtm_at "rf") ?_
          with_reducible refine spliced_more ?_ (by with_unfolding_all rfl)
          with_reducible refine e_local (by assumption) (by with_unfolding_all rfl) (by with_unfolding_all rfl) (by with_unfolding_all rfl) (by with_unfolding_all rfl) (by decide) ?_
          with_reducible refine spliced_more ?_ (by with_unfolding_all rfl)
          with_reducible refine Subscript_ ?_
          with_reducible refine e_local (by assumption) (by with_unfolding_all rfl) (by with_unfolding_all rfl) (by with_unfolding_all rfl) (by with_unfolding_all rfl) (by decide) ?_
          with_reducible refine z_int ?_
          refine e_item (by wtm_at "at") (by omega) (by omega) (v := .bytes l.2.toArray t2) (by rfl) (by wtm_at "rf") ?_
          with_reducible refine spliced_none ?_
          ((rename St _ _ _ _ _ => S0); (with_reducible refine s_newList S0 (by wtm_at "small") ?_); (intro _ _ _ _ _; clear S0))
          with_reducible refine spliced_none ?_
          with_reducible refine c_in (by assumption) (by assumption) ?_
          rename Addr => xa
          rename St _ _ _ _ _ => S
          have S := S.sub (Δ' := (xa, .list [.int l.1 t1, .int i tk₁₅, .bytes l.2.toArray t2]) :: (it2, .pr (riP 0 rows.length (i + 1))) :: (ta, .list (as.map .ref)) :: (hp, .list (its.map Itm.v)) :: (102, .obj tb) :: (acc, .list (fs.map .ref)) :: (plE (xs.set i (pl, offs (rowOf rows i) 1, t')) ++ frE F)) (by wtm_at "sub")
          obtain ⟨g5, S, k5, nw5⟩ := S.put
          obtain ⟨hnds, hHS'⟩ := hHS.enter hi (x := ⟨xa, l.1, i, l.2.toArray⟩) hl0 ⟨rfl, rfl, rfl⟩
          have hits5 : ∀ x ∈ its, ItAt g5 x := fun x hx => by
            obtain ⟨u1, u2, u3, hA⟩ := hits x hx
            exact ⟨u1, u2, u3, hA.keeps fun o e => k5 _ o e⟩
          have hx5 : ItAt g5 ⟨xa, l.1, i, l.2.toArray⟩ := ⟨_, _, _, nw5.1⟩
          have hhp5 : g5.get? hp = none := S.fresh (by wtm_at "mem")
          have iold : ∀ x, ItAt g5 x → ItAt _ x := fun x hx => let ⟨u1, u2, u3, hA⟩ := hx; ⟨u1, u2, u3, S.old hA⟩
          refine heappush_c (its := its) (x := ⟨xa, l.1, i, l.2.toArray⟩) (r'.less (by omega)) (G4.keeps k5) S.keep hhp5 (S.at (by wtm_at "mem")) (fun x hx => iold x (hits5 x hx)) (fun x hx => let ⟨_, _, _, hA⟩ := hits5 x hx; hA.off hhp5) (iold _ hx5) (nw5.1.off hhp5) hnds (by omega) fun h'' tk'' kp hat' => ?_
          have S := S.call1 (c' := .list ((hpush ⟨xa, l.1, i, l.2.toArray⟩ its).map Itm.v)) (by wtm_at "up") kp hat'
          with_reducible refine xs_nil ?_
          with_reducible refine after_next ?_
          with_reducible refine xs_nil ?_
          with_reducible refine after_next ?_
          with_reducible refine xs_nil ?_
          refine turnf_next ⟨g5, hpush ⟨xa, l.1, i, l.2.toArray⟩ its, as, xs.set i (pl, offs (rowOf rows i) 1, t'), k4.trans k5, by rw [List.length_set]; exact hxs, hF4.set fun x e => (by rw [e2] at e; cases e; rfl), ?_, fun x hx => ?_, ?_, S.names (by wtm_at "nm")⟩
          · rw [List.map_set]
            exact hHS'
          · rcases List.mem_append.mp ((push_ok _ hHS.hp).2.mem_iff.mp hx) with h1 | h1
            · exact hits5 x h1
            · rw [List.mem_singleton.mp h1]; exact hx5
          · rw [List.range_succ, List.flatMap_append, List.flatMap_singleton]
            rw [show startEv rows fins i = [] from by unfold startEv; rw [if_neg (fun q => by rw [q] at hl0; cases hl0)], List.append_nil]
            exact hAs.mono fun a ev x => x.mono fun a c x => x.more k5
      · rintro h₁₅ tk₁₅ ⟨g4, its, as, xs, k4, hxs, hF4, hHS, hits, hAs, S⟩
        refine nx_range_end r'.hh S (Nat.le_refl _) fun h₁₆ S => ⟨rfl, ?_⟩
        refine xs_while (σ := Nat) (MgD w g₃ h L acc hp ta tb fs F bss rows fins os) (fun i => os.length - i) 0
          ⟨Nat.zero_le _, g4, its, as, xs, _, k4, hxs, hF4, hHS, Tk.start, hits, by rw [List.take_zero, List.flatMap_nil, List.append_nil]; exact hAs, S⟩ ?_
        clear hHS hits hAs hF4 k4
        rintro i h₁₇ tk₁₇ ⟨hi, g4, its, as, xs, ks, k4, hxs, hF4, hHS, hTk, hits, hAs, S⟩
        have G4 := G3.keeps k4
        have hil := hHS.few
        have hasl : as.length ≤ 300 := by
          have h1 := starts_len rows fins (List.range rows.length)
          have h2 := evs_len rows fins (os.take i)
          rw [List.length_range] at h1
          rw [hAs.1, List.length_append]
          rw [List.length_take] at h2
          omega
        with_reducible refine wpAny_isTrue_Compare1 ?_ (by with_unfolding_all rfl)
        with_reducible refine e_local (by assumption) (by with_unfolding_all rfl) (by with_unfolding_all rfl) (by with_unfolding_all rfl) (by with_unfolding_all rfl) (by decide) ?_
        with_reducible refine e_list ?_
        with_reducible refine spliced_none ?_
        ((rename St _ _ _ _ _ => S0); (with_reducible refine s_newList S0 (by wtm_at "small") ?_); (intro _ _ _ _ _; clear S0))
        by_cases hlt : i < os.length
        · obtain ⟨⟨s0, k0⟩, hoi⟩ : ∃ q, os[i]? = some q := ⟨_, List.getElem?_eq_getElem hlt⟩
          obtain ⟨y, u, l, rfl, hl0, hyi, hps0⟩ := hHS.root lo o hTk hoi
          obtain ⟨hs0, hk0⟩ := o.at hoi
          have hks := hTk.at lo o hoi
          obtain ⟨u1, u2, u3, hyA⟩ := hits y (.head _)
          rw [hyi.1, hyi.2.1, hyi.2.2] at hyA
          refine z_ne_len (by wtm_at "at") (by wtm_at "at") r'.units (by simp) ?_
          with_reducible refine wpAny_truthy_bool ?_
          with_reducible refine i_tt ?_
          with_reducible refine xs_assign_tup (by with_unfolding_all rfl) (by with_unfolding_all rfl) ?_
          with_reducible refine Subscript_ ?_
          with_reducible refine e_local (by assumption) (by with_unfolding_all rfl) (by with_unfolding_all rfl) (by with_unfolding_all rfl) (by with_unfolding_all rfl) (by decide) ?_
          with_reducible refine z_int ?_
          refine e_item (by wtm_at "at") (by omega) (by omega) (v := .ref y.a) (by rfl) (by wtm_at "rf") ?_
          ((rename St _ _ _ _ _ => S0); (first | with_reducible refine as_tup (Rm.hh (by assumption)) S0 (by wtm_at "at") (by with_unfolding_all rfl) (by with_unfolding_all rfl) ?_ | with_reducible refine as_list (Rm.hh (by assumption)) S0 (by wtm_at "at") (by with_unfolding_all rfl) (by with_unfolding_all rfl) ?_); (intro _ _; clear S0))
          with_reducible refine ao_cons (by with_unfolding_all rfl) ?_
          with_reducible refine as_name ?_
          ((rename St _ _ _ _ _ => S0); (with_reducible refine s_store S0 (by with_unfolding_all rfl) (by with_unfolding_all rfl) (by with_unfolding_all rfl) ?_); (intro _ _; clear S0))
          with_reducible refine ao_cons (by with_unfolding_all rfl) ?_
          with_reducible refine as_name ?_
          ((rename St _ _ _ _ _ => S0); (with_reducible refine s_store S0 (by with_unfolding_all rfl) (by with_unfolding_all rfl) (by with_unfolding_all rfl) ?_); (intro _ _; clear S0))
          with_reducible refine ao_cons (by with_unfolding_all rfl) ?_
          with_reducible refine as_name ?_
          ((rename St _ _ _ _ _ => S0); (with_reducible refine s_store S0 (by with_unfolding_all rfl) (by with_unfolding_all rfl) (by with_unfolding_all rfl) ?_); (intro _ _; clear S0))
          with_reducible refine ao_nil ?_
          with_reducible refine xs_expr (by with_unfolding_all rfl) (by with_unfolding_all rfl) ?_
          (with_reducible refine wpAny_Call_append (by with_unfolding_all rfl) (by with_unfolding_all rfl) (by with_unfolding_all rfl) (by with_unfolding_all rfl) ?_)
          with_reducible refine e_local (by assumption) (by with_unfolding_all rfl) (by with_unfolding_all rfl) (by with_unfolding_all rfl) (by with_unfolding_all rfl) (by decide) ?_
          with_reducible refine ex_append (by wtm_at "at") ?_
          with_reducible refine e_list ?_
          with_reducible refine spliced_more ?_ (by with_unfolding_all rfl)
          with_reducible refine e_local (by assumption) (by with_unfolding_all rfl) (by with_unfolding_all rfl) (by with_unfolding_all rfl) (by with_unfolding_all rfl) (by decide) ?_
          with_reducible refine spliced_more ?_ (by with_unfolding_all rfl)
          with_reducible refine e_local (by assumption) (by with_unfolding_all rfl) (by with_unfolding_all rfl) (by with_unfolding_all rfl) (by with_unfolding_all rfl) (by decide) ?_
          with_reducible refine spliced_more ?_ (by with_unfolding_all rfl)
          have hlm : l ∈ rowOf rows s0 := List.mem_of_getElem? hl0
          have hoct := (hdec s0 hs0).oct l hlm
          refine m_call1 FB.plainAttrs_bytes FB.slot_bytes_decode FB.type_bytes_decode (by wtm_at "rf") (by wtm_at "rf") (by wtm_at "rf") (by wtm_at "rf") (by wtm_at "rf") ?_
          with_reducible refine wpAny_Call_NameR ?_
          with_reducible refine e_glob (by assumption) (by assumption) (by k_is) (by with_unfolding_all rfl) (by with_unfolding_all rfl) (by with_unfolding_all rfl) (by decide) ?_
          with_reducible refine c_def (by assumption) (by k_is) (by with_unfolding_all rfl) (by with_unfolding_all rfl) ?_
          with_reducible refine spliced_more ?_ (by with_unfolding_all rfl)
          with_reducible refine e_local (by assumption) (by with_unfolding_all rfl) (by with_unfolding_all rfl) (by with_unfolding_all rfl) (by with_unfolding_all rfl) (by decide) ?_
          with_reducible refine spliced_none ?_
          with_reducible refine c_in (by assumption) (by assumption) ?_
          rename St _ _ _ _ _ => S
          refine b64encode_c (r'.less (by omega)) G4 S.keep (by omega) fun h₁₈ t₁₈ tk₁₈ kp => ?_
          replace S := S.keepAll kp
          refine m_bytes ?_
          with_reducible refine spliced_more ?_ (by with_unfolding_all rfl)
          with_reducible refine z_str ?_
          with_reducible refine spliced_none ?_
          refine z_decode (b2a_ascii _) (by have := b2a_len l.2; omega) fun t₁₉ tk₁₉ => ?_
          with_reducible refine spliced_none ?_
          ((rename St _ _ _ _ _ => S0); (with_reducible refine s_newList S0 (by wtm_at "small") ?_); (intro _ _ _ _ _; clear S0))
          ((rename St _ _ _ _ _ => S0); (with_reducible refine s_append S0 (by wtm_at "mem") (by wtm_at "up") (by wtm_at "small") ?_); (intro _ _; clear S0))
          with_reducible refine xs_assign (by with_unfolding_all rfl) ?_
          with_reducible refine wpAny_Call_NameR ?_
          with_reducible refine e_glob (by assumption) (by assumption) (by k_is) (by with_unfolding_all rfl) (by with_unfolding_all rfl) (by with_unfolding_all rfl) (by decide) ?_
          with_reducible refine c_def (by assumption) (by k_is) (by with_unfolding_all rfl) (by with_unfolding_all rfl) ?_
          with_reducible refine spliced_more ?_ (by with_unfolding_all rfl)
          with_reducible refine Subscript_ ?_
          with_reducible refine e_local (by assumption) (by with_unfolding_all rfl) (by with_unfolding_all rfl) (by with_unfolding_all rfl) (by with_unfolding_all rfl) (by decide) ?_
          with_reducible refine e_local (by assumption) (by with_unfolding_all rfl) (by with_unfolding_all rfl) (by with_unfolding_all rfl) (by with_unfolding_all rfl) (by decide) ?_
          rename Addr => ea
          rename St _ _ _ _ _ => S
          rw [show as.map Value.ref ++ [Value.ref ea] = (as ++ [ea]).map Value.ref from by simp] at S
          have S := S.sub (Δ' := (ea, .list [.int l.1 u1, .int s0 u2, .str ⟨(b2a l.2).toArray⟩ t₁₉]) :: (ta, .list ((as ++ [ea]).map .ref)) :: (hp, .list ((y :: u).map Itm.v)) :: (102, .obj tb) :: (acc, .list (fs.map .ref)) :: (plE xs ++ frE F)) (by wtm_at "sub")
          have hfr := fresh_of hmax (kg3.trans k4) S (keysK (P := [_, _, _, _]) (by simp))
          obtain ⟨g5, S, k5, nw5⟩ := S.put
          have G5 := G4.keeps k5
          have hyA5 := hyA.keeps fun o e => k5 _ o e
          have hits5 : ∀ x ∈ y :: u, ItAt g5 x := fun x hx => by
            obtain ⟨u1, u2, u3, hA⟩ := hits x hx
            exact ⟨u1, u2, u3, hA.keeps fun o e => k5 _ o e⟩
          have hAs5 : All2 (EvP (Nw h g5)) (as ++ [ea]) (((List.range rows.length).flatMap (startEv rows fins) ++ (os.take i).flatMap (evOf rows fins)) ++ [.ltr l.1 s0 l.2]) :=
            (hAs.mono fun a ev x => x.mono fun a c x => x.more k5).snoc ⟨_, _, _, nw5.1, hfr⟩
          have hasl5 : (as ++ [ea]).length ≤ 301 := by simp; omega
          clear nw5 hfr
          obtain ⟨f, x, e1, e2, e3⟩ := hF4.2 s0 (by omega)
          obtain ⟨pl, p0, t0⟩ := x
          have hp0 : p0 = offs (rowOf rows s0) (k0 + 1) := by
            rw [← hps0]
            exact (getD_of (l := xs.map fun x => x.2.1) (by rw [List.getElem?_map, e2]; rfl)).symm
          subst hp0
          have hd := hdec s0 hs0
          have hpg := plE_get e2
          have hsz := hd.sz
          have hof := hd.off (k0 + 1)
          refine e_item (by wtm_at "at") (by omega) (by omega) (v := .ref f) (by rw [Int.toNat_natCast, List.getElem?_map, e1]; rfl) (by wtm_at "rf") ?_
          with_reducible refine spliced_none ?_
          with_reducible refine c_in (by assumption) (by assumption) ?_
          have hmF : ∀ (P : List (Addr × Ct)), ∀ x ∈ frE F, x ∈ P ++ (plE xs ++ frE F) := fun P x hx => List.mem_append_right _ (List.mem_append_right _ hx)
          have hmp : ∀ (P : List (Addr × Ct)), (pl, Ct.list [.int (offs (rowOf rows s0) (k0 + 1) : Nat) t0]) ∈ P ++ (plE xs ++ frE F) := fun P => List.mem_append_right _ (List.mem_append_left _ (List.mem_of_getElem? hpg))
          have ndp : (pl :: F.map (·.1)).Nodup := by
            have nd := S.nd
            rw [show ∀ (a b c d : Addr × Ct) (Y : List (Addr × Ct)), a :: b :: c :: d :: Y = [a, b, c, d] ++ Y from fun _ _ _ _ _ => rfl, List.map_append, List.nodup_append] at nd
            have nd2 := nd.2.1
            rw [List.map_append, frE_keys, List.nodup_append] at nd2
            exact List.nodup_cons.mpr ⟨fun q => nd2.2.2 pl (List.mem_map.mpr ⟨_, List.mem_of_getElem? hpg, rfl⟩) pl q rfl, nd2.2.1⟩
          have hat := hd.at (k := k0 + 1) (by omega)
          have hev : (os.take (i + 1)).flatMap (evOf rows fins) = (os.take i).flatMap (evOf rows fins) ++ (.ltr l.1 s0 l.2 :: (if k0 + 1 = (rowOf rows s0).length then badOf (fins.getD s0 none) s0 else [])) := by
            rw [List.take_add_one, hoi]
            show List.flatMap _ (os.take i ++ [(s0, k0)]) = _
            rw [List.flatMap_append, List.flatMap_singleton]
            unfold evOf
            dsimp only
            rw [getD_of hl0]
          have hset : ∀ t' p', filesI w (At g₃) bss fs (xs.set s0 (pl, p', t')) := fun t' p' => hF4.set fun x e => (by rw [e2] at e; cases e; rfl)
          have hhp : ∀ {g : Heap} {ρ Δ h}, St g L ρ ((hp, Ct.list ((y :: u).map Itm.v)) :: Δ) h → g.get? hp = none := fun S => S.fresh (.head _)
          refine next_on (Δ' := fun t' => (ta, .list ((as ++ [ea]).map .ref)) :: (hp, .list ((y :: u).map Itm.v)) :: (102, .obj tb) :: (acc, .list (fs.map .ref)) :: (plE (xs.set s0 (pl, (nextL (bss.getD s0 []) (offs (rowOf rows s0) (k0 + 1))).2, t')) ++ frE F)) (r'.less (by omega)) hA' (fun q => ScopeKind.noConfusion q) rfl hO G5 S ((e3.mono fun _ _ x => x.keeps fun o e => k5 _ o (k4 _ o e)).at) (hmp [_, _, _, _]) (hmF [_, _, _, _]) ndp (by omega) (by omega)
            (fun t' => by rw [← plE_set]; exact Up.app (X := [_, _, _, _]) (Up.appr (Up.idx hpg))) ?_ ?_ ?_
          · intro e h' tk' t' S
            have hrow : (rowOf rows s0).length = k0 + 1 ∧ fins.getD s0 none = none := by
              rcases hat with ⟨h1, h2⟩ | ⟨l, _, h2⟩
              · refine ⟨h1, ?_⟩
                rw [e] at h2
                cases c : fins.getD s0 none with
                | none => rfl
                | some m => rw [c] at h2; cases h2
              · rw [h2] at e; cases e
            ((rename St _ _ _ _ _ => S0); (with_reducible refine s_store S0 (by with_unfolding_all rfl) (by with_unfolding_all rfl) (by with_unfolding_all rfl) ?_); (intro _ _; clear S0))
            with_reducible refine xs_assign (by with_unfolding_all rfl) ?_
            refine e_and ?_
            with_reducible refine wpAny_Compare1 ?_ (by with_unfolding_all rfl)
            with_reducible refine e_local (by assumption) (by with_unfolding_all rfl) (by with_unfolding_all rfl) (by with_unfolding_all rfl) (by with_unfolding_all rfl) (by decide) ?_
            with_reducible refine z_none ?_
            with_reducible refine z_isnot_ff (by with_unfolding_all rfl) (by with_unfolding_all rfl) ?_
            with_reducible refine wpAny_truthy_bool ?_
            with_reducible refine i_ff ?_
            ((rename St _ _ _ _ _ => S0); (with_reducible refine s_store S0 (by with_unfolding_all rfl) (by with_unfolding_all rfl) (by with_unfolding_all rfl) ?_); (intro _ _; clear S0))
            with_reducible refine xs_assign (by with_unfolding_all rfl) ?_
            with_reducible refine wpAny_IfExp ?_
            with_reducible refine wpAny_isTrue_value ?_ (by with_unfolding_all rfl)
            with_reducible refine e_local (by assumption) (by with_unfolding_all rfl) (by with_unfolding_all rfl) (by with_unfolding_all rfl) (by with_unfolding_all rfl) (by decide) ?_
            with_reducible refine wpAny_truthy_bool ?_
            with_reducible refine i_ff ?_
            with_reducible refine wpAny_Call_NameR ?_
            with_reducible refine e_glob (by assumption) (by assumption) (by k_is) (by with_unfolding_all rfl) (by with_unfolding_all rfl) (by with_unfolding_all rfl) (by decide) ?_
            with_reducible refine c_def (by assumption) (by k_is) (by with_unfolding_all rfl) (by with_unfolding_all rfl) ?_
            with_reducible refine spliced_more ?_ (by with_unfolding_all rfl)
            with_reducible refine e_local (by assumption) (by with_unfolding_all rfl) (by with_unfolding_all rfl) (by with_unfolding_all rfl) (by with_unfolding_all rfl) (by decide) ?_
            with_reducible refine spliced_none ?_
            with_reducible refine c_in (by assumption) (by assumption) ?_
            rename St _ _ _ _ _ => S
            obtain ⟨its0, y', hit⟩ : ∃ its0 y', y :: u = its0 ++ [y'] := ⟨(y :: u).dropLast, (y :: u).getLast (by simp), (List.dropLast_concat_getLast (by simp)).symm⟩
            obtain ⟨pnd, pnil, pcons⟩ := pop_ok hHS.hp hHS.nd hit
            have hhp5 : g5.get? hp = none := S.fresh (c := .list ((y :: u).map Itm.v)) (by wtm_at "mem")
            have hlen0 : its0.length + 1 = (y :: u).length := by rw [hit]; simp
            refine wpAny_mono (Q := fun v s' => ∃ (its' : List Itm) (h' : Heap) (tk' : Nat), v = .ref y.a ∧ s' = Z z h' tk' ∧ Hp its' ∧ its'.Perm u ∧ St g5 L [("whole", .bool false), ("letter", .none), ("octets", .bytes l.2.toArray u3), ("s", .int s0 u2), ("rank", .int l.1 u1), ("files", .ref acc), ("heap", .ref hp), ("told", .ref ta)] ((ta, .list ((as ++ [ea]).map .ref)) :: (hp, .list (its'.map Itm.v)) :: (102, .obj tb) :: (acc, .list (fs.map .ref)) :: (plE (xs.set s0 (pl, (nextL (bss.getD s0 []) (offs (rowOf rows s0) (k0 + 1))).2, t')) ++ frE F)) h') ?_ ?_ fun _ _ x => x
            · refine heappop_c (its := its0) (y := y') (r'.less (by omega)) G5 S.keep hhp5 (by rw [← hit]; exact S.at (by wtm_at "mem")) (fun x hx => let ⟨_, _, _, hA⟩ := hits5 x (hit ▸ hx); ⟨_, _, _, S.old hA⟩) (fun x hx => let ⟨_, _, _, hA⟩ := hits5 x (hit ▸ hx); hA.off hhp5) pnd (by omega) ?_ ?_
              · intro e0 h'' tk'' kp hat'
                obtain ⟨ey, eu⟩ := pnil e0
                subst ey; subst eu
                exact ⟨[], h'', tk'', rfl, rfl, fun i a b _ ha => (nomatch ha), List.Perm.refl _, S.call1 (c' := .list ([].map Itm.v)) (by wtm_at "up") kp hat'⟩
              · intro f' hf' h'' tk'' kp hat'
                obtain ⟨ef, k1, k2⟩ := pcons f' hf'
                subst ef
                exact ⟨_, h'', tk'', rfl, rfl, k1, k2, S.call1 (c' := .list ((sup y' (its0.set 0 y')).map Itm.v)) (by wtm_at "up") kp hat'⟩
            · rintro v s' ⟨its', h'', tk'', rfl, rfl, hp', hpm, S⟩
              have hstep := hHS.step (its' := its') (List.Perm.refl _) hyi.2.1 hs0 (p' := (nextL (bss.getD s0 []) (offs (rowOf rows s0) (k0 + 1))).2) hp' (.inr ⟨hpm, by omega⟩)
              ((rename St _ _ _ _ _ => S0); (with_reducible refine s_store S0 (by with_unfolding_all rfl) (by with_unfolding_all rfl) (by with_unfolding_all rfl) ?_); (intro _ _; clear S0))
              with_reducible refine xs_if ?_
              with_reducible refine wpAny_isTrue_Compare1 ?_ (by with_unfolding_all rfl)
              with_reducible refine e_local (by assumption) (by with_unfolding_all rfl) (by with_unfolding_all rfl) (by with_unfolding_all rfl) (by with_unfolding_all rfl) (by decide) ?_
              with_reducible refine e_list ?_
              with_reducible refine spliced_more ?_ (by with_unfolding_all rfl)
              with_reducible refine e_local (by assumption) (by with_unfolding_all rfl) (by with_unfolding_all rfl) (by with_unfolding_all rfl) (by with_unfolding_all rfl) (by decide) ?_
              with_reducible refine spliced_more ?_ (by with_unfolding_all rfl)
              with_reducible refine e_local (by assumption) (by with_unfolding_all rfl) (by with_unfolding_all rfl) (by with_unfolding_all rfl) (by with_unfolding_all rfl) (by decide) ?_
              with_reducible refine spliced_more ?_ (by with_unfolding_all rfl)
              with_reducible refine e_local (by assumption) (by with_unfolding_all rfl) (by with_unfolding_all rfl) (by with_unfolding_all rfl) (by with_unfolding_all rfl) (by decide) ?_
              with_reducible refine spliced_none ?_
              ((rename St _ _ _ _ _ => S0); (with_reducible refine s_newList S0 (by wtm_at "small") ?_); (intro _ _ _ _ _; clear S0))
              refine z_ne_same (by wtm_at "at") (by wtm_at "at") r'.units ?_
              with_reducible refine wpAny_truthy_bool ?_
              with_reducible refine i_ff ?_
              with_reducible refine xs_nil ?_
              with_reducible refine after_next ?_
              with_reducible refine xs_if ?_
              with_reducible refine wpAny_isTrue_BoolOp ?_
              with_reducible refine wpAny_allTrue_And_cons ?_
              with_reducible refine wpAny_isTrue_Compare1 ?_ (by with_unfolding_all rfl)
              with_reducible refine e_local (by assumption) (by with_unfolding_all rfl) (by with_unfolding_all rfl) (by with_unfolding_all rfl) (by with_unfolding_all rfl) (by decide) ?_
              with_reducible refine z_none ?_
              with_reducible refine z_isnot_ff (by with_unfolding_all rfl) (by with_unfolding_all rfl) ?_
              with_reducible refine wpAny_truthy_bool ?_
              with_reducible refine i_ff ?_
              with_reducible refine i_ff ?_
              with_reducible refine xs_nil ?_
              with_reducible refine after_next ?_
              with_reducible refine xs_nil ?_
              rename St _ _ _ _ _ => S
              have S := S.sub (Δ' := (ta, .list ((as ++ [ea]).map .ref)) :: (hp, .list (its'.map Itm.v)) :: (102, .obj tb) :: (acc, .list (fs.map .ref)) :: (plE (xs.set s0 (pl, (nextL (bss.getD s0 []) (offs (rowOf rows s0) (k0 + 1))).2, t')) ++ frE F)) (by wtm_at "sub")
              refine turn_next (i + 1) (by omega) ⟨by omega, g5, its', as ++ [ea], _, _, k4.trans k5, by rw [List.length_set]; exact hxs, hset _ _, by rw [List.map_set]; exact hstep, hTk.next lo o hoi, fun x hx => hits5 x (.tail _ (hpm.mem_iff.mp hx)), ?_, S.names (by wtm_at "nm")⟩
              rw [hev, if_pos hrow.1.symm, hrow.2, ← List.append_assoc]
              exact hAs5
          · intro msg e a h' tk' t' t'' S
            have hrow : (rowOf rows s0).length = k0 + 1 ∧ fins.getD s0 none = some msg := by
              rcases hat with ⟨h1, h2⟩ | ⟨l, _, h2⟩
              · refine ⟨h1, ?_⟩
                rw [e] at h2
                cases c : fins.getD s0 none with
                | none => rw [c] at h2; cases h2
                | some m => rw [c] at h2; cases h2; rfl
              · rw [h2] at e; cases e
            ((rename St _ _ _ _ _ => S0); (with_reducible refine s_store S0 (by with_unfolding_all rfl) (by with_unfolding_all rfl) (by with_unfolding_all rfl) ?_); (intro _ _; clear S0))
            with_reducible refine xs_assign (by with_unfolding_all rfl) ?_
            refine e_and ?_
            with_reducible refine wpAny_Compare1 ?_ (by with_unfolding_all rfl)
            with_reducible refine e_local (by assumption) (by with_unfolding_all rfl) (by with_unfolding_all rfl) (by with_unfolding_all rfl) (by with_unfolding_all rfl) (by decide) ?_
            with_reducible refine z_none ?_
            with_reducible refine z_isnot_tt (by with_unfolding_all rfl) (by with_unfolding_all rfl) ?_
            with_reducible refine wpAny_truthy_bool ?_
            with_reducible refine i_tt ?_
            refine e_and1 ?_
            with_reducible refine wpAny_Compare1 ?_ (by with_unfolding_all rfl)
            with_reducible refine Subscript_ ?_
            with_reducible refine e_local (by assumption) (by with_unfolding_all rfl) (by with_unfolding_all rfl) (by with_unfolding_all rfl) (by with_unfolding_all rfl) (by decide) ?_
            with_reducible refine z_int ?_
            refine e_item (by wtm_at "at") (by omega) (by omega) (v := .none) (by rfl) (by wtm_at "rf") ?_
            with_reducible refine z_none ?_
            with_reducible refine z_isnot_ff (by with_unfolding_all rfl) (by with_unfolding_all rfl) ?_
            ((rename St _ _ _ _ _ => S0); (with_reducible refine s_store S0 (by with_unfolding_all rfl) (by with_unfolding_all rfl) (by with_unfolding_all rfl) ?_); (intro _ _; clear S0))
            with_reducible refine xs_assign (by with_unfolding_all rfl) ?_
            with_reducible refine wpAny_IfExp ?_
            with_reducible refine wpAny_isTrue_value ?_ (by with_unfolding_all rfl)
            with_reducible refine e_local (by assumption) (by with_unfolding_all rfl) (by with_unfolding_all rfl) (by with_unfolding_all rfl) (by with_unfolding_all rfl) (by decide) ?_
            with_reducible refine wpAny_truthy_bool ?_
            with_reducible refine i_ff ?_
            with_reducible refine wpAny_Call_NameR ?_
            with_reducible refine e_glob (by assumption) (by assumption) (by k_is) (by with_unfolding_all rfl) (by with_unfolding_all rfl) (by with_unfolding_all rfl) (by decide) ?_
            with_reducible refine c_def (by assumption) (by k_is) (by with_unfolding_all rfl) (by with_unfolding_all rfl) ?_
            with_reducible refine spliced_more ?_ (by with_unfolding_all rfl)
            with_reducible refine e_local (by assumption) (by with_unfolding_all rfl) (by with_unfolding_all rfl) (by with_unfolding_all rfl) (by with_unfolding_all rfl) (by decide) ?_
            with_reducible refine spliced_none ?_
            with_reducible refine c_in (by assumption) (by assumption) ?_
            rename St _ _ _ _ _ => S
            obtain ⟨its0, y', hit⟩ : ∃ its0 y', y :: u = its0 ++ [y'] := ⟨(y :: u).dropLast, (y :: u).getLast (by simp), (List.dropLast_concat_getLast (by simp)).symm⟩
            obtain ⟨pnd, pnil, pcons⟩ := pop_ok hHS.hp hHS.nd hit
            have hhp5 : g5.get? hp = none := S.fresh (c := .list ((y :: u).map Itm.v)) (by wtm_at "mem")
            have hlen0 : its0.length + 1 = (y :: u).length := by rw [hit]; simp
            refine wpAny_mono (Q := fun v s' => ∃ (its' : List Itm) (h' : Heap) (tk' : Nat), v = .ref y.a ∧ s' = Z z h' tk' ∧ Hp its' ∧ its'.Perm u ∧ St g5 L [("whole", .bool false), ("letter", .ref a), ("octets", .bytes l.2.toArray u3), ("s", .int s0 u2), ("rank", .int l.1 u1), ("files", .ref acc), ("heap", .ref hp), ("told", .ref ta)] ((a, .list [.none, .str msg t'']) :: (ta, .list ((as ++ [ea]).map .ref)) :: (hp, .list (its'.map Itm.v)) :: (102, .obj tb) :: (acc, .list (fs.map .ref)) :: (plE (xs.set s0 (pl, (nextL (bss.getD s0 []) (offs (rowOf rows s0) (k0 + 1))).2, t')) ++ frE F)) h') ?_ ?_ fun _ _ x => x
            · refine heappop_c (its := its0) (y := y') (r'.less (by omega)) G5 S.keep hhp5 (by rw [← hit]; exact S.at (by wtm_at "mem")) (fun x hx => let ⟨_, _, _, hA⟩ := hits5 x (hit ▸ hx); ⟨_, _, _, S.old hA⟩) (fun x hx => let ⟨_, _, _, hA⟩ := hits5 x (hit ▸ hx); hA.off hhp5) pnd (by omega) ?_ ?_
              · intro e0 h'' tk'' kp hat'
                obtain ⟨ey, eu⟩ := pnil e0
                subst ey; subst eu
                exact ⟨[], h'', tk'', rfl, rfl, fun i a b _ ha => (nomatch ha), List.Perm.refl _, S.call1 (c' := .list ([].map Itm.v)) (by wtm_at "up") kp hat'⟩
              · intro f' hf' h'' tk'' kp hat'
                obtain ⟨ef, k1, k2⟩ := pcons f' hf'
                subst ef
                exact ⟨_, h'', tk'', rfl, rfl, k1, k2, S.call1 (c' := .list ((sup y' (its0.set 0 y')).map Itm.v)) (by wtm_at "up") kp hat'⟩
            · rintro v s' ⟨its', h'', tk'', rfl, rfl, hp', hpm, S⟩
              have hstep := hHS.step (its' := its') (List.Perm.refl _) hyi.2.1 hs0 (p' := (nextL (bss.getD s0 []) (offs (rowOf rows s0) (k0 + 1))).2) hp' (.inr ⟨hpm, by omega⟩)
              ((rename St _ _ _ _ _ => S0); (with_reducible refine s_store S0 (by with_unfolding_all rfl) (by with_unfolding_all rfl) (by with_unfolding_all rfl) ?_); (intro _ _; clear S0))
              with_reducible refine xs_if ?_
              with_reducible refine wpAny_isTrue_Compare1 ?_ (by with_unfolding_all rfl)
              with_reducible refine e_local (by assumption) (by with_unfolding_all rfl) (by with_unfolding_all rfl) (by with_unfolding_all rfl) (by with_unfolding_all rfl) (by decide) ?_
              with_reducible refine e_list ?_
              with_reducible refine spliced_more ?_ (by with_unfolding_all rfl)
              with_reducible refine e_local (by assumption) (by with_unfolding_all rfl) (by with_unfolding_all rfl) (by with_unfolding_all rfl) (by with_unfolding_all rfl) (by decide) ?_
              with_reducible refine spliced_more ?_ (by with_unfolding_all rfl)
              with_reducible refine e_local (by assumption) (by with_unfolding_all rfl) (by with_unfolding_all rfl) (by with_unfolding_all rfl) (by with_unfolding_all rfl) (by decide) ?_
              with_reducible refine spliced_more ?_ (by with_unfolding_all rfl)
              with_reducible refine e_local (by assumption) (by with_unfolding_all rfl) (by with_unfolding_all rfl) (by with_unfolding_all rfl) (by with_unfolding_all rfl) (by decide) ?_
              with_reducible refine spliced_none ?_
              ((rename St _ _ _ _ _ => S0); (with_reducible refine s_newList S0 (by wtm_at "small") ?_); (intro _ _ _ _ _; clear S0))
              refine z_ne_same (by wtm_at "at") (by wtm_at "at") r'.units ?_
              with_reducible refine wpAny_truthy_bool ?_
              with_reducible refine i_ff ?_
              with_reducible refine xs_nil ?_
              with_reducible refine after_next ?_
              with_reducible refine xs_if ?_
              with_reducible refine wpAny_isTrue_BoolOp ?_
              with_reducible refine wpAny_allTrue_And_cons ?_
              with_reducible refine wpAny_isTrue_Compare1 ?_ (by with_unfolding_all rfl)
              with_reducible refine e_local (by assumption) (by with_unfolding_all rfl) (by with_unfolding_all rfl) (by with_unfolding_all rfl) (by with_unfolding_all rfl) (by decide) ?_
              with_reducible refine z_none ?_
              with_reducible refine z_isnot_tt (by with_unfolding_all rfl) (by with_unfolding_all rfl) ?_
              with_reducible refine wpAny_truthy_bool ?_
              with_reducible refine i_tt ?_
              with_reducible refine wpAny_allTrue_And_cons ?_
              with_reducible refine wpAny_isTrue_Compare1 ?_ (by with_unfolding_all rfl)
              with_reducible refine Subscript_ ?_
              with_reducible refine e_local (by assumption) (by with_unfolding_all rfl) (by with_unfolding_all rfl) (by with_unfolding_all rfl) (by with_unfolding_all rfl) (by decide) ?_
              with_reducible refine z_int ?_
              refine e_item (by wtm_at "at") (by omega) (by omega) (v := .none) (by rfl) (by wtm_at "rf") ?_
              with_reducible refine z_none ?_
              with_reducible refine z_is_tt (by with_unfolding_all rfl) (by with_unfolding_all rfl) ?_
              with_reducible refine wpAny_truthy_bool ?_
              with_reducible refine i_tt ?_
              with_reducible refine wpAny_allTrue_And_nil ?_
              with_reducible refine i_tt ?_
              with_reducible refine xs_expr (by with_unfolding_all rfl) (by with_unfolding_all rfl) ?_
              (with_reducible refine wpAny_Call_append (by with_unfolding_all rfl) (by with_unfolding_all rfl) (by with_unfolding_all rfl) (by with_unfolding_all rfl) ?_)
              with_reducible refine e_local (by assumption) (by with_unfolding_all rfl) (by with_unfolding_all rfl) (by with_unfolding_all rfl) (by with_unfolding_all rfl) (by decide) ?_
              with_reducible refine ex_append (by wtm_at "at") ?_
              with_reducible refine e_list ?_
              with_reducible refine spliced_more ?_ (by with_unfolding_all rfl)
              with_reducible refine e_local (by assumption) (by with_unfolding_all rfl) (by with_unfolding_all rfl) (by with_unfolding_all rfl) (by with_unfolding_all rfl) (by decide) ?_
              with_reducible refine spliced_more ?_ (by with_unfolding_all rfl)
              with_reducible refine Subscript_ ?_
              with_reducible refine e_local (by assumption) (by with_unfolding_all rfl) (by with_unfolding_all rfl) (by with_unfolding_all rfl) (by with_unfolding_all rfl) (by decide) ?_
              with_reducible refine z_int ?_
              refine e_item (by wtm_at "at") (by omega) (by omega) (v := .str msg t'') (by rfl) (by wtm_at "rf") ?_
              with_reducible refine spliced_none ?_
              ((rename St _ _ _ _ _ => S0); (with_reducible refine s_newList S0 (by wtm_at "small") ?_); (intro _ _ _ _ _; clear S0))
              ((rename St _ _ _ _ _ => S0); (with_reducible refine s_append S0 (by wtm_at "mem") (by wtm_at "up") (by wtm_at "small") ?_); (intro _ _; clear S0))
              with_reducible refine xs_nil ?_
              with_reducible refine after_next ?_
              with_reducible refine xs_nil ?_
              rename Addr => eb
              rename St _ _ _ _ _ => S
              rw [show (as ++ [ea]).map Value.ref ++ [Value.ref eb] = (as ++ [ea] ++ [eb]).map Value.ref from by simp] at S
              have S := S.sub (Δ' := (eb, .list [.int s0 u2, .str msg t'']) :: (ta, .list ((as ++ [ea] ++ [eb]).map .ref)) :: (hp, .list (its'.map Itm.v)) :: (102, .obj tb) :: (acc, .list (fs.map .ref)) :: (plE (xs.set s0 (pl, (nextL (bss.getD s0 []) (offs (rowOf rows s0) (k0 + 1))).2, t')) ++ frE F)) (by wtm_at "sub")
              have hfr := fresh_of hmax (kg3.trans (k4.trans k5)) S (keysK (P := [_, _, _, _]) (by simp))
              obtain ⟨g6, S, k6, nw6⟩ := S.put
              refine turn_next (i + 1) (by omega) ⟨by omega, g6, its', as ++ [ea] ++ [eb], _, _, (k4.trans k5).trans k6, by rw [List.length_set]; exact hxs, hset _ _, by rw [List.map_set]; exact hstep, hTk.next lo o hoi, fun x hx => ?_, ?_, S.names (by wtm_at "nm")⟩
              · obtain ⟨u1, u2, u3, hA⟩ := hits5 x (.tail _ (hpm.mem_iff.mp hx))
                exact ⟨u1, u2, u3, hA.keeps fun o e => k6 _ o e⟩
              · rw [hev, if_pos hrow.1.symm, hrow.2, ← List.append_assoc]
                rw [show badOf (some msg) s0 = [.bad s0 msg] from rfl, show ∀ (X : List Ev) (a b : Ev), X ++ [a, b] = X ++ [a] ++ [b] from fun X a b => by simp]
                exact (hAs5.mono fun a ev x => x.mono fun a c x => x.more k6).snoc ⟨_, _, nw6.1, hfr⟩
          · intro r o e a h' tk' t' t1 t2 S
            obtain ⟨l', hl0', hl1'⟩ : ∃ l, (rowOf rows s0)[k0 + 1]? = some l ∧ nextL (bss.getD s0 []) (offs (rowOf rows s0) (k0 + 1)) = (.ok l.1 l.2, offs (rowOf rows s0) (k0 + 1 + 1)) := by
              rcases hat with ⟨h1, h2⟩ | h
              · rw [e] at h2
                cases c : fins.getD s0 none with
                | none => rw [c] at h2; cases h2
                | some m => rw [c] at h2; cases h2
              · exact h
            rw [hl1'] at e S
            cases e
            dsimp only at S
            ((rename St _ _ _ _ _ => S0); (with_reducible refine s_store S0 (by with_unfolding_all rfl) (by with_unfolding_all rfl) (by with_unfolding_all rfl) ?_); (intro _ _; clear S0))
            with_reducible refine xs_assign (by with_unfolding_all rfl) ?_
            refine e_and ?_
            with_reducible refine wpAny_Compare1 ?_ (by with_unfolding_all rfl)
            with_reducible refine e_local (by assumption) (by with_unfolding_all rfl) (by with_unfolding_all rfl) (by with_unfolding_all rfl) (by with_unfolding_all rfl) (by decide) ?_
            with_reducible refine z_none ?_
            with_reducible refine z_isnot_tt (by with_unfolding_all rfl) (by with_unfolding_all rfl) ?_
            with_reducible refine wpAny_truthy_bool ?_
            with_reducible refine i_tt ?_
            refine e_and1 ?_
            with_reducible refine wpAny_Compare1 ?_ (by with_unfolding_all rfl)
            with_reducible refine Subscript_ ?_
            with_reducible refine e_local (by assumption) (by with_unfolding_all rfl) (by with_unfolding_all rfl) (by with_unfolding_all rfl) (by with_unfolding_all rfl) (by decide) ?_
            with_reducible refine z_int ?_
            refine e_item (by wtm_at "at") (by omega) (by omega) (v := .int l'.1 t1) (by rfl) (by wtm_at "rf") ?_
            with_reducible refine z_none ?_
            with_reducible refine z_isnot_tt (by with_unfolding_all rfl) (by with_unfolding_all rfl) ?_
            ((rename St _ _ _ _ _ => S0); (with_reducible refine s_store S0 (by with_unfolding_all rfl) (by with_unfolding_all rfl) (by with_unfolding_all rfl) ?_); (intro _ _; clear S0))
            with_reducible refine xs_assign (by with_unfolding_all rfl) ?_
            with_reducible refine wpAny_IfExp ?_
            with_reducible refine wpAny_isTrue_value ?_ (by with_unfolding_all rfl)
            with_reducible refine e_local (by assumption) (by with_unfolding_all rfl) (by with_unfolding_all rfl) (by with_unfolding_all rfl) (by with_unfolding_all rfl) (by decide) ?_
            with_reducible refine wpAny_truthy_bool ?_
            with_reducible refine i_tt ?_
            with_reducible refine wpAny_Call_NameR ?_
            with_reducible refine e_glob (by assumption) (by assumption) (by k_is) (by with_unfolding_all rfl) (by with_unfolding_all rfl) (by with_unfolding_all rfl) (by decide) ?_
            with_reducible refine c_def (by assumption) (by k_is) (by with_unfolding_all rfl) (by with_unfolding_all rfl) ?_
            with_reducible refine spliced_more ?_ (by with_unfolding_all rfl)
            with_reducible refine e_local (by assumption) (by with_unfolding_all rfl) (by with_unfolding_all rfl) (by with_unfolding_all rfl) (by with_unfolding_all rfl) (by decide) ?_
            with_reducible refine spliced_more ?_ (by with_unfolding_all rfl)
            with_reducible refine e_list ?_
            with_reducible refine spliced_more ?_ (by with_unfolding_all rfl)
            with_reducible refine Subscript_ ?_
            with_reducible refine e_local (by assumption) (by with_unfolding_all rfl) (by with_unfolding_all rfl) (by with_unfolding_all rfl) (by with_unfolding_all rfl) (by decide) ?_
            with_reducible refine z_int ?_
            refine e_item (by wtm_at "at") (by omega) (by omega) (v := .int l'.1 t1) (by rfl) (by wtm_at "rf") ?_
            with_reducible refine spliced_more ?_ (by with_unfolding_all rfl)
            with_reducible refine e_local (by assumption) (by with_unfolding_all rfl) (by with_unfolding_all rfl) (by with_unfolding_all rfl) (by with_unfolding_all rfl) (by decide) ?_
            with_reducible refine spliced_more ?_ (by with_unfolding_all rfl)
            with_reducible refine Subscript_ ?_
            with_reducible refine e_local (by assumption) (by with_unfolding_all rfl) (by with_unfolding_all rfl) (by with_unfolding_all rfl) (by with_unfolding_all rfl) (by decide) ?_
            with_reducible refine z_int ?_
            refine e_item (by wtm_at "at") (by omega) (by omega) (v := .bytes l'.2.toArray t2) (by rfl) (by wtm_at "rf") ?_
            with_reducible refine spliced_none ?_
            ((rename St _ _ _ _ _ => S0); (with_reducible refine s_newList S0 (by wtm_at "small") ?_); (intro _ _ _ _ _; clear S0))
            with_reducible refine spliced_none ?_
            with_reducible refine c_in (by assumption) (by assumption) ?_
            rename Addr => xa
            rename St _ _ _ _ _ => S
            obtain ⟨g6, S, k6, nw6⟩ := S.put
            have hx6 : ItAt g6 ⟨xa, l'.1, s0, l'.2.toArray⟩ := ⟨_, _, _, nw6.1⟩
            have hits6 : ∀ x ∈ y :: u, ItAt g6 x := fun x hx => by
              obtain ⟨u1, u2, u3, hA⟩ := hits5 x hx
              exact ⟨u1, u2, u3, hA.keeps fun o e => k6 _ o e⟩
            have hyA6 := hyA5.keeps fun o e => k6 _ o e
            have hhp6 : g6.get? hp = none := S.fresh (c := .list ((y :: u).map Itm.v)) (by wtm_at "mem")
            obtain ⟨hp', hpm⟩ := replace_ok (x := ⟨xa, l'.1, s0, l'.2.toArray⟩) hHS.hp (y := y) rfl
            have hstep := hHS.step (its' := sup ⟨xa, l'.1, s0, l'.2.toArray⟩ (⟨xa, l'.1, s0, l'.2.toArray⟩ :: u)) (List.Perm.refl _) hyi.2.1 hs0 (p' := offs (rowOf rows s0) (k0 + 1 + 1)) hp' (.inl ⟨⟨xa, l'.1, s0, l'.2.toArray⟩, l', hpm, by rw [hks]; exact hl0', ⟨rfl, rfl, rfl⟩, by rw [hks]⟩)
            have iold : ∀ x, ItAt g6 x → ItAt _ x := fun x hx => let ⟨u1, u2, u3, hA⟩ := hx; ⟨u1, u2, u3, S.old hA⟩
            refine heapreplace_c (its := y :: u) (x := ⟨xa, l'.1, s0, l'.2.toArray⟩) (y := y) (r'.less (by omega)) (G5.keeps k6) S.keep hhp6 (S.at (by wtm_at "mem")) (fun x hx => iold x (hits6 x hx)) (fun x hx => let ⟨_, _, _, hA⟩ := hits6 x hx; hA.off hhp6) (iold _ hx6) (nw6.1.off hhp6) rfl (hstep.nd.perm hpm.symm) (by omega) fun h'' tk'' kp hat' => ?_
            have S := S.call1 (c' := .list ((sup ⟨xa, l'.1, s0, l'.2.toArray⟩ (⟨xa, l'.1, s0, l'.2.toArray⟩ :: u)).map Itm.v)) (by wtm_at "up") kp hat'
            ((rename St _ _ _ _ _ => S0); (with_reducible refine s_store S0 (by with_unfolding_all rfl) (by with_unfolding_all rfl) (by with_unfolding_all rfl) ?_); (intro _ _; clear S0))
            with_reducible refine xs_if ?_
            with_reducible refine wpAny_isTrue_Compare1 ?_ (by with_unfolding_all rfl)
            with_reducible refine e_local (by assumption) (by with_unfolding_all rfl) (by with_unfolding_all rfl) (by with_unfolding_all rfl) (by with_unfolding_all rfl) (by decide) ?_
            with_reducible refine e_list ?_
            with_reducible refine spliced_more ?_ (by with_unfolding_all rfl)
            with_reducible refine e_local (by assumption) (by with_unfolding_all rfl) (by with_unfolding_all rfl) (by with_unfolding_all rfl) (by with_unfolding_all rfl) (by decide) ?_
            with_reducible refine spliced_more ?_ (by with_unfolding_all rfl)
            with_reducible refine e_local (by assumption) (by with_unfolding_all rfl) (by with_unfolding_all rfl) (by with_unfolding_all rfl) (by with_unfolding_all rfl) (by decide) ?_
            with_reducible refine spliced_more ?_ (by with_unfolding_all rfl)
            with_reducible refine e_local (by assumption) (by with_unfolding_all rfl) (by with_unfolding_all rfl) (by with_unfolding_all rfl) (by with_unfolding_all rfl) (by decide) ?_
            with_reducible refine spliced_none ?_
            ((rename St _ _ _ _ _ => S0); (with_reducible refine s_newList S0 (by wtm_at "small") ?_); (intro _ _ _ _ _; clear S0))
            refine z_ne_same (by wtm_at "at") (by wtm_at "at") r'.units ?_
            with_reducible refine wpAny_truthy_bool ?_
            with_reducible refine i_ff ?_
            with_reducible refine xs_nil ?_
            with_reducible refine after_next ?_
            with_reducible refine xs_if ?_
            with_reducible refine wpAny_isTrue_BoolOp ?_
            with_reducible refine wpAny_allTrue_And_cons ?_
            with_reducible refine wpAny_isTrue_Compare1 ?_ (by with_unfolding_all rfl)
            with_reducible refine e_local (by assumption) (by with_unfolding_all rfl) (by with_unfolding_all rfl) (by with_unfolding_all rfl) (by with_unfolding_all rfl) (by decide) ?_
            with_reducible refine z_none ?_
            with_reducible refine z_isnot_tt (by with_unfolding_all rfl) (by with_unfolding_all rfl) ?_
            with_reducible refine wpAny_truthy_bool ?_
            with_reducible refine i_tt ?_
            with_reducible refine wpAny_allTrue_And_cons ?_
            with_reducible refine wpAny_isTrue_Compare1 ?_ (by with_unfolding_all rfl)
            with_reducible refine Subscript_ ?_
            with_reducible refine e_local (by assumption) (by with_unfolding_all rfl) (by with_unfolding_all rfl) (by with_unfolding_all rfl) (by with_unfolding_all rfl) (by decide) ?_
            with_reducible refine z_int ?_
            refine e_item (by wtm_at "at") (by omega) (by omega) (v := .int l'.1 t1) (by rfl) (by wtm_at "rf") ?_
            with_reducible refine z_none ?_
            with_reducible refine z_is_ff (by with_unfolding_all rfl) (by with_unfolding_all rfl) ?_
            with_reducible refine wpAny_truthy_bool ?_
            with_reducible refine i_ff ?_
            with_reducible refine i_ff ?_
            with_reducible refine xs_nil ?_
            with_reducible refine after_next ?_
            with_reducible refine xs_nil ?_
            rename St _ _ _ _ _ => S
            have S := S.sub (Δ' := (ta, .list ((as ++ [ea]).map .ref)) :: (hp, .list ((sup ⟨xa, l'.1, s0, l'.2.toArray⟩ (⟨xa, l'.1, s0, l'.2.toArray⟩ :: u)).map Itm.v)) :: (102, .obj tb) :: (acc, .list (fs.map .ref)) :: (plE (xs.set s0 (pl, offs (rowOf rows s0) (k0 + 1 + 1), t')) ++ frE F)) (by wtm_at "sub")
            refine turn_next (i + 1) (by omega) ⟨by omega, g6, _, as ++ [ea], _, _, (k4.trans k5).trans k6, by rw [List.length_set]; exact hxs, hset _ _, by rw [List.map_set]; exact hstep, hTk.next lo o hoi, fun x hx => ?_, ?_, S.names (by wtm_at "nm")⟩
            · rcases List.mem_cons.mp (hpm.mem_iff.mp hx) with h1 | h1
              · rw [h1]; exact hx6
              · exact hits6 x (.tail _ h1)
            · have hlk := (List.getElem?_eq_some_iff.mp hl0').1
              rw [hev, if_neg (by omega), ← List.append_assoc]
              exact hAs5.mono fun a ev x => x.mono fun a c x => x.more k6
        · have hie : i = os.length := by omega
          subst hie
          have hnil := hHS.done o hTk
          subst hnil
          refine z_ne_same (vs := []) (by wtm_at "at") (by wtm_at "at") r'.units ?_
          with_reducible refine wpAny_truthy_bool ?_
          with_reducible refine i_ff ?_
          with_reducible refine xs_return ?_
          with_reducible refine e_local (by assumption) (by with_unfolding_all rfl) (by with_unfolding_all rfl) (by with_unfolding_all rfl) (by with_unfolding_all rfl) (by decide) ?_
          rename St _ _ _ _ _ => S
          rw [List.take_length] at hAs
          have S := S.sub (Δ' := (ta, .list (as.map .ref)) :: (hp, .list []) :: (102, .obj tb) :: (acc, .list (fs.map .ref)) :: (plE xs ++ frE F)) (by wtm_at "sub")
          have hfr := fresh_of hmax (kg3.trans k4) S (keysK (P := [_, _, _]) (by simp))
          have hgr := S.grown (.tail _ (.tail _ (.head _))) (htb.elim (fun x => ⟨_, x.2⟩) fun ⟨_, _, e, _⟩ => ⟨_, e⟩)
          have S := S.sub (Δ' := [(ta, .list (as.map .ref))] ++ frE F) (List.Sublist.cons₂ _ (List.Sublist.cons _ (List.Sublist.cons _ (List.Sublist.cons _ (List.sublist_append_right _ _)))))
          obtain ⟨g5, S, k5, hD, g5h⟩ := S.seal
          exact q _ _ g5 ta hgr (fun a o e => S.keep _ _ ((kg3.trans (k4.trans k5)) a o e)) (fun x hx => (S.frs (F := F) (fun y hy => hy) x hx).1) g5h ⟨as, ⟨hD _ (.head _), hfr⟩, hAs.mono fun a ev x => x.mono fun a c x => x.more k5⟩
end
section
/-! a list comprehension of two clauses -/
noncomputable abbrev two (elt t1 i1 t2 i2 : Expr) (scope : Scope) (pos : Pos) : Expr := .ListComp elt [⟨t1, i1, [], 0⟩, ⟨t2, i2, [], 0⟩] scope pos
section
variable {elt t1 i1 t2 i2 : Expr} {scope : Scope} {pos : Pos}
theorem turn_two0 (it acc : Value) (env : Env) :
    compTurn (two elt t1 i1 t2 i2 scope pos) 0 it acc env = (standAt i1.pos >>= fun _ => pyNext it >>= fun r => match r with
      | none => pure (.done .next)
      | some v => letOwnedTupleGo t1 it v >>= fun _ => assign t1 env v >>= fun _ =>
        (eval i2 env >>= fun x => standAt i2.pos >>= fun _ => foldedSetIterable i2 env x >>= fun x => holding [x] (pyIter x) >>= fun it2 =>
          runOwn (.compStart (two elt t1 i1 t2 i2 scope pos) 1 it2 acc env) env >>= fun _ => again (.compLoop (two elt t1 i1 t2 i2 scope pos) 0 it acc env))) := by rfl
theorem turn_two1 (it acc : Value) (env : Env) :
    compTurn (two elt t1 i1 t2 i2 scope pos) 1 it acc env = (standAt i2.pos >>= fun _ => pyNext it >>= fun r => match r with
      | none => pure (.done .next)
      | some v => letOwnedTupleGo t2 it v >>= fun _ => assign t2 env v >>= fun _ =>
        (eval elt env >>= fun x => call (.builtin "list.append") [acc, x] >>= fun _ => pure ()) >>= fun _ =>
          again (.compLoop (two elt t1 i1 t2 i2 scope pos) 1 it acc env)) := by rfl
variable {w : World} {A : Around} {z : Shared} {h : Heap} {tk : Nat} {cenv : Env} {acc : Addr} {it : Value} {R : Result → Shared → Prop}
theorem start_two (d : Nat) (hd : d = 0 ∨ d = 1) {s : Shared} (self : ∀ (Q' : Value → Shared → Prop) (E' : Value → Shared → Prop), Q' it s → wpAny (MM w) A (pyIter it) Q' E' s)
    (h0 : codeAny (MM w) A (.compLoop (two elt t1 i1 t2 i2 scope pos) d it (.ref acc) cenv) R s) : codeAny (MM w) A (.compStart (two elt t1 i1 t2 i2 scope pos) d it (.ref acc) cenv) R s := by
  refine codeAny_of_tree ?_
  show wpAny _ _ ((compStart (two elt t1 i1 t2 i2 scope pos) d it (.ref acc) cenv).onRaise (fun x => do noteFrame x cenv; standAt theWindowsPlace)) _ _ s
  refine wpAny_notedAt ?_
  rcases hd with rfl | rfl
  · unfold compStart
    show wpAny _ _ (ask >>= _) _ _ s
    refine wpAny_bind (wpAny_askSetting (wpAny_ite ?_))
    split
    · exact wpAny_bind (wpAny_pure (wpAny_pure ⟨rfl, h0⟩))
    · exact wpAny_bind (wpAny_rule (wpAny_bind (wpAny_standAt (wpAny_bind (self _ _ (wpAny_pure ⟨rfl, h0⟩))))))
  · unfold compStart
    show wpAny _ _ (ask >>= _) _ _ s
    refine wpAny_bind (wpAny_askSetting (wpAny_ite ?_))
    split
    · exact wpAny_bind (wpAny_pure (wpAny_pure ⟨rfl, h0⟩))
    · exact wpAny_bind (wpAny_rule (wpAny_bind (wpAny_standAt (wpAny_bind (self _ _ (wpAny_pure ⟨rfl, h0⟩))))))
theorem in_two (ht : ∀ v, letOwnedTupleGo t2 it v = pure ())
    (self : ∀ (Q' : Value → Shared → Prop) (E' : Value → Shared → Prop), Q' it (Z z h tk) → wpAny (MM w) A (pyIter it) Q' E' (Z z h tk)) (n : Nat) (I : Nat → Heap → Prop) (i₀ : I 0 h)
    (turn : ∀ i h tk, i < n → I i h → wpAny (MM w) A (pyNext it) (fun r s₁ => ∃ v, r = some v ∧ wpAny (MM w) A (assign t2 cenv v) (fun _ s₂ => wpAny (MM w) A (eval elt cenv) (fun x s₃ =>
      wpAny (MM w) A (call (.builtin "list.append") [.ref acc, x]) (fun _ s₄ => ∃ h' tk', s₄ = Z z h' tk' ∧ I (i + 1) h') NoE s₃) NoE s₂) NoE s₁) NoE (Z z h tk))
    (fin : ∀ h tk, I n h → wpAny (MM w) A (pyNext it) (fun r s₁ => r = none ∧ R (.ok .next) s₁) NoE (Z z h tk)) :
    codeAny (MM w) A (.compStart (two elt t1 i1 t2 i2 scope pos) 1 it (.ref acc) cenv) R (Z z h tk) := by
  refine start_two 1 (.inr rfl) self ?_
  refine codeAny_loop rfl (fun k s' => ∃ i h₁ tk₁, i ≤ n ∧ n - i = k ∧ s' = Z z h₁ tk₁ ∧ I i h₁) (fun k s' hI => ?_) n ⟨0, h, tk, by omega, by omega, rfl, i₀⟩
  show wpAny _ _ ((compTurn (two elt t1 i1 t2 i2 scope pos) 1 it (.ref acc) cenv).onRaise (fun x => do noteFrame x cenv; theTreesLotGoes x)) _ _ s'
  refine wpAny_noted ?_
  rw [turn_two1]
  obtain ⟨i, h₁, tk₁, hin, hk, rfl, i₁⟩ := hI
  refine wpAny_bind (wpAny_standAt (wpAny_bind ?_))
  by_cases hlt : i < n
  · refine wpAny_mono (turn i h₁ tk₁ hlt i₁) (fun r s₁ h₂ => ?_) fun _ _ x => x.elim
    obtain ⟨v, rfl, h₂⟩ := h₂
    refine wpAny_bind (wpAny_of_eq (ht v) ?_)
    refine wpAny_bind (wpAny_mono h₂ (fun _ s₂ h₃ => wpAny_bind (wpAny_bind (wpAny_mono h₃ (fun x s₃ h₄ => wpAny_bind (wpAny_mono h₄ (fun _ s₄ h₅ => ?_) fun _ _ x => x.elim)) fun _ _ x => x.elim))) fun _ _ x => x.elim)
    obtain ⟨h', tk', rfl, j⟩ := h₅
    exact wpAny_pure (wpAny_pure ⟨rfl, n - (i + 1), by omega, i + 1, h', tk', by omega, rfl, rfl, j⟩)
  · have e : i = n := by omega
    subst e
    refine wpAny_mono (fin h₁ tk₁ i₁) (fun r s₁ h₂ => ?_) fun _ _ x => x.elim
    obtain ⟨rfl, h₂⟩ := h₂
    exact wpAny_pure h₂
theorem out_two (ht : ∀ v, letOwnedTupleGo t1 it v = pure ()) (hs : ∀ x, foldedSetIterable i2 cenv x = pure x)
    (self : ∀ (Q' : Value → Shared → Prop) (E' : Value → Shared → Prop), Q' it (Z z h tk) → wpAny (MM w) A (pyIter it) Q' E' (Z z h tk)) (n : Nat) (I : Nat → Heap → Prop) (i₀ : I 0 h)
    (turn : ∀ i h tk, i < n → I i h → wpAny (MM w) A (pyNext it) (fun r s₁ => ∃ v, r = some v ∧ wpAny (MM w) A (assign t1 cenv v) (fun _ s₂ => wpAny (MM w) A (eval i2 cenv) (fun x s₃ =>
      wpAny (MM w) A (pyIter x) (fun it2 s₄ => codeAny (MM w) A (.compStart (two elt t1 i1 t2 i2 scope pos) 1 it2 (.ref acc) cenv) (fun r s₅ => r = .ok .next ∧ ∃ h' tk', s₅ = Z z h' tk' ∧ I (i + 1) h') s₄) NoE s₃) NoE s₂) NoE s₁) NoE (Z z h tk))
    (fin : ∀ h tk, I n h → wpAny (MM w) A (pyNext it) (fun r s₁ => r = none ∧ R (.ok .next) s₁) NoE (Z z h tk)) :
    codeAny (MM w) A (.compStart (two elt t1 i1 t2 i2 scope pos) 0 it (.ref acc) cenv) R (Z z h tk) := by
  refine start_two 0 (.inl rfl) self ?_
  refine codeAny_loop rfl (fun k s' => ∃ i h₁ tk₁, i ≤ n ∧ n - i = k ∧ s' = Z z h₁ tk₁ ∧ I i h₁) (fun k s' hI => ?_) n ⟨0, h, tk, by omega, by omega, rfl, i₀⟩
  show wpAny _ _ ((compTurn (two elt t1 i1 t2 i2 scope pos) 0 it (.ref acc) cenv).onRaise (fun x => do noteFrame x cenv; theTreesLotGoes x)) _ _ s'
  refine wpAny_noted ?_
  rw [turn_two0]
  obtain ⟨i, h₁, tk₁, hin, hk, rfl, i₁⟩ := hI
  refine wpAny_bind (wpAny_standAt (wpAny_bind ?_))
  by_cases hlt : i < n
  · refine wpAny_mono (turn i h₁ tk₁ hlt i₁) (fun r s₁ h₂ => ?_) fun _ _ x => x.elim
    obtain ⟨v, rfl, h₂⟩ := h₂
    refine wpAny_bind (wpAny_of_eq (ht v) ?_)
    refine wpAny_bind (wpAny_mono h₂ (fun _ s₂ h₃ => wpAny_bind (wpAny_mono h₃ (fun x s₃ h₄ => ?_) fun _ _ x => x.elim)) fun _ _ x => x.elim)
    refine wpAny_bind (wpAny_standAt (wpAny_bind (wpAny_of_eq (hs x) (wpAny_bind (wpAny_holding (wpAny_mono h₄ (fun it2 s₄ h₅ => wpAny_bind (wpAny_runOwn (codeAny_mono h₅ fun r s₅ h₆ => ?_))) fun _ _ x => x.elim))))))
    obtain ⟨rfl, h', tk', rfl, j⟩ := h₆
    exact wpAny_pure ⟨rfl, n - (i + 1), by omega, i + 1, h', tk', by omega, rfl, rfl, j⟩
  · have e : i = n := by omega
    subst e
    refine wpAny_mono (fin h₁ tk₁ i₁) (fun r s₁ h₂ => ?_) fun _ _ x => x.elim
    obtain ⟨rfl, h₂⟩ := h₂
    exact wpAny_pure h₂
end
end
section
--pure
noncomputable def fl (rows : List (List Letter)) (n : Nat) : List (Nat × Nat) := (List.range n).flatMap fun s => (List.range (rowOf rows s).length).map fun k => (s, k)
theorem fl_succ (rows : List (List Letter)) (n : Nat) : fl rows (n + 1) = fl rows n ++ (List.range (rowOf rows n).length).map fun k => (n, k) := by
  unfold fl
  rw [List.range_succ, List.flatMap_append, List.flatMap_singleton]
theorem fl_mem (rows : List (List Letter)) (n s k : Nat) : (s, k) ∈ fl rows n ↔ s < n ∧ k < (rowOf rows s).length := by
  unfold fl
  rw [List.mem_flatMap]
  constructor
  · rintro ⟨s', hs', h⟩
    obtain ⟨k', hk', e⟩ := List.mem_map.mp h
    cases e
    exact ⟨by simpa using hs', by simpa using hk'⟩
  · rintro ⟨hs, hk⟩
    exact ⟨s, by simpa using hs, List.mem_map.mpr ⟨k, by simpa using hk, rfl⟩⟩
theorem fl_nodup (rows : List (List Letter)) : ∀ n, (fl rows n).Nodup
  | 0 => List.nodup_nil
  | n + 1 => by
    rw [fl_succ, List.nodup_append]
    refine ⟨fl_nodup rows n, ?_, fun a ha b hb e => ?_⟩
    · refine List.Pairwise.map _ (fun a b h => ?_) List.nodup_range
      intro e
      exact h (congrArg Prod.snd e)
    · obtain ⟨k, _, rfl⟩ := List.mem_map.mp hb
      subst e
      have := (fl_mem rows n n k).mp ha
      omega
theorem fl_len (rows : List (List Letter)) : ∀ n, (fl rows n).length = ((List.range n).map fun s => (rowOf rows s).length).sum
  | 0 => rfl
  | n + 1 => by rw [fl_succ, List.length_append, List.length_map, List.length_range, fl_len rows n, List.range_succ, List.map_append, List.sum_append]; simp
theorem okey_inj {rows : List (List Letter)} {a b : Nat × Nat} (ha : a.1 < 1000 ∧ a.2 < 1000) (hb : b.1 < 1000 ∧ b.2 < 1000) (h : okey rows a = okey rows b) : a = b := by
  unfold okey at h
  obtain ⟨s, k⟩ := a
  obtain ⟨s', k'⟩ := b
  dsimp only at *
  have e1 : s = s' := by omega
  have e2 : k = k' := by omega
  rw [e1, e2]
theorem okey_lex {rows : List (List Letter)} {s k s' k' : Nat} {l l' : Letter} (ha : s < 1000 ∧ k < 1000) (hb : s' < 1000 ∧ k' < 1000) (hl : (rowOf rows s).getD k (0, []) = l) (hl' : (rowOf rows s').getD k' (0, []) = l') (hne : (s, k) ≠ (s', k')) :
    lexb [(l.1 : Int), (s : Int), (k : Int)] [(l'.1 : Int), (s' : Int), (k' : Int)] = decide (okey rows (s, k) < okey rows (s', k')) := by
  unfold okey
  dsimp only
  rw [hl, hl']
  have hne' : s = s' → k ≠ k' := fun e e' => hne (by rw [e, e'])
  have e1 : ((s : Int) = (s' : Int)) ↔ s = s' := by omega
  unfold lexb lexb lexb
  by_cases h1 : (l.1 : Int) = (l'.1 : Int)
  · rw [if_pos h1]
    by_cases h2 : (s : Int) = (s' : Int)
    · have := hne' (by omega)
      rw [if_pos h2, if_neg (by omega)]
      congr 1
      apply propext
      omega
    · rw [if_neg h2]
      congr 1
      apply propext
      omega
  · rw [if_neg h1]
    congr 1
    apply propext
    omega
theorem Ord.of {rows : List (List Letter)} {n : Nat} (hn : rows.length = n) {os : List (Nat × Nat)} (hp : os.Perm (fl rows n)) (hl : os.Pairwise fun a b => okey rows a < okey rows b) : Ord rows os :=
  ⟨fun s k => by rw [hp.mem_iff, fl_mem, hn], hl⟩
theorem Ord.nodup {rows : List (List Letter)} {os : List (Nat × Nat)} (o : Ord rows os) : os.Nodup := o.lt.imp fun {a b} h e => by rw [e] at h; omega
theorem Ord.uniq {rows : List (List Letter)} {os os' : List (Nat × Nat)} (o : Ord rows os) (o' : Ord rows os') : os = os' := by
  refine List.Perm.eq_of_pairwise (le := fun a b => okey rows a < okey rows b) (fun a b _ _ h1 h2 => ?_) o.lt o'.lt ((List.perm_ext_iff_of_nodup o.nodup o'.nodup).mpr fun q => ?_)
  · omega
  · obtain ⟨s, k⟩ := q
    rw [o.mem, o'.mem]
theorem Ord.perm {rows : List (List Letter)} {n : Nat} (hn : rows.length = n) {os : List (Nat × Nat)} (o : Ord rows os) : os.Perm (fl rows n) :=
  (List.perm_ext_iff_of_nodup o.nodup (fl_nodup rows n)).mpr fun ⟨s, k⟩ => by rw [o.mem, fl_mem, hn]
theorem Ord.ex {rows : List (List Letter)} (h1 : rows.length < 1000) (h2 : ∀ s, (rowOf rows s).length < 1000) : ∃ os, Ord rows os := by
  let le : Nat × Nat → Nat × Nat → Bool := fun a b => decide (okey rows a ≤ okey rows b)
  have hp := List.mergeSort_perm (fl rows rows.length) le
  have hs := List.pairwise_mergeSort (le := le) (fun a b c h1 h2 => by simp only [le, decide_eq_true_eq] at *; omega) (fun a b => by simp only [le, Bool.or_eq_true, decide_eq_true_eq]; omega) (fl rows rows.length)
  refine ⟨_, Ord.of rfl hp ?_⟩
  have nd : ((fl rows rows.length).mergeSort le).Nodup := hp.nodup_iff.mpr (fl_nodup rows _)
  refine (hs.and nd).imp_of_mem fun {a b} ha hb h => ?_
  have hle : okey rows a ≤ okey rows b := by simpa [le] using h.1
  have ha' := (fl_mem rows _ a.1 a.2).mp (hp.mem_iff.mp ha)
  have hb' := (fl_mem rows _ b.1 b.2).mp (hp.mem_iff.mp hb)
  have hk1 := h2 a.1
  have hk2 := h2 b.1
  have hne : okey rows a ≠ okey rows b := fun e => h.2 (okey_inj ⟨by omega, by omega⟩ ⟨by omega, by omega⟩ e)
  omega
theorem Ord.sorted {rows : List (List Letter)} {n : Nat} (hn : rows.length = n) {p : Array Nat} (hp : Pm (fl rows n).length p) (hs : Asc (fun i => okey rows ((fl rows n).getD i (0, 0))) p (fl rows n).length) : Ord rows (p.toList.map fun i => (fl rows n).getD i (0, 0)) := by
  refine Ord.of hn ?_ ?_
  · have h1 := hp.map (fun i => (fl rows n).getD i (0, 0))
    refine h1.trans (List.Perm.of_eq ?_)
    refine List.ext_getElem (by simp) fun i h2 h3 => ?_
    rw [List.getElem_map, List.getElem_range]
    exact getD_of (List.getElem?_eq_getElem h3)
  · rw [List.pairwise_map]
    exact hs.pair hp.size.symm
end
section
--pure
theorem emit_stop {lc lb : Nat} {out : List Nat} (h : ¬ 6 ≤ lb) : emit lc lb out = (out, lb) := by rw [emit_eq, if_neg h]
theorem emit8 (lc : Nat) (out : List Nat) : emit lc 8 out = (out ++ [sy (lc / 2 ^ 2 % 64)], 2) := by
  rw [emit_eq, if_pos (by decide), emit_stop (by decide)]
theorem emit10 (lc : Nat) (out : List Nat) : emit lc 10 out = (out ++ [sy (lc / 2 ^ 4 % 64)], 4) := by
  rw [emit_eq, if_pos (by decide), emit_stop (by decide)]
theorem emit12 (lc : Nat) (out : List Nat) : emit lc 12 out = (out ++ [sy (lc / 2 ^ 6 % 64), sy (lc / 2 ^ 0 % 64)], 0) := by
  rw [emit_eq, if_pos (by decide), emit_eq, if_pos (by decide), emit_stop (by decide), List.append_assoc]; rfl
theorem cons_sy {a b : Nat} {r r' : List Nat} (h1 : a = b) (h2 : r = r') : sy a :: r = sy b :: r' := by rw [h1, h2]
/-- the octets, read as one number behind x -/
noncomputable def pre (x : Nat) (bs : List UInt8) : Nat := bs.foldl (fun n b => n * 256 + b.toNat) x
theorem lo16 (x b : Nat) : (x % 65536 * 256 + b) % 65536 = (x * 256 + b) % 65536 := by rw [Nat.add_mod, Nat.mul_mod, Nat.mod_mod, ← Nat.mul_mod, ← Nat.add_mod]
theorem pre_snoc (as : List UInt8) (b : UInt8) : pre 0 (as ++ [b]) = pre 0 as * 256 + b.toNat := by unfold pre; rw [List.foldl_append]; rfl
theorem b2s0 (out : List Nat) (as : List UInt8) (b : UInt8) : b2s (out, 0, pre 0 as % 65536) b = (out ++ [sy (pre 0 (as ++ [b]) % 65536 / 2 ^ 2 % 64)], 2, pre 0 (as ++ [b]) % 65536) := by
  unfold b2s; dsimp only; rw [pre_snoc, lo16, emit8]
theorem b2s2 (out : List Nat) (as : List UInt8) (b : UInt8) : b2s (out, 2, pre 0 as % 65536) b = (out ++ [sy (pre 0 (as ++ [b]) % 65536 / 2 ^ 4 % 64)], 4, pre 0 (as ++ [b]) % 65536) := by
  unfold b2s; dsimp only; rw [pre_snoc, lo16, emit10]
theorem b2s4 (out : List Nat) (as : List UInt8) (b : UInt8) : b2s (out, 4, pre 0 as % 65536) b = (out ++ [sy (pre 0 (as ++ [b]) % 65536 / 2 ^ 6 % 64), sy (pre 0 (as ++ [b]) % 65536 / 2 ^ 0 % 64)], 0, pre 0 (as ++ [b]) % 65536) := by
  unfold b2s; dsimp only; rw [pre_snoc, lo16, emit12]
theorem pre_shift : ∀ (bs : List UInt8) (x e : Nat), pre x bs / 2 ^ (e + 8 * bs.length) = x / 2 ^ e
  | [], _, _ => rfl
  | b :: r, x, e => by
    rw [show pre x (b :: r) = pre (x * 256 + b.toNat) r from rfl, List.length_cons, Nat.mul_succ 8 r.length, Nat.add_comm (8 * r.length), ← Nat.add_assoc, pre_shift r, Nat.add_comm e 8, Nat.pow_add, ← Nat.div_div_eq_div_mul,
      Nat.mul_comm x, show (2 : Nat) ^ 8 = 256 from rfl, Nat.mul_add_div (by decide), Nat.div_eq_of_lt (UInt8.toNat_lt b), Nat.add_zero]
theorem dig (as bs : List UInt8) (p i e n : Nat) (hn : bs.length = n) (h : 6 * i = e + 8 * n + p) (he : e + 6 + (10 - e) = 16) : wnum (as ++ bs) * 2 ^ p / 64 ^ i % 64 = pre 0 as % 65536 / 2 ^ e % 64 := by
  rw [show wnum (as ++ bs) = pre (pre 0 as) bs from List.foldl_append, show (64 : Nat) = 2 ^ 6 from rfl, ← Nat.pow_mul, h, Nat.pow_add 2 (e + 8 * n), Nat.mul_div_mul_right _ _ (Nat.pow_pos (by decide)), ← hn, pre_shift,
    show 65536 = 2 ^ e * 2 ^ (6 + (10 - e)) from by rw [← Nat.pow_add, ← Nat.add_assoc, he], Nat.mod_mul_right_div_self, Nat.pow_add 2 6, Nat.mod_mul_right_mod]
theorem last4 (as : List UInt8) : wnum as * 2 ^ 4 / 64 ^ 0 % 64 = pre 0 as % 65536 % 4 * 16 := by
  rw [show wnum as = pre 0 as from rfl, Nat.pow_zero, Nat.div_one, show (64 : Nat) = 4 * 2 ^ 4 from rfl, Nat.mul_mod_mul_right, show (65536 : Nat) = 4 * 16384 from rfl, Nat.mod_mul_right_mod]
theorem last2 (as : List UInt8) : wnum as * 2 ^ 2 / 64 ^ 0 % 64 = pre 0 as % 65536 % 16 * 4 := by
  rw [show wnum as = pre 0 as from rfl, Nat.pow_zero, Nat.div_one, show (64 : Nat) = 16 * 2 ^ 2 from rfl, Nat.mul_mod_mul_right, show (65536 : Nat) = 16 * 4096 from rfl, Nat.mod_mul_right_mod]
theorem wr_len (bs : List UInt8) (n m : Nat) (h : bs.length = n) (hm : wmany n = m) : wr bs = (List.range m).map (fun k => sy (wnum bs * 2 ^ (m * 6 - n * 8) / 64 ^ (m - 1 - k) % 64)) ++ List.replicate ((4 - m % 4) % 4) 61 := by
  unfold wr; rw [h, hm]
theorem b2f0 (bs : List UInt8) : b2f bs = bs.foldl b2s ([], 0, pre 0 [] % 65536) := rfl
theorem wr_b2a : ∀ (bs : List UInt8), bs.length ≤ 5 → wr bs = b2a bs
  | [], _ => rfl
  | [a], _ => by
    rw [wr_len [a] 1 2 rfl rfl]
    unfold b2a
    rw [b2f0, List.foldl_cons, b2s0, List.foldl_nil]
    dsimp -decide only
    rw [if_pos (show (2 : Nat) = 2 from rfl)]
    show sy _ :: sy _ :: [61, 61] = sy _ :: sy _ :: [61, 61]
    refine cons_sy ?_ (cons_sy ?_ rfl)
    · show wnum [a] * 2 ^ 4 / 64 ^ 1 % 64 = _; exact dig [a] [] 4 1 2 0 rfl rfl rfl
    · show wnum [a] * 2 ^ 4 / 64 ^ 0 % 64 = _; exact last4 _
  | [a, b], _ => by
    rw [wr_len [a, b] 2 3 rfl rfl]
    unfold b2a
    rw [b2f0, List.foldl_cons, b2s0, List.foldl_cons, b2s2, List.foldl_nil]
    dsimp -decide only
    rw [if_neg (show ¬ (4 : Nat) = 2 by decide), if_pos (show (4 : Nat) = 4 from rfl)]
    show sy _ :: sy _ :: sy _ :: [61] = sy _ :: sy _ :: sy _ :: [61]
    refine cons_sy ?_ (cons_sy ?_ (cons_sy ?_ rfl))
    · show wnum [a, b] * 2 ^ 2 / 64 ^ 2 % 64 = _; exact dig [a] [b] 2 2 2 1 rfl rfl rfl
    · show wnum [a, b] * 2 ^ 2 / 64 ^ 1 % 64 = _; exact dig [a, b] [] 2 1 4 0 rfl rfl rfl
    · show wnum [a, b] * 2 ^ 2 / 64 ^ 0 % 64 = _; exact last2 _
  | [a, b, c], _ => by
    rw [wr_len [a, b, c] 3 4 rfl rfl]
    unfold b2a
    rw [b2f0, List.foldl_cons, b2s0, List.foldl_cons, b2s2, List.foldl_cons, b2s4, List.foldl_nil]
    dsimp -decide only
    rw [if_neg (show ¬ (0 : Nat) = 2 by decide), if_neg (show ¬ (0 : Nat) = 4 by decide)]
    show sy _ :: sy _ :: sy _ :: sy _ :: [] = sy _ :: sy _ :: sy _ :: sy _ :: []
    refine cons_sy ?_ (cons_sy ?_ (cons_sy ?_ (cons_sy ?_ rfl)))
    · show wnum [a, b, c] * 2 ^ 0 / 64 ^ 3 % 64 = _; exact dig [a] [b, c] 0 3 2 2 rfl rfl rfl
    · show wnum [a, b, c] * 2 ^ 0 / 64 ^ 2 % 64 = _; exact dig [a, b] [c] 0 2 4 1 rfl rfl rfl
    · show wnum [a, b, c] * 2 ^ 0 / 64 ^ 1 % 64 = _; exact dig [a, b, c] [] 0 1 6 0 rfl rfl rfl
    · show wnum [a, b, c] * 2 ^ 0 / 64 ^ 0 % 64 = _; exact dig [a, b, c] [] 0 0 0 0 rfl rfl rfl
  | [a, b, c, d], _ => by
    rw [wr_len [a, b, c, d] 4 6 rfl rfl]
    unfold b2a
    rw [b2f0, List.foldl_cons, b2s0, List.foldl_cons, b2s2, List.foldl_cons, b2s4, List.foldl_cons, b2s0, List.foldl_nil]
    dsimp -decide only
    rw [if_pos (show (2 : Nat) = 2 from rfl)]
    show sy _ :: sy _ :: sy _ :: sy _ :: sy _ :: sy _ :: [61, 61] = sy _ :: sy _ :: sy _ :: sy _ :: sy _ :: sy _ :: [61, 61]
    refine cons_sy ?_ (cons_sy ?_ (cons_sy ?_ (cons_sy ?_ (cons_sy ?_ (cons_sy ?_ rfl)))))
    · show wnum [a, b, c, d] * 2 ^ 4 / 64 ^ 5 % 64 = _; exact dig [a] [b, c, d] 4 5 2 3 rfl rfl rfl
    · show wnum [a, b, c, d] * 2 ^ 4 / 64 ^ 4 % 64 = _; exact dig [a, b] [c, d] 4 4 4 2 rfl rfl rfl
    · show wnum [a, b, c, d] * 2 ^ 4 / 64 ^ 3 % 64 = _; exact dig [a, b, c] [d] 4 3 6 1 rfl rfl rfl
    · show wnum [a, b, c, d] * 2 ^ 4 / 64 ^ 2 % 64 = _; exact dig [a, b, c] [d] 4 2 0 1 rfl rfl rfl
    · show wnum [a, b, c, d] * 2 ^ 4 / 64 ^ 1 % 64 = _; exact dig [a, b, c, d] [] 4 1 2 0 rfl rfl rfl
    · show wnum [a, b, c, d] * 2 ^ 4 / 64 ^ 0 % 64 = _; exact last4 _
  | [a, b, c, d, e], _ => by
    rw [wr_len [a, b, c, d, e] 5 7 rfl rfl]
    unfold b2a
    rw [b2f0, List.foldl_cons, b2s0, List.foldl_cons, b2s2, List.foldl_cons, b2s4, List.foldl_cons, b2s0, List.foldl_cons, b2s2, List.foldl_nil]
    dsimp -decide only
    rw [if_neg (show ¬ (4 : Nat) = 2 by decide), if_pos (show (4 : Nat) = 4 from rfl)]
    show sy _ :: sy _ :: sy _ :: sy _ :: sy _ :: sy _ :: sy _ :: [61] = sy _ :: sy _ :: sy _ :: sy _ :: sy _ :: sy _ :: sy _ :: [61]
    refine cons_sy ?_ (cons_sy ?_ (cons_sy ?_ (cons_sy ?_ (cons_sy ?_ (cons_sy ?_ (cons_sy ?_ rfl))))))
    · show wnum [a, b, c, d, e] * 2 ^ 2 / 64 ^ 6 % 64 = _; exact dig [a] [b, c, d, e] 2 6 2 4 rfl rfl rfl
    · show wnum [a, b, c, d, e] * 2 ^ 2 / 64 ^ 5 % 64 = _; exact dig [a, b] [c, d, e] 2 5 4 3 rfl rfl rfl
    · show wnum [a, b, c, d, e] * 2 ^ 2 / 64 ^ 4 % 64 = _; exact dig [a, b, c] [d, e] 2 4 6 2 rfl rfl rfl
    · show wnum [a, b, c, d, e] * 2 ^ 2 / 64 ^ 3 % 64 = _; exact dig [a, b, c] [d, e] 2 3 0 2 rfl rfl rfl
    · show wnum [a, b, c, d, e] * 2 ^ 2 / 64 ^ 2 % 64 = _; exact dig [a, b, c, d] [e] 2 2 2 1 rfl rfl rfl
    · show wnum [a, b, c, d, e] * 2 ^ 2 / 64 ^ 1 % 64 = _; exact dig [a, b, c, d, e] [] 2 1 4 0 rfl rfl rfl
    · show wnum [a, b, c, d, e] * 2 ^ 2 / 64 ^ 0 % 64 = _; exact last2 _
  | a :: b :: c :: d :: e :: f :: r, h => absurd h (fun q => absurd (Nat.le_trans (Nat.le_add_left 6 r.length) q) (by decide))
end
section
theorem LettersAt.dropLast {P : Addr → Ct → Prop} {ls : List Addr} {row : List Letter} (h : LettersAt P ls row) : LettersAt P ls.dropLast row.dropLast := by
  refine ⟨by simp [h.1], fun i x e => ?_⟩
  have hl := (List.getElem?_eq_some_iff.mp e).1
  rw [List.length_dropLast] at hl
  rw [List.dropLast_eq_take, List.getElem?_take_of_lt (by omega)] at e
  obtain ⟨l, t, t', e1, e2⟩ := h.2 i x e
  exact ⟨l, t, t', by rw [List.dropLast_eq_take, List.getElem?_take_of_lt (by rw [h.1]; omega)]; exact e1, e2⟩
theorem cutL_last {α : Type} (xs : List α) : cutL xs none (some (-1)) = xs.dropLast := by
  unfold cutL
  rw [List.dropLast_eq_take]
  show List.take (clipAt xs.length (-1) - 0) (List.drop 0 xs) = _
  rw [List.drop_zero]
  congr 1
  unfold clipAt
  simp
  omega
theorem cutL_tail {α : Type} (x : α) (xs : List α) : cutL (x :: xs) (some 1) none = xs := by
  unfold cutL
  show List.take ((x :: xs).length - clipAt (x :: xs).length ((1 : Nat) : Int)) (List.drop (clipAt (x :: xs).length ((1 : Nat) : Int)) (x :: xs)) = _
  rw [clipAt_nat, Nat.min_eq_left (by simp)]
  simp
theorem le_sum_mem : ∀ (l : List Nat) (x : Nat), x ∈ l → x ≤ l.sum
  | a :: r, x, h => by
    rw [List.sum_cons]
    rcases List.mem_cons.mp h with e | h
    · omega
    · have := le_sum_mem r x h; omega
theorem RowsOk.row {rows : List (List Letter)} (ok : RowsOk rows) {s : Nat} {row : List Letter} (h : rows[s]? = some row) : row.length ≤ 12 ∧ row ≠ [] := by
  have hm := List.mem_of_getElem? h
  have h1 := le_sum_mem (rows.map List.length) row.length (List.mem_map.mpr ⟨row, hm, rfl⟩)
  exact ⟨Nat.le_trans h1 ok.few, ok.ne _ hm⟩
theorem z_lsliceT {w : World} {A : Around} {E : Value → Shared → Prop} {z : Shared} {g h : Heap} {tk : Nat} {L : Addr} {ρ : List (Str × Value)} {Δ : List (Addr × Ct)} {Q : Value → Shared → Prop} {value slice : Expr} {a : Addr} {vs : List Value} {sl : Addr} {l u : Value} {lo hi : Option Int}
    (S : St g L ρ Δ h) (hs : At h sl (.pr (slP l u))) (hv : At h a (.list vs)) (hl : IsPart l lo) (hu : IsPart u hi) (hz : vs.length ≤ 1000000)
    (hs' : subscripted slice false (.ref a) (.ref sl) = operate [.ref sl, .ref a] (getItem (.ref a) (.ref sl)))
    (q : ∀ n h', h.get? n = none → Keep [] h h' → St g L ρ ((n, .list (cutL vs lo hi)) :: Δ) h' → Q (.ref n) (Z z h' tk)) : wpAny (MM w) A (subscriptTail value slice (.ref a) (.ref sl)) Q E (Z z h tk) := by
  refine tail_any hv.isList.typeIs list_getitem_lookup (wpAny_getItem_list_slice (s := Z z h tk) hv.isList (slP_is hs) hl hu .none (by simp) ?_ (by simp [sizeLine]; omega)) hs'
  refine q _ _ (get_size h) (Keep.push _) (S.newAt (Keep.push _) (get_size h) ⟨_, Heap.get?_push_size _ rfl, 0, ?_⟩)
  rw [cut_run]
noncomputable abbrev wh (rows : List (List Letter)) (cut s : Nat) : List Letter := if s = cut then (rowOf rows s).dropLast else rowOf rows s
noncomputable def whRows (rows : List (List Letter)) (cut : Nat) : List (List Letter) := (List.range 6).map (wh rows cut)
theorem whRows_row {rows : List (List Letter)} {cut s : Nat} (h : s < 6) : rowOf (whRows rows cut) s = wh rows cut s := by
  unfold whRows
  exact getD_of (by rw [List.getElem?_map, List.getElem?_range h]; rfl)
theorem whRows_len (rows : List (List Letter)) (cut : Nat) : (whRows rows cut).length = 6 := by simp [whRows]
theorem wl_le {f g : Nat → Nat} : ∀ l : List Nat, (∀ s ∈ l, g s ≤ f s) → (l.map g).sum ≤ (l.map f).sum
  | [], _ => Nat.le_refl _
  | s :: r, h => by
    rw [List.map_cons, List.map_cons, List.sum_cons, List.sum_cons]
    exact Nat.add_le_add (h s (.head _)) (wl_le r fun t ht => h t (.tail _ ht))
theorem wl_ge {f g : Nat → Nat} {c : Nat} (h : ∀ s, s ≠ c → f s ≤ g s) (hc : f c ≤ g c + 1) : ∀ l : List Nat, l.Nodup → (l.map f).sum ≤ (l.map g).sum + 1
  | [], _ => Nat.zero_le _
  | s :: r, nd => by
    rw [List.nodup_cons] at nd
    rw [List.map_cons, List.map_cons, List.sum_cons, List.sum_cons]
    by_cases e : s = c
    · subst e
      rw [Nat.add_right_comm]
      exact Nat.add_le_add hc (wl_le r fun t ht => h t fun q => nd.1 (q ▸ ht))
    · rw [Nat.add_assoc]
      exact Nat.add_le_add (h s e) (wl_ge h hc r nd.2)
theorem wh_sum {rows : List (List Letter)} {cut : Nat} (ok : RowsOk rows) (hc : cut < 6) : (fl (whRows rows cut) 6).length ≤ 12 ∧ 2 ≤ (fl (whRows rows cut) 6).length ∧ ∀ s, s < 6 → (wh rows cut s).length ≤ 12 := by
  have h6 := ok.six
  have hr : rows = (List.range 6).map (rowOf rows) := by
    refine List.ext_getElem (by rw [h6]; rfl) fun i h1 h2 => ?_
    rw [List.getElem_map, List.getElem_range]
    exact (getD_of (List.getElem?_eq_getElem h1)).symm
  have hrow : ∀ s, s < 6 → 1 ≤ (rowOf rows s).length ∧ (rowOf rows s).length ≤ 12 := fun s hs => by
    obtain ⟨row, e⟩ : ∃ row, rows[s]? = some row := ⟨_, List.getElem?_eq_getElem (h6.symm ▸ hs)⟩
    rw [show rowOf rows s = row from getD_of e]
    have := ok.row e
    exact ⟨List.length_pos_iff.mpr this.2, this.1⟩
  have hsum := ok.few
  rw [hr, List.map_map] at hsum
  have hw1 : ∀ s, (wh rows cut s).length ≤ (rowOf rows s).length := fun s => by
    unfold wh
    split
    · rw [List.length_dropLast]; exact Nat.sub_le _ _
    · exact Nat.le_refl _
  have hl : (fl (whRows rows cut) 6).length = ((List.range 6).map fun s => (wh rows cut s).length).sum := by
    rw [fl_len]
    exact congrArg List.sum (List.map_congr_left fun s hs => congrArg List.length (whRows_row (List.mem_range.mp hs)))
  have g1 : 6 ≤ ((List.range 6).map fun s => (rowOf rows s).length).sum := wl_le (g := fun _ => 1) _ fun s hs => (hrow s (List.mem_range.mp hs)).1
  have g2 : ((List.range 6).map fun s => (rowOf rows s).length).sum ≤ ((List.range 6).map fun s => (wh rows cut s).length).sum + 1 :=
    wl_ge (c := cut) (fun s hs => by rw [show wh rows cut s = rowOf rows s from if_neg hs]; exact Nat.le_refl _) (by rw [show wh rows cut cut = (rowOf rows cut).dropLast from if_pos rfl, List.length_dropLast]; exact Nat.le_of_eq (Nat.sub_add_cancel (hrow cut hc).1).symm) _ List.nodup_range
  have g3 : ((List.range 6).map fun s => (wh rows cut s).length).sum ≤ ((List.range 6).map fun s => (rowOf rows s).length).sum := wl_le _ fun s _ => hw1 s
  rw [hl]
  exact ⟨Nat.le_trans g3 hsum, Nat.le_trans (by decide) (Nat.le_of_succ_le_succ (Nat.le_trans g1 g2)), fun s hs => Nat.le_trans (hw1 s) (hrow s hs).2⟩
theorem wh_small {rows : List (List Letter)} {cut s : Nat} (ok : RowsOk rows) (hs : s < 6) {x : Letter} (hx : x ∈ wh rows cut s) : x.2.length ≤ 5 := by
  have hx' : x ∈ rowOf rows s := by
    have hx2 : x ∈ (if s = cut then (rowOf rows s).dropLast else rowOf rows s) := hx
    split at hx2
    · rw [List.dropLast_eq_take] at hx2; exact List.mem_of_mem_take hx2
    · exact hx2
  have h6 := ok.six
  obtain ⟨row, e⟩ : ∃ row, rows[s]? = some row := ⟨_, List.getElem?_eq_getElem (by omega)⟩
  rw [show rowOf rows s = row from getD_of e] at hx'
  exact (ok.small _ (List.mem_of_getElem? e) x hx').2
noncomputable def wne (x : Str) : Bool := x.cps.toList != (Str.ofString "").cps.toList
noncomputable def lastOf (rows : List (List Letter)) (cut : Nat) : Letter := (rowOf rows cut).getD ((rowOf rows cut).length - 1) (0, [])
noncomputable def wordsOf (rows : List (List Letter)) (cut lost : Nat) : Str := wordsS (lastOf rows cut).2.length (2 + (lastOf rows cut).2.length - lost)
noncomputable def dueQ (rows : List (List Letter)) (cut lost : Nat) (q : Nat × Nat) : List Ev :=
  .ltr ((wh rows cut q.1).getD q.2 (0, [])).1 q.1 ((wh rows cut q.1).getD q.2 (0, [])).2 :: (if wne (wordsOf rows cut lost) = true ∧ q.1 = cut ∧ q.2 + 1 = (wh rows cut q.1).length then [.bad q.1 (wordsOf rows cut lost)] else [])
noncomputable def dueEv (rows : List (List Letter)) (cut lost : Nat) (os : List (Nat × Nat)) : List Ev :=
  ((if wne (wordsOf rows cut lost) = true ∧ wh rows cut cut = [] then [.bad cut (wordsOf rows cut lost)] else []) ++ [.bad 6 (wordsS 2 3), .bad 8 (wordsS 0 1)]) ++ os.flatMap (dueQ rows cut lost)
noncomputable def SmallEv : Ev → Prop
  | .ltr _ _ o => o.length ≤ 5
  | .bad _ _ => True
theorem dueEv_small {rows : List (List Letter)} {cut lost : Nat} {os : List (Nat × Nat)} (ok : RowsOk rows) (hc : cut < 6) (o : Ord (whRows rows cut) os) : ∀ e ∈ dueEv rows cut lost os, SmallEv e := by
  intro e he
  unfold dueEv at he
  rcases List.mem_append.mp he with he | he
  · rcases List.mem_append.mp he with he | he
    · split at he
      · rw [List.mem_singleton.mp he]; trivial
      · cases he
    · rcases List.mem_cons.mp he with rfl | he
      · trivial
      · rw [List.mem_singleton.mp he]; trivial
  · obtain ⟨⟨s, k⟩, hq, he⟩ := List.mem_flatMap.mp he
    obtain ⟨j, hj⟩ := List.mem_iff_getElem?.mp hq
    obtain ⟨hs, hk⟩ := o.at hj
    rw [whRows_len] at hs
    rw [whRows_row hs] at hk
    unfold dueQ at he
    rcases List.mem_cons.mp he with rfl | he
    · show ((wh rows cut s).getD k (0, [])).2.length ≤ 5
      obtain ⟨x, hx⟩ : ∃ x, (wh rows cut s)[k]? = some x := ⟨_, List.getElem?_eq_getElem hk⟩
      rw [show (wh rows cut s).getD k (0, []) = x from getD_of hx]
      exact wh_small ok hs (List.mem_of_getElem? hx)
    · split at he
      · rw [List.mem_singleton.mp he]; trivial
      · cases he
noncomputable def EvI (P : Addr → Ct → Prop) (a : Addr) : Ev → Prop
  | .ltr r s o => ∃ t t' t'', P a (.list [.int r t, .int s t', .str ⟨(wr o).toArray⟩ t''])
  | .bad s m => ∃ t t' t'', P a (.list [.int (-1) t, .int s t', .str m t''])
theorem EvI.mono {P P' : Addr → Ct → Prop} {a : Addr} {e : Ev} (h : EvI P a e) (k : ∀ a c, P a c → P' a c) : EvI P' a e := by
  cases e with
  | ltr r s o => obtain ⟨t, t', t'', h⟩ := h; exact ⟨t, t', t'', k _ _ h⟩
  | bad s m => obtain ⟨t, t', t'', h⟩ := h; exact ⟨t, t', t'', k _ _ h⟩
/-! what the loops keep, each as one word -/
inductive DuA (g gi : Heap) (C it acc : Addr) (rows : List (List Letter)) (cut i : Nat) (h : Heap) : Prop
  | mk (g2 : Heap) (ρ' : List (Str × Value)) (ws : List Addr) (kk : Sub gi g2) (hws : ws.length = i) (hW : ∀ s, s < i → ∃ a, ws[s]? = some a ∧ RowAt (fun a c => At g a c ∨ Nw gi g2 a c) a (wh rows cut s))
    (Si : St g2 C ρ' [(it, .pr (riP 0 6 i)), (acc, .list (ws.map .ref))] h) : DuA g gi C it acc rows cut i h
inductive DuB (z : Shared) (g g₃ : Heap) (L acc ra : Addr) (rows : List (List Letter)) (cut lost : Nat) (tc tl t₁₂ : Tok) (W : Str) (ws : List Addr) (v : Value) (s' : Shared) : Prop
  | mk (ea : Addr) (as0 : List Addr) (g4 h' : Heap) (tk' : Nat) (e1 : v = .ref ea) (e2 : s' = Z z h' tk') (k4 : Sub g₃ g4) (hA0 : All2 (EvI (Nw g g4)) as0 (if wne W = true ∧ wh rows cut cut = [] then [.bad cut W] else []))
    (S : St g4 L [("words", .str W t₁₂), ("lost", .int lost tl)] [(ea, .list (as0.map .ref)), (acc, .list (ws.map .ref)), (L + 1 + 1 + 1, .cell (some (.ref acc))), (L + 1 + 1, .cell (some (.int cut tc))), (L + 1, .cell (some (.ref ra)))] h') : DuB z g g₃ L acc ra rows cut lost tc tl t₁₂ W ws v s'
noncomputable abbrev duT (gi g2 : Heap) (rows : List (List Letter)) (cut : Nat) (a : Addr) (q : Nat × Nat) : Prop := ∃ t t' t'', Nw gi g2 a (.list [.int ((rowOf (whRows rows cut) q.1).getD q.2 (0, [])).1 t, .int q.1 t', .int q.2 t''])
inductive DuC (gi : Heap) (C it acc2 : Addr) (rows : List (List Letter)) (cut s : Nat) (h : Heap) : Prop
  | mk (g2 : Heap) (ρ' : List (Str × Value)) (ps : List Addr) (kk : Sub gi g2) (hP : All2 (duT gi g2 rows cut) ps (fl (whRows rows cut) s)) (Si : St g2 C ρ' [(it, .pr (riP 0 6 s)), (acc2, .list (ps.map .ref))] h) : DuC gi C it acc2 rows cut s h
inductive DuD (gi g2 : Heap) (C it it3 acc2 : Addr) (rows : List (List Letter)) (cut s : Nat) (tk₂₀ : Tok) (k : Nat) (h : Heap) : Prop
  | mk (g3 : Heap) (ps : List Addr) (kk : Sub gi g3) (k23 : Sub g2 g3) (hP : All2 (duT gi g3 rows cut) ps (fl (whRows rows cut) s ++ (List.range k).map fun k => (s, k)))
    (Si : St g3 C [("s", .int s tk₂₀)] [(it3, .pr (riP 0 (wh rows cut s).length k)), (it, .pr (riP 0 6 (s + 1))), (acc2, .list (ps.map .ref))] h) : DuD gi g2 C it it3 acc2 rows cut s tk₂₀ k h
inductive DuE (g g₆ : Heap) (L it2 D ea acc ra : Addr) (rows : List (List Letter)) (cut lost : Nat) (tc t₁₂ : Tok) (W : Str) (its : List Value) (ws : List Addr) (E1 : List Ev) (os : List (Nat × Nat)) (j : Nat) (h' : Heap) : Prop
  | mk (g7 : Heap) (as' : List Addr) (k7 : Sub g₆ g7) (hal' : as'.length ≤ 3 + 2 * j) (hA : All2 (EvI (Nw g g7)) as' (E1 ++ (os.take j).flatMap (dueQ rows cut lost)))
    (S : St g7 L [("events", .ref ea), ("words", .str W t₁₂)] [(it2, .pr (liP D j)), (D, .list its), (ea, .list (as'.map .ref)), (acc, .list (ws.map .ref)), (L + 1 + 1 + 1, .cell (some (.ref acc))), (L + 1 + 1, .cell (some (.int cut tc))), (L + 1, .cell (some (.ref ra)))] h') :
    DuE g g₆ L it2 D ea acc ra rows cut lost tc t₁₂ W its ws E1 os j h'
inductive DuF (g g7 gi : Heap) (C it4 D ea acc5 : Addr) (its : List Value) (as' : List Addr) (evs : List Ev) (i : Nat) (h : Heap) : Prop
  | mk (g8 : Heap) (ρ' : List (Str × Value)) (bs : List Addr) (kk : Sub gi g8) (hB : All2 (EvP (fun a c => Nw g g7 a c ∨ Nw gi g8 a c)) bs (evs.take i)) (Si : St g8 C ρ' [(it4, .pr (liP ea i)), (D, .list its), (ea, .list (as'.map .ref)), (acc5, .list (bs.map .ref))] h) : DuF g g7 gi C it4 D ea acc5 its as' evs i h
set_option maxRecDepth 100000 in
set_option maxHeartbeats 4000000 in
theorem due_c {w : World} {A : Around} {E : Value → Shared → Prop} {z : Shared} {g₀ h : Heap} {tk : Nat} {Q : Value → Shared → Prop} {ra : Addr} {rows : List (List Letter)} {cut lost : Nat} {tc tl : Tok} {os : List (Nat × Nat)}
    (r : Rm A 6) (G : Gd w g₀) (k₀ : Sub g₀ h) (hR : RowsAt (At h) ra rows) (ok : RowsOk rows) (hc : cut < 6) (hlo : lost = 1 ∨ lost = 2) (o : Ord (whRows rows cut) os)
    (q : ∀ h' tk' gf r, Keep [] h h' → gf.StaysIn h' → TellAt (Nw h gf) r (dueEv rows cut lost os) → Q (.ref r) (Z z h' tk')) :
    wpAny (MM w) A (call (.ref 143) [.ref ra, .int cut tc, .int lost tl]) Q E (Z z h tk) := by
  refine' enterC [] [("lost", .int lost tl)] (fun L => [(L + 1 + 1 + 1, .cell none), (L + 1 + 1, .cell (some (.int cut tc))), (L + 1, .cell (some (.ref ra)))]) r G k₀ ?hM ?nd ?ho ?hcd ?hb ?hr ?hC ?hlc ?c1 ?c2 ?c3 ?c4 ?body
  case hM => intro p hp; cases hp
  case nd => simp
  wtm_at "enterC"
  case body =>
    intro A' g L h₁ tk₁ r' G' kg gk S
    simp only [List.append_nil] at S
    have hRg : RowsAt (At g) ra rows := hR.mono fun a c x => x.keeps fun o e => kg _ _ e (by simp)
    obtain ⟨as, hra, hasl, has⟩ := hRg
    have h6 := ok.six
    with_reducible refine xs_assign (by with_unfolding_all rfl) ?_
    refine e_comp (by intro x; rfl) (by wtm_at "rf") (by wtm_at "rf") (by decide) ?_
    with_reducible refine wpAny_Call_NameR ?_
    with_reducible refine e_built (by assumption) (by assumption) (by k_is) (by wtm_at "boot") (by decide) (by with_unfolding_all rfl) (by with_unfolding_all rfl) (by with_unfolding_all rfl) (by with_unfolding_all rfl) (by decide) ?_
    with_reducible refine callWith_type1 ?_ (by with_unfolding_all rfl) (by with_unfolding_all rfl)
    with_reducible refine spliced_more ?_ (by with_unfolding_all rfl)
    with_reducible refine z_int ?_
    with_reducible refine spliced_none ?_
    refine s_range (n := 6) S fun rg h₂ S => ?_
    refine it_range S (by wtm_at "at") (by omega) fun it h₃ _ _ S => ?_
    refine comp_atG (M := [(it, .pr (riP 0 6 0))]) S G' (by decide) rfl fun gi C acc h₈ tk₈ Gi hs hsi hacc Si => ?_
    have c1 : At gi (L + 1) (.cell (some (.ref ra))) := S.inn hs (by wtm_at "mem")
    have c2 : At gi (L + 1 + 1) (.cell (some (.int cut tc))) := S.inn hs (by wtm_at "mem")
    have hgi : ∀ a c, At g a c → At gi a c := fun a c x => S.ing hs x
    have hragi := hgi _ _ hra
    refine comp_loop (by intro v; rfl) (fun Q' E' q => sf_range Si (by wtm_at "mem") q) 6
      (I := DuA g gi C it acc rows cut) ⟨gi, [], [], Sub.refl _, rfl, fun s hs => absurd hs (by omega), Si⟩ ?_ ?_
    · rintro i h₉ tk₉ hi ⟨g2, ρ', ws, kk, hws, hW, Si⟩
      have c1 := c1.keeps fun o e => kk _ o e
      have c2 := c2.keeps fun o e => kk _ o e
      have hragi := hragi.keeps fun o e => kk _ o e
      have Gi := Gi.keeps kk
      obtain ⟨row, hrow⟩ : ∃ row, rows[i]? = some row := ⟨_, List.getElem?_eq_getElem (by omega)⟩
      have hro : rowOf rows i = row := getD_of hrow
      obtain ⟨a, ea, ls, hla, hL⟩ := has i row hrow
      have hla2 : At g2 a (.list (ls.map .ref)) := (hgi _ _ hla).keeps fun o e => kk _ o e
      have hls : ls.length ≤ 12 := by
        rw [hL.1]
        exact (ok.row hrow).1
      refine nx_range Si hi fun h₉ Si => ⟨_, rfl, as_name ?_⟩
      rw [Int.zero_add]
      ((rename St _ _ _ _ _ => S0); (with_reducible refine s_store S0 (by with_unfolding_all rfl) (by with_unfolding_all rfl) (by with_unfolding_all rfl) ?_); (intro _ _; clear S0))
      with_reducible refine wpAny_IfExp ?_
      with_reducible refine wpAny_isTrue_Compare1 ?_ (by with_unfolding_all rfl)
      with_reducible refine e_local (by assumption) (by with_unfolding_all rfl) (by with_unfolding_all rfl) (by with_unfolding_all rfl) (by with_unfolding_all rfl) (by decide) ?_
      with_reducible refine e_cell (by with_unfolding_all rfl) (by wtm_at "at") (by with_unfolding_all rfl) (by with_unfolding_all rfl) (by decide) ?_
      with_reducible refine z_eqi ?_
      with_reducible refine wpAny_truthy_bool ?_
      refine i_dec (fun hic => ?_) fun hic => ?_
      · have hic' : i = cut := by omega
        with_reducible refine Subscript_ ?_
        with_reducible refine Subscript_ ?_
        with_reducible refine e_cell (by with_unfolding_all rfl) (by wtm_at "at") (by with_unfolding_all rfl) (by with_unfolding_all rfl) (by decide) ?_
        with_reducible refine e_local (by assumption) (by with_unfolding_all rfl) (by with_unfolding_all rfl) (by with_unfolding_all rfl) (by with_unfolding_all rfl) (by decide) ?_
        refine e_item (by wtm_at "at") (by omega) (by omega) (v := .ref a) (by rw [Int.toNat_natCast, List.getElem?_map, ea]; rfl) (by wtm_at "rf") ?_
        with_reducible refine e_slice ?_
        with_reducible refine ep_none ?_
        with_reducible refine ep_some ?_
        with_reducible refine wpAny_UnaryOp ?_
        with_reducible refine z_int ?_
        with_reducible refine z_neg ?_
        ((rename St _ _ _ _ _ => S0); (with_reducible refine s_newSlice S0 ?_); (intro _ _ _; clear S0))
        rename St _ _ _ _ _ => Si
        refine z_lsliceT Si (by wtm_at "at") (by wtm_at "at") .none (.int _ _) (by simp; omega) (by wtm_at "rf") fun nn h₁₀ _ _ Si => ?_
        rw [cutL_last] at Si
        ((rename St _ _ _ _ _ => S0); (with_reducible refine s_append S0 (by wtm_at "mem") (by wtm_at "up") (by wtm_at "small") ?_); (intro _ _; clear S0))
        rename St _ _ _ _ _ => Si
        rw [show ws.map Value.ref ++ [Value.ref nn] = (ws ++ [nn]).map Value.ref from by simp, show (ls.map Value.ref).dropLast = ls.dropLast.map Value.ref from by simp] at Si
        have Si := Si.sub (Δ' := [(nn, .list (ls.dropLast.map .ref)), (it, .pr (riP 0 6 (i + 1))), (acc, .list ((ws ++ [nn]).map .ref))]) (by wtm_at "sub")
        obtain ⟨g3, Si, k3, nw⟩ := Si.put
        refine ⟨_, _, rfl, g3, _, ws ++ [nn], kk.trans k3, by simp [hws], fun s hs => ?_, Si⟩
        by_cases c : s < i
        · obtain ⟨a, e1, e2⟩ := hW s c
          exact ⟨a, by rw [List.getElem?_append_left (by omega)]; exact e1, e2.mono fun a c x => x.imp id fun y => y.more k3⟩
        · have hs' : s = i := by omega
          rw [hs']
          refine ⟨nn, by rw [List.getElem?_append_right (by omega), hws, Nat.sub_self]; rfl, ls.dropLast, .inr (nw.less kk), ?_⟩
          rw [show wh rows cut i = row.dropLast from by show (if i = cut then _ else _) = _; rw [if_pos hic', hro]]
          exact hL.dropLast.mono fun a c x => .inl x
      · have hic' : ¬ i = cut := by omega
        with_reducible refine Subscript_ ?_
        with_reducible refine e_cell (by with_unfolding_all rfl) (by wtm_at "at") (by with_unfolding_all rfl) (by with_unfolding_all rfl) (by decide) ?_
        with_reducible refine e_local (by assumption) (by with_unfolding_all rfl) (by with_unfolding_all rfl) (by with_unfolding_all rfl) (by with_unfolding_all rfl) (by decide) ?_
        refine e_item (by wtm_at "at") (by omega) (by omega) (v := .ref a) (by rw [Int.toNat_natCast, List.getElem?_map, ea]; rfl) (by wtm_at "rf") ?_
        ((rename St _ _ _ _ _ => S0); (with_reducible refine s_append S0 (by wtm_at "mem") (by wtm_at "up") (by wtm_at "small") ?_); (intro _ _; clear S0))
        rename St _ _ _ _ _ => Si
        rw [show ws.map Value.ref ++ [Value.ref a] = (ws ++ [a]).map Value.ref from by simp] at Si
        refine ⟨_, _, rfl, g2, _, ws ++ [a], kk, by simp [hws], fun s hs => ?_, Si⟩
        by_cases c : s < i
        · obtain ⟨a, e1, e2⟩ := hW s c
          exact ⟨a, by rw [List.getElem?_append_left (by omega)]; exact e1, e2⟩
        · have hs' : s = i := by omega
          rw [hs']
          refine ⟨a, by rw [List.getElem?_append_right (by omega), hws, Nat.sub_self]; rfl, ls, .inl hla, ?_⟩
          rw [show wh rows cut i = row from by show (if i = cut then _ else _) = _; rw [if_neg hic', hro]]
          exact hL.mono fun a c x => .inl x
    · rintro h₉ tk₉ ⟨g2, ρ', ws, kk, hws, hW, Si⟩
      refine nx_range_end r'.hh Si (Nat.le_refl _) fun h₁₀ Si => ⟨rfl, rfl, g2, h₁₀, _, _, _, rfl, kk, Si, fun g₃ h₁₁ kg3 nw S => ?_⟩
      have hW3 : ∀ s, s < 6 → ∃ a, ws[s]? = some a ∧ RowAt (At g₃) a (wh rows cut s) := fun s hs => let ⟨a, e1, e2⟩ := hW s hs; ⟨a, e1, e2.mono fun a c x => x.elim (fun y => y.keeps fun o e => kg3 _ o e) fun y => (nw _ _ y).1⟩
      have G3 := G'.keeps kg3
      have hra3 : At g₃ ra (.list (as.map .ref)) := hra.keeps fun o e => kg3 _ o e
      obtain ⟨rowc, hrowc⟩ : ∃ row, rows[cut]? = some row := ⟨_, List.getElem?_eq_getElem (by omega)⟩
      have hroc : rowOf rows cut = rowc := getD_of hrowc
      obtain ⟨ac, eac, lc, hlac, hLc⟩ := has cut rowc hrowc
      have hlac3 : At g₃ ac (.list (lc.map .ref)) := hlac.keeps fun o e => kg3 _ o e
      obtain ⟨hrc1, hrc2⟩ := ok.row hrowc
      have hrc3 : 0 < rowc.length := List.length_pos_iff.mpr hrc2
      obtain ⟨xl, hxl⟩ : ∃ x, rowc[rowc.length - 1]? = some x := ⟨_, List.getElem?_eq_getElem (by omega)⟩
      obtain ⟨al, tl1, tl2, eal, hal⟩ := hLc.2 _ xl hxl
      have hal3 : At g₃ al (.list [.int xl.1 tl1, .bytes xl.2.toArray tl2]) := hal.keeps fun o e => kg3 _ o e
      have hxs := (ok.small _ (List.mem_of_getElem? hrowc) xl (List.mem_of_getElem? hxl)).2
      have hlast : lastOf rows cut = xl := by unfold lastOf; rw [hroc]; exact getD_of hxl
      have S := S.sub (Δ' := [(acc, .list (ws.map .ref)), (L + 1 + 1 + 1, .cell none), (L + 1 + 1, .cell (some (.int cut tc))), (L + 1, .cell (some (.ref ra)))]) (by wtm_at "sub")
      ((rename St _ _ _ _ _ => S0); (with_reducible refine s_storeC S0 (by with_unfolding_all rfl) (by wtm_at "mem") (by wtm_at "up") (by with_unfolding_all rfl) (by with_unfolding_all rfl) ?_); (intro _ _; clear S0))
      with_reducible refine xs_assign (by with_unfolding_all rfl) ?_
      with_reducible refine wpAny_Call_NameR ?_
      with_reducible refine e_glob (by assumption) (by assumption) (by k_is) (by with_unfolding_all rfl) (by with_unfolding_all rfl) (by with_unfolding_all rfl) (by decide) ?_
      with_reducible refine c_def (by assumption) (by k_is) (by with_unfolding_all rfl) (by with_unfolding_all rfl) ?_
      with_reducible refine spliced_more ?_ (by with_unfolding_all rfl)
      with_reducible refine wpAny_Call_NameR ?_
      with_reducible refine e_built (by assumption) (by assumption) (by k_is) (by wtm_at "boot") (by decide) (by with_unfolding_all rfl) (by with_unfolding_all rfl) (by with_unfolding_all rfl) (by with_unfolding_all rfl) (by decide) ?_
      with_reducible refine callWith_builtin1 ?_ (by with_unfolding_all rfl) (by with_unfolding_all rfl)
      with_reducible refine spliced_more ?_ (by with_unfolding_all rfl)
      with_reducible refine Subscript_ ?_
      with_reducible refine Subscript_ ?_
      with_reducible refine Subscript_ ?_
      with_reducible refine e_cell (by with_unfolding_all rfl) (by wtm_at "at") (by with_unfolding_all rfl) (by with_unfolding_all rfl) (by decide) ?_
      with_reducible refine e_cell (by with_unfolding_all rfl) (by wtm_at "at") (by with_unfolding_all rfl) (by with_unfolding_all rfl) (by decide) ?_
      refine e_item (by wtm_at "at") (by omega) (by omega) (v := .ref ac) (by rw [Int.toNat_natCast, List.getElem?_map, eac]; rfl) (by wtm_at "rf") ?_
      with_reducible refine wpAny_UnaryOp ?_
      with_reducible refine z_int ?_
      with_reducible refine z_neg ?_
      have hlcl : lc.length = rowc.length := hLc.1
      have hxi : (lc.map Value.ref)[((-1 : Int) + (lc.map Value.ref).length).toNat]? = some (.ref al) := by
        rw [List.length_map, hlcl, show ((-1 : Int) + (rowc.length : Nat)).toNat = rowc.length - 1 from by omega, List.getElem?_map, eal]; rfl
      refine e_itemN (vs := lc.map Value.ref) (by wtm_at "at") (by omega) (by rw [List.length_map]; omega) (by omega) hxi (by wtm_at "rf") ?_
      with_reducible refine z_int ?_
      refine e_item (by wtm_at "at") (by omega) (by omega) (v := .bytes xl.2.toArray tl2) (by rfl) (by wtm_at "rf") ?_
      with_reducible refine spliced_none ?_
      with_reducible refine z_blen (by first | omega | (simp; done) | (simp; omega)) ?_
      with_reducible refine spliced_more ?_ (by with_unfolding_all rfl)
      with_reducible refine wpAny_BinOp ?_
      with_reducible refine wpAny_BinOp ?_
      with_reducible refine z_int ?_
      with_reducible refine wpAny_Call_NameR ?_
      with_reducible refine e_built (by assumption) (by assumption) (by k_is) (by wtm_at "boot") (by decide) (by with_unfolding_all rfl) (by with_unfolding_all rfl) (by with_unfolding_all rfl) (by with_unfolding_all rfl) (by decide) ?_
      with_reducible refine callWith_builtin1 ?_ (by with_unfolding_all rfl) (by with_unfolding_all rfl)
      with_reducible refine spliced_more ?_ (by with_unfolding_all rfl)
      with_reducible refine Subscript_ ?_
      with_reducible refine Subscript_ ?_
      with_reducible refine Subscript_ ?_
      with_reducible refine e_cell (by with_unfolding_all rfl) (by wtm_at "at") (by with_unfolding_all rfl) (by with_unfolding_all rfl) (by decide) ?_
      with_reducible refine e_cell (by with_unfolding_all rfl) (by wtm_at "at") (by with_unfolding_all rfl) (by with_unfolding_all rfl) (by decide) ?_
      refine e_item (by wtm_at "at") (by omega) (by omega) (v := .ref ac) (by rw [Int.toNat_natCast, List.getElem?_map, eac]; rfl) (by wtm_at "rf") ?_
      with_reducible refine wpAny_UnaryOp ?_
      with_reducible refine z_int ?_
      with_reducible refine z_neg ?_
      refine e_itemN (vs := lc.map Value.ref) (by wtm_at "at") (by omega) (by rw [List.length_map]; omega) (by omega) hxi (by wtm_at "rf") ?_
      with_reducible refine z_int ?_
      refine e_item (by wtm_at "at") (by omega) (by omega) (v := .bytes xl.2.toArray tl2) (by rfl) (by wtm_at "rf") ?_
      with_reducible refine spliced_none ?_
      with_reducible refine z_blen (by first | omega | (simp; done) | (simp; omega)) ?_
      with_reducible refine z_add ?_
      with_reducible refine e_local (by assumption) (by with_unfolding_all rfl) (by with_unfolding_all rfl) (by with_unfolding_all rfl) (by with_unfolding_all rfl) (by decide) ?_
      with_reducible refine z_sub ?_
      with_reducible refine spliced_none ?_
      with_reducible refine c_in (by assumption) (by assumption) ?_
      rename St _ _ _ _ _ => S
      have e1 : (2 : Int) + (xl.2.toArray.size : Nat) - (lost : Nat) = ((2 + xl.2.length - lost : Nat) : Int) := by rw [List.size_toArray]; omega
      rw [e1, List.size_toArray]
      refine words_c (r'.less (by omega)) G3 S.keep (by omega) (by omega) fun h₁₂ t₁₂ tk₁₂ kp => ?_
      replace S := S.keepAll kp
      have hwo : wordsS xl.2.length (2 + xl.2.length - lost) = wordsOf rows cut lost := by unfold wordsOf; rw [hlast]
      rw [hwo]
      generalize hW : wordsOf rows cut lost = W at *
      ((rename St _ _ _ _ _ => S0); (with_reducible refine s_store S0 (by with_unfolding_all rfl) (by with_unfolding_all rfl) (by with_unfolding_all rfl) ?_); (intro _ _; clear S0))
      rename St _ _ _ _ _ => S
      obtain ⟨wc, ewc, lwc, hwc, hLw⟩ := hW3 cut hc
      have G3' := G3
      refine xs_assign (by wtm_at "rf") ?_
      refine wpAny_mono (Q := DuB z g g₃ L acc ra rows cut lost tc tl t₁₂ W ws) ?_ ?_ fun _ _ x => x
      · with_reducible refine wpAny_IfExp ?_
        with_reducible refine wpAny_isTrue_BoolOp ?_
        with_reducible refine wpAny_allTrue_And_cons ?_
        with_reducible refine wpAny_isTrue_Compare1 ?_ (by with_unfolding_all rfl)
        with_reducible refine e_local (by assumption) (by with_unfolding_all rfl) (by with_unfolding_all rfl) (by with_unfolding_all rfl) (by with_unfolding_all rfl) (by decide) ?_
        with_reducible refine z_str ?_
        refine z_nestr (b := wne W) rfl ?_
        cases hw : wne W with
        | false =>
          with_reducible refine wpAny_truthy_bool ?_
          with_reducible refine i_ff ?_
          with_reducible refine i_ff ?_
          with_reducible refine e_list ?_
          with_reducible refine spliced_none ?_
          ((rename St _ _ _ _ _ => S0); (with_reducible refine s_newList S0 (by wtm_at "small") ?_); (intro _ _ _ _ _; clear S0))
          rename Addr => ea
          rename St _ _ _ _ _ => S
          refine ⟨ea, [], g₃, _, _, rfl, rfl, Sub.refl _, ?_, S⟩
          rw [if_neg (fun k => Bool.noConfusion (hw.symm.trans k.1))]
          exact All2.nil
        | true =>
          with_reducible refine wpAny_truthy_bool ?_
          with_reducible refine i_tt ?_
          with_reducible refine wpAny_allTrue_And_cons ?_
          with_reducible refine wpAny_isTrue_Compare1 ?_ (by with_unfolding_all rfl)
          with_reducible refine Subscript_ ?_
          with_reducible refine e_cell (by with_unfolding_all rfl) (by wtm_at "at") (by with_unfolding_all rfl) (by with_unfolding_all rfl) (by decide) ?_
          with_reducible refine e_cell (by with_unfolding_all rfl) (by wtm_at "at") (by with_unfolding_all rfl) (by with_unfolding_all rfl) (by decide) ?_
          refine e_item (by wtm_at "at") (by omega) (by omega) (v := .ref wc) (by rw [Int.toNat_natCast, List.getElem?_map, ewc]; rfl) (by wtm_at "rf") ?_
          with_reducible refine e_list ?_
          with_reducible refine spliced_none ?_
          ((rename St _ _ _ _ _ => S0); (with_reducible refine s_newList S0 (by wtm_at "small") ?_); (intro _ _ _ _ _; clear S0))
          by_cases hwn : wh rows cut cut = []
          · have hl0 : lwc = [] := by
              have := hLw.1
              rw [hwn] at this
              exact List.length_eq_zero_iff.mp this
            rw [hl0] at hwc
            refine z_eq_same (vs := []) (by wtm_at "at") (by wtm_at "at") r'.units ?_
            with_reducible refine wpAny_truthy_bool ?_
            with_reducible refine i_tt ?_
            with_reducible refine wpAny_allTrue_And_nil ?_
            with_reducible refine i_tt ?_
            with_reducible refine e_list ?_
            with_reducible refine spliced_more ?_ (by with_unfolding_all rfl)
            with_reducible refine e_list ?_
            with_reducible refine spliced_more ?_ (by with_unfolding_all rfl)
            with_reducible refine wpAny_UnaryOp ?_
            with_reducible refine z_int ?_
            with_reducible refine z_neg ?_
            with_reducible refine spliced_more ?_ (by with_unfolding_all rfl)
            with_reducible refine e_cell (by with_unfolding_all rfl) (by wtm_at "at") (by with_unfolding_all rfl) (by with_unfolding_all rfl) (by decide) ?_
            with_reducible refine spliced_more ?_ (by with_unfolding_all rfl)
            with_reducible refine e_local (by assumption) (by with_unfolding_all rfl) (by with_unfolding_all rfl) (by with_unfolding_all rfl) (by with_unfolding_all rfl) (by decide) ?_
            with_reducible refine spliced_none ?_
            ((rename St _ _ _ _ _ => S0); (with_reducible refine s_newList S0 (by wtm_at "small") ?_); (intro _ _ _ _ _; clear S0))
            with_reducible refine spliced_none ?_
            ((rename St _ _ _ _ _ => S0); (with_reducible refine s_newList S0 (by wtm_at "small") ?_); (intro _ _ _ _ _; clear S0))
            rename_i eb _ _ _ ea _ _ _ S
            have S := S.sub (Δ' := [(ea, .list ([eb].map .ref)), (eb, .list [.int (-1) (tk₁₂ + 1 + 1 + 1), .int cut tc, .str W t₁₂]), (acc, .list (ws.map .ref)), (L + 1 + 1 + 1, .cell (some (.ref acc))), (L + 1 + 1, .cell (some (.int cut tc))), (L + 1, .cell (some (.ref ra)))]) (by wtm_at "sub")
            have S := S.perm (Δ' := [(eb, .list [.int (-1) (tk₁₂ + 1 + 1 + 1), .int cut tc, .str W t₁₂]), (ea, .list ([eb].map .ref)), (acc, .list (ws.map .ref)), (L + 1 + 1 + 1, .cell (some (.ref acc))), (L + 1 + 1, .cell (some (.int cut tc))), (L + 1, .cell (some (.ref ra)))]) (by wtm_at "perm")
            obtain ⟨g4, S, k4, nw4⟩ := S.put
            refine ⟨ea, [eb], g4, _, _, rfl, rfl, k4, ?_, S⟩
            rw [if_pos ⟨hw, hwn⟩]
            exact All2.nil.snoc (as := []) (bs := []) ⟨_, _, _, nw4.less kg3⟩
          · have hl0 : lwc.length ≠ 0 := fun e => by
              have := hLw.1
              rw [e] at this
              exact hwn (List.length_eq_zero_iff.mp this.symm)
            refine z_eq_len (vs := lwc.map .ref) (ws := []) (by wtm_at "at") (by wtm_at "at") r'.units (by simpa using hl0) ?_
            with_reducible refine wpAny_truthy_bool ?_
            with_reducible refine i_ff ?_
            with_reducible refine i_ff ?_
            with_reducible refine e_list ?_
            with_reducible refine spliced_none ?_
            ((rename St _ _ _ _ _ => S0); (with_reducible refine s_newList S0 (by wtm_at "small") ?_); (intro _ _ _ _ _; clear S0))
            rename Addr => ea
            rename St _ _ _ _ _ => S
            have S := S.sub (Δ' := [(ea, .list []), (acc, .list (ws.map .ref)), (L + 1 + 1 + 1, .cell (some (.ref acc))), (L + 1 + 1, .cell (some (.int cut tc))), (L + 1, .cell (some (.ref ra)))]) (by wtm_at "sub")
            refine ⟨ea, [], g₃, _, _, rfl, rfl, Sub.refl _, ?_, S⟩
            rw [if_neg (by simp [hwn])]
            exact All2.nil
      · rintro v s' ⟨ea, as0, g4, h₁₃, tk₁₃, rfl, rfl, k4, hA0, S⟩
        have ha0 : as0.length ≤ 1 := by
          rw [hA0.1]
          split <;> simp
        have G4 := G3.keeps k4
        ((rename St _ _ _ _ _ => S0); (with_reducible refine s_store S0 (by with_unfolding_all rfl) (by with_unfolding_all rfl) (by with_unfolding_all rfl) ?_); (intro _ _; clear S0))
        with_reducible refine xs_expr (by with_unfolding_all rfl) (by with_unfolding_all rfl) ?_
        refine m_call1 F.plainAttrs_list F.slot_list_extend F.type_list_extend (by wtm_at "rf") (by wtm_at "rf") (by wtm_at "rf") (by wtm_at "rf") (by wtm_at "rf") ?_
        with_reducible refine e_local (by assumption) (by with_unfolding_all rfl) (by with_unfolding_all rfl) (by with_unfolding_all rfl) (by with_unfolding_all rfl) (by decide) ?_
        with_reducible refine m_list (by wtm_at "at") ?_
        with_reducible refine spliced_more ?_ (by with_unfolding_all rfl)
        with_reducible refine e_list ?_
        with_reducible refine spliced_more ?_ (by with_unfolding_all rfl)
        with_reducible refine e_list ?_
        with_reducible refine spliced_more ?_ (by with_unfolding_all rfl)
        with_reducible refine wpAny_UnaryOp ?_
        with_reducible refine z_int ?_
        with_reducible refine z_neg ?_
        with_reducible refine spliced_more ?_ (by with_unfolding_all rfl)
        with_reducible refine z_int ?_
        with_reducible refine spliced_more ?_ (by with_unfolding_all rfl)
        with_reducible refine wpAny_Call_NameR ?_
        with_reducible refine e_glob (by assumption) (by assumption) (by k_is) (by with_unfolding_all rfl) (by with_unfolding_all rfl) (by with_unfolding_all rfl) (by decide) ?_
        with_reducible refine c_def (by assumption) (by k_is) (by with_unfolding_all rfl) (by with_unfolding_all rfl) ?_
        with_reducible refine spliced_more ?_ (by with_unfolding_all rfl)
        with_reducible refine z_int ?_
        with_reducible refine spliced_more ?_ (by with_unfolding_all rfl)
        with_reducible refine z_int ?_
        with_reducible refine spliced_none ?_
        with_reducible refine c_in (by assumption) (by assumption) ?_
        rename St _ _ _ _ _ => S
        refine words_c (n := 2) (l := 3) (r'.less (by omega)) G4 S.keep (by omega) (by omega) fun h₁₄ t₁₄ tk₁₄ kp => ?_
        replace S := S.keepAll kp
        with_reducible refine spliced_none ?_
        ((rename St _ _ _ _ _ => S0); (with_reducible refine s_newList S0 (by wtm_at "small") ?_); (intro _ _ _ _ _; clear S0))
        with_reducible refine spliced_more ?_ (by with_unfolding_all rfl)
        with_reducible refine e_list ?_
        with_reducible refine spliced_more ?_ (by with_unfolding_all rfl)
        with_reducible refine wpAny_UnaryOp ?_
        with_reducible refine z_int ?_
        with_reducible refine z_neg ?_
        with_reducible refine spliced_more ?_ (by with_unfolding_all rfl)
        with_reducible refine z_int ?_
        with_reducible refine spliced_more ?_ (by with_unfolding_all rfl)
        with_reducible refine wpAny_Call_NameR ?_
        with_reducible refine e_glob (by assumption) (by assumption) (by k_is) (by with_unfolding_all rfl) (by with_unfolding_all rfl) (by with_unfolding_all rfl) (by decide) ?_
        with_reducible refine c_def (by assumption) (by k_is) (by with_unfolding_all rfl) (by with_unfolding_all rfl) ?_
        with_reducible refine spliced_more ?_ (by with_unfolding_all rfl)
        with_reducible refine z_int ?_
        with_reducible refine spliced_more ?_ (by with_unfolding_all rfl)
        with_reducible refine z_int ?_
        with_reducible refine spliced_none ?_
        with_reducible refine c_in (by assumption) (by assumption) ?_
        rename St _ _ _ _ _ => S
        refine words_c (n := 0) (l := 1) (r'.less (by omega)) G4 S.keep (by omega) (by omega) fun h₁₅ t₁₅ tk₁₅ kp => ?_
        replace S := S.keepAll kp
        with_reducible refine spliced_none ?_
        ((rename St _ _ _ _ _ => S0); (with_reducible refine s_newList S0 (by wtm_at "small") ?_); (intro _ _ _ _ _; clear S0))
        with_reducible refine spliced_none ?_
        ((rename St _ _ _ _ _ => S0); (with_reducible refine s_newList S0 (by wtm_at "small") ?_); (intro _ _ _ _ _; clear S0))
        with_reducible refine spliced_none ?_
        rename_i x1 _ _ _ x2 _ _ _ xo _ _ _ S
        refine s_extend (vs := as0.map .ref) (ws := [.ref x1, .ref x2]) S (by wtm_at "mem") (by wtm_at "up") (by wtm_at "at") (by simp; omega) fun h₁₆ S => ?_
        rw [show as0.map Value.ref ++ [.ref x1, .ref x2] = (as0 ++ [x1] ++ [x2]).map Value.ref from by simp] at S
        have S := S.sub (Δ' := [(x2, .list [.int (-1) (tk₁₄ + 1), .int 8 (tk₁₄ + 1 + 1), .str (wordsS 0 1) t₁₅]), (x1, .list [.int (-1) (tk₁₃ + 1 + 1), .int 6 (tk₁₃ + 1 + 1 + 1), .str (wordsS 2 3) t₁₄])] ++ [(ea, .list ((as0 ++ [x1] ++ [x2]).map .ref)), (acc, .list (ws.map .ref)), (L + 1 + 1 + 1, .cell (some (.ref acc))), (L + 1 + 1, .cell (some (.int cut tc))), (L + 1, .cell (some (.ref ra)))]) (by wtm_at "sub")
        have hf1 := S.fresh (a := x1) (c := .list [.int (-1) (tk₁₃ + 1 + 1), .int 6 (tk₁₃ + 1 + 1 + 1), .str (wordsS 2 3) t₁₄]) (by wtm_at "mem")
        have hf2 := S.fresh (a := x2) (c := .list [.int (-1) (tk₁₄ + 1), .int 8 (tk₁₄ + 1 + 1), .str (wordsS 0 1) t₁₅]) (by wtm_at "mem")
        obtain ⟨g5, S, k5, hD, _⟩ := S.seal
        have r1 : EvI (Nw g g5) x1 (.bad 6 (wordsS 2 3)) := ⟨_, _, _, hD _ (.tail _ (.head _)), (kg3.trans k4).none hf1⟩
        have r2 : EvI (Nw g g5) x2 (.bad 8 (wordsS 0 1)) := ⟨_, _, _, hD _ (.head _), (kg3.trans k4).none hf2⟩
        have hA1 := ((hA0.mono fun a ev x => x.mono fun a c x => x.more k5).snoc r1).snoc r2
        have hA1 : All2 (EvI (Nw g g5)) (as0 ++ [x1] ++ [x2]) ((if wne W = true ∧ wh rows cut cut = [] then [.bad cut W] else []) ++ [.bad 6 (wordsS 2 3), .bad 8 (wordsS 0 1)]) := by
          rw [List.append_assoc _ [Ev.bad 6 _] [Ev.bad 8 _]] at hA1
          exact hA1
        generalize hE1 : (if wne W = true ∧ wh rows cut cut = [] then [Ev.bad cut W] else []) ++ [Ev.bad 6 (wordsS 2 3), Ev.bad 8 (wordsS 0 1)] = E1 at hA1
        have ha1 : (as0 ++ [x1] ++ [x2]).length ≤ 3 := by simp; omega
        generalize as0 ++ [x1] ++ [x2] = as1 at *
        have G5 := G4.keeps k5
        have hW5 : ∀ s, s < 6 → ∃ a, ws[s]? = some a ∧ RowAt (At g5) a (wh rows cut s) := fun s hs => let ⟨a, e1, e2⟩ := hW3 s hs; ⟨a, e1, e2.mono fun a c x => x.keeps fun o e => k5 _ o (k4 _ o e)⟩
        have kg5 := (kg3.trans k4).trans k5
        clear hA0 hD hf1 hf2
        refine xs_for (by intro x; rfl) ?_
        with_reducible refine wpAny_Call_NameR ?_
        with_reducible refine e_built (by assumption) (by assumption) (by k_is) (by wtm_at "boot") (by decide) (by with_unfolding_all rfl) (by with_unfolding_all rfl) (by with_unfolding_all rfl) (by with_unfolding_all rfl) (by decide) ?_
        with_reducible refine callWith_builtin1 ?_ (by with_unfolding_all rfl) (by with_unfolding_all rfl)
        with_reducible refine spliced_more ?_ (by with_unfolding_all rfl)
        refine e_comp (by intro x; rfl) (by wtm_at "rf") (by wtm_at "rf") (by decide) ?_
        with_reducible refine wpAny_Call_NameR ?_
        with_reducible refine e_built (by assumption) (by assumption) (by k_is) (by wtm_at "boot") (by decide) (by with_unfolding_all rfl) (by with_unfolding_all rfl) (by with_unfolding_all rfl) (by with_unfolding_all rfl) (by decide) ?_
        with_reducible refine callWith_type1 ?_ (by with_unfolding_all rfl) (by with_unfolding_all rfl)
        with_reducible refine spliced_more ?_ (by with_unfolding_all rfl)
        with_reducible refine z_int ?_
        with_reducible refine spliced_none ?_
        refine s_range (n := 6) S fun rg h₁₇ S => ?_
        refine it_range S (by wtm_at "at") (by omega) fun it h₁₈ _ _ S => ?_
        refine comp_atG (M := [(it, .pr (riP 0 6 0))]) S G5 (by decide) rfl fun gi C acc2 h₁₉ tk₁₉ Gi hs hsi hacc Si => ?_
        have c1 : At gi (L + 1 + 1 + 1) (.cell (some (.ref acc))) := S.inn hs (by wtm_at "mem")
        have hwsgi : At gi acc (.list (ws.map .ref)) := S.inn hs (by wtm_at "mem")
        have hgi5 : ∀ a c, At g5 a c → At gi a c := fun a c x => S.ing hs x
        obtain ⟨hf12, hf2, hwl⟩ := wh_sum ok hc
        have hD6 := whRows_len rows cut
        have hDr : ∀ s, s < 6 → rowOf (whRows rows cut) s = wh rows cut s := fun s hs => whRows_row hs
        refine out_two (by intro v; rfl) (by intro x; rfl) (fun Q' E' q => sf_range Si (by wtm_at "mem") q) 6
          (DuC gi C it acc2 rows cut) ⟨gi, [], [], Sub.refl _, All2.nil, Si⟩ ?_ ?_
        · rintro s h₂₀ tk₂₀ hs6 ⟨g2, ρ', ps, kk, hP, Si⟩
          have c1 := c1.keeps fun o e => kk _ o e
          have hwsgi := hwsgi.keeps fun o e => kk _ o e
          have Gi := Gi.keeps kk
          obtain ⟨a, ea', lw, hla, hL⟩ := hW5 s hs6
          have hla2 : At g2 a (.list (lw.map .ref)) := (hgi5 _ _ hla).keeps fun o e => kk _ o e
          have hlw : lw.length = (wh rows cut s).length := hL.1
          have hlw12 := hwl s hs6
          have hlw' : lw.length ≤ 12 := by rw [hlw]; exact hlw12
          refine nx_range Si hs6 fun h₂₁ Si => ⟨_, rfl, as_name ?_⟩
          rw [Int.zero_add]
          ((rename St _ _ _ _ _ => S0); (with_reducible refine s_store S0 (by with_unfolding_all rfl) (by with_unfolding_all rfl) (by with_unfolding_all rfl) ?_); (intro _ _; clear S0))
          with_reducible refine wpAny_Call_NameR ?_
          with_reducible refine e_built (by assumption) (by assumption) (by k_is) (by wtm_at "boot") (by decide) (by with_unfolding_all rfl) (by with_unfolding_all rfl) (by with_unfolding_all rfl) (by with_unfolding_all rfl) (by decide) ?_
          with_reducible refine callWith_type1 ?_ (by with_unfolding_all rfl) (by with_unfolding_all rfl)
          with_reducible refine spliced_more ?_ (by with_unfolding_all rfl)
          with_reducible refine wpAny_Call_NameR ?_
          with_reducible refine e_built (by assumption) (by assumption) (by k_is) (by wtm_at "boot") (by decide) (by with_unfolding_all rfl) (by with_unfolding_all rfl) (by with_unfolding_all rfl) (by with_unfolding_all rfl) (by decide) ?_
          with_reducible refine callWith_builtin1 ?_ (by with_unfolding_all rfl) (by with_unfolding_all rfl)
          with_reducible refine spliced_more ?_ (by with_unfolding_all rfl)
          with_reducible refine Subscript_ ?_
          with_reducible refine e_cell (by with_unfolding_all rfl) (by wtm_at "at") (by with_unfolding_all rfl) (by with_unfolding_all rfl) (by decide) ?_
          with_reducible refine e_local (by assumption) (by with_unfolding_all rfl) (by with_unfolding_all rfl) (by with_unfolding_all rfl) (by with_unfolding_all rfl) (by decide) ?_
          refine e_item (by wtm_at "at") (by omega) (by omega) (v := .ref a) (by rw [Int.toNat_natCast, List.getElem?_map, ea']; rfl) (by wtm_at "rf") ?_
          with_reducible refine spliced_none ?_
          with_reducible refine l_len (by wtm_at "at") (by first | omega | (simp; done) | (simp; omega)) ?_
          with_reducible refine spliced_none ?_
          rename St _ _ _ _ _ => Si
          rw [List.length_map, hlw]
          refine s_range Si fun rg2 h₂₂ Si => ?_
          refine it_range Si (by wtm_at "at") (Nat.lt_of_le_of_lt hlw12 (by decide)) fun it3 h₂₃ _ _ Si => ?_
          have Si := Si.sub (Δ' := [(it3, .pr (riP 0 (wh rows cut s).length 0)), (it, .pr (riP 0 6 (s + 1))), (acc2, .list (ps.map .ref))]) (by wtm_at "sub")
          refine in_two (by intro v; rfl) (fun Q' E' q => sf_range Si (by wtm_at "mem") q) (wh rows cut s).length
            (DuD gi g2 C it it3 acc2 rows cut s tk₂₀) ⟨g2, ps, kk, Sub.refl _, by simpa using hP, Si.names (by wtm_at "nm")⟩ ?_ ?_
          · rintro k h₂₄ tk₂₄ hk ⟨g3, ps, kk, k23, hP, Si⟩
            have c1 := c1.keeps fun o e => k23 _ o e
            have hwsgi := hwsgi.keeps fun o e => k23 _ o e
            have Gi := Gi.keeps k23
            have hla2 := hla2.keeps fun o e => k23 _ o e
            obtain ⟨x, hx⟩ : ∃ x, (wh rows cut s)[k]? = some x := ⟨_, List.getElem?_eq_getElem hk⟩
            obtain ⟨al', t1, t2, eal', hal'⟩ := hL.2 k x hx
            have hal2 : At g3 al' (.list [.int x.1 t1, .bytes x.2.toArray t2]) := (hgi5 _ _ hal').keeps fun o e => kk _ o e
            have hpl : ps.length ≤ 100 := by
              rw [hP.1, List.length_append, List.length_map, List.length_range]
              have : (fl (whRows rows cut) s).length ≤ (fl (whRows rows cut) 6).length := by
                have hsub : fl (whRows rows cut) s ⊆ fl (whRows rows cut) 6 := fun ⟨a, b⟩ h => (fl_mem _ _ _ _).mpr (by have := (fl_mem _ _ _ _).mp h; exact ⟨by omega, this.2⟩)
                exact (fl_nodup _ _).length_le_of_subset hsub
              omega
            refine nx_range Si hk fun h₂₅ Si => ⟨_, rfl, as_name ?_⟩
            rw [Int.zero_add]
            ((rename St _ _ _ _ _ => S0); (with_reducible refine s_store S0 (by with_unfolding_all rfl) (by with_unfolding_all rfl) (by with_unfolding_all rfl) ?_); (intro _ _; clear S0))
            with_reducible refine e_list ?_
            with_reducible refine spliced_more ?_ (by with_unfolding_all rfl)
            with_reducible refine Subscript_ ?_
            with_reducible refine Subscript_ ?_
            with_reducible refine Subscript_ ?_
            with_reducible refine e_cell (by with_unfolding_all rfl) (by wtm_at "at") (by with_unfolding_all rfl) (by with_unfolding_all rfl) (by decide) ?_
            with_reducible refine e_local (by assumption) (by with_unfolding_all rfl) (by with_unfolding_all rfl) (by with_unfolding_all rfl) (by with_unfolding_all rfl) (by decide) ?_
            refine e_item (by wtm_at "at") (by omega) (by omega) (v := .ref a) (by rw [Int.toNat_natCast, List.getElem?_map, ea']; rfl) (by wtm_at "rf") ?_
            with_reducible refine e_local (by assumption) (by with_unfolding_all rfl) (by with_unfolding_all rfl) (by with_unfolding_all rfl) (by with_unfolding_all rfl) (by decide) ?_
            refine e_item (by wtm_at "at") (by omega) (by omega) (v := .ref al') (by rw [Int.toNat_natCast, List.getElem?_map, eal']; rfl) (by wtm_at "rf") ?_
            with_reducible refine z_int ?_
            refine e_item (by wtm_at "at") (by omega) (by omega) (v := .int x.1 t1) (by rfl) (by wtm_at "rf") ?_
            with_reducible refine spliced_more ?_ (by with_unfolding_all rfl)
            with_reducible refine e_local (by assumption) (by with_unfolding_all rfl) (by with_unfolding_all rfl) (by with_unfolding_all rfl) (by with_unfolding_all rfl) (by decide) ?_
            with_reducible refine spliced_more ?_ (by with_unfolding_all rfl)
            with_reducible refine e_local (by assumption) (by with_unfolding_all rfl) (by with_unfolding_all rfl) (by with_unfolding_all rfl) (by with_unfolding_all rfl) (by decide) ?_
            with_reducible refine spliced_none ?_
            ((rename St _ _ _ _ _ => S0); (with_reducible refine s_newList S0 (by wtm_at "small") ?_); (intro _ _ _ _ _; clear S0))
            ((rename St _ _ _ _ _ => S0); (with_reducible refine s_append S0 (by wtm_at "mem") (by wtm_at "up") (by wtm_at "small") ?_); (intro _ _; clear S0))
            rename Addr => pa
            rename St _ _ _ _ _ => Si
            obtain ⟨g4', Si, k34, nw⟩ := Si.put
            rw [show ps.map Value.ref ++ [Value.ref pa] = (ps ++ [pa]).map Value.ref from by simp] at Si
            refine ⟨_, _, rfl, g4', ps ++ [pa], kk.trans k34, k23.trans k34, ?_, Si.names (by wtm_at "nm")⟩
            rw [List.range_succ, List.map_append, ← List.append_assoc]
            refine (hP.mono fun a q ⟨t, t', t'', x⟩ => ⟨t, t', t'', x.more k34⟩).snoc ⟨t1, tk₂₀, tk₂₄, ?_⟩
            have hgx : (rowOf (whRows rows cut) s).getD k (0, []) = x := by rw [hDr s hs6]; exact getD_of hx
            show Nw gi g4' pa (.list [.int ((rowOf (whRows rows cut) s).getD k (0, [])).1 t1, .int s tk₂₀, .int k tk₂₄])
            rw [hgx]
            exact nw.less kk
          · rintro h₂₄ tk₂₄ ⟨g3, ps, kk, k23, hP, Si⟩
            refine nx_range_end r'.hh Si (Nat.le_refl _) fun h₂₅ Si => ⟨rfl, rfl, h₂₅, tk₂₄, rfl, g3, _, ps, kk, ?_, Si⟩
            rw [fl_succ, hDr s hs6]
            exact hP
        · rintro h₂₀ tk₂₀ ⟨g2, ρ', ps, kk, hP, Si⟩
          refine nx_range_end r'.hh Si (Nat.le_refl _) fun h₂₁ Si => ⟨rfl, rfl, g2, h₂₁, _, _, _, rfl, kk, Si, fun g₆ h₂₂ kg6 nw S => ?_⟩
          have G6 := G5.keeps kg6
          have hP6 : All2 (fun a (q : Nat × Nat) => ∃ t t' t'', At g₆ a (.list [.int ((rowOf (whRows rows cut) q.1).getD q.2 (0, [])).1 t, .int q.1 t', .int q.2 t''])) ps (fl (whRows rows cut) 6) := hP.mono fun a q ⟨t, t', t'', x⟩ => ⟨t, t', t'', (nw _ _ x).1⟩
          have hpsl : ps.length = (fl (whRows rows cut) 6).length := hP6.1
          have S := S.sub (Δ' := [(acc2, .list (ps.map .ref)), (ea, .list (as1.map .ref)), (acc, .list (ws.map .ref)), (L + 1 + 1 + 1, .cell (some (.ref acc))), (L + 1 + 1, .cell (some (.int cut tc))), (L + 1, .cell (some (.ref ra)))]) (by wtm_at "sub")
          have hflb : ∀ i (hi : i < (fl (whRows rows cut) 6).length), ((fl (whRows rows cut) 6)[i]).1 < 6 ∧ ((fl (whRows rows cut) 6)[i]).2 < 12 := fun i hi => by
            have hm := List.getElem_mem hi
            obtain ⟨h1, h2⟩ := (fl_mem (whRows rows cut) 6 _ _).mp (show (((fl (whRows rows cut) 6)[i]).1, ((fl (whRows rows cut) 6)[i]).2) ∈ _ from hm)
            have h3 := hwl _ h1
            rw [hDr _ h1] at h2
            exact ⟨h1, Nat.lt_of_lt_of_le h2 h3⟩
          have hfg : ∀ i (hi : i < (fl (whRows rows cut) 6).length), (fl (whRows rows cut) 6).getD i (0, 0) = (fl (whRows rows cut) 6)[i] := fun i hi => getD_of (List.getElem?_eq_getElem hi)
          with_reducible refine spliced_none ?_
          refine s_sorted (vs := ps.map .ref) (ks := fun i => [(((rowOf (whRows rows cut) ((fl (whRows rows cut) 6).getD i (0, 0)).1).getD ((fl (whRows rows cut) 6).getD i (0, 0)).2 (0, [])).1 : Int), (((fl (whRows rows cut) 6).getD i (0, 0)).1 : Int), (((fl (whRows rows cut) 6).getD i (0, 0)).2 : Int)])
            (key := fun i => okey (whRows rows cut) ((fl (whRows rows cut) 6).getD i (0, 0))) (m := 3) S (by have := r'.hu; omega) (by wtm_at "at") (by rw [List.length_map, hpsl]; exact hf2) (by rw [List.length_map, hpsl]; omega) (fun i hi => ?_) ?_ ?_ fun p D h₂₃ hp hpa _ _ S => ?_
          · rw [List.length_map, hpsl] at hi
            obtain ⟨a, ea1, t, t', t'', hA⟩ := hP6.2 i _ (List.getElem?_eq_getElem hi)
            refine ⟨a, _, ?_, S.old hA, ?_, rfl⟩
            · exact getD_of (by rw [List.getElem?_map, ea1]; rfl)
            · rw [hfg i hi]
              exact .cons _ _ (.cons _ _ (.cons _ _ .nil))
          · intro i j hi hj hne
            rw [List.length_map, hpsl] at hi hj
            rw [hfg i hi, hfg j hj]
            have b1 := hflb i hi
            have b2 := hflb j hj
            exact okey_lex ⟨by omega, by omega⟩ ⟨by omega, by omega⟩ rfl rfl fun e => hne ((List.getElem_inj (fl_nodup (whRows rows cut) 6)).mp e)
          · intro i j hi hj e
            rw [List.length_map, hpsl] at hi hj
            rw [hfg i hi, hfg j hj] at e
            have b1 := hflb i hi
            have b2 := hflb j hj
            exact (List.getElem_inj (fl_nodup (whRows rows cut) 6)).mp (okey_inj ⟨by omega, by omega⟩ ⟨by omega, by omega⟩ e)
          rw [List.length_map, hpsl] at hp hpa
          have hos := o.uniq (Ord.sorted hD6 hp hpa)
          have hosl : os.length = (fl (whRows rows cut) 6).length := by rw [hos, List.length_map]; exact hp.size
          have hit : ∀ (j s k : Nat), os[j]? = some (s, k) → ∃ (a : Addr) (t t' t'' : Tok), (p.toList.map fun i => (ps.map Value.ref).getD i .none)[j]? = some (.ref a) ∧ At g₆ a (.list [.int ((rowOf (whRows rows cut) s).getD k (0, [])).1 t, .int s t', .int k t'']) := fun j s k e => by
            rw [hos, List.getElem?_map] at e
            obtain ⟨i, e3, e4⟩ := Option.map_eq_some_iff.mp e
            have hi : i < (fl (whRows rows cut) 6).length := by simpa using hp.mem_iff.mp (List.mem_of_getElem? e3)
            rw [hfg i hi] at e4
            obtain ⟨a, ea1, t, t', t'', hA⟩ := hP6.2 i _ (List.getElem?_eq_getElem hi)
            rw [e4] at hA
            exact ⟨a, t, t', t'', by rw [List.getElem?_map, e3]; exact congrArg some (getD_of (by rw [List.getElem?_map, ea1]; rfl)), hA⟩
          have hDl : (p.toList.map fun i => (ps.map Value.ref).getD i .none).length = os.length := by rw [List.length_map, hosl]; exact hp.size
          generalize (p.toList.map fun i => (ps.map Value.ref).getD i .none) = its at *
          refine it_list S (by wtm_at "at") fun it2 h₂₄ _ _ S => ?_
          have S := S.sub (Δ' := [(it2, .pr (liP D 0)), (D, .list its), (ea, .list (as1.map .ref)), (acc, .list (ws.map .ref)), (L + 1 + 1 + 1, .cell (some (.ref acc))), (L + 1 + 1, .cell (some (.int cut tc))), (L + 1, .cell (some (.ref ra)))]) (by wtm_at "sub")
          have hdq : ∀ s k, dueQ rows cut lost (s, k) = .ltr ((wh rows cut s).getD k (0, [])).1 s ((wh rows cut s).getD k (0, [])).2 :: (if wne W = true ∧ s = cut ∧ k + 1 = (wh rows cut s).length then [.bad s W] else []) := fun s k => by
            unfold dueQ; rw [hW]
          have kg6' := kg5.trans kg6
          refine for_at os.length (DuE g g₆ L it2 D ea acc ra rows cut lost tc t₁₂ W its ws E1 os)
            ⟨g₆, as1, Sub.refl _, by omega, by rw [List.take_zero, List.flatMap_nil, List.append_nil]; exact hA1.mono fun a ev x => x.mono fun a c x => x.more kg6, S.names (by wtm_at "nm")⟩ ?_ ?_
          · rintro j h₂₅ tk₂₅ hj ⟨g7, as', k7, hal', hA, S⟩
            obtain ⟨⟨s, k⟩, hoj⟩ : ∃ q, os[j]? = some q := ⟨_, List.getElem?_eq_getElem hj⟩
            obtain ⟨a, t1, t2, t3, hitj, hAa⟩ := hit j s k hoj
            obtain ⟨hs6, hkl⟩ := o.at hoj
            rw [hD6] at hs6
            rw [hDr s hs6] at hkl hAa
            have G7 := G6.keeps k7
            have hAa7 := hAa.keeps fun o e => k7 _ o e
            obtain ⟨x, hx⟩ : ∃ x, (wh rows cut s)[k]? = some x := ⟨_, List.getElem?_eq_getElem hkl⟩
            have hgx : (wh rows cut s).getD k (0, []) = x := getD_of hx
            rw [hgx] at hAa7
            obtain ⟨aw, eaw, lw, hlaw, hLw'⟩ := hW5 s hs6
            obtain ⟨al', u1, u2, eal', hal''⟩ := hLw'.2 k x hx
            have hlaw7 : At g7 aw (.list (lw.map .ref)) := hlaw.keeps fun o e => k7 _ o (kg6 _ o e)
            have hal7 : At g7 al' (.list [.int x.1 u1, .bytes x.2.toArray u2]) := hal''.keeps fun o e => k7 _ o (kg6 _ o e)
            have hlwl : lw.length ≤ 12 := by rw [hLw'.1]; exact hwl s hs6
            have hx5 : x.2.length ≤ 5 := wh_small ok hs6 (List.mem_of_getElem? hx)
            have hk13 : k < 13 := Nat.lt_of_lt_of_le hkl (Nat.le_trans (hwl s hs6) (by decide))
            have htk : (os.take (j + 1)).flatMap (dueQ rows cut lost) = (os.take j).flatMap (dueQ rows cut lost) ++ (.ltr x.1 s x.2 :: (if wne W = true ∧ s = cut ∧ k + 1 = (wh rows cut s).length then [.bad s W] else [])) := by
              rw [List.take_add_one, hoj]
              show List.flatMap _ (os.take j ++ [(s, k)]) = _
              rw [List.flatMap_append, List.flatMap_singleton, hdq, hgx]
            refine nx_list S (by wtm_at "at") hitj fun h₂₆ S => ⟨_, rfl, lo_tup S ?_⟩
            ((rename St _ _ _ _ _ => S0); (first | with_reducible refine as_tup (Rm.hh (by assumption)) S0 (by wtm_at "at") (by with_unfolding_all rfl) (by with_unfolding_all rfl) ?_ | with_reducible refine as_list (Rm.hh (by assumption)) S0 (by wtm_at "at") (by with_unfolding_all rfl) (by with_unfolding_all rfl) ?_); (intro _ _; clear S0))
            with_reducible refine ao_cons (by with_unfolding_all rfl) ?_
            with_reducible refine as_name ?_
            ((rename St _ _ _ _ _ => S0); (with_reducible refine s_store S0 (by with_unfolding_all rfl) (by with_unfolding_all rfl) (by with_unfolding_all rfl) ?_); (intro _ _; clear S0))
            with_reducible refine ao_cons (by with_unfolding_all rfl) ?_
            with_reducible refine as_name ?_
            ((rename St _ _ _ _ _ => S0); (with_reducible refine s_store S0 (by with_unfolding_all rfl) (by with_unfolding_all rfl) (by with_unfolding_all rfl) ?_); (intro _ _; clear S0))
            with_reducible refine ao_cons (by with_unfolding_all rfl) ?_
            with_reducible refine as_name ?_
            ((rename St _ _ _ _ _ => S0); (with_reducible refine s_store S0 (by with_unfolding_all rfl) (by with_unfolding_all rfl) (by with_unfolding_all rfl) ?_); (intro _ _; clear S0))
            with_reducible refine ao_nil ?_
            with_reducible refine xs_expr (by with_unfolding_all rfl) (by with_unfolding_all rfl) ?_
            (with_reducible refine wpAny_Call_append (by with_unfolding_all rfl) (by with_unfolding_all rfl) (by with_unfolding_all rfl) (by with_unfolding_all rfl) ?_)
            with_reducible refine e_local (by assumption) (by with_unfolding_all rfl) (by with_unfolding_all rfl) (by with_unfolding_all rfl) (by with_unfolding_all rfl) (by decide) ?_
            with_reducible refine ex_append (by wtm_at "at") ?_
            with_reducible refine e_list ?_
            with_reducible refine spliced_more ?_ (by with_unfolding_all rfl)
            with_reducible refine e_local (by assumption) (by with_unfolding_all rfl) (by with_unfolding_all rfl) (by with_unfolding_all rfl) (by with_unfolding_all rfl) (by decide) ?_
            with_reducible refine spliced_more ?_ (by with_unfolding_all rfl)
            with_reducible refine e_local (by assumption) (by with_unfolding_all rfl) (by with_unfolding_all rfl) (by with_unfolding_all rfl) (by with_unfolding_all rfl) (by decide) ?_
            with_reducible refine spliced_more ?_ (by with_unfolding_all rfl)
            with_reducible refine wpAny_Call_NameR ?_
            with_reducible refine e_glob (by assumption) (by assumption) (by k_is) (by with_unfolding_all rfl) (by with_unfolding_all rfl) (by with_unfolding_all rfl) (by decide) ?_
            with_reducible refine c_def (by assumption) (by k_is) (by with_unfolding_all rfl) (by with_unfolding_all rfl) ?_
            with_reducible refine spliced_more ?_ (by with_unfolding_all rfl)
            with_reducible refine Subscript_ ?_
            with_reducible refine Subscript_ ?_
            with_reducible refine Subscript_ ?_
            with_reducible refine e_cell (by with_unfolding_all rfl) (by wtm_at "at") (by with_unfolding_all rfl) (by with_unfolding_all rfl) (by decide) ?_
            with_reducible refine e_local (by assumption) (by with_unfolding_all rfl) (by with_unfolding_all rfl) (by with_unfolding_all rfl) (by with_unfolding_all rfl) (by decide) ?_
            refine e_item (by wtm_at "at") (by omega) (by omega) (v := .ref aw) (by rw [Int.toNat_natCast, List.getElem?_map, eaw]; rfl) (by wtm_at "rf") ?_
            with_reducible refine e_local (by assumption) (by with_unfolding_all rfl) (by with_unfolding_all rfl) (by with_unfolding_all rfl) (by with_unfolding_all rfl) (by decide) ?_
            refine e_item (by wtm_at "at") (by omega) (by omega) (v := .ref al') (by rw [Int.toNat_natCast, List.getElem?_map, eal']; rfl) (by wtm_at "rf") ?_
            with_reducible refine z_int ?_
            refine e_item (by wtm_at "at") (by omega) (by omega) (v := .bytes x.2.toArray u2) (by rfl) (by wtm_at "rf") ?_
            with_reducible refine spliced_none ?_
            with_reducible refine c_in (by assumption) (by assumption) ?_
            rename St _ _ _ _ _ => S
            refine writing_c (r'.less (by omega)) G7 S.keep hx5 fun h₂₇ t₂₇ tk₂₇ kp => ?_
            replace S := S.keepAll kp
            have hosm : os.length ≤ 12 := by rw [hosl]; exact hf12
            with_reducible refine spliced_none ?_
            ((rename St _ _ _ _ _ => S0); (with_reducible refine s_newList S0 (by wtm_at "small") ?_); (intro _ _ _ _ _; clear S0))
            ((rename St _ _ _ _ _ => S0); (with_reducible refine s_append S0 (by wtm_at "mem") (by wtm_at "up") (by wtm_at "small") ?_); (intro _ _; clear S0))
            with_reducible refine xs_if ?_
            with_reducible refine wpAny_isTrue_BoolOp ?_
            with_reducible refine wpAny_allTrue_And_cons ?_
            with_reducible refine wpAny_isTrue_Compare1 ?_ (by with_unfolding_all rfl)
            with_reducible refine e_local (by assumption) (by with_unfolding_all rfl) (by with_unfolding_all rfl) (by with_unfolding_all rfl) (by with_unfolding_all rfl) (by decide) ?_
            with_reducible refine z_str ?_
            rename Addr => xa
            rename St _ _ _ _ _ => S
            rw [show as'.map Value.ref ++ [Value.ref xa] = (as' ++ [xa]).map Value.ref from by simp] at S
            obtain ⟨g8, S, k8, nw8⟩ := S.put
            have r8 : EvI (Nw g g8) xa (.ltr x.1 s x.2) := ⟨_, _, _, nw8.less (kg6'.trans k7)⟩
            have hA8 := (hA.mono fun a ev x => x.mono fun a c x => x.more k8).snoc r8
            have hlaw8 := hlaw7.keeps fun o e => k8 _ o e
            have G8 := G7.keeps k8
            refine z_nestr (b := wne W) rfl ?_
            have fin0 : ¬ (wne W = true ∧ s = cut ∧ k + 1 = (wh rows cut s).length) → All2 (EvI (Nw g g8)) (as' ++ [xa]) (E1 ++ (os.take (j + 1)).flatMap (dueQ rows cut lost)) := fun hn => by
              rw [htk, if_neg hn, ← List.append_assoc]
              exact hA8
            have hl8 : (as' ++ [xa]).length ≤ 3 + 2 * (j + 1) := by simp; omega
            cases hw : wne W with
            | false =>
              with_reducible refine wpAny_truthy_bool ?_
              with_reducible refine i_ff ?_
              with_reducible refine i_ff ?_
              with_reducible refine xs_nil ?_
              with_reducible refine after_next ?_
              with_reducible refine xs_nil ?_
              rename St _ _ _ _ _ => S
              exact turnf_next ⟨g8, as' ++ [xa], k7.trans k8, hl8, fin0 (by rw [hw]; simp), S.names (by wtm_at "nm")⟩
            | true =>
              with_reducible refine wpAny_truthy_bool ?_
              with_reducible refine i_tt ?_
              with_reducible refine wpAny_allTrue_And_cons ?_
              with_reducible refine wpAny_isTrue_Compare1 ?_ (by with_unfolding_all rfl)
              with_reducible refine e_local (by assumption) (by with_unfolding_all rfl) (by with_unfolding_all rfl) (by with_unfolding_all rfl) (by with_unfolding_all rfl) (by decide) ?_
              with_reducible refine e_cell (by with_unfolding_all rfl) (by wtm_at "at") (by with_unfolding_all rfl) (by with_unfolding_all rfl) (by decide) ?_
              with_reducible refine z_eqi ?_
              with_reducible refine wpAny_truthy_bool ?_
              refine i_dec (fun hsc => ?_) fun hsc => ?_
              · have hsc' : s = cut := by omega
                with_reducible refine wpAny_allTrue_And_cons ?_
                with_reducible refine wpAny_isTrue_Compare1 ?_ (by with_unfolding_all rfl)
                with_reducible refine e_local (by assumption) (by with_unfolding_all rfl) (by with_unfolding_all rfl) (by with_unfolding_all rfl) (by with_unfolding_all rfl) (by decide) ?_
                with_reducible refine wpAny_BinOp ?_
                with_reducible refine wpAny_Call_NameR ?_
                with_reducible refine e_built (by assumption) (by assumption) (by k_is) (by wtm_at "boot") (by decide) (by with_unfolding_all rfl) (by with_unfolding_all rfl) (by with_unfolding_all rfl) (by with_unfolding_all rfl) (by decide) ?_
                with_reducible refine callWith_builtin1 ?_ (by with_unfolding_all rfl) (by with_unfolding_all rfl)
                with_reducible refine spliced_more ?_ (by with_unfolding_all rfl)
                with_reducible refine Subscript_ ?_
                with_reducible refine e_cell (by with_unfolding_all rfl) (by wtm_at "at") (by with_unfolding_all rfl) (by with_unfolding_all rfl) (by decide) ?_
                with_reducible refine e_local (by assumption) (by with_unfolding_all rfl) (by with_unfolding_all rfl) (by with_unfolding_all rfl) (by with_unfolding_all rfl) (by decide) ?_
                refine e_item (by wtm_at "at") (by omega) (by omega) (v := .ref aw) (by rw [Int.toNat_natCast, List.getElem?_map, eaw]; rfl) (by wtm_at "rf") ?_
                with_reducible refine spliced_none ?_
                with_reducible refine l_len (by wtm_at "at") (by first | omega | (simp; done) | (simp; omega)) ?_
                with_reducible refine z_int ?_
                with_reducible refine z_sub ?_
                with_reducible refine z_eqi ?_
                with_reducible refine wpAny_truthy_bool ?_
                rw [List.length_map, hLw'.1]
                refine i_dec (fun hkk => ?_) fun hkk => ?_
                · with_reducible refine wpAny_allTrue_And_nil ?_
                  with_reducible refine i_tt ?_
                  with_reducible refine xs_expr (by with_unfolding_all rfl) (by with_unfolding_all rfl) ?_
                  (with_reducible refine wpAny_Call_append (by with_unfolding_all rfl) (by with_unfolding_all rfl) (by with_unfolding_all rfl) (by with_unfolding_all rfl) ?_)
                  with_reducible refine e_local (by assumption) (by with_unfolding_all rfl) (by with_unfolding_all rfl) (by with_unfolding_all rfl) (by with_unfolding_all rfl) (by decide) ?_
                  with_reducible refine ex_append (by wtm_at "at") ?_
                  with_reducible refine e_list ?_
                  with_reducible refine spliced_more ?_ (by with_unfolding_all rfl)
                  with_reducible refine wpAny_UnaryOp ?_
                  with_reducible refine z_int ?_
                  with_reducible refine z_neg ?_
                  with_reducible refine spliced_more ?_ (by with_unfolding_all rfl)
                  with_reducible refine e_local (by assumption) (by with_unfolding_all rfl) (by with_unfolding_all rfl) (by with_unfolding_all rfl) (by with_unfolding_all rfl) (by decide) ?_
                  with_reducible refine spliced_more ?_ (by with_unfolding_all rfl)
                  with_reducible refine e_local (by assumption) (by with_unfolding_all rfl) (by with_unfolding_all rfl) (by with_unfolding_all rfl) (by with_unfolding_all rfl) (by decide) ?_
                  with_reducible refine spliced_none ?_
                  ((rename St _ _ _ _ _ => S0); (with_reducible refine s_newList S0 (by wtm_at "small") ?_); (intro _ _ _ _ _; clear S0))
                  ((rename St _ _ _ _ _ => S0); (with_reducible refine s_append S0 (by wtm_at "mem") (by wtm_at "up") (by wtm_at "small") ?_); (intro _ _; clear S0))
                  with_reducible refine xs_nil ?_
                  with_reducible refine after_next ?_
                  with_reducible refine xs_nil ?_
                  have hkk' : k + 1 = (wh rows cut s).length := by
                    generalize (wh rows cut s).length = n at hkk
                    omega
                  rename Addr => xb
                  rename St _ _ _ _ _ => S
                  rw [show (as' ++ [xa]).map Value.ref ++ [Value.ref xb] = (as' ++ [xa] ++ [xb]).map Value.ref from by simp] at S
                  obtain ⟨g9, S, k9, nw9⟩ := S.put
                  have r9 : EvI (Nw g g9) xb (.bad s W) := ⟨_, _, _, nw9.less ((kg6'.trans k7).trans k8)⟩
                  refine turnf_next ⟨g9, as' ++ [xa] ++ [xb], (k7.trans k8).trans k9, by simp; omega, ?_, S.names (by wtm_at "nm")⟩
                  rw [htk, if_pos ⟨hw, hsc', hkk'⟩, show ∀ (X : List Ev) a b, X ++ [a, b] = X ++ [a] ++ [b] from fun X a b => by simp, ← List.append_assoc, ← List.append_assoc]
                  exact (hA8.mono fun a ev x => x.mono fun a c x => x.more k9).snoc r9
                · with_reducible refine i_ff ?_
                  with_reducible refine xs_nil ?_
                  with_reducible refine after_next ?_
                  with_reducible refine xs_nil ?_
                  rename St _ _ _ _ _ => S
                  exact turnf_next ⟨g8, as' ++ [xa], k7.trans k8, hl8, fin0 (fun q => by have h3 : k + 1 = (wh rows cut s).length := q.2.2; generalize (wh rows cut s).length = n at hkk h3; omega), S.names (by wtm_at "nm")⟩
              · with_reducible refine i_ff ?_
                with_reducible refine xs_nil ?_
                with_reducible refine after_next ?_
                with_reducible refine xs_nil ?_
                rename St _ _ _ _ _ => S
                exact turnf_next ⟨g8, as' ++ [xa], k7.trans k8, hl8, fin0 (fun q => hsc (by rw [q.2.1])), S.names (by wtm_at "nm")⟩
          · rintro h₂₅ tk₂₅ ⟨g7, as', k7, hal', hA, S⟩
            rw [List.take_length] at hA
            have G7 := G6.keeps k7
            refine nx_list_end r'.hh S (by wtm_at "at") (by omega) fun h₂₆ S => ⟨rfl, ?_⟩
            have hEv : E1 ++ List.flatMap (dueQ rows cut lost) os = dueEv rows cut lost os := by rw [← hE1]; unfold dueEv; rw [hW]
            have hsm : ∀ e ∈ E1 ++ List.flatMap (dueQ rows cut lost) os, SmallEv e := by
              rw [hEv]
              exact dueEv_small ok hc o
            generalize E1 ++ List.flatMap (dueQ rows cut lost) os = evs at *
            have hosm : os.length ≤ 12 := by rw [hosl]; exact hf12
            have hael : evs.length = as'.length := hA.1.symm
            with_reducible refine xs_return ?_
            refine e_comp (by intro x; rfl) (by wtm_at "rf") (by wtm_at "rf") (by decide) ?_
            with_reducible refine e_local (by assumption) (by with_unfolding_all rfl) (by with_unfolding_all rfl) (by with_unfolding_all rfl) (by with_unfolding_all rfl) (by decide) ?_
            refine it_list S (by wtm_at "at") fun it4 h₂₇ _ _ S => ?_
            refine comp_atG (M := [(it4, .pr (liP ea 0)), (D, .list its), (ea, .list (as'.map .ref))]) S G7 (by decide) rfl fun gi C acc5 h₂₈ tk₂₈ Gi hs hsi hacc Si => ?_
            have hgi7 : ∀ a c, At g7 a c → At gi a c := fun a c x => S.ing hs x
            refine comp_loop (by intro v; rfl) (fun Q' E' q => sf_list (C := C) Si (by wtm_at "mem") q) as'.length
              (I := DuF g g7 gi C it4 D ea acc5 its as' evs) ⟨gi, [], [], Sub.refl _, All2.nil, Si⟩ ?_ ?_
            · rintro i h₂₉ tk₂₉ hi ⟨g8, ρ', bs, kk, hB, Si⟩
              have hbl : bs.length = i := by rw [hB.1, List.length_take]; omega
              obtain ⟨e, he⟩ : ∃ e, evs[i]? = some e := ⟨_, List.getElem?_eq_getElem (by omega)⟩
              obtain ⟨x, hx, hxe⟩ := hA.2 i e he
              have hte : evs.take (i + 1) = evs.take i ++ [e] := by rw [List.take_add_one, he]; rfl
              refine nx_list Si (by wtm_at "at") (by rw [List.getElem?_map, hx]; rfl) fun h₃₀ Si => ⟨_, rfl, as_name ?_⟩
              cases e with
              | ltr r s oo =>
                have hoo : oo.length ≤ 5 := hsm _ (List.mem_of_getElem? he)
                obtain ⟨t1, t2, t3, hxe⟩ := hxe
                have hxa : At g8 x (.list [.int r t1, .int s t2, .str ⟨(wr oo).toArray⟩ t3]) := (hgi7 _ _ hxe.1).keeps fun o e => kk _ o e
                ((rename St _ _ _ _ _ => S0); (with_reducible refine s_store S0 (by with_unfolding_all rfl) (by with_unfolding_all rfl) (by with_unfolding_all rfl) ?_); (intro _ _; clear S0))
                with_reducible refine wpAny_IfExp ?_
                with_reducible refine wpAny_isTrue_Compare1 ?_ (by with_unfolding_all rfl)
                with_reducible refine Subscript_ ?_
                with_reducible refine e_local (by assumption) (by with_unfolding_all rfl) (by with_unfolding_all rfl) (by with_unfolding_all rfl) (by with_unfolding_all rfl) (by decide) ?_
                with_reducible refine z_int ?_
                refine e_item (by wtm_at "at") (by omega) (by omega) (v := .int r t1) (by rfl) (by wtm_at "rf") ?_
                with_reducible refine z_int ?_
                with_reducible refine ge_int ?_
                with_reducible refine wpAny_truthy_bool ?_
                refine i_dec (fun hrr => ?_) fun hrr => (hrr (by omega)).elim
                with_reducible refine e_local (by assumption) (by with_unfolding_all rfl) (by with_unfolding_all rfl) (by with_unfolding_all rfl) (by with_unfolding_all rfl) (by decide) ?_
                ((rename St _ _ _ _ _ => S0); (with_reducible refine s_append S0 (by wtm_at "mem") (by wtm_at "up") (by wtm_at "small") ?_); (intro _ _; clear S0))
                rename St _ _ _ _ _ => Si
                rw [show bs.map Value.ref ++ [Value.ref x] = (bs ++ [x]).map Value.ref from by simp] at Si
                refine ⟨_, _, rfl, g8, _, bs ++ [x], kk, ?_, Si⟩
                rw [hte]
                refine hB.snoc ⟨t1, t2, t3, .inl ?_⟩
                rw [← wr_b2a oo hoo]
                exact hxe
              | bad s m =>
                obtain ⟨t1, t2, t3, hxe⟩ := hxe
                have hxa : At g8 x (.list [.int (-1) t1, .int s t2, .str m t3]) := (hgi7 _ _ hxe.1).keeps fun o e => kk _ o e
                ((rename St _ _ _ _ _ => S0); (with_reducible refine s_store S0 (by with_unfolding_all rfl) (by with_unfolding_all rfl) (by with_unfolding_all rfl) ?_); (intro _ _; clear S0))
                with_reducible refine wpAny_IfExp ?_
                with_reducible refine wpAny_isTrue_Compare1 ?_ (by with_unfolding_all rfl)
                with_reducible refine Subscript_ ?_
                with_reducible refine e_local (by assumption) (by with_unfolding_all rfl) (by with_unfolding_all rfl) (by with_unfolding_all rfl) (by with_unfolding_all rfl) (by decide) ?_
                with_reducible refine z_int ?_
                refine e_item (by wtm_at "at") (by omega) (by omega) (v := .int (-1) t1) (by rfl) (by wtm_at "rf") ?_
                with_reducible refine z_int ?_
                with_reducible refine ge_int ?_
                with_reducible refine wpAny_truthy_bool ?_
                refine i_dec (fun hrr => absurd hrr (by decide)) fun hrr => ?_
                with_reducible refine Subscript_ ?_
                with_reducible refine e_local (by assumption) (by with_unfolding_all rfl) (by with_unfolding_all rfl) (by with_unfolding_all rfl) (by with_unfolding_all rfl) (by decide) ?_
                with_reducible refine e_slice ?_
                with_reducible refine ep_some ?_
                with_reducible refine z_int ?_
                with_reducible refine ep_none ?_
                ((rename St _ _ _ _ _ => S0); (with_reducible refine s_newSlice S0 ?_); (intro _ _ _; clear S0))
                rename St _ _ _ _ _ => Si
                refine z_lsliceT Si (by wtm_at "at") (by wtm_at "at") (.int _ _) .none (by simp) (by wtm_at "rf") fun nn h₃₁ _ _ Si => ?_
                rw [cutL_tail] at Si
                ((rename St _ _ _ _ _ => S0); (with_reducible refine s_append S0 (by wtm_at "mem") (by wtm_at "up") (by wtm_at "small") ?_); (intro _ _; clear S0))
                rename St _ _ _ _ _ => Si
                rw [show bs.map Value.ref ++ [Value.ref nn] = (bs ++ [nn]).map Value.ref from by simp] at Si
                have Si := Si.sub (Δ' := [(nn, .list [.int s t2, .str m t3]), (it4, .pr (liP ea (i + 1))), (D, .list its), (ea, .list (as'.map .ref)), (acc5, .list ((bs ++ [nn]).map .ref))]) (by wtm_at "sub")
                obtain ⟨g9, Si, k9, nw9⟩ := Si.put
                refine ⟨_, _, rfl, g9, _, bs ++ [nn], kk.trans k9, ?_, Si⟩
                rw [hte]
                exact (hB.mono fun a ev x => x.mono fun a c x => x.imp id fun y => y.more k9).snoc ⟨t2, t3, .inr (nw9.less kk)⟩
            · rintro h₂₉ tk₂₉ ⟨g8, ρ', bs, kk, hB, Si⟩
              have hbl : bs.length = as'.length := by rw [hB.1, List.length_take]; omega
              rw [List.take_of_length_le (by omega)] at hB
              refine nx_list_end r'.hh Si (by wtm_at "at") (by rw [List.length_map]; omega) fun h₃₀ Si => ⟨rfl, rfl, g8, h₃₀, _, _, _, rfl, kk, Si, fun g₉ h₃₁ kg9 nw S => ?_⟩
              have S := S.sub (Δ' := [(acc5, .list (bs.map .ref))] ++ []) (by rw [List.append_nil]; wtm_at "sub")
              skip
              have fr := (S.nw _ (List.mem_append_left _ (.head _))).2.2
              obtain ⟨gf, S, kf, hD, _⟩ := St.seal S
              have kgf := ((kg6'.trans k7).trans kg9).trans kf
              have hkg : ∀ a c, Nw g gf a c → Nw h gf a c := fun a c x => ⟨x.1, by
                cases e : h.get? a with
                | none => rfl
                | some o => have := kg a o e (by simp); rw [x.2] at this; cases this⟩
              rw [hEv] at hB
              refine q h₃₁ _ gf acc5 (fun a o e n => S.keep a o (kgf a o (kg a o e (by simp)))) S.keep ⟨bs, hkg _ _ ⟨hD _ (.head _), ((kg6'.trans k7).trans kg9).none fr⟩, hB.mono fun a ev x => x.mono fun a c x => hkg _ _ ?_⟩
              rcases x with x | x
              · exact (x.more kg9).more kf
              · exact ((nw _ _ x).less (kg6'.trans k7)).more kf
end
section
/-- an IndexError of the interpreter's flies -/
noncomputable def IFly (z : Shared) (g₀ : Heap) (outer : List Env) (F : Fs) (pl : Addr) (c : Ct) (e : Value) (s' : Shared) : Prop :=
  ∃ a g' h' tk a0, e = .ref a ∧ s' = Z z h' tk ∧ g₀.StaysIn g' ∧ At g' pl c ∧ Heap.FlyingW g' outer a (.type "IndexError") a0 h' ∧ ∀ p ∈ F, h'.Ns p.1 p.2
section
variable {w : World} {A : Around} {E : Value → Shared → Prop} {z : Shared} {g g₀ h h' : Heap} {tk : Nat} {L : Addr} {ρ : List (Str × Value)} {Δ : List (Addr × Ct)} {env : Env} {outer : List Env} {F : Fs} {pl a : Addr} {c : Ct}
theorem raiseI_leaves (hfr : A.frames = some (env :: outer)) (hf : env.frame = some L) (hkd : env.scope.kind ≠ .module) (hO : FOk outer F) (S : St g L ρ ((pl, c) :: frE F) h) (hx : Heap.NewExc h h' a "IndexError") :
    wpAny (MM w) A (leaving env (.ref a)) (fun _ s'' => IFly z g outer F pl c (.ref a) s'') E (Z z h' tk) := by
  obtain ⟨g', S', hg, hD, _⟩ := St.seal (D := [(pl, c)]) S
  obtain ⟨m, hn, _⟩ := S'.loc
  have hF := S'.frs (F := F) fun p hp => hp
  have hl : h.FunFrames g' (env :: outer) := by
    obtain ⟨ob, es, ep, ho, hd, _⟩ := hn
    exact ⟨hkd, ⟨L, ob, hf, S'.offL, ho, fun vs q => by rw [hd] at q; cases q⟩, hO.fun hF⟩
  obtain ⟨ob, t, he, hcls, hd⟩ := hx.there
  have hen : g'.get? a = none := by
    cases hq : g'.get? a with
    | none => rfl
    | some o' => have := S'.keep a o' hq; rw [hx.new] at this; cases this
  refine wpAny_leaving_firstW (s := Z z h' tk) (a0 := t) hfr (hl.of_keeps fun b o hb _ => ⟨o, hx.keeps b o hb, rfl⟩) hf he (fun b o hb => hx.keeps b o (S'.keep b o hb)) hen hd rfl rfl fun h₂ hL => ?_
  obtain ⟨k1, ⟨_, _, k2⟩, k3, k4⟩ := hL
  exact ⟨a, g', h₂, tk, t, rfl, rfl, hg, hD _ (.head _), ⟨k1, hen, k2, hcls ▸ k3⟩, fun p hp => Heap.UpToSlots.ns k4 ((hF p hp).1.keeps hx.keeps)⟩
theorem ifly_leaves {g₁ : Heap} {m : Str → Option Value} {e : Value} {s' : Shared} (hfr : A.frames = some (env :: outer)) (hf : env.frame = some L) (hg : g₁.StaysIn g) (x : IFly z g (env :: outer) ((L, m) :: F) pl c e s') :
    wpAny (MM w) A (leaving env e) (fun _ s'' => IFly z g₁ outer F pl c e s'') E s' := by
  obtain ⟨a, g', h', tk, a0, rfl, rfl, h1, h2, h3, h5⟩ := x
  refine wpAny_leaves_onW (s := Z z h' tk) hfr hf h3 fun h₂ fl us => ?_
  exact ⟨a, g', h₂, tk, a0, rfl, rfl, fun b o e => h1 b o (hg b o e), h2, fl, fun p hp => us.ns (h5 p (.tail _ hp))⟩
theorem caughtI {m : Str → Option Value} {e : Value} {s' : Shared} {np pos : Pos} {b₀ : Stmt} {suite : List Stmt} {Q : Flow → Shared → Prop} (hfr : A.frames = some (env :: outer)) (hf : env.frame = some L) (G : Gd w g)
    (back : ∀ h', g₀.StaysIn h' → At h' pl c → (∀ x ∈ (L, m) :: F, h'.Ns x.1 x.2) → St g L ρ Δ h') (x : IFly z g₀ (env :: outer) ((L, m) :: F) pl c e s')
    (hx : env.kindOf "IndexError" = some .globalImplicit) (hg : env.globals = mainGlobals) (hb : env.builtins = builtinsNs) (hk : env.scope.kind = .function) (hnn : nsIn (hd.heap_1 w.params) mainGlobals "IndexError" = some none)
    (q : ∀ a h' tk', St g L ρ Δ h' → wpAny (MM w) (A.mark (some (.ref a))) (execs (b₀ :: suite) env) Q (notedBy (MM w) (A.mark (some (.ref a))) env (cameBackBy (MM w) A env E)) (Z z h' tk')) :
    wpAny (MM w) A (noteFrame e env) (fun _ s₂ => wpAny (MM w) A (setFlight e none) (fun _ s₃ => wpAny (MM w) A (handleBy e env [.ExceptHandler (some (.Name "IndexError" np)) none (b₀ :: suite) pos]) Q E s₃) E s₂) E s' := by
  obtain ⟨a, g', h', tk, a0, rfl, rfl, h1, h2, h3, h5⟩ := x
  refine wpAny_looks_onW (s := Z z h' tk) hfr hf h3 fun h₄ hheld₄ us₄ => ?_
  refine wpAny_landsW (s := Z z h₄ tk) hheld₄ fun h₅ fl₅ us₅ => ?_
  have us := us₄.trans us₅
  have S₅ := back h₅ (fun b o e => fl₅.1 b o (h1 b o e)) (h2.keeps fun o e => fl₅.1 _ _ e) fun p hp => us.ns (h5 p hp)
  obtain ⟨ob, hob, hobc⟩ := fl₅.there
  refine wpAny_handleBy_builtin (X := "IndexError") (T := "IndexError") (b := true) PySem.F.isExc_IndexError PySem.F.notTuple_IndexError PySem.F.self_IndexError
    (e_built G S₅ hnn bt_IE (by decide) hx hg hb hk (by decide) ⟨rfl, ⟨ob, hob, hobc⟩, ?_⟩)
  refine lands_againW (s := Z z h₅ tk) fl₅ fun h₆ fl₆ us₆ => ?_
  exact q a h₆ tk (back h₆ (fun b o e => fl₆.1 b o (h1 b o e)) (h2.keeps fun o e => fl₆.1 _ _ e) fun p hp => (us.trans us₆).ns (h5 p hp))
theorem pop_empty {a : Addr} {Q : Value → Shared → Prop} (hh : A.handled = none) (ha : At h a (.list [])) (q : ∀ h' tk' e, Heap.NewExc h h' e "IndexError" → E (.ref e) (Z z h' tk')) : wpAny (MM w) A (call (.builtin "list.pop") [.ref a]) Q E (Z z h tk) := by
  obtain ⟨n, ho⟩ := ha.get
  exact call_meets (s := Z z h tk) PySem.F.slot_list_pop ha.isList.typeIs PySem.F.entry_list_pop (PySem.F.args_list_pop_1 _) (AutoSeq1.list_pop_list_0 a [].toArray n rfl) ⟨ho, hh, q⟩
theorem item_empty {value slice : Expr} {a : Addr} {k : Int} {u : Tok} {Q : Value → Shared → Prop} (hh : A.handled = none) (x : At h a (.list [])) (h0 : 0 ≤ k) (hhi : k < 2 ^ 63)
    (hs : subscripted slice false (.ref a) (.int k u) = operate [.ref a, .int k u] (getItem (.ref a) (.int k u))) (q : ∀ h' tk' e, Heap.NewExc h h' e "IndexError" → E (.ref e) (Z z h' tk')) :
    wpAny (MM w) A (subscriptTail value slice (.ref a) (.int k u)) Q E (Z z h tk) :=
  tail_any x.isList.typeIs slot_list_getitem.lookup (wpAny_getItem_list_out (s := Z z h tk) hh x.isList (.inr h0) (by omega) hhi q) hs
set_option maxRecDepth 100000 in
set_option maxHeartbeats 4000000 in
theorem hpop_e {Q : Value → Shared → Prop} {hp : Addr} (r : Rm A 2) (hA : A.frames = some outer) (hO : FOk outer F) (G : Gd w g₀) (k₀ : ∀ b o, g₀.get? b = some o → h.get? b = some o) (hM : ∀ x ∈ (hp, Ct.list []) :: frE F, At h x.1 x.2 ∧ g₀.get? x.1 = none) (nd : (((hp, Ct.list []) :: frE F).map (·.1)).Nodup)
    (q : ∀ e s', IFly z g₀ outer F hp (.list []) e s' → E e s') : wpAny (MM w) A (call (.ref 79) [.ref hp]) Q E (Z z h tk) := by
  refine' enterE hA ((hp, .list []) :: frE F) [("heap", .ref hp)] r G k₀ hM nd ?ho ?hcd ?hb ?hr ?hlc ?c1 ?c2 ?c3 ?c4 ?body
  wtm_at "enter"
  case body =>
    intro A' L h₁ tk₁ r' hA' S
    with_reducible refine xs_assign (by with_unfolding_all rfl) ?_
    refine m_call0 PySem.F.plainAttrs_list PySem.F.slot_list_pop PySem.F.type_list_pop (by wtm_at "rf") (by wtm_at "rf") (by wtm_at "rf") ?_
    with_reducible refine e_local (by assumption) (by with_unfolding_all rfl) (by with_unfolding_all rfl) (by with_unfolding_all rfl) (by with_unfolding_all rfl) (by decide) ?_
    with_reducible refine m_list (by wtm_at "at") ?_
    refine pop_empty r'.hh (S.at (.head _)) fun h' tk' e hx => ?_
    exact wpAny_mono (raiseI_leaves (E := NoE) hA' rfl (fun q => ScopeKind.noConfusion q) hO S hx) (fun _ s'' x => q _ _ x) fun _ _ x => x.elim
set_option maxRecDepth 100000 in
set_option maxHeartbeats 4000000 in
theorem hrep_e {Q : Value → Shared → Prop} {hp : Addr} {v : Value} (r : Rm A 2) (hA : A.frames = some outer) (hO : FOk outer F) (G : Gd w g₀) (k₀ : ∀ b o, g₀.get? b = some o → h.get? b = some o) (hM : ∀ x ∈ (hp, Ct.list []) :: frE F, At h x.1 x.2 ∧ g₀.get? x.1 = none) (nd : (((hp, Ct.list []) :: frE F).map (·.1)).Nodup)
    (q : ∀ e s', IFly z g₀ outer F hp (.list []) e s' → E e s') : wpAny (MM w) A (call (.ref 86) [.ref hp, v]) Q E (Z z h tk) := by
  refine' enterE hA ((hp, .list []) :: frE F) [("heap", .ref hp), ("item", v)] r G k₀ hM nd ?ho ?hcd ?hb ?hr ?hlc ?c1 ?c2 ?c3 ?c4 ?body
  wtm_at "enter"
  case body =>
    intro A' L h₁ tk₁ r' hA' S
    with_reducible refine xs_assign (by with_unfolding_all rfl) ?_
    with_reducible refine Subscript_ ?_
    with_reducible refine e_local (by assumption) (by with_unfolding_all rfl) (by with_unfolding_all rfl) (by with_unfolding_all rfl) (by with_unfolding_all rfl) (by decide) ?_
    with_reducible refine z_int ?_
    refine item_empty r'.hh (S.at (.head _)) (by omega) (by omega) (by wtm_at "rf") fun h' tk' e hx => ?_
    exact wpAny_mono (raiseI_leaves (E := NoE) hA' rfl (fun q => ScopeKind.noConfusion q) hO S hx) (fun _ s'' x => q _ _ x) fun _ _ x => x.elim
theorem z_eqs {s : Shared} {a b : Addr} {vs ws : List Value} {x : Str} {Q : Value → Shared → Prop} (ha : At s.heap a (.list vs)) (hb : At s.heap b (.list ws)) (hl : vs.length = ws.length) (hv : ∀ v ∈ vs, ∃ t, v = .str x t) (hw : ∀ v ∈ ws, ∃ t, v = .str x t) (hu : A.units < cLine) (q : Q (.bool true) s) :
    wpAny (MM w) A (compareOp .Eq (.ref a) (.ref b)) Q E s :=
  SeqAt.RcAt.lists (e := fun _ => true) ha.isList hb.isList (by simpa using hl) hu (fun j h1 h2 => by
    obtain ⟨t, e1⟩ := hv (vs.toArray[j]) (by simp)
    obtain ⟨u, e2⟩ := hw (ws.toArray[j]) (by simp)
    rw [e1, e2]
    have := SeqAt.EqAt.str_str (A := A.in1) (s := s) x t x u
    rwa [beq_self_eq_true] at this) _ w E Q (by rw [show (List.range vs.toArray.size).all (fun _ => true) = true from List.all_eq_true.mpr fun _ _ => rfl]; exact q)
theorem At.fn {f : Addr} {fd : FuncData} (x : At h f (.obj { cls := .type "function", data := .func fd })) : FnAt f h := by
  obtain ⟨o, ho, e⟩ := x
  have e : o = _ := e
  exact ⟨_, _, _, _, by rw [ho, e]⟩
/-- into a lambda that may raise -/
theorem enterL {f : Addr} {pos : List Value} {kw : List (Str × Value)} {k : Nat} {Q : Value → Shared → Prop}
    {name qual : Str} {params : Arguments} {body : Expr} {scope : Scope} {cl : List (Str × Addr)} {pm ctv : Value} {c' : Addr} {binds : List (Str × Value)}
    (hA : A.frames = some outer) (M : List (Addr × Ct)) (ρ : List (Str × Value)) (r : Rm A (k + 1)) (G : Gd w g₀) (k₀ : ∀ b o, g₀.get? b = some o → h.get? b = some o) (hM : ∀ p ∈ M, At h p.1 p.2 ∧ g₀.get? p.1 = none) (nd : (M.map (·.1)).Nodup)
    (ho : h.get? f = some (kla_obj name qual params body scope cl pm c' ctv)) (hcd : h.CodeRec (.ref c') qual)
    (hbind : BindsTo (Z z h tk) (kla_fn name qual params body scope cl pm (.ref c') ctv) ⟨pos, kw⟩ binds) (hρ : ∀ x v, ρ.lookup x = some v → binds.reverse.lookup x = some v) (hloc : ∀ y ∈ binds, scope.names.lookup y.1 = some .local)
    (hco : scope.isCoroutine = false) (hgen : scope.isGenerator = false) (hk : scope.kind = .function) (hcell : ∀ x ∈ scope.names, x.2 ≠ .cell)
    (body' : ∀ A' L h₁ tk₁, Rm A' k → A'.frames = some (envX qual scope L f (.ref c') cl :: outer) → St g₀ L ρ M h₁ →
      wpAny (MM w) A' (eval body (envX qual scope L f (.ref c') cl)) (fun v s' => Q v s') (fun e s' => wpAny (MM w) A' (leaving (envX qual scope L f (.ref c') cl) e) (fun _ s'' => E e s'') (fun e' s'' => E e' s'') s') (Z z h₁ tk₁)) :
    wpAny (MM w) A (call (.ref f) pos kw) Q E (Z z h tk) := by
  have Gh := G.keeps k₀
  obtain ⟨p, l, mn, mg, mb, T⟩ := Gh.T
  refine wpAny_call (kla_callFunE r.room ho rfl hco hgen rfl hcd (hbind _ _ _ _ ?_))
  refine wpAny_newFunctionEnv hcell hloc (fun h₁ hns hsb => ⟨T.nolimit.fresh _ hsb, ?_⟩) hk
  have hk₁ : ∀ b o, h.get? b = some o → h₁.get? b = some o := fun b o e => hsb.extBut b o (Nat.ne_of_lt (Heap.lt_size e)) (Heap.get?_push_of_some _ e)
  show codeAny _ _ (.expr body (envX qual scope h.objs.size f (.ref c') cl)) _ _
  exact kla_codeExpr (body' (A.deeper (envX qual scope h.objs.size f (.ref c') cl)) h.objs.size h₁ (tk + binds.length) (r.deeper _) (Around.frames_deeper hA)
    ⟨⟨_, hns, hρ⟩, fun b o e => hk₁ b o (k₀ b o e), by
      cases q : g₀.get? h.objs.size with
      | none => rfl
      | some o => exact absurd (Heap.lt_size (k₀ _ _ q)) (Nat.lt_irrefl _), fun p hp => ⟨(hM p hp).1.keeps fun o e => hk₁ _ _ e, Nat.ne_of_lt (hM p hp).1.lt, (hM p hp).2⟩, nd⟩)
end
set_option maxRecDepth 100000 in
set_option maxHeartbeats 4000000 in
theorem empty_c {w : World} {A : Around} {E : Value → Shared → Prop} {z : Shared} {g₀ h : Heap} {tk : Nat} {Q : Value → Shared → Prop} {outer : List Env} {F : Fs}
    (r : Rm A 5) (hA : A.frames = some outer) (hO : FOk outer F) (G : Gd w g₀) (k₀ : Sub g₀ h) (hM : ∀ x ∈ (116, Ct.obj (tabObj #[])) :: frE F, At h x.1 x.2 ∧ g₀.get? x.1 = none) (nd : (((116, Ct.obj (tabObj #[])) :: frE F).map (·.1)).Nodup)
    (q : ∀ h' tk', GrownAt 116 h' → g₀.StaysIn h' → (∀ x ∈ F, h'.Ns x.1 x.2) → Q (.bool true) (Z z h' tk')) :
    wpAny (MM w) A (call (.ref 121) []) Q E (Z z h tk) := by
  refine' enterE hA ((116, .obj (tabObj #[])) :: frE F) [] r G k₀ hM nd ?ho ?hcd ?hb ?hr ?hlc ?c1 ?c2 ?c3 ?c4 ?body
  wtm_at "enter"
  case body =>
    intro A' L h₁ tk₁ r' hA' S
    refine wpAny_mono (E := NoE) ?_ (fun _ _ x => x) fun _ _ x => x.elim
    with_reducible refine xs_assign (by with_unfolding_all rfl) ?_
    with_reducible refine e_list ?_
    with_reducible refine spliced_none ?_
    ((rename St _ _ _ _ _ => S0); (with_reducible refine s_newList S0 (by wtm_at "small") ?_); (intro _ _ _ _ _; clear S0))
    ((rename St _ _ _ _ _ => S0); (with_reducible refine s_store S0 (by with_unfolding_all rfl) (by with_unfolding_all rfl) (by with_unfolding_all rfl) ?_); (intro _ _; clear S0))
    rename St _ _ _ _ _ => S
    rename Addr => ta
    refine xs_for (by intro x; rfl) ?_
    with_reducible refine e_list ?_
    with_reducible refine spliced_more ?_ (by with_unfolding_all rfl)
    with_reducible refine e_glob (by assumption) (by assumption) (by k_is) (by with_unfolding_all rfl) (by with_unfolding_all rfl) (by with_unfolding_all rfl) (by decide) ?_
    with_reducible refine spliced_more ?_ (by with_unfolding_all rfl)
    refine kla_eval (by rfl) ?_
    refine mk_lam (c := 120) (Δ' := fun ps => [(ta, Ct.list []), (116, Ct.obj (tabObj ps))] ++ frE F) S G G.C.2 (by wtm_at "mem") (fun ps' => by wtm_at "up") (by simp [TriplesOk]) rfl (by wtm_at "rf") rfl rfl fun f kc ctv pm h₂ tk₂ S => ?_
    with_reducible refine spliced_none ?_
    ((rename St _ _ _ _ _ => S0); (with_reducible refine s_newList S0 (by wtm_at "small") ?_); (intro _ _ _ _ _; clear S0))
    rename St _ _ _ _ _ => S
    rename Addr => da
    refine it_list S (by wtm_at "at") fun it h₃ _ _ S => ?_
    refine for_at 2 (fun j h' => ∃ vs : List Value, vs.length = j ∧ (∀ v ∈ vs, ∃ t, v = .str "none" t) ∧
      St g₀ L [("told", .ref ta)] ((it, .pr (liP da j)) :: (da, .list [.ref 79, .ref f]) :: (f, .obj (kla_obj "<lambda>" _ _ _ _ _ pm kc ctv)) :: (kc, .pr (codeP _)) :: (ta, .list vs) :: (116, .obj (tabObj _)) :: frE F) h') ⟨[], rfl, fun v hv => (nomatch hv), S⟩ ?_ ?_
    · rintro j h₄ tk₄ hj ⟨vs, hvl, hv, S⟩
      have hj' : j = 0 ∨ j = 1 := by omega
      rcases hj' with rfl | rfl
      · refine nx_list S (by wtm_at "at") (v := .ref 79) rfl fun h₅ S => ⟨_, rfl, ?_⟩
        with_reducible refine lo_name ?_
        with_reducible refine as_name ?_
        ((rename St _ _ _ _ _ => S0); (with_reducible refine s_store S0 (by with_unfolding_all rfl) (by with_unfolding_all rfl) (by with_unfolding_all rfl) ?_); (intro _ _; clear S0))
        refine xs_try ?_
        with_reducible refine xs_expr (by with_unfolding_all rfl) (by with_unfolding_all rfl) ?_
        (with_reducible refine wpAny_Call_append (by with_unfolding_all rfl) (by with_unfolding_all rfl) (by with_unfolding_all rfl) (by with_unfolding_all rfl) ?_)
        with_reducible refine e_local (by assumption) (by with_unfolding_all rfl) (by with_unfolding_all rfl) (by with_unfolding_all rfl) (by with_unfolding_all rfl) (by decide) ?_
        with_reducible refine ex_append (by wtm_at "at") ?_
        with_reducible refine wpAny_Call_NameR ?_
        with_reducible refine e_local (by assumption) (by with_unfolding_all rfl) (by with_unfolding_all rfl) (by with_unfolding_all rfl) (by with_unfolding_all rfl) (by decide) ?_
        with_reducible refine c_def (by assumption) (by k_is) (by with_unfolding_all rfl) (by with_unfolding_all rfl) ?_
        with_reducible refine spliced_more ?_ (by with_unfolding_all rfl)
        with_reducible refine e_list ?_
        with_reducible refine spliced_none ?_
        ((rename St _ _ _ _ _ => S0); (with_reducible refine s_newList S0 (by wtm_at "small") ?_); (intro _ _ _ _ _; clear S0))
        with_reducible refine spliced_none ?_
        with_reducible refine c_in (by assumption) (by assumption) ?_
        rename Addr => hp
        rename St _ _ _ _ _ => S
        obtain ⟨m, hn, hm⟩ := S.loc
        have ndF : (hp :: F.map (·.1)).Nodup := by
          have := (S.sub (Δ' := (hp, .list []) :: frE F) (by wtm_at "sub")).nd
          rwa [List.map_cons, frE_keys] at this
        obtain ⟨g₁, k1, k2, hM1, nd1, hmax, back⟩ := S.callE hn hm (pl := hp) (c := .list []) (by wtm_at "mem") (fun x hx => by repeat (first | exact hx | refine List.mem_cons_of_mem _ ?_)) ndF
        refine hpop_e (outer := _ :: outer) (F := (L, m) :: F) (r'.less (by omega)) hA' ⟨fun q => ScopeKind.noConfusion q, rfl, hO⟩ (G.keeps k1) k2 hM1 nd1 fun e s' x => ?_
        refine caughtI hA' rfl G (fun h' st hat hns => back _ _ h' Up.head st hat hns) x rfl rfl rfl rfl (by k_is) fun a h₆ tk₆ S => ?_
        with_reducible refine xs_expr (by with_unfolding_all rfl) (by with_unfolding_all rfl) ?_
        (with_reducible refine wpAny_Call_append (by with_unfolding_all rfl) (by with_unfolding_all rfl) (by with_unfolding_all rfl) (by with_unfolding_all rfl) ?_)
        with_reducible refine e_local (by assumption) (by with_unfolding_all rfl) (by with_unfolding_all rfl) (by with_unfolding_all rfl) (by with_unfolding_all rfl) (by decide) ?_
        with_reducible refine ex_append (by wtm_at "at") ?_
        with_reducible refine z_str ?_
        ((rename St _ _ _ _ _ => S0); (with_reducible refine s_append S0 (by wtm_at "mem") (by wtm_at "up") (by wtm_at "small") ?_); (intro _ _; clear S0))
        with_reducible refine xs_nil ?_
        with_reducible refine after_next ?_
        with_reducible refine xs_nil ?_
        rename St _ _ _ _ _ => S
        have S := (S.sub (Δ' := (it, .pr (liP da (0 + 1))) :: (da, .list [.ref 79, .ref f]) :: (f, .obj (kla_obj "<lambda>" _ _ _ _ _ pm kc ctv)) :: (kc, .pr (codeP _)) :: (ta, .list (vs ++ [.str "none" tk₆])) :: (116, .obj (tabObj _)) :: frE F) (by wtm_at "sub")).names (ρ' := [("told", .ref ta)]) (by wtm_at "nm")
        exact turnf_next ⟨vs ++ [.str "none" tk₆], by simp [hvl], fun v hv' => by
          rcases List.mem_append.mp hv' with hv' | hv'
          · exact hv v hv'
          · exact ⟨_, List.mem_singleton.mp hv'⟩, S⟩
      · refine nx_list S (by wtm_at "at") (v := .ref f) rfl fun h₅ S => ⟨_, rfl, ?_⟩
        with_reducible refine lo_name ?_
        with_reducible refine as_name ?_
        ((rename St _ _ _ _ _ => S0); (with_reducible refine s_store S0 (by with_unfolding_all rfl) (by with_unfolding_all rfl) (by with_unfolding_all rfl) ?_); (intro _ _; clear S0))
        refine xs_try ?_
        with_reducible refine xs_expr (by with_unfolding_all rfl) (by with_unfolding_all rfl) ?_
        (with_reducible refine wpAny_Call_append (by with_unfolding_all rfl) (by with_unfolding_all rfl) (by with_unfolding_all rfl) (by with_unfolding_all rfl) ?_)
        with_reducible refine e_local (by assumption) (by with_unfolding_all rfl) (by with_unfolding_all rfl) (by with_unfolding_all rfl) (by with_unfolding_all rfl) (by decide) ?_
        with_reducible refine ex_append (by wtm_at "at") ?_
        with_reducible refine wpAny_Call_NameR ?_
        with_reducible refine e_local (by assumption) (by with_unfolding_all rfl) (by with_unfolding_all rfl) (by with_unfolding_all rfl) (by with_unfolding_all rfl) (by decide) ?_
        rename St _ _ _ _ _ => S
        refine callWith_F (At.fn (S.at (by wtm_at "mem"))) ?_ (by rfl) (by rfl)
        with_reducible refine spliced_more ?_ (by with_unfolding_all rfl)
        with_reducible refine e_list ?_
        with_reducible refine spliced_none ?_
        ((rename St _ _ _ _ _ => S0); (with_reducible refine s_newList S0 (by wtm_at "small") ?_); (intro _ _ _ _ _; clear S0))
        with_reducible refine spliced_none ?_
        rename Addr => hp
        rename St _ _ _ _ _ => S
        refine ⟨At.fn (S.at (by wtm_at "mem")), ?_⟩
        obtain ⟨m, hn, hm⟩ := S.loc
        have ndF : (hp :: F.map (·.1)).Nodup := by
          have := (S.sub (Δ' := (hp, .list []) :: frE F) (by wtm_at "sub")).nd
          rwa [List.map_cons, frE_keys] at this
        obtain ⟨g₁, k1, k2, hM1, nd1, hmax, back⟩ := S.callE hn hm (pl := hp) (c := .list []) (by wtm_at "mem") (fun x hx => by repeat (first | exact hx | refine List.mem_cons_of_mem _ ?_)) ndF
        obtain ⟨of, hof, ef⟩ := S.at (a := f) (by wtm_at "mem")
        have ef : of = _ := ef
        obtain ⟨oc, hoc, vc, tc, hd1, hv1⟩ := S.at (a := kc) (by wtm_at "mem")
        refine' enterL (outer := _ :: outer) hA' ((hp, .list []) :: frE ((L, m) :: F)) (k := 3) [("heap", .ref hp)] r' (G.keeps k1) k2 hM1 nd1 (hof.trans (congrArg some ef)) ⟨kc, oc, vc, tc, rfl, hoc, hd1, hv1⟩ ?hb ?hr ?hlc ?c1 ?c2 ?c3 ?c4 ?body
        case hb => exact BindsTo.of_eq rfl
        case hr => wtm_at "nm"
        case hlc => exact locs rfl
        case c1 => rfl
        case c2 => rfl
        case c3 => rfl
        case c4 => decide
        case body =>
          intro A'' L' h₇ tk₇ r'' hA'' S'
          have G1 := G.keeps k1
          with_reducible refine wpAny_Call_NameR ?_
          with_reducible refine e_glob (by assumption) (by assumption) (by k_is) (by with_unfolding_all rfl) (by with_unfolding_all rfl) (by with_unfolding_all rfl) (by decide) ?_
          with_reducible refine c_def (by assumption) (by k_is) (by with_unfolding_all rfl) (by with_unfolding_all rfl) ?_
          with_reducible refine spliced_more ?_ (by with_unfolding_all rfl)
          with_reducible refine e_local (by assumption) (by with_unfolding_all rfl) (by with_unfolding_all rfl) (by with_unfolding_all rfl) (by with_unfolding_all rfl) (by decide) ?_
          with_reducible refine spliced_more ?_ (by with_unfolding_all rfl)
          with_reducible refine z_int ?_
          with_reducible refine spliced_none ?_
          with_reducible refine c_in (by assumption) (by assumption) ?_
          obtain ⟨m', hn', hm'⟩ := S'.loc
          obtain ⟨hM2, nd2⟩ := S'.outE hn'
          refine hrep_e (outer := _ :: _ :: outer) (F := (L', m') :: (L, m) :: F) (r''.less (by omega)) hA'' ⟨fun q => ScopeKind.noConfusion q, rfl, fun q => ScopeKind.noConfusion q, rfl, hO⟩ G1 S'.keep hM2 nd2 fun e s' x => ?_
          refine wpAny_mono (ifly_leaves (E := NoE) hA'' rfl (Sub.refl _) x) (fun _ s'' x => ?_) fun _ _ x => x.elim
          refine caughtI hA' rfl G (fun h' st hat hns => back _ _ h' Up.head st hat hns) x rfl rfl rfl rfl (by k_is) fun a h₆ tk₆ S => ?_
          with_reducible refine xs_expr (by with_unfolding_all rfl) (by with_unfolding_all rfl) ?_
          (with_reducible refine wpAny_Call_append (by with_unfolding_all rfl) (by with_unfolding_all rfl) (by with_unfolding_all rfl) (by with_unfolding_all rfl) ?_)
          with_reducible refine e_local (by assumption) (by with_unfolding_all rfl) (by with_unfolding_all rfl) (by with_unfolding_all rfl) (by with_unfolding_all rfl) (by decide) ?_
          with_reducible refine ex_append (by wtm_at "at") ?_
          with_reducible refine z_str ?_
          ((rename St _ _ _ _ _ => S0); (with_reducible refine s_append S0 (by wtm_at "mem") (by wtm_at "up") (by wtm_at "small") ?_); (intro _ _; clear S0))
          with_reducible refine xs_nil ?_
          with_reducible refine after_next ?_
          with_reducible refine xs_nil ?_
          rename St _ _ _ _ _ => S
          have S := (S.sub (Δ' := (it, .pr (liP da (1 + 1))) :: (da, .list [.ref 79, .ref f]) :: (f, .obj (kla_obj "<lambda>" _ _ _ _ _ pm kc ctv)) :: (kc, .pr (codeP _)) :: (ta, .list (vs ++ [.str "none" tk₆])) :: (116, .obj (tabObj _)) :: frE F) (by wtm_at "sub")).names (ρ' := [("told", .ref ta)]) (by wtm_at "nm")
          exact turnf_next ⟨vs ++ [.str "none" tk₆], by simp [hvl], fun v hv' => by
            rcases List.mem_append.mp hv' with hv' | hv'
            · exact hv v hv'
            · exact ⟨_, List.mem_singleton.mp hv'⟩, S⟩
    · rintro h₄ tk₄ ⟨vs, hvl, hv, S⟩
      refine nx_list_end r'.hh S (by wtm_at "at") (by simp) fun h₅ S => ⟨rfl, ?_⟩
      with_reducible refine xs_return ?_
      with_reducible refine wpAny_Compare1 ?_ (by with_unfolding_all rfl)
      with_reducible refine e_local (by assumption) (by with_unfolding_all rfl) (by with_unfolding_all rfl) (by with_unfolding_all rfl) (by with_unfolding_all rfl) (by decide) ?_
      with_reducible refine e_list ?_
      with_reducible refine spliced_more ?_ (by with_unfolding_all rfl)
      with_reducible refine z_str ?_
      with_reducible refine spliced_more ?_ (by with_unfolding_all rfl)
      with_reducible refine z_str ?_
      with_reducible refine spliced_none ?_
      ((rename St _ _ _ _ _ => S0); (with_reducible refine s_newList S0 (by wtm_at "small") ?_); (intro _ _ _ _ _; clear S0))
      rename St _ _ _ _ _ => S
      refine z_eqs (x := "none") (by wtm_at "at") (by wtm_at "at") hvl hv (by intro v hv; simp at hv; rcases hv with rfl | rfl <;> exact ⟨_, rfl⟩) r'.units ?_
      have S := S.sub (Δ' := (116, .obj (tabObj _)) :: frE F) (by wtm_at "sub")
      have hgr := S.grown (.head _) ⟨_, rfl⟩
      have S := S.sub (Δ' := frE F) (by wtm_at "sub")
      exact q _ _ hgr S.keep fun x hx => (S.frs (F := F) (fun y hy => hy) x hx).1
end
section
section
variable {w : World} {A : Around} {z : Shared} {g h : Heap} {tk : Nat} {L C : Addr} {ρ : List (Str × Value)} {Δ M Δr : List (Addr × Ct)} {env : Env} {s : Shared} {cl : List (Str × Addr)} {scope : Scope}
theorem St.sameBut {h' : Heap} (S : St g L ρ Δ h) (hC : C ≠ L) (hg : g.get? C = none) (hΔ : ∀ p ∈ Δ, p.1 ≠ C) (hsb : Heap.SameBut C h h') : St g L ρ Δ h' := by
  obtain ⟨m, ⟨oL, es, ep, hL, hd'⟩, hr⟩ := S.loc
  refine ⟨⟨m, ⟨oL, es, ep, (hsb.2 L (Ne.symm hC)).trans hL, hd'⟩, hr⟩, fun b o e => (hsb.2 b fun q => ?_).trans (S.keep b o e), S.offL, fun p hp => ?_, S.nd⟩
  · rw [q, hg] at e; cases e
  · obtain ⟨y1, y2, y3⟩ := S.nw p hp
    exact ⟨y1.keeps fun o e => (hsb.2 _ (hΔ p hp)).trans e, y2, y3⟩
/-- a comprehension whose list goes into a local at once -/
theorem xs_assignC {elt target iter : Expr} {gs : List Comprehension} {pos : Pos} {y : Str} {py spos : Pos} {rest : List Stmt} {Q : Flow → Shared → Prop}
    (hsw : swapsWith (.ListComp elt (⟨target, iter, [], 0⟩ :: gs) scope pos) (some (.Name y py)) spos.line env = pure true) (hs : ∀ x, foldedSetIterable iter env x = pure x) (hclos : closureFor scope env = pure cl) (hkind : scope.kind = .function)
    (hnames : ∀ x ∈ scope.names, x.2 = .local → scope.names.lookup x.1 = some .local)
    (q : wpAny (MM w) A (eval iter env) (fun x s₁ => wpAny (MM w) A (pyIter x) (fun it s₂ => CompAt w A env (.ListComp elt (⟨target, iter, [], 0⟩ :: gs) scope pos) scope cl (some (assign (.Name y py) env)) (fun _ s' => wpAny (MM w) A (execs rest env) Q NoE s') it s₂) NoE s₁) NoE s) :
    wpAny (MM w) A (execs (.Assign [.Name y py] (.ListComp elt (⟨target, iter, [], 0⟩ :: gs) scope pos) spos :: rest) env) Q NoE s := by
  refine wpAny_execs_cons ?_
  rw [exec_Assign_Name_used _ _ _ _ hsw]
  refine wpAny_bind (wpAny_standAt (wpAny_bind ?_))
  show wpAny _ A (do let _ ← comprehension (.ListComp elt (⟨target, iter, [], 0⟩ :: gs) scope pos) scope env _ (newList []) false (eval iter env) (some (assign (.Name y py) env))) _ _ s
  exact wpAny_bind (wpAny_mono (wpAny_comprehension_free (use := some (assign (.Name y py) env)) (Q := fun _ s' => wpAny (MM w) A (execs rest env) Q NoE s') rfl hs hclos hkind hnames q) (fun _ s' hq => wpAny_pure (wpAny_pure hq)) fun _ _ e => e)
theorem comp_atS {e : Expr} {it : Value} {y : Str} {py : Pos} {Q : Value → Shared → Prop} (S : St g L ρ (M ++ Δr) h) (G : Gd w g) (hcell : ∀ y ∈ scope.names, y.2 ≠ .cell) (hkind : scope.kind = .function)
    (hy : env.kindOf y = some .local) (hLe : env.locals = L) (hk : env.scope.kind = .function)
    (loop : ∀ gi C acc h₁ tk₁, Gd w gi → (∀ b o, h.get? b = some o → b ∉ M.map (·.1) → gi.get? b = some o) → (∀ b o, gi.get? b = some o → h.get? b = some o) → h.get? acc = none → St gi C [] (M ++ [(acc, .list [])]) h₁ →
      codeAny (MM w) A (.compStart e 0 it (.ref acc) (compEnvC scope cl C env)) (fun r s' => r = .ok .next ∧ ∃ h₂ tk₂ ρ' Δi, s' = Z z h₂ tk₂ ∧ St gi C ρ' Δi h₂ ∧ ∀ h₃ tk₃, St g L ((y, .ref acc) :: ρ) (Δi ++ Δr) h₃ → Q .none (Z z h₃ tk₃)) (Z z h₁ tk₁)) :
    CompAt w A env e scope cl (some (assign (.Name y py) env)) Q it (Z z h tk) := by
  refine wpAny_newList (s := Z z h tk) (wpAny_newFunctionEnv hcell (by intro y hy; simp at hy) (fun h₁ hns₁ hsb₁ => ?_) hkind) (by simp)
  dsimp only at hns₁ hsb₁ ⊢
  have hM : ∀ p ∈ M, At h p.1 p.2 ∧ p.1 ≠ L ∧ g.get? p.1 = none := fun p hp => S.nw p (List.mem_append_left _ hp)
  have hs : ∀ b o, h.get? b = some o → b ∉ M.map (·.1) → (hideAll h (M.map (·.1))).get? b = some o := fun b o e n => hideAll_get _ e n
  have G' : Gd w (hideAll h (M.map (·.1))) := G.keeps fun b o e => hs b o (S.keep b o e) fun q => by
    obtain ⟨p, hp, rfl⟩ := List.mem_map.mp q
    rw [(hM p hp).2.2] at e; cases e
  have hsz : (h.push (lo [] 0)).objs.size = h.objs.size + 1 := Heap.size_push ..
  have old : ∀ b o, h.get? b = some o → h₁.get? b = some o := fun b o e => hsb₁.extBut b o (by
    have := Heap.lt_size e
    show b ≠ (h.push (lo [] 0)).objs.size
    rw [hsz]; exact Nat.ne_of_lt (Nat.lt_succ_of_lt this)) (Heap.get?_push_of_some _ (Heap.get?_push_of_some _ e))
  have hCn : h.get? (h.push (lo [] 0)).objs.size = none := by
    cases q : h.get? (h.push (lo [] 0)).objs.size with
    | none => rfl
    | some o => have := Heap.lt_size q; rw [hsz] at this; exact absurd this (Nat.not_lt.mpr (Nat.le_succ _))
  have hacc : At h₁ h.objs.size (.list []) := At.list (n := 0) (hsb₁.extBut _ _ (by
    show h.objs.size ≠ (h.push (lo [] 0)).objs.size
    rw [hsz]; exact Nat.ne_of_lt (Nat.lt_succ_self _)) (Heap.get?_push_of_some _ (Heap.get?_push_size _ rfl)))
  have gn : ∀ b, h.get? b = none → (hideAll h (M.map (·.1))).get? b = none := fun b hb => by
    cases q : (hideAll h (M.map (·.1))).get? b with
    | none => rfl
    | some o => rw [of_hideAll _ q] at hb; cases hb
  have ndM : (M.map (·.1)).Nodup := by
    have nd := S.nd
    rw [List.map_append, List.nodup_append] at nd
    exact nd.1
  have Si : St (hideAll h (M.map (·.1))) (h.push (lo [] 0)).objs.size [] ((h.objs.size, .list []) :: M) h₁ := by
    refine ⟨⟨_, hns₁, fun x v e => nomatch e⟩, fun b o e => old b o (of_hideAll _ e), gn _ hCn, fun p hp => ?_, ?_⟩
    · rcases List.mem_cons.mp hp with rfl | hp
      · exact ⟨hacc, by show h.objs.size ≠ (h.push (lo [] 0)).objs.size; rw [hsz]; exact Nat.ne_of_lt (Nat.lt_succ_self _), gn _ (get_size h)⟩
      · refine ⟨(hM p hp).1.keeps fun o e => old _ _ e, ?_, hideAll_none _ (List.mem_map_of_mem hp)⟩
        have := (hM p hp).1.lt
        rw [hsz]; exact Nat.ne_of_lt (Nat.lt_succ_of_lt this)
    · refine List.nodup_cons.mpr ⟨fun q => ?_, ndM⟩
      obtain ⟨p, hp, e⟩ := List.mem_map.mp q
      have := (hM p hp).1.lt
      rw [e] at this
      exact Nat.lt_irrefl _ this
  refine codeAny_mono (loop _ _ _ h₁ (tk + 0) G' hs (fun b o e => of_hideAll _ e) (get_size h) (Si.perm (List.perm_append_comm (l₁ := M) (l₂ := [(h.objs.size, .list [])]))) ) fun r s' q => ?_
  obtain ⟨rfl, h₂, tk₂, ρ', Δi, rfl, S₂, fin⟩ := q
  have S₃ := S.back hs S₂ hCn (h₃ := h₂) ⟨rfl, fun _ _ => rfl⟩
  obtain ⟨mL, hnL, hmL⟩ := S₃.loc
  obtain ⟨mC, ⟨oC, es, ep, hoC, hdC⟩, _⟩ := S₂.loc
  have hCL : (h.push (lo [] 0)).objs.size ≠ L := fun q => by
    obtain ⟨m, ⟨oL, _, _, hL, _⟩, _⟩ := S.loc
    rw [← q, hCn] at hL; cases hL
  subst hLe
  refine as_name (wpAny_storeName_local (s := Z z h₂ tk₂) hy hnL (fun h₇ hn₇ hs₇ => ?_) (by rw [hk]; rfl))
  refine ⟨mC, ⟨oC, es, ep, (hs₇.2 _ hCL).trans hoC, hdC⟩, fun h' hsb => fin h' _ ?_⟩
  refine (S₃.store hmL hn₇ hs₇).sameBut hCL ?_ (fun p hp => ?_) hsb
  · cases q : g.get? (h.push (lo [] 0)).objs.size with
    | none => rfl
    | some o => rw [S.keep _ _ q] at hCn; cases hCn
  · rcases List.mem_append.mp hp with hp | hp
    · exact (S₂.nw p hp).2.1
    · intro q
      obtain ⟨o, ho⟩ := (S.nw p (List.mem_append_right _ hp)).1.has
      rw [q, hCn] at ho; cases ho
end
end
section
theorem z_lsliceI {w : World} {A : Around} {E : Value → Shared → Prop} {z : Shared} {g h : Heap} {tk : Nat} {L : Addr} {ρ : List (Str × Value)} {Δ : List (Addr × Ct)} {Q : Value → Shared → Prop} {value slice : Expr} {a : Addr} {vs : List Value} {sl : Addr} {l u : Value} {lo hi : Option Int}
    (S : St g L ρ Δ h) (hs : At h sl (.pr (slP l u))) (hv : h.IsList a vs.toArray) (hl : IsPart l lo) (hu : IsPart u hi) (hz : vs.length ≤ 1000000)
    (hs' : subscripted slice false (.ref a) (.ref sl) = operate [.ref sl, .ref a] (getItem (.ref a) (.ref sl))) (ht : ∀ r, letTemporaryGo value (.ref a) r = pure ())
    (q : ∀ n h', h.get? n = none → Keep [] h h' → St g L ρ ((n, .list (cutL vs lo hi)) :: Δ) h' → Q (.ref n) (Z z h' tk)) : wpAny (MM w) A (subscriptTail value slice (.ref a) (.ref sl)) Q E (Z z h tk) := by
  refine tail_of_ItemOn ⟨"list", _, list_getitem_lookup, hv.typeIs, wpAny_getItem_list_slice (s := Z z h tk) hv (slP_is hs) hl hu .none (by simp) ?_ (by simp [sizeLine]; omega)⟩ hs' ht
  refine q _ _ (get_size h) (Keep.push _) (S.newAt (Keep.push _) (get_size h) ⟨_, Heap.get?_push_size _ rfl, 0, ?_⟩)
  rw [cut_run]
theorem cutL_to {α : Type} (xs : List α) (n : Nat) : cutL xs none (some (n : Int)) = xs.take n := by
  unfold cutL
  show List.take (clipAt xs.length ((n : Nat) : Int) - 0) (List.drop 0 xs) = _
  rw [clipAt_nat, List.drop_zero, Nat.sub_zero]
  by_cases h : n ≤ xs.length
  · rw [Nat.min_eq_left h]
  · rw [Nat.min_eq_right (by omega), List.take_length, List.take_of_length_le (by omega)]
theorem St.top {g h : Heap} {L : Addr} {m : Str → Option Value} {a : Value} {o1 o2 o3 : Obj} {c1 c2 c3 : Option Value} (F : Fr g L h m) (N : News g L h [(L + 1 + 1 + 1, o1), (L + 1 + 1, o2), (L + 1, o3), (102, tabObj #[]), (116, tabObj #[])])
    (h1 : o1.data = .cell c1) (h2 : o2.data = .cell c2) (h3 : o3.data = .cell c3) (e1 : c1 = none) (e2 : c2 = none) (e3 : c3 = none) (hb : 102 < L ∧ 116 < L) (hm : m "script" = some a) :
    St g L [("script", a)] [(L + 1 + 1 + 1, .cell none), (L + 1 + 1, .cell none), (L + 1, .cell none), (102, .obj (tabObj #[])), (116, .obj (tabObj #[]))] h := by
  subst e1 e2 e3
  have hb1 : (102 : Nat) < L := hb.1
  have hb2 : (116 : Nat) < L := hb.2
  have n1 := N _ (.head _)
  have n2 := N _ (.tail _ (.head _))
  have n3 := N _ (.tail _ (.tail _ (.head _)))
  have n4 := N _ (.tail _ (.tail _ (.tail _ (.head _))))
  have n5 := N _ (.tail _ (.tail _ (.tail _ (.tail _ (.head _)))))
  refine ⟨⟨_, F.ns, fun x v e => ?hx⟩, F.keep, Heap.get?_none_of_le F.above, ?_, ?_⟩
  case hx =>
    rw [List.lookup_cons] at e
    split at e
    · rename_i q
      rw [eq_of_beq q]
      cases e
      exact hm
    · cases e
  · intro p hp
    simp only [List.mem_cons, List.not_mem_nil, or_false] at hp
    rcases hp with rfl | rfl | rfl | rfl | rfl
    · exact ⟨⟨_, n1.1, h1⟩, n1.2⟩
    · exact ⟨⟨_, n2.1, h2⟩, n2.2⟩
    · exact ⟨⟨_, n3.1, h3⟩, n3.2⟩
    · exact ⟨⟨_, n4.1, rfl⟩, n4.2⟩
    · exact ⟨⟨_, n5.1, rfl⟩, n5.2⟩
  · have d : ∀ a b : Nat, a < b → ¬ (b : Addr) = a := fun a b h e => Nat.ne_of_gt h e
    simp only [List.map_cons, List.map_nil, List.nodup_cons, List.mem_cons, List.not_mem_nil, or_false, not_or, not_false_eq_true, List.nodup_nil, and_true]
    refine ⟨⟨?_, ?_, ?_, ?_⟩, ⟨?_, ?_, ?_⟩, ⟨?_, ?_⟩, by decide⟩
    all_goals exact d _ _ (by show (_ : Nat) < (_ : Nat); omega)
theorem start_law {w : World} {env : Env} {body : List Stmt} {s : Shared} {Q : Flow → Shared → Prop} {E : Value → Shared → Prop} (k : ∀ A, Rm A 9 → A.frames = some [env] → wpAny (MM w) A (execs body env) Q NoE s) : wpAny (MM w) (callerA.deeper env) (execs body env) Q E s :=
  wpAny_mono (k _ ⟨rfl, (by decide : callerA.depth + 1 + 9 < recursionLimit), (by decide : callerA.units + 3 + 20 * 9 < cLine)⟩ rfl) (fun _ _ x => x) fun _ _ x => x.elim
theorem isList_keeps {g h : Heap} {a : Addr} {xs : Array Value} (x : g.IsList a xs) (k : ∀ b o, g.get? b = some o → h.get? b = some o) : h.IsList a xs := let ⟨o, ho, r⟩ := x; ⟨o, k _ _ ho, r⟩
theorem St.hn {g h : Heap} {L : Addr} {ρ : List (Str × Value)} {Δ : List (Addr × Ct)} (S : St g L ρ Δ h) {a : Addr} (hn : h.get? a = none) : a ≠ L ∧ a ∉ Δ.map (·.1) ∧ g.get? a = none := by
  obtain ⟨o1, o2, o3⟩ := S.off hn
  exact ⟨o2, fun q => by
    obtain ⟨p, hp, e⟩ := List.mem_map.mp q
    exact o1 p hp e, o3⟩
theorem St.joinG {g h h' gf : Heap} {L : Addr} {ρ : List (Str × Value)} {Δ : List (Addr × Ct)} (S : St g L ρ Δ h) (kp : Keep [] h h') (kf : gf.StaysIn h') :
    ∃ g', St g' L ρ Δ h' ∧ Sub g g' ∧ ∀ a c, Nw h gf a c → Nw g g' a c := by
  have S' := S.keepAll kp
  refine ⟨hideAll h' (L :: Δ.map (·.1)), ⟨S'.loc, fun b o e => of_hideAll _ e, hideAll_none _ (.head _), fun p hp => ?_, S'.nd⟩, fun b o e => ?_, fun a c x => ?_⟩
  · have := S'.nw p hp
    exact ⟨this.1, this.2.1, hideAll_none _ (.tail _ (List.mem_map_of_mem hp))⟩
  · refine hideAll_get _ (S'.keep b o e) fun q => ?_
    rcases List.mem_cons.mp q with rfl | q
    · rw [S.offL] at e; cases e
    · obtain ⟨p, hp, rfl⟩ := List.mem_map.mp q
      rw [(S.nw p hp).2.2] at e; cases e
  · obtain ⟨⟨o, ho, hc⟩, hn⟩ := x
    obtain ⟨n1, n2, n3⟩ := S.hn hn
    exact ⟨⟨o, hideAll_get _ (kf _ _ ho) fun q => (List.mem_cons.mp q).elim n1 n2, hc⟩, n3⟩
/-- a call of _law_merged, seen from here -/
theorem St.callM {g h : Heap} {L P : Addr} {c : Ct} {ρ : List (Str × Value)} {Δ : List (Addr × Ct)} {m : Str → Option Value} (S : St g L ρ ((P, c) :: Δ) h) (hn : h.Ns L m) (hm : ∀ x v, ρ.lookup x = some v → m x = some v) :
    ∃ g₀, Sub g g₀ ∧ Sub g₀ h ∧ (∀ x ∈ (P, c) :: frE [(L, m)], At h x.1 x.2 ∧ g₀.get? x.1 = none) ∧ (((P, c) :: frE [(L, m)]).map (·.1)).Nodup ∧
      (∀ b o, h.get? b = some o → b ∉ P :: ([(L, m)] : Fs).map (·.1) → g₀.get? b = some o) ∧ (∀ p ∈ Δ, At g₀ p.1 p.2) ∧
      ∀ h' gf c', g₀.StaysIn h' → (∀ x ∈ ([(L, m)] : Fs), h'.Ns x.1 x.2) → gf.StaysIn h' → At h' P c' → ∃ g', St g' L ρ ((P, c') :: Δ) h' ∧ Sub g g' ∧ ∀ a c, Nw h gf a c → Nw g g' a c := by
  have hP := S.nw _ (.head _)
  have nd := S.nd
  rw [List.map_cons, List.nodup_cons] at nd
  have hin : ∀ b o, h.get? b = some o → b ∉ P :: L :: [] → (hideAll h (P :: L :: [])).get? b = some o := fun b o e n => hideAll_get _ e n
  have hΔ : ∀ p ∈ Δ, p.1 ∉ P :: L :: [] := fun p hp q => by
    rcases List.mem_cons.mp q with q | q
    · exact nd.1 (List.mem_map.mpr ⟨p, hp, q⟩)
    · exact (S.nw p (.tail _ hp)).2.1 (List.mem_singleton.mp q)
  have hΔ0 : ∀ p ∈ Δ, At (hideAll h (P :: L :: [])) p.1 p.2 := fun p hp => (S.nw p (.tail _ hp)).1.keeps fun o e => hin _ o e (hΔ p hp)
  have gsub : Sub g (hideAll h (P :: L :: [])) := fun b o e => hin b o (S.keep b o e) fun q => by
    rcases List.mem_cons.mp q with rfl | q
    · rw [hP.2.2] at e; cases e
    · rw [List.mem_singleton.mp q, S.offL] at e; cases e
  refine ⟨hideAll h (P :: L :: []), gsub, fun b o e => of_hideAll _ e, fun x hx => ?_, ?_, hin, hΔ0, fun h' gf c' st hns kf hat => ?_⟩
  · rcases List.mem_cons.mp hx with rfl | hx
    · exact ⟨hP.1, hideAll_none _ (.head _)⟩
    · rw [List.mem_singleton.mp hx]
      exact (⟨nsP_at hn, hideAll_none _ (.tail _ (.head _))⟩ : _ ∧ _)
  · show (P :: L :: []).Nodup
    exact List.nodup_cons.mpr ⟨fun q => hP.2.1 (List.mem_singleton.mp q), List.nodup_cons.mpr ⟨fun q => (nomatch q), List.nodup_nil⟩⟩
  · refine ⟨hideAll h' (L :: P :: Δ.map (·.1)), ⟨⟨m, hns _ (.head _), hm⟩, fun b o e => of_hideAll _ e, hideAll_none _ (.head _), fun p hp => ?_, List.nodup_cons.mpr nd⟩, fun b o e => ?_, fun a c x => ?_⟩
    · rcases List.mem_cons.mp hp with rfl | hp
      · exact ⟨hat, hP.2.1, hideAll_none _ (.tail _ (.head _))⟩
      · exact ⟨(hΔ0 p hp).keeps fun o e => st _ o e, (S.nw p (.tail _ hp)).2.1, hideAll_none _ (.tail _ (.tail _ (List.mem_map_of_mem hp)))⟩
    · refine hideAll_get _ (st b o (gsub b o e)) fun q => ?_
      rcases List.mem_cons.mp q with rfl | q
      · rw [S.offL] at e; cases e
      · rcases List.mem_cons.mp q with rfl | q
        · rw [hP.2.2] at e; cases e
        · obtain ⟨p, hp, rfl⟩ := List.mem_map.mp q
          rw [(S.nw p (.tail _ hp)).2.2] at e; cases e
    · obtain ⟨⟨o, ho, hc⟩, hn⟩ := x
      obtain ⟨n1, n2, n3⟩ := S.hn hn
      exact ⟨⟨o, hideAll_get _ (kf _ _ ho) fun q => (List.mem_cons.mp q).elim n1 n2, hc⟩, n3⟩
theorem lits6 : ∀ s, s < 6 → ∃ x ∈ ([712368, 1500, 568547347, 721165, 198532384965902, 45, 39582418598073, 1552, 573719] : List Int), (x % 6).toNat = s := by decide
theorem ints9 (t1 t2 t3 t4 t5 t6 t7 t8 t9 : Tok) (a1 a2 a3 a4 a5 a6 a7 a8 a9 : Int) : IntsAre [.int a1 t1, .int a2 t2, .int a3 t3, .int a4 t4, .int a5 t5, .int a6 t6, .int a7 t7, .int a8 t8, .int a9 t9] [a1, a2, a3, a4, a5, a6, a7, a8, a9] :=
  .cons _ _ (.cons _ _ (.cons _ _ (.cons _ _ (.cons _ _ (.cons _ _ (.cons _ _ (.cons _ _ (.cons _ _ .nil))))))))
noncomputable def enc1 (x : Letter) : List UInt8 := UInt8.ofNat x.1 :: UInt8.ofNat x.2.length :: x.2
noncomputable def enc (row : List Letter) : List UInt8 := (row.map enc1).flatten
theorem enc1_len (x : Letter) : (enc1 x).length = 2 + x.2.length := by simp [enc1]; omega
theorem byteArr2 (a b : Nat) (o : List UInt8) : byteArr [(a : Int), (b : Int)] ++ o.toArray = (UInt8.ofNat a :: UInt8.ofNat b :: o).toArray := by
  simp [byteArr]
theorem enc_len : ∀ (row : List Letter), (∀ x ∈ row, x.2.length ≤ 5) → (enc row).length ≤ 7 * row.length
  | [], _ => by simp [enc]
  | x :: r, h => by
    have h1 := enc_len r fun y hy => h y (List.mem_cons_of_mem _ hy)
    have h2 := h x List.mem_cons_self
    have h3 := enc1_len x
    unfold enc at h1 ⊢
    rw [List.map_cons, List.flatten_cons, List.length_append, List.length_cons]
    omega
noncomputable def shornOf (rows : List (List Letter)) (cut lost s : Nat) : List UInt8 := if s = cut then (enc (rowOf rows s)).take ((enc (rowOf rows s)).length - lost) else enc (rowOf rows s)
noncomputable def bss9 (rows : List (List Letter)) (cut lost : Nat) : List (List UInt8) := (List.range 6).map (shornOf rows cut lost) ++ [[5, 2, 9], [], [5]]
end
section
noncomputable def rows9 (rows : List (List Letter)) (cut : Nat) : List (List Letter) := whRows rows cut ++ [[], [], []]
noncomputable def fin6 (rows : List (List Letter)) (cut lost s : Nat) : Option Str := if s = cut ∧ wne (wordsOf rows cut lost) = true then some (wordsOf rows cut lost) else none
noncomputable def fins9 (rows : List (List Letter)) (cut lost : Nat) : List (Option Str) := (List.range 6).map (fin6 rows cut lost) ++ [some (wordsS 2 3), none, some (wordsS 0 1)]
theorem rows9_len (rows : List (List Letter)) (cut : Nat) : (rows9 rows cut).length = 9 := by simp [rows9, whRows]
theorem bss9_len (rows : List (List Letter)) (cut lost : Nat) : (bss9 rows cut lost).length = 9 := by simp [bss9]
theorem getD6 {α : Type} (f : Nat → α) (x y z d : α) : (∀ s, s < 6 → ((List.range 6).map f ++ [x, y, z]).getD s d = f s) ∧ ((List.range 6).map f ++ [x, y, z]).getD 6 d = x ∧ ((List.range 6).map f ++ [x, y, z]).getD 7 d = y ∧ ((List.range 6).map f ++ [x, y, z]).getD 8 d = z := by
  have e : (List.range 6).map f ++ [x, y, z] = [f 0, f 1, f 2, f 3, f 4, f 5, x, y, z] := rfl
  rw [e]
  refine ⟨fun s hs => ?_, rfl, rfl, rfl⟩
  match s, hs with
  | 0, _ => rfl
  | 1, _ => rfl
  | 2, _ => rfl
  | 3, _ => rfl
  | 4, _ => rfl
  | 5, _ => rfl
theorem rows9_at (rows : List (List Letter)) (cut : Nat) : (∀ s, s < 6 → rowOf (rows9 rows cut) s = wh rows cut s) ∧ rowOf (rows9 rows cut) 6 = [] ∧ rowOf (rows9 rows cut) 7 = [] ∧ rowOf (rows9 rows cut) 8 = [] := getD6 (wh rows cut) [] [] [] []
theorem fins9_at (rows : List (List Letter)) (cut lost : Nat) : (∀ s, s < 6 → (fins9 rows cut lost).getD s none = fin6 rows cut lost s) ∧ (fins9 rows cut lost).getD 6 none = some (wordsS 2 3) ∧ (fins9 rows cut lost).getD 7 none = none ∧ (fins9 rows cut lost).getD 8 none = some (wordsS 0 1) := getD6 (fin6 rows cut lost) _ _ _ _
theorem bss9_at (rows : List (List Letter)) (cut lost : Nat) : (∀ s, s < 6 → (bss9 rows cut lost).getD s [] = shornOf rows cut lost s) ∧ (bss9 rows cut lost).getD 6 [] = [5, 2, 9] ∧ (bss9 rows cut lost).getD 7 [] = [] ∧ (bss9 rows cut lost).getD 8 [] = [5] := getD6 (shornOf rows cut lost) _ _ _ _
/-- octets ahead change nothing -/
theorem next_app (a b : List UInt8) (p : Nat) : nextL (a ++ b) (a.length + p) = ((nextL b p).1, a.length + (nextL b p).2) := by
  unfold nextL
  have e1 : (a ++ b)[a.length + p]? = b[p]? := by rw [List.getElem?_append_right (by omega), Nat.add_sub_cancel_left]
  have e2 : (a ++ b)[a.length + p + 1]? = b[p + 1]? := by rw [List.getElem?_append_right (by omega)]; congr 1; omega
  rw [e1, e2]
  cases b[p]? with
  | none => rfl
  | some r =>
    dsimp only
    cases b[p + 1]? with
    | none => rfl
    | some n =>
      dsimp only
      have e3 : (a ++ b).drop (a.length + p + 2) = b.drop (p + 2) := by rw [List.drop_append, List.drop_eq_nil_of_le (by omega), List.nil_append]; congr 1; omega
      have e4 : (a ++ b).length - (a.length + p + 2) = b.length - (p + 2) := by rw [List.length_append]; omega
      rw [e3, e4, List.length_append]
      by_cases c : p + 2 + n.toNat ≤ b.length
      · rw [if_pos c, if_pos (by omega)]
        dsimp only
        congr 1
        omega
      · rw [if_neg c, if_neg (by omega)]
        dsimp only
        congr 1
        omega
theorem next_two (r n : UInt8) (t : List UInt8) : nextL (r :: n :: t) 0 = if 2 + n.toNat ≤ t.length + 2 then (.ok r.toNat (t.take n.toNat), 2 + n.toNat) else (.bad (msgT n.toNat ((t.length : Nat) : Int)), 2 + n.toNat) := by
  unfold nextL
  simp
theorem next_one {x : Letter} (h1 : x.1 < 256) (h2 : x.2.length ≤ 5) (t : List UInt8) : nextL (enc1 x ++ t) 0 = (.ok x.1 x.2, 2 + x.2.length) := by
  have e1 : (UInt8.ofNat x.1).toNat = x.1 := by simp; omega
  have e2 : (UInt8.ofNat x.2.length).toNat = x.2.length := by simp; omega
  show nextL (UInt8.ofNat x.1 :: UInt8.ofNat x.2.length :: (x.2 ++ t)) 0 = _
  rw [next_two, e1, e2, if_pos (by simp; omega)]
  simp
theorem enc_app (r r' : List Letter) : enc (r ++ r') = enc r ++ enc r' := by simp [enc]
theorem enc_cons (x : Letter) (r : List Letter) : enc (x :: r) = enc1 x ++ enc r := by simp [enc]
theorem enc_offs (row : List Letter) (k : Nat) : (enc (row.take k)).length = offs row k := by
  unfold offs enc
  induction row.take k with
  | nil => rfl
  | cons x r ih => rw [List.map_cons, List.flatten_cons, List.length_append, ih, List.map_cons, List.sum_cons, enc1_len]
theorem offs_succ {row : List Letter} {k : Nat} {x : Letter} (h : row[k]? = some x) : offs row (k + 1) = offs row k + (2 + x.2.length) := by
  unfold offs
  rw [List.take_add_one, h, List.map_append, List.sum_append]
  simp
theorem offs_le (row : List Letter) (k : Nat) (h : ∀ x ∈ row, x.2.length ≤ 5) : offs row k ≤ 7 * row.length := by
  rw [← enc_offs]
  have h1 := enc_len (row.take k) fun x hx => h x (List.mem_of_mem_take hx)
  have h2 : (row.take k).length ≤ row.length := by rw [List.length_take]; omega
  omega
theorem dec_of {row : List Letter} {tl : List UInt8} {f : Option Str} (hr : ∀ x ∈ row, x.1 < 256 ∧ x.2.length ≤ 5) (hl : row.length ≤ 12) (ht : tl.length ≤ 10) (hf : (nextL tl 0).1 = finL f) : Dec (enc row ++ tl) row f := by
  have h5 : ∀ x ∈ row, x.2.length ≤ 5 := fun x hx => (hr x hx).2
  have hel := enc_len row h5
  refine ⟨fun k x hx => ?_, ?_, ?_, fun k => ?_, h5⟩
  · obtain ⟨h1, h2⟩ := hr x (List.mem_of_getElem? hx)
    have hk := (List.getElem?_eq_some_iff.mp hx).1
    have e1 : row = row.take k ++ (x :: row.drop (k + 1)) := by
      rw [← (List.getElem?_eq_some_iff.mp hx).2, ← List.drop_eq_getElem_cons hk, List.take_append_drop]
    have e2 : enc row ++ tl = enc (row.take k) ++ (enc1 x ++ (enc (row.drop (k + 1)) ++ tl)) := by
      conv => lhs; rw [e1, enc_app, enc_cons]
      rw [List.append_assoc, List.append_assoc]
    have := next_app (enc (row.take k)) (enc1 x ++ (enc (row.drop (k + 1)) ++ tl)) 0
    rw [← e2, enc_offs, Nat.add_zero, next_one h1 h2] at this
    rw [this, offs_succ hx]
  · have := next_app (enc row) tl 0
    rw [Nat.add_zero] at this
    rw [← enc_offs row row.length, List.take_length, this]
    exact hf
  · rw [List.length_append]; omega
  · have := offs_le row k h5
    omega
theorem msgT_ne (n m : Int) : wne (msgT n m) = true := by
  unfold wne msgT
  have h : ∀ (a b : Str), (a ++ b).cps.toList = a.cps.toList ++ b.cps.toList := fun a b => by
    show (a.cps ++ b.cps).toList = _
    exact Array.toList_append
  rw [h, h, h, h]
  have e : (Str.ofString "expected ").cps.toList = 101 :: [120, 112, 101, 99, 116, 101, 100, 32] := by decide +kernel
  rw [e]
  rfl
theorem ru1_ne : wne ru1Msg = true := by decide +kernel
/-- the stream cut short ends as the words say -/
theorem fin_cut {x : Letter} (h2 : x.2.length ≤ 5) {lost : Nat} (hlo : lost = 1 ∨ lost = 2) :
    (nextL ((enc1 x).take (2 + x.2.length - lost)) 0).1 = finL (if wne (wordsS x.2.length (2 + x.2.length - lost)) = true then some (wordsS x.2.length (2 + x.2.length - lost)) else none) := by
  have e2 : (UInt8.ofNat x.2.length).toNat = x.2.length := by simp; omega
  generalize hL : 2 + x.2.length - lost = l
  match l, hL with
  | 0, hL =>
    rw [List.take_zero]
    have e : wordsS x.2.length 0 = Str.ofString "" := by unfold wordsS; rw [if_pos rfl]
    rw [e]
    rfl
  | 1, hL =>
    have e : wordsS x.2.length 1 = ru1Msg := by unfold wordsS; rw [if_neg (by omega), if_pos (by omega)]
    rw [e, ru1_ne, if_pos rfl]
    rfl
  | l + 2, hL =>
    have e : wordsS x.2.length (l + 2) = msgT x.2.length ((l : Nat) : Int) := by unfold wordsS; rw [if_neg (by omega), if_neg (by omega)]; rfl
    rw [e, msgT_ne, if_pos rfl]
    have et : (enc1 x).take (l + 2) = UInt8.ofNat x.1 :: UInt8.ofNat x.2.length :: x.2.take l := rfl
    rw [et]
    rw [next_two, e2, if_neg (by simp; omega)]
    show Ltr.bad _ = Ltr.bad _
    congr 2
    simp
    omega
theorem dec9 {rows : List (List Letter)} {cut lost : Nat} (ok : RowsOk rows) (hc : cut < 6) (hlo : lost = 1 ∨ lost = 2) :
    ∀ s, s < (rows9 rows cut).length → Dec ((bss9 rows cut lost).getD s []) (rowOf (rows9 rows cut) s) ((fins9 rows cut lost).getD s none) := by
  intro s hs
  rw [rows9_len] at hs
  obtain ⟨a1, a2, a3, a4⟩ := rows9_at rows cut
  obtain ⟨b1, b2, b3, b4⟩ := fins9_at rows cut lost
  obtain ⟨c1, c2, c3, c4⟩ := bss9_at rows cut lost
  have h6 := ok.six
  by_cases c : s < 6
  · rw [a1 s c, b1 s c, c1 s c]
    obtain ⟨row, hrow⟩ : ∃ row, rows[s]? = some row := ⟨_, List.getElem?_eq_getElem (by omega)⟩
    have hro : rowOf rows s = row := getD_of hrow
    obtain ⟨hrl, hrn⟩ := ok.row hrow
    have hsm := ok.small _ (List.mem_of_getElem? hrow)
    by_cases hsc : s = cut
    · have hpos : 0 < row.length := List.length_pos_iff.mpr hrn
      obtain ⟨x, hx⟩ : ∃ x, row[row.length - 1]? = some x := ⟨_, List.getElem?_eq_getElem (by omega)⟩
      have hxm := hsm x (List.mem_of_getElem? hx)
      have hlast : lastOf rows cut = x := by unfold lastOf; rw [← hsc, hro]; exact getD_of hx
      have e1 : row = row.dropLast ++ [x] := by
        have : row.getLast hrn = x := by
          rw [List.getLast_eq_getElem]
          exact (List.getElem?_eq_some_iff.mp hx).2
        rw [← this, List.dropLast_concat_getLast]
      have e2 : enc row = enc row.dropLast ++ enc1 x := by
        conv => lhs; rw [e1, enc_app, enc_cons]
        simp [enc]
      have e3 : shornOf rows cut lost s = enc row.dropLast ++ (enc1 x).take (2 + x.2.length - lost) := by
        unfold shornOf
        rw [if_pos hsc, hro, e2, List.take_append, List.length_append, enc1_len]
        rw [List.take_of_length_le (by omega)]
        congr 2
        omega
      have e4 : wh rows cut s = row.dropLast := by show (if s = cut then _ else _) = _; rw [if_pos hsc, hro]
      have e5 : fin6 rows cut lost s = if wne (wordsS x.2.length (2 + x.2.length - lost)) = true then some (wordsS x.2.length (2 + x.2.length - lost)) else none := by
        unfold fin6 wordsOf
        rw [hlast]
        by_cases q : wne (wordsS x.2.length (2 + x.2.length - lost)) = true
        · rw [if_pos ⟨hsc, q⟩, if_pos q]
        · rw [if_neg (fun h => q h.2), if_neg q]
      rw [e3, e4, e5]
      have hm : ∀ y ∈ row.dropLast, y ∈ row := fun y hy => by rw [List.dropLast_eq_take] at hy; exact List.mem_of_mem_take hy
      refine dec_of (fun y hy => hsm y (hm y hy)) (by rw [List.length_dropLast]; omega) (by rw [List.length_take, enc1_len]; omega) (fin_cut hxm.2 hlo)
    · have e3 : shornOf rows cut lost s = enc row ++ [] := by unfold shornOf; rw [if_neg hsc, hro, List.append_nil]
      have e4 : wh rows cut s = row := by show (if s = cut then _ else _) = _; rw [if_neg hsc, hro]
      have e5 : fin6 rows cut lost s = none := by unfold fin6; rw [if_neg (fun h => hsc h.1)]
      rw [e3, e4, e5]
      exact dec_of hsm hrl (by simp) rfl
  · have hs' : s = 6 ∨ s = 7 ∨ s = 8 := by omega
    rcases hs' with rfl | rfl | rfl
    · rw [a2, b2, c2]
      refine dec_of (row := []) (tl := [5, 2, 9]) (fun x hx => nomatch hx) (by decide) (by decide) ?_
      rfl
    · rw [a3, b3, c3]
      exact dec_of (row := []) (tl := []) (fun x hx => nomatch hx) (by decide) (by decide) rfl
    · rw [a4, b4, c4]
      refine dec_of (row := []) (tl := [5]) (fun x hx => nomatch hx) (by decide) (by decide) ?_
      rfl
theorem wh_mem {rows : List (List Letter)} {cut : Nat} {row : List Letter} (h : row ∈ rows9 rows cut) : row = [] ∨ ∃ s, s < 6 ∧ row = wh rows cut s := by
  unfold rows9 whRows at h
  rcases List.mem_append.mp h with h | h
  · obtain ⟨s, hs, rfl⟩ := List.mem_map.mp h
    exact .inr ⟨s, by simpa using hs, rfl⟩
  · simp at h
    exact .inl h
theorem wh_sub (rows : List (List Letter)) (cut s : Nat) : (wh rows cut s).Sublist (rowOf rows s) := by
  show (if s = cut then (rowOf rows s).dropLast else rowOf rows s).Sublist _
  split
  · exact List.dropLast_sublist _
  · exact List.Sublist.refl _
theorem rowOf_mem {rows : List (List Letter)} {s : Nat} (h : s < rows.length) : rowOf rows s ∈ rows := by
  have e : rows[s]? = some rows[s] := List.getElem?_eq_getElem h
  rw [show rowOf rows s = rows[s] from getD_of e]
  exact List.getElem_mem h
theorem lo9 {rows : List (List Letter)} {cut : Nat} (ok : RowsOk rows) (hc : cut < 6) : RowsLo (rows9 rows cut) := by
  refine ⟨fun row h => ?_, by rw [rows9_len]; decide, fun row h => ?_⟩
  · rcases wh_mem h with rfl | ⟨s, hs, rfl⟩
    · exact List.Pairwise.nil
    · exact (ok.lo _ (rowOf_mem (by rw [ok.six]; exact hs))).sublist (wh_sub rows cut s)
  · rcases wh_mem h with rfl | ⟨s, hs, rfl⟩
    · simp
    · have := (wh_sum ok hc).2.2 s hs
      omega
theorem okey9 {rows : List (List Letter)} {cut : Nat} {q : Nat × Nat} (h : q.1 < 6) : okey (rows9 rows cut) q = okey (whRows rows cut) q := by
  unfold okey
  rw [(rows9_at rows cut).1 _ h, whRows_row h]
theorem ord9 {rows : List (List Letter)} {cut : Nat} {os : List (Nat × Nat)} (o : Ord (whRows rows cut) os) : Ord (rows9 rows cut) os := by
  obtain ⟨a1, a2, a3, a4⟩ := rows9_at rows cut
  have h6 : ∀ q ∈ os, q.1 < 6 := fun q hq => by
    have := ((o.mem q.1 q.2).mp hq).1
    rwa [whRows_len] at this
  refine ⟨fun s k => ?_, ?_⟩
  · rw [o.mem, whRows_len, rows9_len]
    constructor
    · rintro ⟨h1, h2⟩
      refine ⟨by omega, ?_⟩
      rw [a1 s h1]
      rwa [whRows_row h1] at h2
    · rintro ⟨h1, h2⟩
      by_cases c : s < 6
      · refine ⟨c, ?_⟩
        rw [whRows_row c]
        rwa [a1 s c] at h2
      · have hs' : s = 6 ∨ s = 7 ∨ s = 8 := by omega
        rcases hs' with rfl | rfl | rfl
        · rw [a2] at h2; exact absurd h2 (by simp)
        · rw [a3] at h2; exact absurd h2 (by simp)
        · rw [a4] at h2; exact absurd h2 (by simp)
  · refine o.lt.imp_of_mem fun {a b} ha hb h => ?_
    rw [okey9 (h6 a ha), okey9 (h6 b hb)]
    exact h
theorem flatMap_one {α : Type} (f : Nat → List α) (n c : Nat) (hc : c < n) (h : ∀ s, s < n → s ≠ c → f s = []) : (List.range n).flatMap f = f c := by
  induction n with
  | zero => omega
  | succ n ih =>
    rw [List.range_succ, List.flatMap_append, List.flatMap_singleton]
    by_cases e : c = n
    · subst e
      have : (List.range c).flatMap f = [] := by
        rw [List.flatMap_eq_nil_iff]
        intro s hs
        have : s < c := by simpa using hs
        exact h s (by omega) (by omega)
      rw [this, List.nil_append]
    · rw [ih (by omega) fun s hs hne => h s (by omega) hne, h n (by omega) (fun q => e q.symm), List.append_nil]
theorem flatMap_congr' {α β : Type} : ∀ (l : List α) (f g : α → List β), (∀ x ∈ l, f x = g x) → l.flatMap f = l.flatMap g
  | [], _, _, _ => rfl
  | a :: r, f, g, h => by rw [List.flatMap_cons, List.flatMap_cons, h a List.mem_cons_self, flatMap_congr' r f g fun x hx => h x (List.mem_cons_of_mem _ hx)]
theorem ev9 {rows : List (List Letter)} {cut lost : Nat} {os : List (Nat × Nat)} (ok : RowsOk rows) (hc : cut < 6) (o : Ord (whRows rows cut) os) :
    (List.range (rows9 rows cut).length).flatMap (startEv (rows9 rows cut) (fins9 rows cut lost)) ++ os.flatMap (evOf (rows9 rows cut) (fins9 rows cut lost)) = dueEv rows cut lost os := by
  obtain ⟨a1, a2, a3, a4⟩ := rows9_at rows cut
  obtain ⟨b1, b2, b3, b4⟩ := fins9_at rows cut lost
  have h6 : ∀ q ∈ os, q.1 < 6 := fun q hq => by
    have := ((o.mem q.1 q.2).mp hq).1
    rwa [whRows_len] at this
  have s6 : startEv (rows9 rows cut) (fins9 rows cut lost) 6 = [.bad 6 (wordsS 2 3)] := by unfold startEv; rw [a2, b2]; rfl
  have s7 : startEv (rows9 rows cut) (fins9 rows cut lost) 7 = [] := by unfold startEv; rw [a3, b3]; rfl
  have s8 : startEv (rows9 rows cut) (fins9 rows cut lost) 8 = [.bad 8 (wordsS 0 1)] := by unfold startEv; rw [a4, b4]; rfl
  have hs : (List.range 6).flatMap (startEv (rows9 rows cut) (fins9 rows cut lost)) = if wne (wordsOf rows cut lost) = true ∧ wh rows cut cut = [] then [.bad cut (wordsOf rows cut lost)] else [] := by
    rw [flatMap_one _ 6 cut hc]
    · unfold startEv
      rw [a1 cut hc, b1 cut hc]
      unfold fin6
      by_cases q1 : wh rows cut cut = []
      · rw [if_pos q1]
        by_cases q2 : wne (wordsOf rows cut lost) = true
        · rw [if_pos ⟨rfl, q2⟩, if_pos ⟨q2, q1⟩]; rfl
        · rw [if_neg (fun h => q2 h.2), if_neg (fun h => q2 h.1)]; rfl
      · rw [if_neg q1, if_neg (fun h => q1 h.2)]
    · intro s hs hne
      unfold startEv
      rw [a1 s hs, if_neg]
      have e : wh rows cut s = rowOf rows s := if_neg hne
      rw [e]
      exact ok.ne _ (rowOf_mem (by rw [ok.six]; exact hs))
  have he : os.flatMap (evOf (rows9 rows cut) (fins9 rows cut lost)) = os.flatMap (dueQ rows cut lost) := by
    have : ∀ q ∈ os, evOf (rows9 rows cut) (fins9 rows cut lost) q = dueQ rows cut lost q := fun q hq => by
      have hq6 := h6 q hq
      unfold evOf dueQ
      rw [a1 _ hq6, b1 _ hq6]
      unfold fin6
      congr 1
      by_cases q2 : q.2 + 1 = (wh rows cut q.1).length
      · rw [if_pos q2]
        by_cases q3 : q.1 = cut ∧ wne (wordsOf rows cut lost) = true
        · rw [if_pos q3, if_pos ⟨q3.2, q3.1, q2⟩]; rfl
        · rw [if_neg q3, if_neg (fun h => q3 ⟨h.2.1, h.1⟩)]; rfl
      · rw [if_neg q2, if_neg (fun h => q2 h.2.2)]
    exact flatMap_congr' os _ _ this
  rw [rows9_len, show (9 : Nat) = 6 + 1 + 1 + 1 from rfl, List.range_succ, List.range_succ, List.range_succ, List.flatMap_append, List.flatMap_append, List.flatMap_append, List.flatMap_singleton, List.flatMap_singleton, List.flatMap_singleton, hs, he, s6, s7, s8]
  unfold dueEv
  simp
end
section
section
variable {w : World} {A : Around} {E : Value → Shared → Prop} {s : Shared}
theorem rc_same {a b : Addr} {vs ws : List Value} (ha : At s.heap a (.list vs)) (hb : At s.heap b (.list ws)) (hl : vs.length = ws.length) (hu : A.units < cLine)
    (he : ∀ (j : Nat) (v u : Value), vs[j]? = some v → ws[j]? = some u → SeqAt.EqAt A.in1 s v u true) : SeqAt.RcAt A s (.ref a) (.ref b) true := by
  have := SeqAt.RcAt.lists (A := A) (e := fun _ => true) ha.isList hb.isList (by simpa using hl) hu (fun j h1 h2 => he j _ _ (by
    rw [List.getElem?_eq_getElem (by simpa using h1)]; rfl) (by rw [List.getElem?_eq_getElem (by simpa using h2)]; rfl))
  rwa [show (List.range vs.toArray.size).all (fun _ => true) = true from List.all_eq_true.mpr fun _ _ => rfl] at this
theorem eq_int (n : Int) (t u : Tok) : SeqAt.EqAt A s (.int n t) (.int n u) true := by
  have := SeqAt.EqAt.int_int (A := A) (s := s) n t n u
  rwa [beq_self_eq_true] at this
theorem eq_str (n : Str) (t u : Tok) : SeqAt.EqAt A s (.str n t) (.str n u) true := by
  have := SeqAt.EqAt.str_str (A := A) (s := s) n t n u
  rwa [beq_self_eq_true] at this
theorem eq_ev {a b : Addr} {e : Ev} (ha : EvP (At s.heap) a e) (hb : EvP (At s.heap) b e) (hu : A.units + 20 < cLine) : SeqAt.EqAt A s (.ref a) (.ref b) true := by
  by_cases hne : a = b
  · rw [hne]; exact SeqAt.EqAt.same _
  · refine SeqAt.EqAt.of_refs hne ?_
    cases e with
    | ltr r x o =>
      obtain ⟨t1, t2, t3, ha⟩ := ha
      obtain ⟨u1, u2, u3, hb⟩ := hb
      refine rc_same ha hb rfl (by omega) fun j v u e1 e2 => ?_
      match j, e1, e2 with
      | 0, e1, e2 => cases e1; cases e2; exact eq_int _ _ _
      | 1, e1, e2 => cases e1; cases e2; exact eq_int _ _ _
      | 2, e1, e2 => cases e1; cases e2; exact eq_str _ _ _
    | bad x m =>
      obtain ⟨t1, t2, ha⟩ := ha
      obtain ⟨u1, u2, hb⟩ := hb
      refine rc_same ha hb rfl (by omega) fun j v u e1 e2 => ?_
      match j, e1, e2 with
      | 0, e1, e2 => cases e1; cases e2; exact eq_int _ _ _
      | 1, e1, e2 => cases e1; cases e2; exact eq_str _ _ _
theorem z_tell {a b : Addr} {evs : List Ev} {Q : Value → Shared → Prop} (ha : TellAt (At s.heap) a evs) (hb : TellAt (At s.heap) b evs) (hu : A.units + 40 < cLine) (q : Q (.bool true) s) : wpAny (MM w) A (compareOp .Eq (.ref a) (.ref b)) Q E s := by
  obtain ⟨as, ha, hA⟩ := ha
  obtain ⟨bs, hb, hB⟩ := hb
  refine rc_same ha hb (by rw [List.length_map, List.length_map, hA.1, hB.1]) (by omega) (fun j v u e1 e2 => ?_) _ w E Q q
  rw [List.getElem?_map] at e1 e2
  obtain ⟨x, hx, rfl⟩ := Option.map_eq_some_iff.mp e1
  obtain ⟨y, hy, rfl⟩ := Option.map_eq_some_iff.mp e2
  have hj : j < evs.length := by rw [← hA.1]; exact (List.getElem?_eq_some_iff.mp hx).1
  obtain ⟨x', hx', h1⟩ := hA.2 j _ (List.getElem?_eq_getElem hj)
  obtain ⟨y', hy', h2⟩ := hB.2 j _ (List.getElem?_eq_getElem hj)
  rw [hx] at hx'
  rw [hy] at hy'
  cases hx'
  cases hy'
  exact eq_ev h1 h2 (by show A.units + _ + 20 < _; omega)
end
theorem TellAt.mono {P P' : Addr → Ct → Prop} {r : Addr} {evs : List Ev} (h : TellAt P r evs) (k : ∀ a c, P a c → P' a c) : TellAt P' r evs :=
  let ⟨as, h1, h2⟩ := h; ⟨as, k _ _ h1, h2.mono fun a e x => x.mono k⟩
theorem bss9_vals {cs : List Value} {rows : List (List Letter)} {cut lost : Nat} {t1 t2 t3 : Tok} {b1 b2 b3 : Array UInt8} (hl : cs.length = 6) (hC : ∀ s, s < 6 → ∃ t, cs[s]? = some (.bytes (shornOf rows cut lost s).toArray t))
    (e1 : b1 = ([5, 2, 9] : List UInt8).toArray) (e2 : b2 = ([] : List UInt8).toArray) (e3 : b3 = ([5] : List UInt8).toArray) :
    ∀ (i : Nat) (b : List UInt8), (bss9 rows cut lost)[i]? = some b → ∃ t, (cs ++ [.bytes b1 t1, .bytes b2 t2, .bytes b3 t3])[i]? = some (.bytes b.toArray t) := by
  subst e1 e2 e3
  intro i b h
  unfold bss9 at h
  by_cases c : i < 6
  · rw [List.getElem?_append_left (by simpa using c), List.getElem?_map, List.getElem?_range c] at h
    cases h
    obtain ⟨t, e⟩ := hC i c
    exact ⟨t, by rw [List.getElem?_append_left (by omega)]; exact e⟩
  · rw [List.getElem?_append_right (by simp; omega)] at h
    rw [List.getElem?_append_right (by omega), hl]
    rw [List.length_map, List.length_range] at h
    generalize i - 6 = k at *
    match k, h with
    | 0, h => cases h; exact ⟨_, rfl⟩
    | 1, h => cases h; exact ⟨_, rfl⟩
    | 2, h => cases h; exact ⟨_, rfl⟩
theorem ordW {rows : List (List Letter)} {cut : Nat} (ok : RowsOk rows) (hc : cut < 6) : ∃ os, Ord (whRows rows cut) os ∧ os.length ≤ 12 := by
  obtain ⟨h1, _, h3⟩ := wh_sum ok hc
  obtain ⟨os, o⟩ := Ord.ex (rows := whRows rows cut) (by rw [whRows_len]; decide) fun s => by
    by_cases c : s < 6
    · rw [whRows_row c]
      have := h3 s c
      omega
    · have : rowOf (whRows rows cut) s = [] := by
        show (whRows rows cut).getD s [] = []
        have hl := whRows_len rows cut
        rw [List.getD, List.getElem?_eq_none_iff.mpr (by omega)]; rfl
      rw [this]
      decide
  refine ⟨os, o, ?_⟩
  rw [(o.perm (whRows_len rows cut)).length_eq]
  exact h1
theorem St.front {g h : Heap} {L : Addr} {ρ : List (Str × Value)} {Δ1 Δ2 : List (Addr × Ct)} {p : Addr × Ct} (S : St g L ρ (Δ1 ++ p :: Δ2) h) : St g L ρ (p :: (Δ1 ++ Δ2)) h := S.perm List.perm_middle.symm
end
section
inductive TpA (gi : Heap) (C it acc ra : Addr) (rows : List (List Letter)) (i : Nat) (h : Heap) : Prop
  | mk (ρ' : List (Str × Value)) (bs : List Value) (hbl : bs.length = i) (hB : ∀ s row, s < i → rows[s]? = some row → ∃ t, bs[s]? = some (.bytes (enc row).toArray t)) (Si : St gi C ρ' [(it, .pr (liP ra i)), (acc, .list bs)] h) : TpA gi C it acc ra rows i h
inductive TpB (gj : Heap) (C2 it2 acc2 a : Addr) (row : List Letter) (k : Nat) (h : Heap) : Prop
  | mk (ρ'' : List (Str × Value)) (cs : List (List UInt8 × Tok)) (hcs : cs.map (·.1) = (row.take k).map enc1) (Sj : St gj C2 ρ'' [(it2, .pr (liP a k)), (acc2, .list (cs.map fun p => .bytes p.1.toArray p.2))] h) : TpB gj C2 it2 acc2 a row k h
inductive TpC (gk : Heap) (C3 it3 acc3 : Addr) (rows : List (List Letter)) (cut lost i : Nat) (h : Heap) : Prop
  | mk (ρ' : List (Str × Value)) (cs : List Value) (hcl : cs.length = i) (hC : ∀ s, s < i → ∃ t, cs[s]? = some (.bytes (shornOf rows cut lost s).toArray t)) (Sk : St gk C3 ρ' [(it3, .pr (riP 0 6 i)), (acc3, .list cs)] h) : TpC gk C3 it3 acc3 rows cut lost i h
set_option maxRecDepth 100000 in
set_option maxHeartbeats 4000000 in
theorem whole : Challenge.rw_op0027_01.Holds := hd (by
  w_strict k_go0
  rename News _ _ _ _ => N'
  rename Fr _ _ _ _ => F'
  rename Top _ _ _ _ _ _ => T'
  rename Frag.In _ _ => X'
  rename IntsAre _ _ => hI
  rename_i l1 l2 l3 x0 k0 hc1 hbig
  have G : Gd _ _ := ⟨X', ⟨_, _, _, _, _, T'⟩, hc1, codeHd⟩
  have S := St.top F' N' l1 l2 l3 (by with_unfolding_all rfl) (by with_unfolding_all rfl) (by with_unfolding_all rfl) hbig (by with_unfolding_all rfl)
  clear x0 l1 l2 l3 F' N' X' T'
  refine start_law fun A r hA => ?_
  rename List Value => vs
  rename List Int => ns
  have hvl := hI.length
  have hn63 : ns.length ≤ 63 := by omega
  dsimp only at hA ⊢
  with_reducible refine xs_assign (by with_unfolding_all rfl) ?_
  with_reducible refine wpAny_Call_NameR ?_
  with_reducible refine e_built (by assumption) (by assumption) (by k_is) (by wtm_at "boot") (by decide) (by with_unfolding_all rfl) (by with_unfolding_all rfl) (by with_unfolding_all rfl) (by with_unfolding_all rfl) (by decide) ?_
  with_reducible refine callWith_builtin1 ?_ (by with_unfolding_all rfl) (by with_unfolding_all rfl)
  with_reducible refine spliced_more ?_ (by with_unfolding_all rfl)
  with_reducible refine Subscript_ ?_
  with_reducible refine e_local (by assumption) (by with_unfolding_all rfl) (by with_unfolding_all rfl) (by with_unfolding_all rfl) (by with_unfolding_all rfl) (by decide) ?_
  with_reducible refine e_slice ?_
  with_reducible refine ep_none ?_
  with_reducible refine ep_some ?_
  with_reducible refine z_int ?_
  ((rename St _ _ _ _ _ => S0); (with_reducible refine s_newSlice S0 ?_); (intro _ _ _; clear S0))
  rename St _ _ _ _ _ => S
  refine z_lsliceI (vs := vs) S (by wtm_at "at") (isList_keeps lifted S.keep) .none (.int _ _) (by omega) (by wtm_at "rf") (by intro r; wtm_at "rf") fun sc h₂ _ _ S => ?_
  rw [show cutL vs none (some 3) = vs.take 3 from cutL_to vs 3] at S
  have hI3 := hI.take 3
  have hl3 : (ns.take 3).length ≤ 3 := by rw [List.length_take]; omega
  have hvl3 := hI3.length
  with_reducible refine spliced_none ?_
  refine s_sum r.hh S (by wtm_at "at") hI3 fun h₃ tk₃ t₃ S => ?_
  generalize (ns.take 3).sum = total
  ((rename St _ _ _ _ _ => S0); (with_reducible refine s_store S0 (by with_unfolding_all rfl) (by with_unfolding_all rfl) (by with_unfolding_all rfl) ?_); (intro _ _; clear S0))
  with_reducible refine xs_assign (by with_unfolding_all rfl) ?_
  with_reducible refine wpAny_Call_NameR ?_
  with_reducible refine e_glob (by assumption) (by assumption) (by k_is) (by with_unfolding_all rfl) (by with_unfolding_all rfl) (by with_unfolding_all rfl) (by decide) ?_
  with_reducible refine c_def (by assumption) (by k_is) (by with_unfolding_all rfl) (by with_unfolding_all rfl) ?_
  with_reducible refine spliced_more ?_ (by with_unfolding_all rfl)
  with_reducible refine wpAny_BinOp ?_
  with_reducible refine Subscript_ ?_
  with_reducible refine e_local (by assumption) (by with_unfolding_all rfl) (by with_unfolding_all rfl) (by with_unfolding_all rfl) (by with_unfolding_all rfl) (by decide) ?_
  with_reducible refine e_slice ?_
  with_reducible refine ep_none ?_
  with_reducible refine ep_some ?_
  with_reducible refine z_int ?_
  ((rename St _ _ _ _ _ => S0); (with_reducible refine s_newSlice S0 ?_); (intro _ _ _; clear S0))
  rename St _ _ _ _ _ => S
  refine z_lsliceI (vs := vs) S (by wtm_at "at") (isList_keeps lifted S.keep) .none (.int _ _) (by omega) (by wtm_at "rf") (by intro r; wtm_at "rf") fun sc2 h₄ _ _ S => ?_
  rw [show cutL vs none (some 3) = vs.take 3 from cutL_to vs 3] at S
  generalize vs.take 3 = vs3 at *
  generalize ns.take 3 = ns3 at *
  with_reducible refine e_list ?_
  with_reducible refine spliced_more ?_ (by with_unfolding_all rfl)
  with_reducible refine z_int ?_
  with_reducible refine spliced_more ?_ (by with_unfolding_all rfl)
  with_reducible refine z_int ?_
  with_reducible refine spliced_more ?_ (by with_unfolding_all rfl)
  with_reducible refine z_int ?_
  with_reducible refine spliced_more ?_ (by with_unfolding_all rfl)
  with_reducible refine z_int ?_
  with_reducible refine spliced_more ?_ (by with_unfolding_all rfl)
  with_reducible refine z_int ?_
  with_reducible refine spliced_more ?_ (by with_unfolding_all rfl)
  with_reducible refine z_int ?_
  with_reducible refine spliced_more ?_ (by with_unfolding_all rfl)
  with_reducible refine z_int ?_
  with_reducible refine spliced_more ?_ (by with_unfolding_all rfl)
  with_reducible refine z_int ?_
  with_reducible refine spliced_more ?_ (by with_unfolding_all rfl)
  with_reducible refine z_int ?_
  with_reducible refine spliced_none ?_
  ((rename St _ _ _ _ _ => S0); (with_reducible refine s_newList S0 (by wtm_at "small") ?_); (intro _ _ _ _ _; clear S0))
  rename St _ _ _ _ _ => S
  refine s_addL S (by wtm_at "at") (by wtm_at "at") (by simp [sizeLine]; omega) fun nl h₅ _ _ S => ?_
  with_reducible refine spliced_none ?_
  with_reducible refine c_in (by assumption) (by assumption) ?_
  refine rows_c (r.less (by omega)) G S.keep (S.at (by wtm_at "mem")) (hI3.append (ints9 ..)) (by simp; omega) (by simp) (fun s hs => let ⟨x, hx, e⟩ := lits6 s hs; ⟨x, List.mem_append_right _ hx, e⟩) fun h₆ tk₆ gf rows ra kp kf ok hR => ?_
  have S := S.sub (Δ' := [(_ + 1 + 1 + 1, .cell none), (_ + 1 + 1, .cell none), (_ + 1, .cell none), (102, .obj (tabObj #[])), (116, .obj (tabObj #[]))]) (by wtm_at "sub")
  obtain ⟨g1, S, kg1, hR1⟩ := S.joinG kp kf
  have hRa := hR.mono hR1
  ((rename St _ _ _ _ _ => S0); (with_reducible refine s_store S0 (by with_unfolding_all rfl) (by with_unfolding_all rfl) (by with_unfolding_all rfl) ?_); (intro _ _; clear S0))
  with_reducible refine xs_assign (by with_unfolding_all rfl) ?_
  rename St _ _ _ _ _ => S
  obtain ⟨as, hra, hasl, has⟩ := id hRa
  have G1 := G.keeps kg1
  have h6 := ok.six
  have hra1 := hra.1
  refine e_comp (by intro x; rfl) (by wtm_at "rf") (by wtm_at "rf") (by decide) ?_
  with_reducible refine e_local (by assumption) (by with_unfolding_all rfl) (by with_unfolding_all rfl) (by with_unfolding_all rfl) (by with_unfolding_all rfl) (by decide) ?_
  refine it_list S (by wtm_at "at") fun it h₇ _ _ S => ?_
  refine comp_at (M := [(it, .pr (liP ra 0))]) S G1 (by decide) rfl fun gi C acc h₈ tk₈ Gi hs hsi hacc Si => ?_
  have hgi : ∀ a c, At g1 a c → At gi a c := fun a c x => S.ing hs x
  have hragi := hgi _ _ hra1
  refine comp_loop (by intro v; rfl) (fun Q' E' q => sf_list (C := C) Si (by wtm_at "mem") q) 6
    (I := TpA gi C it acc ra rows) ⟨[], [], rfl, fun s row hs => absurd hs (by omega), Si⟩ ?_ ?_
  · rintro i h₉ tk₉ hi ⟨ρ', bs, hbl, hB, Si⟩
    obtain ⟨row, hrow⟩ : ∃ row, rows[i]? = some row := ⟨_, List.getElem?_eq_getElem (by omega)⟩
    obtain ⟨a, ea, ls, hla, hL⟩ := has i row hrow
    have hla2 : At gi a (.list (ls.map .ref)) := hgi _ _ hla.1
    have hls : ls.length ≤ 12 := by rw [hL.1]; exact (ok.row hrow).1
    refine nx_list Si (by wtm_at "at") (v := .ref a) (by rw [List.getElem?_map, ea]; rfl) fun h₁₀ Si => ⟨_, rfl, as_name ?_⟩
    ((rename St _ _ _ _ _ => S0); (with_reducible refine s_store S0 (by with_unfolding_all rfl) (by with_unfolding_all rfl) (by with_unfolding_all rfl) ?_); (intro _ _; clear S0))
    refine m_call1 FB.plainAttrs_bytes slot_bytes_join type_bytes_join (by wtm_at "rf") (by wtm_at "rf") (by wtm_at "rf") (by wtm_at "rf") (by wtm_at "rf") ?_
    with_reducible refine z_bytes ?_
    refine m_bytes ?_
    with_reducible refine spliced_more ?_ (by with_unfolding_all rfl)
    refine e_comp (by intro x; rfl) (by wtm_at "rf") (by wtm_at "rf") (by decide) ?_
    with_reducible refine e_local (by assumption) (by with_unfolding_all rfl) (by with_unfolding_all rfl) (by with_unfolding_all rfl) (by with_unfolding_all rfl) (by decide) ?_
    rename St gi C _ _ _ => Si
    refine it_list Si (by wtm_at "at") fun it2 h₁₂ _ _ Si => ?_
    refine comp_at (M := [(it2, .pr (liP a 0))]) Si Gi (by decide) rfl fun gj C2 acc2 h₁₃ tk₁₃ Gj hs2 hsi2 hacc2 Sj => ?_
    have hgj : ∀ a c, At gi a c → At gj a c := fun a c x => Si.ing hs2 x
    have hla3 := hgj _ _ hla2
    refine comp_loop (by intro v; rfl) (fun Q' E' q => sf_list (C := C2) Sj (by wtm_at "mem") q) row.length
      (I := TpB gj C2 it2 acc2 a row) ⟨[], [], rfl, Sj⟩ ?_ ?_
    · rintro k h₁₄ tk₁₄ hk ⟨ρ'', cs, hcs, Sj⟩
      obtain ⟨x, hx⟩ : ∃ x, row[k]? = some x := ⟨_, List.getElem?_eq_getElem hk⟩
      obtain ⟨al, t1, t2, eal, hal⟩ := hL.2 k x hx
      have hal2 : At gj al (.list [.int x.1 t1, .bytes x.2.toArray t2]) := hgj _ _ (hgi _ _ hal.1)
      obtain ⟨hx1, hx2⟩ := ok.small _ (List.mem_of_getElem? hrow) x (List.mem_of_getElem? hx)
      have hcl : cs.length = k := by
        have := congrArg List.length hcs
        rw [List.length_map, List.length_map, List.length_take] at this
        omega
      have hrl := (ok.row hrow).1
      refine nx_list Sj (by wtm_at "at") (v := .ref al) (by rw [List.getElem?_map, eal]; rfl) fun h₁₅ Sj => ⟨_, rfl, as_name ?_⟩
      ((rename St _ _ _ _ _ => S0); (with_reducible refine s_store S0 (by with_unfolding_all rfl) (by with_unfolding_all rfl) (by with_unfolding_all rfl) ?_); (intro _ _; clear S0))
      with_reducible refine wpAny_BinOp ?_
      with_reducible refine wpAny_Call_NameR ?_
      with_reducible refine e_built (by assumption) (by assumption) (by k_is) (by wtm_at "boot") (by decide) (by with_unfolding_all rfl) (by with_unfolding_all rfl) (by with_unfolding_all rfl) (by with_unfolding_all rfl) (by decide) ?_
      with_reducible refine callWith_type1 ?_ (by with_unfolding_all rfl) (by with_unfolding_all rfl)
      with_reducible refine spliced_more ?_ (by with_unfolding_all rfl)
      with_reducible refine e_list ?_
      with_reducible refine spliced_more ?_ (by with_unfolding_all rfl)
      with_reducible refine Subscript_ ?_
      with_reducible refine e_local (by assumption) (by with_unfolding_all rfl) (by with_unfolding_all rfl) (by with_unfolding_all rfl) (by with_unfolding_all rfl) (by decide) ?_
      with_reducible refine z_int ?_
      refine e_item (by wtm_at "at") (by omega) (by omega) (v := .int x.1 t1) (by rfl) (by wtm_at "rf") ?_
      with_reducible refine spliced_more ?_ (by with_unfolding_all rfl)
      with_reducible refine wpAny_Call_NameR ?_
      with_reducible refine e_built (by assumption) (by assumption) (by k_is) (by wtm_at "boot") (by decide) (by with_unfolding_all rfl) (by with_unfolding_all rfl) (by with_unfolding_all rfl) (by with_unfolding_all rfl) (by decide) ?_
      with_reducible refine callWith_builtin1 ?_ (by with_unfolding_all rfl) (by with_unfolding_all rfl)
      with_reducible refine spliced_more ?_ (by with_unfolding_all rfl)
      with_reducible refine Subscript_ ?_
      with_reducible refine e_local (by assumption) (by with_unfolding_all rfl) (by with_unfolding_all rfl) (by with_unfolding_all rfl) (by with_unfolding_all rfl) (by decide) ?_
      with_reducible refine z_int ?_
      refine e_item (by wtm_at "at") (by omega) (by omega) (v := .bytes x.2.toArray t2) (by rfl) (by wtm_at "rf") ?_
      with_reducible refine spliced_none ?_
      with_reducible refine z_blen (by first | omega | (simp; done) | (simp; omega)) ?_
      with_reducible refine spliced_none ?_
      ((rename St _ _ _ _ _ => S0); (with_reducible refine s_newList S0 (by wtm_at "small") ?_); (intro _ _ _ _ _; clear S0))
      with_reducible refine spliced_none ?_
      rename St gj C2 _ _ _ => Sj
      rw [List.size_toArray] at Sj
      refine s_bytes (ns := [(x.1 : Int), (x.2.length : Int)]) r.hh Sj (by wtm_at "at") (.cons _ _ (.cons _ _ .nil)) ?_ (by simp [sizeLine]) fun h₁₆ t3 tk₁₆ Sj => ?_
      · intro n hn
        simp only [List.mem_cons, List.not_mem_nil, or_false] at hn
        rcases hn with rfl | rfl <;> omega
      with_reducible refine Subscript_ ?_
      with_reducible refine e_local (by assumption) (by with_unfolding_all rfl) (by with_unfolding_all rfl) (by with_unfolding_all rfl) (by with_unfolding_all rfl) (by decide) ?_
      with_reducible refine z_int ?_
      refine e_item (by wtm_at "at") (by omega) (by omega) (v := .bytes x.2.toArray t2) (by rfl) (by wtm_at "rf") ?_
      skip
      refine z_badd (by rw [byteArr_size, List.size_toArray]; simp; omega) fun t4 k4 => ?_
      rw [byteArr2]
      ((rename St _ _ _ _ _ => S0); (with_reducible refine s_append S0 (by wtm_at "mem") (by wtm_at "up") (by wtm_at "small") ?_); (intro _ _; clear S0))
      rename St gj C2 _ _ _ => Sj
      have Sj := Sj.sub (Δ' := [(it2, .pr (liP a (k + 1))), (acc2, .list ((cs ++ [(enc1 x, t4)]).map fun p => .bytes p.1.toArray p.2))]) (by rw [List.map_append]; wtm_at "sub")
      refine ⟨_, _, rfl, _, cs ++ [(enc1 x, t4)], ?_, Sj⟩
      rw [List.map_append, hcs, List.take_add_one, hx]
      simp
    · rintro h₁₄ tk₁₄ ⟨ρ'', cs, hcs, Sj⟩
      refine nx_list_end r.hh Sj (by wtm_at "at") (by rw [List.length_map, hL.1]; omega) fun h₁₅ Sj => ⟨rfl, rfl, h₁₅, _, _, _, rfl, Sj, fun h₁₆ Si => ?_⟩
      rw [List.take_length] at hcs
      have hec : (cs.map (·.1)).flatten = enc row := by rw [hcs]; rfl
      have hel := enc_len row fun x hx => (ok.small _ (List.mem_of_getElem? hrow) x hx).2
      have hrl := (ok.row hrow).1
      with_reducible refine spliced_none ?_
      refine z_bjoin (Si.at (by wtm_at "mem")) (by rw [hec]; omega) fun t' k' => ?_
      rw [hec]
      have Si := Si.sub (Δ' := [(it, .pr (liP ra (i + 1))), (acc, .list bs)]) (by wtm_at "sub")
      ((rename St _ _ _ _ _ => S0); (with_reducible refine s_append S0 (by wtm_at "mem") (by wtm_at "up") (by wtm_at "small") ?_); (intro _ _; clear S0))
      rename St gi C _ _ _ => Si
      refine ⟨_, _, rfl, _, bs ++ [.bytes (enc row).toArray t'], by simp [hbl], fun s row' hs e => ?_, Si⟩
      by_cases c : s < i
      · obtain ⟨t, e1⟩ := hB s row' c e
        exact ⟨t, by rw [List.getElem?_append_left (by omega)]; exact e1⟩
      · have hs' : s = i := by omega
        rw [hs', hrow] at e
        cases e
        exact ⟨t', by rw [hs', List.getElem?_append_right (by omega), hbl, Nat.sub_self]; rfl⟩
  · rintro h₉ tk₉ ⟨ρ', bs, hbl, hB, Si⟩
    refine nx_list_end r.hh Si (by wtm_at "at") (by rw [List.length_map]; omega) fun h₁₀ Si => ⟨rfl, rfl, h₁₀, _, _, _, rfl, Si, fun h₁₁ S => ?_⟩
    have S := S.sub (Δ' := [(acc, .list bs), (_ + 1 + 1 + 1, .cell none), (_ + 1 + 1, .cell none), (_ + 1, .cell none), (102, .obj (tabObj #[])), (116, .obj (tabObj #[]))]) (by wtm_at "sub")
    ((rename St _ _ _ _ _ => S0); (with_reducible refine s_storeC S0 (by with_unfolding_all rfl) (by wtm_at "mem") (by wtm_at "up") (by with_unfolding_all rfl) (by with_unfolding_all rfl) ?_); (intro _ _; clear S0))
    with_reducible refine xs_assign_tup (by with_unfolding_all rfl) (by with_unfolding_all rfl) ?_
    with_reducible refine e_tuple ?_
    with_reducible refine spliced_more ?_ (by with_unfolding_all rfl)
    with_reducible refine wpAny_BinOp ?_
    with_reducible refine wpAny_BinOp ?_
    with_reducible refine e_local (by assumption) (by with_unfolding_all rfl) (by with_unfolding_all rfl) (by with_unfolding_all rfl) (by with_unfolding_all rfl) (by decide) ?_
    with_reducible refine z_int ?_
    with_reducible refine z_add ?_
    with_reducible refine z_int ?_
    with_reducible refine z_fmod (by omega) ?_
    with_reducible refine spliced_more ?_ (by with_unfolding_all rfl)
    with_reducible refine wpAny_BinOp ?_
    with_reducible refine z_int ?_
    with_reducible refine wpAny_BinOp ?_
    with_reducible refine wpAny_BinOp ?_
    with_reducible refine e_local (by assumption) (by with_unfolding_all rfl) (by with_unfolding_all rfl) (by with_unfolding_all rfl) (by with_unfolding_all rfl) (by decide) ?_
    with_reducible refine z_int ?_
    with_reducible refine z_fdiv (by omega) (by omega) ?_
    with_reducible refine z_int ?_
    with_reducible refine z_fmod (by omega) ?_
    with_reducible refine z_add ?_
    with_reducible refine spliced_none ?_
    ((rename St _ _ _ _ _ => S0); (with_reducible refine s_newTuple S0 (by wtm_at "small") ?_); (intro _ _ _ _ _; clear S0))
    ((rename St _ _ _ _ _ => S0); (first | with_reducible refine as_tup (Rm.hh (by assumption)) S0 (by wtm_at "at") (by with_unfolding_all rfl) (by with_unfolding_all rfl) ?_ | with_reducible refine as_list (Rm.hh (by assumption)) S0 (by wtm_at "at") (by with_unfolding_all rfl) (by with_unfolding_all rfl) ?_); (intro _ _; clear S0))
    with_reducible refine ao_cons (by with_unfolding_all rfl) ?_
    with_reducible refine as_name ?_
    ((rename St _ _ _ _ _ => S0); (with_reducible refine s_storeC S0 (by with_unfolding_all rfl) (by wtm_at "mem") (by wtm_at "up") (by with_unfolding_all rfl) (by with_unfolding_all rfl) ?_); (intro _ _; clear S0))
    with_reducible refine ao_cons (by with_unfolding_all rfl) ?_
    with_reducible refine as_name ?_
    ((rename St _ _ _ _ _ => S0); (with_reducible refine s_storeC S0 (by with_unfolding_all rfl) (by wtm_at "mem") (by wtm_at "up") (by with_unfolding_all rfl) (by with_unfolding_all rfl) ?_); (intro _ _; clear S0))
    with_reducible refine ao_nil ?_
    rename St _ _ _ _ _ => S
    obtain ⟨cut, hcut⟩ : ∃ n : Nat, (total + 1) % 6 = n := ⟨((total + 1) % 6).toNat, by omega⟩
    obtain ⟨lost, hlost⟩ : ∃ n : Nat, 1 + total / 6 % 2 = n := ⟨(1 + total / 6 % 2).toNat, by omega⟩
    have hc6 : cut < 6 := by omega
    have hlo : lost = 1 ∨ lost = 2 := by omega
    rw [hcut, hlost] at S
    replace G1 := G1.keeps (Sub.refl _)
    refine xs_assignC (by wtm_at "rf") (by intro x; rfl) (by wtm_at "rf") (by wtm_at "rf") (by decide) ?_
    with_reducible refine wpAny_Call_NameR ?_
    with_reducible refine e_built (by assumption) (by assumption) (by k_is) (by wtm_at "boot") (by decide) (by with_unfolding_all rfl) (by with_unfolding_all rfl) (by with_unfolding_all rfl) (by with_unfolding_all rfl) (by decide) ?_
    with_reducible refine callWith_type1 ?_ (by with_unfolding_all rfl) (by with_unfolding_all rfl)
    with_reducible refine spliced_more ?_ (by with_unfolding_all rfl)
    with_reducible refine z_int ?_
    with_reducible refine spliced_none ?_
    refine s_range (n := 6) S fun rg h₁₇ S => ?_
    refine it_range S (by wtm_at "at") (by omega) fun it3 h₁₈ _ _ S => ?_
    refine comp_atS (M := [(it3, .pr (riP 0 6 0))]) S G1 (by decide) rfl (by wtm_at "rf") rfl rfl fun gk C3 acc3 h₁₉ tk₁₉ Gk hs3 hsi3 hacc3 Sk => ?_
    have c1 : At gk (_ + 1) (.cell (some (.ref acc))) := S.inn hs3 (by wtm_at "mem")
    have c2 : At gk (_ + 1 + 1) (.cell (some (.int cut _))) := S.inn hs3 (by wtm_at "mem")
    have c3 : At gk (_ + 1 + 1 + 1) (.cell (some (.int lost _))) := S.inn hs3 (by wtm_at "mem")
    have hbsk : At gk acc (.list bs) := S.inn hs3 (by wtm_at "mem")
    have henc : ∀ s row, rows[s]? = some row → (enc row).length ≤ 84 ∧ 2 ≤ (enc row).length := fun s row e => by
      have h1 := enc_len row fun x hx => (ok.small _ (List.mem_of_getElem? e) x hx).2
      have h2 := ok.row e
      refine ⟨by omega, ?_⟩
      cases row with
      | nil => exact (h2.2 rfl).elim
      | cons x r => simp [enc, enc1]
    refine comp_loop (by intro v; rfl) (fun Q' E' q => sf_range Sk (by wtm_at "mem") q) 6
      (I := TpC gk C3 it3 acc3 rows cut lost) ⟨[], [], rfl, fun s hs => absurd hs (by omega), Sk⟩ ?_ ?_
    · rintro i h₂₀ tk₂₀ hi ⟨ρ', cs, hcl, hC, Sk⟩
      obtain ⟨row, hrow⟩ : ∃ row, rows[i]? = some row := ⟨_, List.getElem?_eq_getElem (by omega)⟩
      obtain ⟨t5, hb5⟩ := hB i row hi hrow
      have hro : rowOf rows i = row := getD_of hrow
      obtain ⟨he1, he2⟩ := henc i row hrow
      refine nx_range Sk hi fun h₂₁ Sk => ⟨_, rfl, as_name ?_⟩
      rw [Int.zero_add]
      ((rename St _ _ _ _ _ => S0); (with_reducible refine s_store S0 (by with_unfolding_all rfl) (by with_unfolding_all rfl) (by with_unfolding_all rfl) ?_); (intro _ _; clear S0))
      with_reducible refine wpAny_IfExp ?_
      with_reducible refine wpAny_isTrue_Compare1 ?_ (by with_unfolding_all rfl)
      with_reducible refine e_local (by assumption) (by with_unfolding_all rfl) (by with_unfolding_all rfl) (by with_unfolding_all rfl) (by with_unfolding_all rfl) (by decide) ?_
      with_reducible refine e_cell (by with_unfolding_all rfl) (by wtm_at "at") (by with_unfolding_all rfl) (by with_unfolding_all rfl) (by decide) ?_
      with_reducible refine z_eqi ?_
      with_reducible refine wpAny_truthy_bool ?_
      refine i_dec (fun hic => ?_) fun hic => ?_
      · have hic' : i = cut := by omega
        with_reducible refine Subscript_ ?_
        with_reducible refine Subscript_ ?_
        with_reducible refine e_cell (by with_unfolding_all rfl) (by wtm_at "at") (by with_unfolding_all rfl) (by with_unfolding_all rfl) (by decide) ?_
        with_reducible refine e_local (by assumption) (by with_unfolding_all rfl) (by with_unfolding_all rfl) (by with_unfolding_all rfl) (by with_unfolding_all rfl) (by decide) ?_
        refine e_item (by wtm_at "at") (by omega) (by omega) (v := .bytes (enc row).toArray t5) (by rw [Int.toNat_natCast]; exact hb5) (by wtm_at "rf") ?_
        with_reducible refine e_slice ?_
        with_reducible refine ep_none ?_
        with_reducible refine ep_some ?_
        with_reducible refine wpAny_BinOp ?_
        with_reducible refine wpAny_Call_NameR ?_
        with_reducible refine e_built (by assumption) (by assumption) (by k_is) (by wtm_at "boot") (by decide) (by with_unfolding_all rfl) (by with_unfolding_all rfl) (by with_unfolding_all rfl) (by with_unfolding_all rfl) (by decide) ?_
        with_reducible refine callWith_builtin1 ?_ (by with_unfolding_all rfl) (by with_unfolding_all rfl)
        with_reducible refine spliced_more ?_ (by with_unfolding_all rfl)
        with_reducible refine Subscript_ ?_
        with_reducible refine e_cell (by with_unfolding_all rfl) (by wtm_at "at") (by with_unfolding_all rfl) (by with_unfolding_all rfl) (by decide) ?_
        with_reducible refine e_local (by assumption) (by with_unfolding_all rfl) (by with_unfolding_all rfl) (by with_unfolding_all rfl) (by with_unfolding_all rfl) (by decide) ?_
        refine e_item (by wtm_at "at") (by omega) (by omega) (v := .bytes (enc row).toArray t5) (by rw [Int.toNat_natCast]; exact hb5) (by wtm_at "rf") ?_
        with_reducible refine spliced_none ?_
        with_reducible refine z_blen (by first | omega | (simp; done) | (simp; omega)) ?_
        with_reducible refine e_cell (by with_unfolding_all rfl) (by wtm_at "at") (by with_unfolding_all rfl) (by with_unfolding_all rfl) (by decide) ?_
        with_reducible refine z_sub ?_
        ((rename St _ _ _ _ _ => S0); (with_reducible refine s_newSlice S0 ?_); (intro _ _ _; clear S0))
        have ec : cutL (enc row) none (some (((enc row).toArray.size : Nat) - (lost : Nat) : Int)) = shornOf rows cut lost i := by
          unfold shornOf
          rw [if_pos hic', hro, List.size_toArray, show ((enc row).length : Int) - (lost : Nat) = (((enc row).length - lost : Nat) : Int) from by omega, cutL_to]
        refine z_bslice (by wtm_at "at") .none (.int _ _) (by omega) (by wtm_at "rf") (by intro r; wtm_at "rf") fun t6 k6 => ?_
        rw [ec]
        ((rename St _ _ _ _ _ => S0); (with_reducible refine s_append S0 (by wtm_at "mem") (by wtm_at "up") (by wtm_at "small") ?_); (intro _ _; clear S0))
        rename St gk C3 _ _ _ => Sk
        have Sk := Sk.sub (Δ' := [(it3, .pr (riP 0 6 (i + 1))), (acc3, .list (cs ++ [.bytes (shornOf rows cut lost i).toArray t6]))]) (by wtm_at "sub")
        refine ⟨_, _, rfl, _, cs ++ [.bytes (shornOf rows cut lost i).toArray t6], by simp [hcl], fun s hs => ?_, Sk⟩
        by_cases c : s < i
        · obtain ⟨t, e1⟩ := hC s c
          exact ⟨t, by rw [List.getElem?_append_left (by omega)]; exact e1⟩
        · have hs' : s = i := by omega
          exact ⟨t6, by rw [hs', List.getElem?_append_right (by omega), hcl, Nat.sub_self]; rfl⟩
      · with_reducible refine Subscript_ ?_
        with_reducible refine e_cell (by with_unfolding_all rfl) (by wtm_at "at") (by with_unfolding_all rfl) (by with_unfolding_all rfl) (by decide) ?_
        with_reducible refine e_local (by assumption) (by with_unfolding_all rfl) (by with_unfolding_all rfl) (by with_unfolding_all rfl) (by with_unfolding_all rfl) (by decide) ?_
        refine e_item (by wtm_at "at") (by omega) (by omega) (v := .bytes (enc row).toArray t5) (by rw [Int.toNat_natCast]; exact hb5) (by wtm_at "rf") ?_
        ((rename St _ _ _ _ _ => S0); (with_reducible refine s_append S0 (by wtm_at "mem") (by wtm_at "up") (by wtm_at "small") ?_); (intro _ _; clear S0))
        rename St gk C3 _ _ _ => Sk
        refine ⟨_, _, rfl, _, cs ++ [.bytes (enc row).toArray t5], by simp [hcl], fun s hs => ?_, Sk⟩
        by_cases c : s < i
        · obtain ⟨t, e1⟩ := hC s c
          exact ⟨t, by rw [List.getElem?_append_left (by omega)]; exact e1⟩
        · have hs' : s = i := by omega
          refine ⟨t5, by rw [hs', List.getElem?_append_right (by omega), hcl, Nat.sub_self]; unfold shornOf; rw [if_neg (by omega), hro]; rfl⟩
    · rintro h₂₀ tk₂₀ ⟨ρ', cs, hcl, hC, Sk⟩
      refine nx_range_end r.hh Sk (Nat.le_refl _) fun h₂₁ Sk => ⟨rfl, rfl, h₂₁, _, _, _, rfl, Sk, fun h₂₂ tk₂₂ S => ?_⟩
      replace G1 := G1.keeps (Sub.refl _)
      with_reducible refine xs_assign (by with_unfolding_all rfl) ?_
      with_reducible refine wpAny_Call_NameR ?_
      with_reducible refine e_glob (by assumption) (by assumption) (by k_is) (by with_unfolding_all rfl) (by with_unfolding_all rfl) (by with_unfolding_all rfl) (by decide) ?_
      with_reducible refine c_def (by assumption) (by k_is) (by with_unfolding_all rfl) (by with_unfolding_all rfl) ?_
      with_reducible refine spliced_more ?_ (by with_unfolding_all rfl)
      with_reducible refine wpAny_BinOp ?_
      with_reducible refine e_local (by assumption) (by with_unfolding_all rfl) (by with_unfolding_all rfl) (by with_unfolding_all rfl) (by with_unfolding_all rfl) (by decide) ?_
      with_reducible refine e_list ?_
      with_reducible refine spliced_more ?_ (by with_unfolding_all rfl)
      with_reducible refine wpAny_Call_NameR ?_
      with_reducible refine e_built (by assumption) (by assumption) (by k_is) (by wtm_at "boot") (by decide) (by with_unfolding_all rfl) (by with_unfolding_all rfl) (by with_unfolding_all rfl) (by with_unfolding_all rfl) (by decide) ?_
      with_reducible refine callWith_type1 ?_ (by with_unfolding_all rfl) (by with_unfolding_all rfl)
      with_reducible refine spliced_more ?_ (by with_unfolding_all rfl)
      with_reducible refine e_list ?_
      with_reducible refine spliced_more ?_ (by with_unfolding_all rfl)
      with_reducible refine z_int ?_
      with_reducible refine spliced_more ?_ (by with_unfolding_all rfl)
      with_reducible refine z_int ?_
      with_reducible refine spliced_more ?_ (by with_unfolding_all rfl)
      with_reducible refine z_int ?_
      with_reducible refine spliced_none ?_
      ((rename St _ _ _ _ _ => S0); (with_reducible refine s_newList S0 (by wtm_at "small") ?_); (intro _ _ _ _ _; clear S0))
      with_reducible refine spliced_none ?_
      rename St _ _ _ _ _ => S
      refine s_bytes (ns := [5, 2, 9]) r.hh S (by wtm_at "at") (.cons _ _ (.cons _ _ (.cons _ _ .nil))) (by decide) (by simp [sizeLine]) fun h₂₃ b1 tk₂₃ S => ?_
      with_reducible refine spliced_more ?_ (by with_unfolding_all rfl)
      with_reducible refine z_bytes ?_
      with_reducible refine spliced_more ?_ (by with_unfolding_all rfl)
      with_reducible refine wpAny_Call_NameR ?_
      with_reducible refine e_built (by assumption) (by assumption) (by k_is) (by wtm_at "boot") (by decide) (by with_unfolding_all rfl) (by with_unfolding_all rfl) (by with_unfolding_all rfl) (by with_unfolding_all rfl) (by decide) ?_
      with_reducible refine callWith_type1 ?_ (by with_unfolding_all rfl) (by with_unfolding_all rfl)
      with_reducible refine spliced_more ?_ (by with_unfolding_all rfl)
      with_reducible refine e_list ?_
      with_reducible refine spliced_more ?_ (by with_unfolding_all rfl)
      with_reducible refine z_int ?_
      with_reducible refine spliced_none ?_
      ((rename St _ _ _ _ _ => S0); (with_reducible refine s_newList S0 (by wtm_at "small") ?_); (intro _ _ _ _ _; clear S0))
      with_reducible refine spliced_none ?_
      rename St _ _ _ _ _ => S
      refine s_bytes (ns := [5]) r.hh S (by wtm_at "at") (.cons _ _ .nil) (by decide) (by simp [sizeLine]) fun h₂₄ b3 tk₂₄ S => ?_
      with_reducible refine spliced_none ?_
      ((rename St _ _ _ _ _ => S0); (with_reducible refine s_newList S0 (by wtm_at "small") ?_); (intro _ _ _ _ _; clear S0))
      rename St _ _ _ _ _ => S
      refine s_addL S (by wtm_at "at") (by wtm_at "at") (by simp [sizeLine]; omega) fun sl h₂₅ _ _ S => ?_
      with_reducible refine spliced_none ?_
      with_reducible refine c_in (by assumption) (by assumption) ?_
      have S := S.sub (Δ' := [(sl, _), (_ + 1 + 1 + 1, .cell (some (.int lost _))), (_ + 1 + 1, .cell (some (.int cut _))), (_ + 1, .cell (some (.ref acc))), (102, .obj (tabObj #[])), (116, .obj (tabObj #[]))]) (by wtm_at "sub")
      have S := St.front (Δ1 := [_, _, _, _]) (Δ2 := [_]) S
      simp only [List.cons_append, List.nil_append] at S
      obtain ⟨m, hn, hm⟩ := S.loc
      obtain ⟨g₀, k1, k2, hM, ndM, hmax, hΔ, back⟩ := S.callM hn hm
      obtain ⟨os, o, hos⟩ := ordW ok hc6
      refine merged_c (bss := bss9 rows cut lost) (rows := rows9 rows cut) (fins := fins9 rows cut lost) (os := os) (F := [(_, m)]) (r.less (by omega)) hA ⟨fun q => ScopeKind.noConfusion q, rfl, trivial⟩ (G1.keeps k1) k2 hM ndM hmax (hΔ _ (.head _))
        (by rw [List.length_append, hcl, bss9_len]; rfl) (bss9_vals hcl hC rfl rfl rfl) (by rw [bss9_len, rows9_len]) (by rw [rows9_len]; decide) (by rw [rows9_len]; decide) (dec9 ok hc6 hlo) (lo9 ok hc6) (ord9 o) (by omega) fun h₂₆ tk₂₆ gf2 rt hgr2 st hns kf2 hT => ?_
      rw [ev9 ok hc6 o] at hT
      obtain ⟨ps2, hps2⟩ := hgr2
      obtain ⟨g2, S, kg2, hW2⟩ := back h₂₆ gf2 (.obj (tabObj ps2)) st hns kf2 ⟨_, hps2, rfl⟩
      have hT1 := hT.mono hW2
      have G2 := G1.keeps kg2
      ((rename St _ _ _ _ _ => S0); (with_reducible refine s_store S0 (by with_unfolding_all rfl) (by with_unfolding_all rfl) (by with_unfolding_all rfl) ?_); (intro _ _; clear S0))
      with_reducible refine xs_return ?_
      refine e_and ?_
      with_reducible refine wpAny_Compare1 ?_ (by with_unfolding_all rfl)
      with_reducible refine e_local (by assumption) (by with_unfolding_all rfl) (by with_unfolding_all rfl) (by with_unfolding_all rfl) (by with_unfolding_all rfl) (by decide) ?_
      with_reducible refine wpAny_Call_NameR ?_
      with_reducible refine e_glob (by assumption) (by assumption) (by k_is) (by with_unfolding_all rfl) (by with_unfolding_all rfl) (by with_unfolding_all rfl) (by decide) ?_
      with_reducible refine c_def (by assumption) (by k_is) (by with_unfolding_all rfl) (by with_unfolding_all rfl) ?_
      with_reducible refine spliced_more ?_ (by with_unfolding_all rfl)
      with_reducible refine e_local (by assumption) (by with_unfolding_all rfl) (by with_unfolding_all rfl) (by with_unfolding_all rfl) (by with_unfolding_all rfl) (by decide) ?_
      with_reducible refine spliced_more ?_ (by with_unfolding_all rfl)
      with_reducible refine e_cell (by with_unfolding_all rfl) (by wtm_at "at") (by with_unfolding_all rfl) (by with_unfolding_all rfl) (by decide) ?_
      with_reducible refine spliced_more ?_ (by with_unfolding_all rfl)
      with_reducible refine e_cell (by with_unfolding_all rfl) (by wtm_at "at") (by with_unfolding_all rfl) (by with_unfolding_all rfl) (by decide) ?_
      with_reducible refine spliced_none ?_
      with_reducible refine c_in (by assumption) (by assumption) ?_
      rename St _ _ _ _ _ => S
      refine due_c (r.less (by omega)) G2 S.keep (hRa.mono fun a c x => S.old (x.1.keeps fun o e => kg2 _ o e)) ok hc6 hlo o fun h₂₇ tk₂₇ gf3 rd kp3 kf3 hT2 => ?_
      obtain ⟨g3, S, kg3, hW3⟩ := S.joinG kp3 kf3
      have G3 := G2.keeps kg3
      refine z_tell (hT1.mono fun a c x => S.old (x.1.keeps fun o e => kg3 _ o e)) (hT2.mono fun a c x => S.old (hW3 _ _ x).1) (by have := r.hu; omega) ?_
      with_reducible refine wpAny_truthy_bool ?_
      with_reducible refine i_tt ?_
      refine e_and1 ?_
      with_reducible refine wpAny_Call_NameR ?_
      with_reducible refine e_glob (by assumption) (by assumption) (by k_is) (by with_unfolding_all rfl) (by with_unfolding_all rfl) (by with_unfolding_all rfl) (by decide) ?_
      with_reducible refine c_def0 (Gd.inn (by assumption) (by assumption)) (by k_is) ?_
      have S := S.sub (Δ' := [(102, .obj (tabObj ps2)), (116, .obj (tabObj #[]))]) (by wtm_at "sub")
      have S := St.front (Δ1 := [_]) (Δ2 := []) S
      simp only [List.cons_append, List.nil_append] at S
      obtain ⟨m3, hn3, hm3⟩ := S.loc
      obtain ⟨g₄, k3, k4, hM3, ndM3, hmax3, hΔ3, back3⟩ := S.callM hn3 hm3
      refine empty_c (F := [(_, m3)]) (r.less (by omega)) hA ⟨fun q => ScopeKind.noConfusion q, rfl, trivial⟩ (G3.keeps k3) k4 hM3 ndM3 fun h₂₈ tk₂₈ hgr4 st3 hns3 => ?_
      have hgr3 : GrownAt 102 h₂₈ := by
        obtain ⟨o1, ho1, e1⟩ := hΔ3 _ (.head _)
        exact ⟨_, (st3 _ _ ho1).trans (congrArg some e1)⟩
      have hkeep := fun b o e => st3 b o (k3 b o (kg3 b o (kg2 b o (kg1 b o e))))
      skip
      refine ⟨⟨.inl ⟨.bool true, .bool true, [], rfl, ?_, .bool true, ?_, ?_⟩, hkeep, rfl, ?_⟩, hgr3, hgr4, trivial⟩
      · intro cls
        first | rfl | exact rfl | (with_unfolding_all rfl)
      · first | rfl | (with_unfolding_all rfl) | (simp [OpenLaw.row]; done)
      · exact fun _ => ⟨List.nodup_nil, fun a ha => (nomatch ha)⟩
      · assumption)
end
end Mine
theorem PySem.Challenge.cw_op0027_01_holds : PySem.Challenge.rw_op0027_01.Holds := by
  exact Mine.whole
