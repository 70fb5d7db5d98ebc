import PyProof.Rows.All
import Wide.All
import OpenK.AllK
import Wide.FinOn
import PySem.Challenge.RW_op0068_02
set_option Elab.async false
set_option compiler.extract_closed false
set_option linter.unusedVariables false
set_option maxRecDepth 20000
namespace Mine
open PySem PySem.W PyProof.Rows
noncomputable abbrev D := PyData
noncomputable abbrev Hp := Addr → Option (List D)
noncomputable def Hp.set (σ : Hp) (a : Addr) (ds : List D) : Hp := fun b => if b = a then some ds else σ b
noncomputable def Hp.drop (σ : Hp) (a : Addr) : Hp := fun b => if b = a then none else σ b
theorem Hp.set_same (σ : Hp) (a : Addr) (ds : List D) : σ.set a ds a = some ds := if_pos rfl
theorem Hp.set_ne (σ : Hp) {a b : Addr} (ds : List D) (h : b ≠ a) : σ.set a ds b = σ b := if_neg h
theorem Hp.set_set (σ : Hp) (a : Addr) (x y : List D) : (σ.set a x).set a y = σ.set a y := by
  funext b; unfold Hp.set; split <;> rfl
theorem Hp.drop_same (σ : Hp) (a : Addr) : σ.drop a a = none := if_pos rfl
theorem Hp.drop_ne (σ : Hp) {a b : Addr} (h : b ≠ a) : σ.drop a b = σ b := if_neg h
theorem Hp.drop_set (σ : Hp) (a : Addr) (x : List D) (h : σ a = none) : (σ.set a x).drop a = σ := by
  funext b
  by_cases e : b = a
  · rw [e, h]; exact Hp.drop_same _ _
  · rw [Hp.drop_ne _ e, Hp.set_ne _ _ e]
mutual
/-- the value v holds the datum, by value: no list within it is a writable one -/
noncomputable def RD (h : Heap) (σ : Hp) : D → Value → Prop
  | .none, v => v = .none
  | .bool b, v => v = .bool b
  | .int i, v => ∃ t, v = .int i t
  | .str x, v => ∃ t, v = .str x t
  | .list ds, v => ∃ a vs n, v = .ref a ∧ h.get? a = some (seqObj "list" (List.toArray vs) n) ∧ σ a = none ∧ RDs h σ ds vs
  | .tuple ds, v => ∃ a vs n, v = .ref a ∧ h.get? a = some (seqObj "tuple" (List.toArray vs) n) ∧ σ a = none ∧ RDs h σ ds vs
  | .dict _, _ => False
noncomputable def RDs (h : Heap) (σ : Hp) : List D → List Value → Prop
  | [], vs => vs = []
  | d :: ds, vs => ∃ v r, vs = v :: r ∧ RD h σ d v ∧ RDs h σ ds r
end
/-- values of a frame's names -/
inductive V where
  | d (p : D)
  | ref (a : Addr)
  | tup (l : List V)
  | lst (l : List V)
  | rng (a b : Int)
  | obj (v : Value)
mutual
noncomputable def VR (h : Heap) (σ : Hp) : V → Value → Prop
  | .d p, v => RD h σ p v
  | .ref a, v => v = .ref a
  | .tup l, v => ∃ a vs n, v = .ref a ∧ h.get? a = some (seqObj "tuple" (List.toArray vs) n) ∧ σ a = none ∧ VRs h σ l vs
  | .lst l, v => ∃ a vs n, v = .ref a ∧ h.get? a = some (seqObj "list" (List.toArray vs) n) ∧ σ a = none ∧ VRs h σ l vs
  | .rng x y, v => ∃ a t u w, v = .ref a ∧ IsRange h a x y 1 t u w ∧ σ a = none
  | .obj w, v => v = w
noncomputable def VRs (h : Heap) (σ : Hp) : List V → List Value → Prop
  | [], vs => vs = []
  | a :: as, vs => ∃ v r, vs = v :: r ∧ VR h σ a v ∧ VRs h σ as r
end
/-- a list, a tuple, a range -/
noncomputable def Imm (o : Obj) : Prop := (∃ vs n, o.data = .seq vs n) ∨ ∃ vs, o.data = .fields vs ∧ o.cls = .type "range"
/-- an exception of ours, or an entry of its trace -/
noncomputable def Xish (o : Obj) : Prop := (∃ vs, o.data = .fields vs) ∧ (o.cls = .type "IndexError" ∨ o.cls = .type "traceback")
theorem Imm.notX {o : Obj} (h : Imm o) : ¬ Xish o := fun ⟨⟨vs, hd⟩, hc⟩ => by
  rcases h with ⟨ws, n, q⟩ | ⟨ws, _, q⟩
  · rw [hd] at q; cases q
  · rw [q] at hc
    rcases hc with e | e <;> exact absurd (Value.type.inj e) (by decide)
theorem notX_data {o : Obj} (h : ∀ vs, o.data ≠ .fields vs) : ¬ Xish o := fun ⟨⟨vs, hd⟩, _⟩ => h vs hd
theorem notX_cls {o : Obj} {c : String} (h : o.cls = .type c) (h1 : c ≠ "IndexError") (h2 : c ≠ "traceback") : ¬ Xish o := fun ⟨_, hc⟩ => by
  rw [h] at hc
  rcases hc with e | e
  · exact h1 (Value.type.inj e)
  · exact h2 (Value.type.inj e)
theorem imm_seq {c : String} {vs : Array Value} {n : Nat} : Imm (seqObj c vs n) := .inl ⟨vs, n, rfl⟩
/-- objects that hold a list's or a tuple's items, and ranges, stay -/
noncomputable def SeqKept (σ σ' : Hp) (h h' : Heap) : Prop :=
  ∀ b o, h.get? b = some o → Imm o → σ b = none → σ' b = none ∧ h'.get? b = some o
mutual
theorem RD.mono {h h' : Heap} {σ σ' : Hp} (k : SeqKept σ σ' h h') : ∀ {p : D} {v : Value}, RD h σ p v → RD h' σ' p v
  | .none, _, e => by simpa only [RD] using e
  | .bool _, _, e => by simpa only [RD] using e
  | .int _, _, e => by simpa only [RD] using e
  | .str _, _, e => by simpa only [RD] using e
  | .list ds, v, e => by
    simp only [RD] at e ⊢
    obtain ⟨a, vs, n, rfl, ho, hs, r⟩ := e
    obtain ⟨s', ho'⟩ := k a _ ho imm_seq hs
    exact ⟨a, vs, n, rfl, ho', s', RDs.mono k r⟩
  | .tuple ds, v, e => by
    simp only [RD] at e ⊢
    obtain ⟨a, vs, n, rfl, ho, hs, r⟩ := e
    obtain ⟨s', ho'⟩ := k a _ ho imm_seq hs
    exact ⟨a, vs, n, rfl, ho', s', RDs.mono k r⟩
  | .dict _, _, e => by simp only [RD] at e
theorem RDs.mono {h h' : Heap} {σ σ' : Hp} (k : SeqKept σ σ' h h') : ∀ {ps : List D} {vs : List Value}, RDs h σ ps vs → RDs h' σ' ps vs
  | [], _, e => by simpa only [RDs] using e
  | p :: ps, vs, e => by
    simp only [RDs] at e ⊢
    obtain ⟨v, r, rfl, e1, e2⟩ := e
    exact ⟨v, r, rfl, RD.mono k e1, RDs.mono k e2⟩
end
mutual
theorem VR.mono {h h' : Heap} {σ σ' : Hp} (k : SeqKept σ σ' h h') : ∀ {p : V} {v : Value}, VR h σ p v → VR h' σ' p v
  | .d p, _, e => by simp only [VR] at e ⊢; exact RD.mono k e
  | .ref a, _, e => by simpa only [VR] using e
  | .tup l, _, e => by
    simp only [VR] at e ⊢
    obtain ⟨a, vs, n, rfl, ho, hs, r⟩ := e
    obtain ⟨s', ho'⟩ := k a _ ho imm_seq hs
    exact ⟨a, vs, n, rfl, ho', s', VRs.mono k r⟩
  | .lst l, _, e => by
    simp only [VR] at e ⊢
    obtain ⟨a, vs, n, rfl, ho, hs, r⟩ := e
    obtain ⟨s', ho'⟩ := k a _ ho imm_seq hs
    exact ⟨a, vs, n, rfl, ho', s', VRs.mono k r⟩
  | .rng x y, _, e => by
    simp only [VR] at e ⊢
    obtain ⟨a, t, u, w, rfl, ho, hs⟩ := e
    obtain ⟨s', ho'⟩ := k a _ ho (.inr ⟨_, rfl, rfl⟩) hs
    exact ⟨a, t, u, w, rfl, ho', s'⟩
  | .obj w, _, e => by simpa only [VR] using e
theorem VRs.mono {h h' : Heap} {σ σ' : Hp} (k : SeqKept σ σ' h h') : ∀ {ps : List V} {vs : List Value}, VRs h σ ps vs → VRs h' σ' ps vs
  | [], _, e => by simpa only [VRs] using e
  | p :: ps, vs, e => by
    simp only [VRs] at e ⊢
    obtain ⟨v, r, rfl, e1, e2⟩ := e
    exact ⟨v, r, rfl, VR.mono k e1, VRs.mono k e2⟩
end
theorem RDs.length {h : Heap} {σ : Hp} : ∀ {ps : List D} {vs : List Value}, RDs h σ ps vs → vs.length = ps.length
  | [], _, e => by simp only [RDs] at e; rw [e]; rfl
  | p :: ps, _, e => by
    simp only [RDs] at e
    obtain ⟨v, r, rfl, _, e2⟩ := e
    simp [RDs.length e2]
theorem RDs.nil {h : Heap} {σ : Hp} : RDs h σ [] [] := by simp only [RDs]
theorem RDs.cons {h : Heap} {σ : Hp} {p : D} {v : Value} {ps : List D} {vs : List Value} (a : RD h σ p v) (b : RDs h σ ps vs) : RDs h σ (p :: ps) (v :: vs) := by
  simp only [RDs]; exact ⟨v, vs, rfl, a, b⟩
theorem RDs.append {h : Heap} {σ : Hp} : ∀ {ps qs : List D} {vs ws : List Value}, RDs h σ ps vs → RDs h σ qs ws → RDs h σ (ps ++ qs) (vs ++ ws)
  | [], _, _, _, a, b => by simp only [RDs] at a; subst a; exact b
  | p :: ps, _, _, _, a, b => by
    simp only [RDs] at a
    obtain ⟨v, r, rfl, e1, e2⟩ := a
    exact RDs.cons e1 (RDs.append e2 b)
theorem RDs.get {h : Heap} {σ : Hp} : ∀ {ps : List D} {vs : List Value}, RDs h σ ps vs → ∀ (i : Nat) {p : D}, ps[i]? = some p → ∃ v, vs[i]? = some v ∧ RD h σ p v
  | [], _, _, i, _, e => by simp at e
  | q :: ps, _, a, i, p, e => by
    simp only [RDs] at a
    obtain ⟨v, r, rfl, e1, e2⟩ := a
    cases i with
    | zero => simp at e; subst e; exact ⟨v, by simp, e1⟩
    | succ i => simp at e; obtain ⟨w, h1, h2⟩ := RDs.get e2 i e; exact ⟨w, by simpa using h1, h2⟩
theorem RDs.drop {h : Heap} {σ : Hp} : ∀ {ps : List D} {vs : List Value} (n : Nat), RDs h σ ps vs → RDs h σ (ps.drop n) (vs.drop n)
  | _, _, 0, a => by simpa using a
  | [], _, n + 1, a => by simp only [RDs] at a; subst a; simp only [List.drop_nil]; exact RDs.nil
  | p :: ps, _, n + 1, a => by
    simp only [RDs] at a
    obtain ⟨v, r, rfl, _, e2⟩ := a
    simpa using RDs.drop n e2
theorem RDs.take {h : Heap} {σ : Hp} : ∀ {ps : List D} {vs : List Value} (n : Nat), RDs h σ ps vs → RDs h σ (ps.take n) (vs.take n)
  | _, _, 0, _ => by simp only [List.take_zero]; exact RDs.nil
  | [], _, n + 1, a => by simp only [RDs] at a; subst a; simp only [List.take_nil]; exact RDs.nil
  | p :: ps, _, n + 1, a => by
    simp only [RDs] at a
    obtain ⟨v, r, rfl, e1, e2⟩ := a
    simp only [List.take_succ_cons]; exact RDs.cons e1 (RDs.take n e2)
theorem RDs.set {h : Heap} {σ : Hp} : ∀ {ps : List D} {vs : List Value} (i : Nat) {p : D} {v : Value}, RDs h σ ps vs → RD h σ p v → RDs h σ (ps.set i p) (vs.set i v)
  | [], _, _, _, _, a, _ => by simp only [RDs] at a; subst a; exact RDs.nil
  | q :: ps, _, 0, _, _, a, b => by
    simp only [RDs] at a
    obtain ⟨v, r, rfl, _, e2⟩ := a
    exact RDs.cons b e2
  | q :: ps, _, i + 1, _, _, a, b => by
    simp only [RDs] at a
    obtain ⟨v, r, rfl, e1, e2⟩ := a
    exact RDs.cons e1 (RDs.set i e2 b)
/-- the fixed surroundings of an activation -/
structure Fx where
  prog : Program
  w : World
  base : Heap
  A : Around
  env : Env
  outer : List Env
  G : Str → Option Value
  comp : Bool := false
noncomputable abbrev Fx.M (F : Fx) : Model := model F.prog F.w
noncomputable def frAddrs (l : List Env) : List Addr := l.filterMap (·.frame)
/-- the frames that stand; a comprehension has none of its own -/
noncomputable def Fx.frs (F : Fx) : List Env := match F.comp with
  | true => F.outer
  | false => F.env :: F.outer
noncomputable def Fx.wr (F : Fx) : Addr → Prop := fun b => b = F.env.locals ∨ (F.comp = false ∧ b ∈ F.env.cells.map (·.2))
noncomputable abbrev Fx.fr (F : Fx) : List Addr := frAddrs F.outer
/-- a run's step: what was there is there, but the writable lists, the frame's own, and marks on frames -/
structure Ev (fr : List Addr) (wr : Addr → Prop) (σ σ' : Hp) (s s' : Shared) : Prop where
  keep : ∀ b o, s.heap.get? b = some o → σ b = none → ¬ wr b → b ∉ fr → ¬ Xish o → s'.heap.get? b = some o
  keepD : ∀ b o, s.heap.get? b = some o → σ b = none → ¬ wr b → ¬ Xish o → ∃ o', s'.heap.get? b = some o' ∧ o'.cls = o.cls ∧ o'.data = o.data
  dom : ∀ b, σ' b ≠ none → σ b ≠ none ∨ s.heap.get? b = none
  own : ∀ b o, s.heap.get? b = some o → ∃ o', s'.heap.get? b = some o'
  os : s'.os = s.os
  gens : ∀ (g : Nat) (x : GenState), s.gens[g]? = some x → s'.gens[g]? = some x
theorem Ev.refl {fr : List Addr} {wr : Addr → Prop} {σ : Hp} {s : Shared} : Ev fr wr σ σ s s :=
  ⟨fun _ _ e _ _ _ _ => e, fun _ o e _ _ _ => ⟨o, e, rfl, rfl⟩, fun _ e => .inl e, fun _ o e => ⟨o, e⟩, rfl, fun _ _ e => e⟩
theorem Ev.dom' {fr : List Addr} {wr : Addr → Prop} {σ σ' : Hp} {s s' : Shared} (x : Ev fr wr σ σ' s s') {b : Addr} {o : Obj} (e : s.heap.get? b = some o) (h : σ b = none) : σ' b = none := by
  cases hq : σ' b with
  | none => rfl
  | some l =>
    rcases x.dom b (by rw [hq]; exact fun x => nomatch x) with q | q
    · exact absurd h q
    · rw [e] at q; cases q
theorem Ev.trans {fr : List Addr} {wr : Addr → Prop} {σ σ' σ'' : Hp} {s s' s'' : Shared} (x : Ev fr wr σ σ' s s') (y : Ev fr wr σ' σ'' s' s'') : Ev fr wr σ σ'' s s'' where
  keep b o e h1 h2 h3 h4 := y.keep b o (x.keep b o e h1 h2 h3 h4) (x.dom' e h1) h2 h3 h4
  keepD b o e h1 h2 h4 := by
    obtain ⟨o', e', c', d'⟩ := x.keepD b o e h1 h2 h4
    obtain ⟨o'', e'', c'', d''⟩ := y.keepD b o' e' (x.dom' e h1) h2 (by unfold Xish; rw [c', d']; exact h4)
    exact ⟨o'', e'', c''.trans c', d''.trans d'⟩
  dom b h := by
    rcases y.dom b h with q | q
    · exact x.dom b q
    · cases hs : s.heap.get? b with
      | none => exact .inr rfl
      | some o =>
        obtain ⟨o', e'⟩ := x.own b o hs
        rw [q] at e'; cases e'
  own b o e := by
    obtain ⟨o', e'⟩ := x.own b o e
    exact y.own b o' e'
  os := y.os.trans x.os
  gens g z e := y.gens g z (x.gens g z e)
theorem Ev.weaken {fr fr' : List Addr} {wr wr' : Addr → Prop} {σ σ' : Hp} {s s' : Shared} (x : Ev fr wr σ σ' s s') (hf : ∀ b, b ∈ fr → b ∈ fr' ∨ wr' b) (hw : ∀ b, wr b → wr' b) : Ev fr' wr' σ σ' s s' where
  keep b o e h1 h2 h3 := x.keep b o e h1 (fun q => h2 (hw b q)) (fun q => (hf b q).elim h3 h2)
  keepD b o e h1 h2 := x.keepD b o e h1 (fun q => h2 (hw b q))
  dom := x.dom
  own := x.own
  os := x.os
  gens := x.gens
/-- the frames: dicts that are new -/
noncomputable def FF (h base : Heap) : List Env → Prop
  | [] => True
  | env :: rest => env.scope.kind ≠ .module ∧ (∃ L o es ep, env.frame = some L ∧ base.get? L = none ∧ h.get? L = some o ∧ o.data = .dict es ep) ∧ FF h base rest
theorem FF.fun {h base : Heap} : ∀ {l : List Env}, FF h base l → h.FunFrames base l
  | [], _ => trivial
  | _ :: _, ⟨hk, ⟨L, o, es, ep, hf, hn, ho, hd⟩, hr⟩ => ⟨hk, ⟨L, o, hf, hn, ho, fun vs q => by rw [hd] at q; cases q⟩, FF.fun hr⟩
theorem FF.of {h h' base : Heap} (k : ∀ b o es ep, h.get? b = some o → o.data = .dict es ep → ∃ o' es' ep', h'.get? b = some o' ∧ o'.data = .dict es' ep') : ∀ {l : List Env}, FF h base l → FF h' base l
  | [], _ => trivial
  | _ :: _, ⟨hk, ⟨L, o, es, ep, hf, hn, ho, hd⟩, hr⟩ =>
    let ⟨o', es', ep', ho', hd'⟩ := k L o es ep ho hd
    ⟨hk, ⟨L, o', es', ep', hf, hn, ho', hd'⟩, FF.of k hr⟩
theorem FF.mem {h base : Heap} : ∀ {l : List Env}, FF h base l → ∀ {b : Addr}, b ∈ frAddrs l → ∃ o es ep, h.get? b = some o ∧ o.data = .dict es ep
  | [], _, b, hb => by simp [frAddrs] at hb
  | env :: rest, ⟨_, ⟨L, o, es, ep, hf, _, ho, hd⟩, hr⟩, b, hb => by
    unfold frAddrs at hb
    rw [List.filterMap_cons, hf] at hb
    rcases List.mem_cons.mp hb with e | hb
    · subst e; exact ⟨o, es, ep, ho, hd⟩
    · exact FF.mem hr hb
theorem Fx.ffo {F : Fx} {h base : Heap} (x : FF h base F.frs) : FF h base F.outer := by
  unfold Fx.frs at x
  split at x
  · exact x
  · exact x.2.2
/-- the state as all activations see it -/
structure GS (base : Heap) (l : List Env) (σ : Hp) (s : Shared) : Prop where
  keep : base.StaysIn s.heap
  frames : FF s.heap base l
  lists : ∀ a ds, σ a = some ds → base.get? a = none ∧ ∃ vs n, s.heap.get? a = some (seqObj "list" (List.toArray vs) n) ∧ RDs s.heap σ ds vs
  bare : AllBare s.gens
noncomputable abbrev Lo := Str → Option V
noncomputable def Lo.put (m : Lo) (x : Str) (v : V) : Lo := fun y => if y = x then some v else m y
theorem Lo.put_same (m : Lo) (x : Str) (v : V) : m.put x v x = some v := if_pos rfl
theorem Lo.put_ne (m : Lo) {x y : Str} (v : V) (h : y ≠ x) : m.put x v y = m y := if_neg h
/-- a frame's names hold what m says -/
structure LR (env : Env) (σ : Hp) (m : Lo) (h : Heap) : Prop where
  ns : ∃ mc, h.Ns env.locals mc ∧ ∀ x a, env.kindOf x = some .local → m x = some a → ∃ v, mc x = some v ∧ VR h σ a v
  cells : ∀ x ca, env.cells.lookup x = some ca → ∃ o ov, h.get? ca = some o ∧ o.data = .cell ov ∧ ∀ a, m x = some a → ∃ v, ov = some v ∧ VR h σ a v
  cellsAll : ∀ p ∈ env.cells, ∃ o ov, h.get? p.2 = some o ∧ o.data = .cell ov
structure St (F : Fx) (σ : Hp) (m : Lo) (s : Shared) : Prop where
  gs : GS F.base F.frs σ s
  lr : LR F.env σ m s.heap
theorem LR.wr_kind {F : Fx} {σ : Hp} {m : Lo} {h : Heap} (x : LR F.env σ m h) {b : Addr} (hb : F.wr b) {o : Obj} (e : h.get? b = some o) : ¬ Imm o := by
  rcases hb with rfl | hb
  · obtain ⟨mc, ⟨o', es, ep, ho, hd, _⟩, _⟩ := x.ns
    rw [ho] at e; injection e with e; subst e
    rintro (⟨vs, n, q⟩ | ⟨vs, q, _⟩) <;> rw [hd] at q <;> cases q
  · obtain ⟨p, hp, rfl⟩ := List.mem_map.mp hb.2
    obtain ⟨o', ov, ho, hd⟩ := x.cellsAll p hp
    rw [ho] at e; injection e with e; subst e
    rintro (⟨vs, n, q⟩ | ⟨vs, q, _⟩) <;> rw [hd] at q <;> cases q
theorem St.seqKept {F : Fx} {σ σ' : Hp} {m : Lo} {s s' : Shared} (x : St F σ m s) (y : Ev F.fr F.wr σ σ' s s') : SeqKept σ σ' s.heap s'.heap := fun b o e hd hs =>
  ⟨y.dom' e hs, y.keep b o e hs (fun hw => x.lr.wr_kind hw e hd) (fun hm => by
    obtain ⟨o', es, ep, e', d'⟩ := (Fx.ffo x.gs.frames).mem hm
    rw [e] at e'; injection e' with e'; subst e'
    rcases hd with ⟨vs, n, q⟩ | ⟨vs, q, _⟩ <;> rw [q] at d' <;> cases d') hd.notX⟩
theorem GS.seqKept {base : Heap} {l : List Env} {σ σ' : Hp} {s s' : Shared} (x : GS base l σ s) (y : Ev (frAddrs l) (fun _ => False) σ σ' s s') : SeqKept σ σ' s.heap s'.heap := fun b o e hd hs =>
  ⟨y.dom' e hs, y.keep b o e hs (fun hw => hw) (fun hm => by
    obtain ⟨o', es, ep, e', d'⟩ := x.frames.mem hm
    rw [e] at e'; injection e' with e'; subst e'
    rcases hd with ⟨vs, n, q⟩ | ⟨vs, q, _⟩ <;> rw [q] at d' <;> cases d') hd.notX⟩
theorem St.vr {F : Fx} {σ σ' : Hp} {m : Lo} {s s' : Shared} {a : V} {v : Value} (x : St F σ m s) (y : Ev F.fr F.wr σ σ' s s') (h : VR s.heap σ a v) : VR s'.heap σ' a v := h.mono (x.seqKept y)
/-- how an exception stands at its raising, or behind a loop or a call of this activation -/
structure Exc (base : Heap) (e : Value) (msg : Str) (h : Heap) : Prop where
  at_ : ∃ ea o t vs ta, e = .ref ea ∧ base.get? ea = none ∧ h.get? ea = some o ∧ o.cls = .type "IndexError" ∧ o.data = .fields vs ∧ vs[0]? = some (.ref ta) ∧ h.IsTuple ta #[.str msg t]
-- posts, folded
inductive VPost (F : Fx) (m : Lo) (σ : Hp) (s : Shared) (Q : V → Hp → Prop) (v : Value) (s' : Shared) : Prop
  | mk (a : V) (σ' : Hp) (e : Ev F.fr F.wr σ σ' s s') (st : St F σ' m s') (r : VR s'.heap σ' a v) (q : Q a σ') : VPost F m σ s Q v s'
inductive VExc (F : Fx) (m : Lo) (σ : Hp) (s : Shared) (X : Value → Hp → Shared → Prop) (x : Value) (s' : Shared) : Prop
  | mk (σ' : Hp) (e : Ev F.fr F.wr σ σ' s s') (st : St F σ' m s') (q : X x σ' s') : VExc F m σ s X x s'
/-- a tree that gives a value -/
noncomputable def TV (F : Fx) (t : Sem Value) (m : Lo) (Q : V → Hp → Prop) (X : Value → Hp → Shared → Prop) (σ : Hp) (s : Shared) : Prop :=
  wpAny F.M F.A t (VPost F m σ s Q)
    (VExc F m σ s X) s
noncomputable def EV (F : Fx) (e : Expr) (m : Lo) (Q : V → Hp → Prop) (X : Value → Hp → Shared → Prop) (σ : Hp) : Prop :=
  ∀ s, St F σ m s → TV F (eval e F.env) m Q X σ s
section
variable {F : Fx} {m : Lo} {Q Q' R : V → Hp → Prop} {X : Value → Hp → Shared → Prop} {σ σ' : Hp} {s s' : Shared}
theorem TV.mono {t : Sem Value} (h : TV F t m Q X σ s) (k : ∀ a σ', Q a σ' → Q' a σ') : TV F t m Q' X σ s :=
  wpAny_mono h (fun _ _ ⟨a, σ', e1, e2, e3, e4⟩ => ⟨a, σ', e1, e2, e3, k a σ' e4⟩) fun _ _ x => x
theorem TV.lift {t : Sem Value} (h : TV F t m Q X σ' s') (ev : Ev F.fr F.wr σ σ' s s') :
    wpAny F.M F.A t (VPost F m σ s Q) (VExc F m σ s X) s' :=
  wpAny_mono h (fun _ _ ⟨a, σ', e1, e2, e3, e4⟩ => ⟨a, σ', ev.trans e1, e2, e3, e4⟩) fun _ _ ⟨σ', e1, e2, e3⟩ => ⟨σ', ev.trans e1, e2, e3⟩
theorem EV.mono {e : Expr} (h : EV F e m Q X σ) (k : ∀ a σ', Q a σ' → Q' a σ') : EV F e m Q' X σ := fun s st => (h s st).mono k
theorem seqKept_drop (σ : Hp) (a : Addr) (h : Heap) : SeqKept σ (σ.drop a) h h := fun b o e _ hs => by
  refine ⟨?_, e⟩
  unfold Hp.drop; split
  · rfl
  · exact hs
theorem GS.drop {base : Heap} {l : List Env} (x : GS base l σ s) (a : Addr) : GS base l (σ.drop a) s where
  keep := x.keep
  frames := x.frames
  lists b ds hb := by
    have hb' : σ b = some ds := by
      unfold Hp.drop at hb; split at hb
      · cases hb
      · exact hb
    obtain ⟨h1, vs, n, h2, h3⟩ := x.lists b ds hb'
    exact ⟨h1, vs, n, h2, h3.mono (seqKept_drop σ a _)⟩
  bare := x.bare
theorem LR.sig {env : Env} {h : Heap} (x : LR env σ m h) (k : SeqKept σ σ' h h) : LR env σ' m h where
  ns := let ⟨mc, h1, h2⟩ := x.ns; ⟨mc, h1, fun y a hk hm => let ⟨v, e1, e2⟩ := h2 y a hk hm; ⟨v, e1, e2.mono k⟩⟩
  cells y ca hc := let ⟨o, ov, h1, h2, h3⟩ := x.cells y ca hc; ⟨o, ov, h1, h2, fun a hm => let ⟨v, e1, e2⟩ := h3 a hm; ⟨v, e1, e2.mono k⟩⟩
  cellsAll := x.cellsAll
theorem St.drop (x : St F σ m s) (a : Addr) : St F (σ.drop a) m s := ⟨x.gs.drop a, x.lr.sig (seqKept_drop σ a _)⟩
theorem Ev.drop {fr : List Addr} {wr : Addr → Prop} (a : Addr) : Ev fr wr σ (σ.drop a) s s :=
  ⟨fun _ _ e _ _ _ _ => e, fun _ o e _ _ _ => ⟨o, e, rfl, rfl⟩, fun b e => .inl (by unfold Hp.drop at e; split at e; exact absurd rfl e; exact e), fun _ o e => ⟨o, e⟩, rfl, fun _ _ e => e⟩
/-- a list that is to be changed no more is taken by value -/
theorem ev_freeze {e : Expr} (h : EV F e m (fun v σ' => ∃ a ds, v = .ref a ∧ σ' a = some ds ∧ Q (.d (.list ds)) (σ'.drop a)) X σ) : EV F e m Q X σ := fun s st =>
  wpAny_mono (h s st) (fun v s' ⟨a, σ', e1, e2, e3, ⟨b, ds, q1, q2, q3⟩⟩ => by
    subst q1
    simp only [VR] at e3
    subst e3
    obtain ⟨h1, vs, n, h2, h3⟩ := e2.gs.lists b ds q2
    refine ⟨.d (.list ds), σ'.drop b, e1.trans (Ev.drop b), e2.drop b, ?_, q3⟩
    simp only [VR, RD]
    exact ⟨b, vs, n, rfl, h2, Hp.drop_same _ _, h3.mono (seqKept_drop σ' b _)⟩) fun _ _ x => x
theorem St.toks (x : St F σ m s) (t : Nat) : St F σ m { s with toks := t } := ⟨⟨x.gs.keep, x.gs.frames, x.gs.lists, x.gs.bare⟩, x.lr⟩
theorem Ev.toks {fr : List Addr} {wr : Addr → Prop} (t : Nat) : Ev fr wr σ σ s { s with toks := t } :=
  ⟨fun _ _ e _ _ _ _ => e, fun _ o e _ _ _ => ⟨o, e, rfl, rfl⟩, fun _ e => .inl e, fun _ o e => ⟨o, e⟩, rfl, fun _ _ e => e⟩
end
/-- what the top has left: the names -/
structure Bs (base : Heap) (G : Str → Option Value) : Prop where
  nolimit : base.NoLimit
  look : ∀ x v, G x = some v → (∃ mg, base.Ns mainGlobals mg ∧ mg x = some v) ∨ (∃ mg mb, base.Ns mainGlobals mg ∧ mg x = none ∧ base.Ns builtinsNs mb ∧ mb x = some v)
structure Fx.Ok (F : Fx) (k : Nat) : Prop where
  frames : F.A.frames = some F.frs
  frame : F.comp = false → F.env.frame = some F.env.locals
  kind : F.env.scope.kind = .function
  glob : F.env.globals = mainGlobals
  blt : F.env.builtins = builtinsNs
  depth : F.A.depth + k < recursionLimit
  units : F.A.units + 20 * k < cLine
  apart : F.env.cells.Pairwise fun x y => x.2 ≠ y.2
  above : ∀ p ∈ F.env.cells, F.env.locals ≠ p.2
  inter : interactive F.env = false
  fresh : ∀ b, F.wr b → F.base.get? b = none
  bs : Bs F.base F.G
section
variable {F : Fx} {k : Nat} {m : Lo} {Q Q' R : V → Hp → Prop} {X : Value → Hp → Shared → Prop} {σ σ' : Hp} {s s' : Shared} {x : Str} {pos : Pos}
theorem Fx.Ok.frs_mem (ok : F.Ok k) {b : Addr} (hb : b ∈ frAddrs F.frs) : F.wr b ∨ b ∈ F.fr := by
  unfold Fx.frs at hb
  split at hb
  · exact .inr hb
  · rename_i hc
    unfold frAddrs at hb
    rw [List.filterMap_cons, ok.frame hc] at hb
    rcases List.mem_cons.mp hb with q | q
    · exact .inl (.inl q)
    · exact .inr q
theorem Fx.Ok.room (ok : F.Ok k) : F.A.depth < recursionLimit := Nat.lt_of_le_of_lt (Nat.le_add_right _ _) ok.depth
theorem Fx.Ok.unit (ok : F.Ok k) : F.A.units < cLine := Nat.lt_of_le_of_lt (Nat.le_add_right _ _) ok.units
/-- nothing but a new token -/
theorem TV.tok {a : V} (st : St F σ m s) {v : Value} (t : Nat) (r : VR s.heap σ a v) (q : Q a σ) :
    VPost F m σ s Q v { s with toks := t } := ⟨a, σ, Ev.toks t, st.toks t, r, q⟩
theorem TV.here {a : V} (st : St F σ m s) {v : Value} (r : VR s.heap σ a v) (q : Q a σ) :
    VPost F m σ s Q v s := ⟨a, σ, Ev.refl, st, r, q⟩
theorem vr_int {h : Heap} {i : Int} {t : Tok} : VR h σ (.d (.int i)) (.int i t) := by simp only [VR, RD]; exact ⟨t, rfl⟩
theorem vr_str {h : Heap} {i : Str} {t : Tok} : VR h σ (.d (.str i)) (.str i t) := by simp only [VR, RD]; exact ⟨t, rfl⟩
theorem vr_bool {h : Heap} {b : Bool} : VR h σ (.d (.bool b)) (.bool b) := by simp only [VR, RD]
theorem vr_none {h : Heap} : VR h σ (.d .none) .none := by simp only [VR, RD]
theorem vr_obj {h : Heap} {v : Value} : VR h σ (.obj v) v := by simp only [VR]
theorem vr_ref {h : Heap} {a : Addr} : VR h σ (.ref a) (.ref a) := by simp only [VR]
theorem VR.int {h : Heap} {i : Int} {v : Value} (e : VR h σ (.d (.int i)) v) : ∃ t, v = .int i t := by simpa only [VR, RD] using e
theorem VR.str {h : Heap} {i : Str} {v : Value} (e : VR h σ (.d (.str i)) v) : ∃ t, v = .str i t := by simpa only [VR, RD] using e
theorem VR.bool {h : Heap} {i : Bool} {v : Value} (e : VR h σ (.d (.bool i)) v) : v = .bool i := by simpa only [VR, RD] using e
theorem VR.none {h : Heap} {v : Value} (e : VR h σ (.d .none) v) : v = .none := by simpa only [VR, RD] using e
theorem VR.ref {h : Heap} {a : Addr} {v : Value} (e : VR h σ (.ref a) v) : v = .ref a := by simpa only [VR] using e
theorem VR.obj {h : Heap} {w v : Value} (e : VR h σ (.obj w) v) : v = w := by simpa only [VR] using e
-- names
theorem ev_local {a : V} (ok : F.Ok k) (hl : F.env.kindOf x = some .local) (hm : m x = some a) (q : Q a σ) (hd : (x == ("__debug__" : Str)) = false) : EV F (.Name x pos) m Q X σ := fun s st => by
  obtain ⟨mc, h1, h2⟩ := st.lr.ns
  obtain ⟨v, e1, e2⟩ := h2 x a hl hm
  exact wpAny_Name (wpAny_loadName_local ok.kind hl h1 e1 (TV.here st e2 q)) hd
theorem ev_cell {a : V} {c : Addr} (ok : F.Ok k) (hl : F.env.kindOf x = some .cell) (hc : F.env.cells.lookup x = some c) (hm : m x = some a) (q : Q a σ) (hd : (x == ("__debug__" : Str)) = false) : EV F (.Name x pos) m Q X σ := fun s st => by
  obtain ⟨o, ov, h1, h2, h3⟩ := st.lr.cells x c hc
  obtain ⟨v, e1, e2⟩ := h3 a hm
  subst e1
  exact wpAny_Name (wpAny_loadName_cell ok.kind hl hc ⟨o, h1, h2⟩ (TV.here st e2 q)) hd
theorem ev_global {v : Value} (ok : F.Ok k) (hl : F.env.kindOf x = some .globalImplicit) (hm : F.G x = some v) (q : Q (.obj v) σ) (hd : (x == ("__debug__" : Str)) = false) : EV F (.Name x pos) m Q X σ := fun s st => by
  refine Calls.Name_function_global ok.kind hl ?_ hd
  rcases ok.bs.look x v hm with ⟨mg, g1, g2⟩ | ⟨mg, mb, g1, g2, g3, g4⟩
  · exact Calls.loadGlobal_global (by rw [ok.glob]; exact g1.keeps st.gs.keep) g2 (TV.here st vr_obj q)
  · exact Calls.loadGlobal_builtin (by rw [ok.glob]; exact g1.keeps st.gs.keep) g2 (by rw [ok.blt]; exact g3.keeps st.gs.keep) g4 (TV.here st vr_obj q)
-- constants
theorem ev_int {i : Int} {j : Nat} (q : Q (.d (.int i)) σ) : EV F (.Constant (.int i) j pos) m Q X σ := fun _ st => wpAny_Constant_int (TV.tok st _ vr_int q)
theorem ev_str {i : Str} {j : Nat} (q : Q (.d (.str i)) σ) : EV F (.Constant (.str i) j pos) m Q X σ := fun _ st => wpAny_Constant_str (TV.tok st _ vr_str q)
theorem ev_none {j : Nat} (q : Q (.d .none) σ) : EV F (.Constant .none j pos) m Q X σ := fun _ st => wpAny_Constant_none (TV.here st vr_none q)
theorem ev_bool {i : Bool} {j : Nat} (q : Q (.d (.bool i)) σ) : EV F (.Constant (.bool i) j pos) m Q X σ := fun _ st => wpAny_Constant_bool (TV.here st vr_bool q)
-- two operands
noncomputable def BV (F : Fx) (m : Lo) (op : Operator) (a b : V) (Q : V → Hp → Prop) (X : Value → Hp → Shared → Prop) (σ : Hp) : Prop :=
  ∀ s v w, St F σ m s → VR s.heap σ a v → VR s.heap σ b w → TV F (binaryOp op v w) m Q X σ s
noncomputable def IV (F : Fx) (m : Lo) (op : Operator) (a b : V) (Q : V → Hp → Prop) (X : Value → Hp → Shared → Prop) (σ : Hp) : Prop :=
  ∀ s v w, St F σ m s → VR s.heap σ a v → VR s.heap σ b w → TV F (inplaceOp op v w) m Q X σ s
noncomputable def CV (F : Fx) (m : Lo) (op : CmpOp) (a b : V) (Q : V → Hp → Prop) (X : Value → Hp → Shared → Prop) (σ : Hp) : Prop :=
  ∀ s v w, St F σ m s → VR s.heap σ a v → VR s.heap σ b w → TV F (compareOp op v w) m Q X σ s
theorem TV.seq {t : Sem Value} {Z : Value → Shared → Prop} (h : TV F t m R X σ s) (ev₀ : Ev F.fr F.wr σ' σ s' s)
    (hk : ∀ v a σ₁ s₁, Ev F.fr F.wr σ σ₁ s s₁ → Ev F.fr F.wr σ' σ₁ s' s₁ → St F σ₁ m s₁ → VR s₁.heap σ₁ a v → R a σ₁ → Z v s₁) :
    wpAny F.M F.A t Z (VExc F m σ' s' X) s :=
  wpAny_mono h (fun v s₁ ⟨a, σ₁, e1, e2, e3, e4⟩ => hk v a σ₁ s₁ e1 (ev₀.trans e1) e2 e3 e4) fun _ _ ⟨σ₁, e1, e2, e3⟩ => ⟨σ₁, ev₀.trans e1, e2, e3⟩
theorem ev_BinOp {l r : Expr} {op : Operator} (h : EV F l m (fun a σ₁ => EV F r m (fun b σ₂ => BV F m op a b Q X σ₂) X σ₁) X σ) : EV F (.BinOp l op r pos) m Q X σ := fun s st =>
  wpAny_BinOp ((h s st).seq Ev.refl fun _ _ σ₁ s₁ _ e1' st1 r1 k1 => (k1 s₁ st1).seq e1' fun _ _ σ₂ s₂ e2 e2' st2 r2 k2 =>
    (k2 s₂ _ _ st2 (st1.vr e2 r1) r2).lift e2')
theorem ev_Compare {l r : Expr} {op : CmpOp} (h : EV F l m (fun a σ₁ => EV F r m (fun b σ₂ => CV F m op a b Q X σ₂) X σ₁) X σ) (hm : behindInMarks op r = false) : EV F (.Compare l [op] [r] pos) m Q X σ := fun s st =>
  wpAny_Compare1 ((h s st).seq Ev.refl fun _ _ σ₁ s₁ _ e1' st1 r1 k1 => (k1 s₁ st1).seq e1' fun _ _ σ₂ s₂ e2 e2' st2 r2 k2 =>
    (k2 s₂ _ _ st2 (st1.vr e2 r1) r2).lift e2') hm
-- ints
theorem bv_add {a b : Int} (q : Q (.d (.int (a + b))) σ) : BV F m .Add (.d (.int a)) (.d (.int b)) Q X σ := fun s _ _ st r1 r2 => by
  obtain ⟨t, rfl⟩ := r1.int; obtain ⟨u, rfl⟩ := r2.int
  exact add_int (TV.tok st _ vr_int q)
theorem bv_sub {a b : Int} (q : Q (.d (.int (a - b))) σ) : BV F m .Sub (.d (.int a)) (.d (.int b)) Q X σ := fun s _ _ st r1 r2 => by
  obtain ⟨t, rfl⟩ := r1.int; obtain ⟨u, rfl⟩ := r2.int
  exact PyProof.Rows.sub_int (TV.tok st _ vr_int q)
theorem bv_mul {a b : Int} (hm : IntMulOk a b) (q : Q (.d (.int (a * b))) σ) : BV F m .Mult (.d (.int a)) (.d (.int b)) Q X σ := fun s _ _ st r1 r2 => by
  obtain ⟨t, rfl⟩ := r1.int; obtain ⟨u, rfl⟩ := r2.int
  exact PySem.P.mul_int (TV.tok st _ vr_int q) hm
theorem bv_mod {a b : Int} (hb : b ≠ 0) (q : Q (.d (.int (a.fmod b))) σ) : BV F m .Mod (.d (.int a)) (.d (.int b)) Q X σ := fun s _ _ st r1 r2 => by
  obtain ⟨t, rfl⟩ := r1.int; obtain ⟨u, rfl⟩ := r2.int
  exact mod_int' hb (TV.tok st _ vr_int q)
theorem bv_div {a b : Int} (hb : b ≠ 0) (hs : b.natAbs < 1073741824) (q : Q (.d (.int (a.fdiv b))) σ) : BV F m .FloorDiv (.d (.int a)) (.d (.int b)) Q X σ := fun s _ _ st r1 r2 => by
  obtain ⟨t, rfl⟩ := r1.int; obtain ⟨u, rfl⟩ := r2.int
  exact floordiv_int hb (TV.tok st _ vr_int q) (.inl (PyProof.noPylong_small hs))
theorem bv_shr {a b : Int} (hb : 0 ≤ b) (q : Q (.d (.int (a.fdiv (2 ^ b.toNat)))) σ) : BV F m .RShift (.d (.int a)) (.d (.int b)) Q X σ := fun s _ _ st r1 r2 => by
  obtain ⟨t, rfl⟩ := r1.int; obtain ⟨u, rfl⟩ := r2.int
  exact rshift_int hb (TV.tok st _ vr_int q)
theorem bv_subB {a b : Bool} (q : Q (.d (.int (b2i a - b2i b))) σ) : BV F m .Sub (.d (.bool a)) (.d (.bool b)) Q X σ := fun s _ _ st r1 r2 => by
  obtain rfl := r1.bool; obtain rfl := r2.bool
  exact sub_bool (TV.tok st _ vr_int q)
theorem bv_addS {a b : Str} (hsz : a.length + b.length ≤ sizeLine) (q : Q (.d (.str (a ++ b))) σ) : BV F m .Add (.d (.str a)) (.d (.str b)) Q X σ := fun s _ _ st r1 r2 => by
  obtain ⟨t, rfl⟩ := r1.str; obtain ⟨u, rfl⟩ := r2.str
  exact PyProof.Rows.add_str (fun _ _ => TV.tok st _ vr_str q) hsz
theorem iv_add {a b : Int} (q : Q (.d (.int (a + b))) σ) : IV F m .Add (.d (.int a)) (.d (.int b)) Q X σ := fun s _ _ st r1 r2 => by
  obtain ⟨t, rfl⟩ := r1.int; obtain ⟨u, rfl⟩ := r2.int
  exact PySem.P.iadd_int (TV.tok st _ vr_int q)
theorem iv_sub {a b : Int} (q : Q (.d (.int (a - b))) σ) : IV F m .Sub (.d (.int a)) (.d (.int b)) Q X σ := fun s _ _ st r1 r2 => by
  obtain ⟨t, rfl⟩ := r1.int; obtain ⟨u, rfl⟩ := r2.int
  exact PySem.P.isub_int (TV.tok st _ vr_int q)
theorem iv_addS {a b : Str} (hsz : a.length + b.length ≤ sizeLine) (q : Q (.d (.str (a ++ b))) σ) : IV F m .Add (.d (.str a)) (.d (.str b)) Q X σ := fun s _ _ st r1 r2 => by
  obtain ⟨t, rfl⟩ := r1.str; obtain ⟨u, rfl⟩ := r2.str
  exact PyProof.Rows.iadd_str (fun _ _ => TV.tok st _ vr_str q) hsz
theorem cv_eq {a b : Int} (q : Q (.d (.bool (a == b))) σ) : CV F m .Eq (.d (.int a)) (.d (.int b)) Q X σ := fun s _ _ st r1 r2 => by
  obtain ⟨t, rfl⟩ := r1.int; obtain ⟨u, rfl⟩ := r2.int; exact PySem.P.eq_int (TV.here st vr_bool q)
theorem cv_ne {a b : Int} (q : Q (.d (.bool (a != b))) σ) : CV F m .NotEq (.d (.int a)) (.d (.int b)) Q X σ := fun s _ _ st r1 r2 => by
  obtain ⟨t, rfl⟩ := r1.int; obtain ⟨u, rfl⟩ := r2.int; exact PySem.P.ne_int (TV.here st vr_bool q)
theorem cv_lt {a b : Int} (q : Q (.d (.bool (decide (a < b)))) σ) : CV F m .Lt (.d (.int a)) (.d (.int b)) Q X σ := fun s _ _ st r1 r2 => by
  obtain ⟨t, rfl⟩ := r1.int; obtain ⟨u, rfl⟩ := r2.int; exact PySem.P.lt_int (TV.here st vr_bool q)
theorem cv_gt {a b : Int} (q : Q (.d (.bool (decide (a > b)))) σ) : CV F m .Gt (.d (.int a)) (.d (.int b)) Q X σ := fun s _ _ st r1 r2 => by
  obtain ⟨t, rfl⟩ := r1.int; obtain ⟨u, rfl⟩ := r2.int; exact PySem.P.gt_int (TV.here st vr_bool q)
theorem cv_eqS {a b : Str} (q : Q (.d (.bool (a == b))) σ) : CV F m .Eq (.d (.str a)) (.d (.str b)) Q X σ := fun s _ _ st r1 r2 => by
  obtain ⟨t, rfl⟩ := r1.str; obtain ⟨u, rfl⟩ := r2.str; exact PyProof.Rows.eq_str (TV.here st vr_bool q)
theorem cv_neS {a b : Str} (q : Q (.d (.bool (a != b))) σ) : CV F m .NotEq (.d (.str a)) (.d (.str b)) Q X σ := fun s _ _ st r1 r2 => by
  obtain ⟨t, rfl⟩ := r1.str; obtain ⟨u, rfl⟩ := r2.str; exact PyProof.Rows.ne_str (TV.here st vr_bool q)
end
section
variable {F : Fx} {k : Nat} {m m' : Lo} {σ σ' : Hp} {s s' : Shared} {x : Str} {pos : Pos}
/-- the frame's own dict or one of its cells has been changed -/
theorem St.own (ok : F.Ok k) (st : St F σ m s) {b : Addr} {h' : Heap} {t : Nat} (hb : F.wr b) (hs : Heap.SameBut b s.heap h') (hx : ∃ o, h'.get? b = some o) (ho : ∀ o es ep, s.heap.get? b = some o → o.data = .dict es ep → ∃ o' es' ep', h'.get? b = some o' ∧ o'.data = .dict es' ep') (lr : SeqKept σ σ s.heap h' → LR F.env σ m' h') :
    St F σ m' { s with heap := h', toks := t } ∧ Ev F.fr F.wr σ σ s { s with heap := h', toks := t } := by
  have hseq : SeqKept σ σ s.heap h' := fun c o e hd hs' => ⟨hs', (hs.2 c fun q => by subst q; exact st.lr.wr_kind hb e hd).trans e⟩
  refine ⟨⟨⟨fun c o e => (hs.2 c fun q => by subst q; rw [ok.fresh _ hb] at e; cases e).trans (st.gs.keep c o e), ?_, fun a ds ha => ?_, st.gs.bare⟩, lr hseq⟩, ?_⟩
  · refine st.gs.frames.of fun c o es ep e hd => ?_
    by_cases q : c = b
    · subst q; exact ho o es ep e hd
    · exact ⟨o, es, ep, (hs.2 c q).trans e, hd⟩
  · obtain ⟨h1, vs, n, h2, h3⟩ := st.gs.lists a ds ha
    exact ⟨h1, vs, n, (hs.2 a fun q => by subst q; exact st.lr.wr_kind hb h2 imm_seq).trans h2, h3.mono hseq⟩
  · exact ⟨fun c o e _ hw _ _ => (hs.2 c fun q => hw (q ▸ hb)).trans e, fun c o e _ hw _ => ⟨o, (hs.2 c fun q => hw (q ▸ hb)).trans e, rfl, rfl⟩, fun _ e => .inl e, fun c o e => (by by_cases q : c = b; (subst q; exact hx); exact ⟨o, (hs.2 c q).trans e⟩), rfl, fun _ _ e => e⟩
/-- a name that the frame binds -/
inductive Bound (F : Fx) (x : Str) : Prop where
  | loc (h : F.env.kindOf x = some .local) (hc : F.env.cells.lookup x = none)
  | cell (c : Addr) (h : F.env.kindOf x = some .cell) (hc : F.env.cells.lookup x = some c) (hn : F.comp = false)
theorem mem_of_look {β : Type} : ∀ {l : List (Str × β)} {x : Str} {c : β}, l.lookup x = some c → (x, c) ∈ l
  | (y, d) :: r, x, c, h => by
    rw [List.lookup_cons] at h
    by_cases e : (x == y) = true
    · simp only [e] at h; cases h; rw [eq_of_beq e]; exact List.mem_cons_self
    · simp only [Bool.not_eq_true] at e
      simp only [e] at h; exact List.mem_cons_of_mem _ (mem_of_look h)
theorem pairwise_inj {l : List (Str × Addr)} (hp : l.Pairwise fun x y => x.2 ≠ y.2) {x y : Str} {c : Addr} (h1 : (x, c) ∈ l) (h2 : (y, c) ∈ l) : x = y := by
  induction l with
  | nil => cases h1
  | cons p r ih =>
    rw [List.pairwise_cons] at hp
    rcases List.mem_cons.mp h1 with e1 | e1 <;> rcases List.mem_cons.mp h2 with e2 | e2
    · rw [← e1] at e2; exact (Prod.mk.inj e2).1.symm
    · exact absurd (by rw [← e1]) (hp.1 _ e2)
    · exact absurd (by rw [← e2]) (hp.1 _ e1)
    · exact ih hp.2 e1 e2
theorem store {a : V} {v : Value} (ok : F.Ok k) (hb : Bound F x) (st : St F σ m s) (hv : VR s.heap σ a v) {Q : Unit → Shared → Prop} {E : Value → Shared → Prop}
    (h : ∀ s', Ev F.fr F.wr σ σ s s' → St F σ (m.put x a) s' → Q () s') : wpAny F.M F.A (storeName F.env x v) Q E s := by
  cases hb with
  | loc hl hc =>
    obtain ⟨mc, h1, h2⟩ := st.lr.ns
    refine wpAny_storeName_local hl h1 (fun h' hn hs => ?_) (by rw [ok.kind]; rfl)
    have key := St.own (t := s.toks + 1) (m' := m.put x a) ok st (b := F.env.locals) (.inl rfl) hs (let ⟨o, es, ep, e1, e2, _⟩ := hn; ⟨o, e1⟩) (let ⟨o, es, ep, e1, e2, _⟩ := hn; fun _ _ _ _ _ => ⟨o, es, ep, e1, e2⟩) (fun kq => ?_)
    · exact h _ key.2 key.1
    · refine ⟨⟨_, hn, fun y b hk hm => ?_⟩, fun y ca hy => ?_, fun p hp => ?_⟩
      · by_cases q : y = x
        · subst q; rw [Lo.put_same] at hm; cases hm; exact ⟨v, if_pos rfl, hv.mono kq⟩
        · rw [Lo.put_ne _ _ q] at hm
          obtain ⟨w, e1, e2⟩ := h2 y b hk hm
          exact ⟨w, (if_neg q).trans e1, e2.mono kq⟩
      · obtain ⟨o, ov, e1, e2, e3⟩ := st.lr.cells y ca hy
        have hne : y ≠ x := fun q => by rw [q, hc] at hy; cases hy
        exact ⟨o, ov, (hs.2 ca fun q => ok.above _ (mem_of_look hy) q.symm).trans e1, e2, fun b hm => by
          rw [Lo.put_ne _ _ hne] at hm
          obtain ⟨w, e4, e5⟩ := e3 b hm
          exact ⟨w, e4, e5.mono kq⟩⟩
      · obtain ⟨o, ov, e1, e2⟩ := st.lr.cellsAll p hp
        exact ⟨o, ov, (hs.2 p.2 fun q => ok.above p hp q.symm).trans e1, e2⟩
  | cell c hl hc hn =>
    obtain ⟨o, ov, h1, h2, h3⟩ := st.lr.cells x c hc
    refine wpAny_storeName_cell ok.kind hl hc ⟨o, h1, h2⟩ fun h' hv' hs => ?_
    have hcm := mem_of_look hc
    have key := St.own (t := s.toks) (m' := m.put x a) ok st (b := c) (.inr ⟨hn, List.mem_map.mpr ⟨_, hcm, rfl⟩⟩) hs (let ⟨o, e1, _⟩ := hv'; ⟨o, e1⟩) (fun o' es ep e1 e2 => by rw [h1] at e1; injection e1 with e1; subst e1; rw [h2] at e2; cases e2) (fun kq => ?_)
    · exact h _ key.2 key.1
    · obtain ⟨mc, g1, g2⟩ := st.lr.ns
      refine ⟨⟨mc, g1.sameBut hs (ok.above _ hcm), fun y b hk hm => ?_⟩, fun y ca hy => ?_, fun p hp => ?_⟩
      · have hne : y ≠ x := fun q => by rw [q, hl] at hk; cases hk
        rw [Lo.put_ne _ _ hne] at hm
        obtain ⟨w, e1, e2⟩ := g2 y b hk hm
        exact ⟨w, e1, e2.mono kq⟩
      · by_cases q : y = x
        · subst q; rw [hc] at hy; cases hy
          obtain ⟨o', e1, e2⟩ := hv'
          exact ⟨o', some v, e1, e2, fun b hm => by rw [Lo.put_same] at hm; cases hm; exact ⟨v, rfl, hv.mono kq⟩⟩
        · obtain ⟨o', ov', e1, e2, e3⟩ := st.lr.cells y ca hy
          exact ⟨o', ov', (hs.2 ca fun qq => q (pairwise_inj ok.apart (mem_of_look hy) (qq ▸ hcm))).trans e1, e2, fun b hm => by
            rw [Lo.put_ne _ _ q] at hm
            obtain ⟨w, e4, e5⟩ := e3 b hm
            exact ⟨w, e4, e5.mono kq⟩⟩
      · obtain ⟨o', ov', e1, e2⟩ := st.lr.cellsAll p hp
        by_cases q : p.2 = c
        · rw [q]; obtain ⟨o2, e1, e2⟩ := hv'; exact ⟨o2, _, e1, e2⟩
        · exact ⟨o', ov', (hs.2 p.2 q).trans e1, e2⟩
end
inductive Fl where
  | next | brk | cont
  | ret (a : V)
noncomputable def FR (h : Heap) (σ : Hp) : Fl → Flow → Prop
  | .next, f => f = .next
  | .brk, f => f = .brk
  | .cont, f => f = .cont
  | .ret a, f => ∃ v, f = .ret v ∧ VR h σ a v
noncomputable abbrev XE := Value → Lo → Hp → Shared → Prop
noncomputable def NoX : XE := fun _ _ _ _ => False
inductive XPost (F : Fx) (σ : Hp) (s : Shared) (Q : Fl → Lo → Hp → Prop) (f : Flow) (s' : Shared) : Prop
  | mk (fl : Fl) (m' : Lo) (σ' : Hp) (e : Ev F.fr F.wr σ σ' s s') (st : St F σ' m' s') (r : FR s'.heap σ' fl f) (q : Q fl m' σ') : XPost F σ s Q f s'
inductive XExc (F : Fx) (σ : Hp) (s : Shared) (X : XE) (x : Value) (s' : Shared) : Prop
  | mk (m' : Lo) (σ' : Hp) (e : Ev F.fr F.wr σ σ' s s') (st : St F σ' m' s') (q : X x m' σ' s') : XExc F σ s X x s'
inductive BPost (F : Fx) (m : Lo) (σ : Hp) (s : Shared) (Q : Bool → Hp → Prop) (b : Bool) (s' : Shared) : Prop
  | mk (σ' : Hp) (e : Ev F.fr F.wr σ σ' s s') (st : St F σ' m s') (q : Q b σ') : BPost F m σ s Q b s'
noncomputable def TX (F : Fx) (t : Sem Flow) (Q : Fl → Lo → Hp → Prop) (X : XE) (σ : Hp) (s : Shared) : Prop :=
  wpAny F.M F.A t (XPost F σ s Q)
    (XExc F σ s X) s
noncomputable def EX (F : Fx) (st : Stmt) (m : Lo) (Q : Fl → Lo → Hp → Prop) (X : XE) (σ : Hp) : Prop := ∀ s, St F σ m s → TX F (exec st F.env) Q X σ s
noncomputable def EXs (F : Fx) (sts : List Stmt) (m : Lo) (Q : Fl → Lo → Hp → Prop) (X : XE) (σ : Hp) : Prop := ∀ s, St F σ m s → TX F (execs sts F.env) Q X σ s
/-- a test -/
noncomputable def TT (F : Fx) (t : Sem Bool) (m : Lo) (Q : Bool → Hp → Prop) (X : Value → Hp → Shared → Prop) (σ : Hp) (s : Shared) : Prop :=
  wpAny F.M F.A t (BPost F m σ s Q) (VExc F m σ s X) s
noncomputable def TS (F : Fx) (e : Expr) (m : Lo) (Q : Bool → Hp → Prop) (X : Value → Hp → Shared → Prop) (σ : Hp) : Prop := ∀ s, St F σ m s → TT F (isTrue e F.env (eval e F.env)) m Q X σ s
noncomputable def TRV (F : Fx) (a : V) (m : Lo) (Q : Bool → Hp → Prop) (X : Value → Hp → Shared → Prop) (σ : Hp) : Prop := ∀ s v, St F σ m s → VR s.heap σ a v → TT F (truthy v) m Q X σ s
section
variable {F : Fx} {k : Nat} {m : Lo} {Q : Fl → Lo → Hp → Prop} {X : XE} {σ σ' : Hp} {s s' : Shared} {x : Str} {pos : Pos}
theorem TX.lift {t : Sem Flow} (h : TX F t Q X σ' s') (ev : Ev F.fr F.wr σ σ' s s') :
    wpAny F.M F.A t (XPost F σ s Q) (XExc F σ s X) s' :=
  wpAny_mono h (fun _ _ ⟨fl, m', σ'', e1, e2, e3, e4⟩ => ⟨fl, m', σ'', ev.trans e1, e2, e3, e4⟩) fun _ _ ⟨m', σ'', e1, e2, e3⟩ => ⟨m', σ'', ev.trans e1, e2, e3⟩
/-- an expression's run within a statement -/
theorem TV.inStmt {t : Sem Value} {R : V → Hp → Prop} {Z : Value → Shared → Prop} (h : TV F t m R (fun e => X e m) σ s) (ev₀ : Ev F.fr F.wr σ' σ s' s)
    (hk : ∀ v a σ₁ s₁, Ev F.fr F.wr σ σ₁ s s₁ → Ev F.fr F.wr σ' σ₁ s' s₁ → St F σ₁ m s₁ → VR s₁.heap σ₁ a v → R a σ₁ → Z v s₁) :
    wpAny F.M F.A t Z (XExc F σ' s' X) s :=
  wpAny_mono h (fun v s₁ ⟨a, σ₁, e1, e2, e3, e4⟩ => hk v a σ₁ s₁ e1 (ev₀.trans e1) e2 e3 e4) fun _ _ ⟨σ₁, e1, e2, e3⟩ => ⟨m, σ₁, ev₀.trans e1, e2, e3⟩
theorem TT.inStmt {t : Sem Bool} {R : Bool → Hp → Prop} {Z : Bool → Shared → Prop} (h : TT F t m R (fun e => X e m) σ s) (ev₀ : Ev F.fr F.wr σ' σ s' s)
    (hk : ∀ b σ₁ s₁, Ev F.fr F.wr σ σ₁ s s₁ → Ev F.fr F.wr σ' σ₁ s' s₁ → St F σ₁ m s₁ → R b σ₁ → Z b s₁) :
    wpAny F.M F.A t Z (XExc F σ' s' X) s :=
  wpAny_mono h (fun b s₁ ⟨σ₁, e1, e2, e3⟩ => hk b σ₁ s₁ e1 (ev₀.trans e1) e2 e3) fun _ _ ⟨σ₁, e1, e2, e3⟩ => ⟨m, σ₁, ev₀.trans e1, e2, e3⟩
theorem EXs.mono {sts : List Stmt} {Q' : Fl → Lo → Hp → Prop} (h : EXs F sts m Q X σ) (k : ∀ fl m' σ', Q fl m' σ' → Q' fl m' σ') : EXs F sts m Q' X σ := fun s st =>
  wpAny_mono (h s st) (fun _ _ ⟨fl, m', σ', e1, e2, e3, e4⟩ => ⟨fl, m', σ', e1, e2, e3, k fl m' σ' e4⟩) fun _ _ x => x
theorem ex_nil (q : Q .next m σ) : EXs F [] m Q X σ := fun s st => wpAny_execs_nil ⟨.next, m, σ, Ev.refl, st, rfl, q⟩
/-- what a statement's end hands on -/
noncomputable def Then (F : Fx) (rest : List Stmt) (Q : Fl → Lo → Hp → Prop) (X : XE) : Fl → Lo → Hp → Prop
  | .next, m, σ => EXs F rest m Q X σ
  | fl, m, σ => Q fl m σ
theorem then_next {rest : List Stmt} (h : EXs F rest m Q X σ) : Then F rest Q X .next m σ := h
theorem then_ret {rest : List Stmt} {a : V} (h : Q (.ret a) m σ) : Then F rest Q X (.ret a) m σ := h
theorem then_brk {rest : List Stmt} (h : Q .brk m σ) : Then F rest Q X .brk m σ := h
theorem then_cont {rest : List Stmt} (h : Q .cont m σ) : Then F rest Q X .cont m σ := h
theorem ex_cons {st : Stmt} {rest : List Stmt} (h : EX F st m (Then F rest Q X) X σ) : EXs F (st :: rest) m Q X σ := fun s hs => by
  refine wpAny_execs_cons (wpAny_mono (h s hs) (fun f s' ⟨fl, m', σ', e1, e2, e3, e4⟩ => ?_) fun _ _ x => x)
  cases fl with
  | next => simp only [FR] at e3; subst e3; exact TX.lift (e4 s' e2) e1
  | brk => simp only [FR] at e3; subst e3; exact ⟨.brk, m', σ', e1, e2, rfl, e4⟩
  | cont => simp only [FR] at e3; subst e3; exact ⟨.cont, m', σ', e1, e2, rfl, e4⟩
  | ret a => obtain ⟨v, rfl, r⟩ := e3; exact ⟨.ret a, m', σ', e1, e2, ⟨v, rfl, r⟩, e4⟩
theorem ex_assign {e : Expr} {p : Pos} (ok : F.Ok k) (hb : Bound F x) (h : EV F e m (fun a σ' => Q .next (m.put x a) σ') (fun e => X e m) σ) (hs : swapsWith e (some (.Name x p)) pos.line F.env = pure false) : EX F (.Assign [.Name x p] e pos) m Q X σ := fun s st =>
  wpAny_Assign_Name ((h s st).inStmt Ev.refl fun v a σ₁ s₁ _ e1 st1 r1 q => store ok hb st1 r1 fun s₂ e2 st2 => ⟨.next, _, σ₁, e1.trans e2, st2, rfl, q⟩) hs
theorem ex_aug {e : Expr} {op : Operator} {p : Pos} {a : V} (ok : F.Ok k) (hb : Bound F x) (hm : m x = some a) (h : EV F e m (fun b σ' => IV F m op a b (fun c σ'' => Q .next (m.put x c) σ'') (fun e => X e m) σ') (fun e => X e m) σ) : EX F (.AugAssign (.Name x p) op e pos) m Q X σ := fun s st => by
  refine wpAny_AugAssign_Name ?_
  have cont : ∀ v, VR s.heap σ a v → wpAny F.M F.A (eval e F.env) (fun v₁ s₂ => wpAny F.M F.A (inplaceOp op v v₁) (fun r s₃ => wpAny F.M F.A (storeName F.env x r) (fun _ s' => XPost F σ s Q .next s') (XExc F σ s X) s₃) (XExc F σ s X) s₂) (XExc F σ s X) s := fun v hv =>
    (h s st).inStmt Ev.refl fun w b σ₁ s₁ _ e1 st1 r1 q => (q s₁ v w st1 (st.vr e1 hv) r1).inStmt e1 fun u c σ₂ s₂ _ e2 st2 r2 q2 => store ok hb st2 r2 fun s₃ e3 st3 => ⟨.next, _, σ₂, e2.trans e3, st3, rfl, q2⟩
  cases hb with
  | loc hl hc =>
    obtain ⟨mc, h1, h2⟩ := st.lr.ns
    obtain ⟨v, e1, e2⟩ := h2 x a hl hm
    exact wpAny_loadName_local ok.kind hl h1 e1 (cont v e2)
  | cell c hl hc _ =>
    obtain ⟨o, ov, h1, h2, h3⟩ := st.lr.cells x c hc
    obtain ⟨v, rfl, e2⟩ := h3 a hm
    exact wpAny_loadName_cell ok.kind hl hc ⟨o, h1, h2⟩ (cont v e2)
theorem ev_bound {a : V} {Q : V → Hp → Prop} {X : Value → Hp → Shared → Prop} (ok : F.Ok k) (hb : Bound F x) (hm : m x = some a) (q : Q a σ) (hd : (x == ("__debug__" : Str)) = false) : EV F (.Name x pos) m Q X σ := by
  cases hb with
  | loc hl _ => exact ev_local ok hl hm q hd
  | cell c hl hc _ => exact ev_cell ok hl hc hm q hd
theorem ex_if {test : Expr} {body orelse : List Stmt} (h : TS F test m (fun b σ' => if b then EXs F body m Q X σ' else EXs F orelse m Q X σ') (fun e => X e m) σ) : EX F (.If test body orelse pos) m Q X σ := fun s st =>
  wpAny_If ((h s st).inStmt Ev.refl fun b σ₁ s₁ _ e1 st1 q => by
    cases b with
    | true => simp only [if_true] at q ⊢; exact (q s₁ st1).lift e1
    | false => simp only [Bool.false_eq_true, if_false] at q ⊢; exact (q s₁ st1).lift e1)
theorem ex_return {e : Expr} (h : EV F e m (fun a σ' => Q (.ret a) m σ') (fun e => X e m) σ) : EX F (.Return (some e) pos) m Q X σ := fun s st =>
  wpAny_Return_some ((h s st).inStmt Ev.refl fun v a σ₁ s₁ _ e1 st1 r1 q => ⟨.ret a, m, σ₁, e1, st1, ⟨v, rfl, r1⟩, q⟩)
theorem ex_break (q : Q .brk m σ) : EX F (.Break pos) m Q X σ := fun s st => wpAny_Break ⟨.brk, m, σ, Ev.refl, st, rfl, q⟩
theorem ex_continue (q : Q .cont m σ) : EX F (.Continue pos) m Q X σ := fun s st => wpAny_Continue ⟨.cont, m, σ, Ev.refl, st, rfl, q⟩
theorem ex_expr {e : Expr} (ok : F.Ok k) (h : EV F e m (fun _ σ' => Q .next m σ') (fun e => X e m) σ) (hs : swapsWith e none pos.line F.env = pure false) : EX F (.Expr e pos) m Q X σ := fun s st =>
  wpAny_Expr_any ((h s st).inStmt Ev.refl fun v a σ₁ s₁ _ e1 st1 r1 q => ⟨.next, m, σ₁, e1, st1, rfl, q⟩) ok.inter hs
/-- a while loop whose turns raise nothing -/
theorem ex_while {test : Expr} {body orelse : List Stmt} (I : Nat → Lo → Hp → Prop) (n : Nat) (h0 : I n m σ)
    (turn : ∀ n m σ, I n m σ → TS F test m (fun b σ' => if b then EXs F body m (fun fl m' σ'' => match fl with
        | .next | .cont => ∃ j, j < n ∧ I j m' σ''
        | .brk => Q .next m' σ''
        | .ret a => Q (.ret a) m' σ'') NoX σ' else EXs F orelse m Q NoX σ') (fun _ _ _ => False) σ) : EX F (.While test body orelse pos) m Q X σ := fun s st => by
  refine wpAny_While (codeAny_whileLoop (fun n s' => ∃ m' σ', Ev F.fr F.wr σ σ' s s' ∧ St F σ' m' s' ∧ I n m' σ') (fun n s₁ ⟨m₁, σ₁, e1, st1, hI⟩ => ?_) n ⟨m, σ, Ev.refl, st, h0⟩)
  refine wpAny_mono (turn n m₁ σ₁ hI s₁ st1) (fun b s₂ ⟨σ₂, e2, st2, q⟩ => ?_) fun _ _ ⟨_, _, _, x⟩ => x.elim
  cases b with
  | true =>
    simp only [if_true] at q ⊢
    refine wpAny_mono (q s₂ st2) (fun f s₃ ⟨fl, m₃, σ₃, e3, st3, r3, q3⟩ => ?_) fun _ _ ⟨_, _, _, _, x⟩ => x.elim
    have e := e1.trans (e2.trans e3)
    cases fl with
    | next => simp only [FR] at r3; subst r3; obtain ⟨j, hj, hI'⟩ := q3; exact ⟨j, hj, m₃, σ₃, e, st3, hI'⟩
    | cont => simp only [FR] at r3; subst r3; obtain ⟨j, hj, hI'⟩ := q3; exact ⟨j, hj, m₃, σ₃, e, st3, hI'⟩
    | brk => simp only [FR] at r3; subst r3; exact ⟨.next, m₃, σ₃, e, st3, rfl, q3⟩
    | ret a => obtain ⟨v, rfl, r⟩ := r3; exact ⟨.ret a, m₃, σ₃, e, st3, ⟨v, rfl, r⟩, q3⟩
  | false =>
    simp only [Bool.false_eq_true, if_false] at q ⊢
    exact wpAny_mono (q s₂ st2) (fun f s₃ ⟨fl, m₃, σ₃, e3, st3, r3, q3⟩ => ⟨fl, m₃, σ₃, e1.trans (e2.trans e3), st3, r3, q3⟩) fun _ _ ⟨_, _, _, _, x⟩ => x.elim
end
section
variable {F : Fx} {k : Nat} {m : Lo} {Q : Bool → Hp → Prop} {X : Value → Hp → Shared → Prop} {σ σ' : Hp} {s s' : Shared} {x : Str} {pos : Pos}
theorem TT.lift {t : Sem Bool} (h : TT F t m Q X σ' s') (ev : Ev F.fr F.wr σ σ' s s') :
    wpAny F.M F.A t (BPost F m σ s Q) (VExc F m σ s X) s' :=
  wpAny_mono h (fun _ _ ⟨σ'', e1, e2, e3⟩ => ⟨σ'', ev.trans e1, e2, e3⟩) fun _ _ ⟨σ'', e1, e2, e3⟩ => ⟨σ'', ev.trans e1, e2, e3⟩
theorem TT.seq {t : Sem Bool} {R : Bool → Hp → Prop} {Z : Bool → Shared → Prop} (h : TT F t m R X σ s) (ev₀ : Ev F.fr F.wr σ' σ s' s)
    (hk : ∀ b σ₁ s₁, Ev F.fr F.wr σ' σ₁ s' s₁ → St F σ₁ m s₁ → R b σ₁ → Z b s₁) :
    wpAny F.M F.A t Z (VExc F m σ' s' X) s :=
  wpAny_mono h (fun b s₁ ⟨σ₁, e1, e2, e3⟩ => hk b σ₁ s₁ (ev₀.trans e1) e2 e3) fun _ _ ⟨σ₁, e1, e2, e3⟩ => ⟨σ₁, ev₀.trans e1, e2, e3⟩
theorem ts_cmp {l r : Expr} {op : CmpOp} (h : EV F l m (fun a σ₁ => EV F r m (fun b σ₂ => CV F m op a b (fun c σ₃ => TRV F c m Q X σ₃) X σ₂) X σ₁) X σ) (hm : behindInMarks op r = false) : TS F (.Compare l [op] [r] pos) m Q X σ := fun s st =>
  wpAny_isTrue_Compare1 ((h s st).seq Ev.refl fun _ _ σ₁ s₁ _ e1' st1 r1 k1 => (k1 s₁ st1).seq e1' fun _ _ σ₂ s₂ e2 e2' st2 r2 k2 =>
    (k2 s₂ _ _ st2 (st1.vr e2 r1) r2).seq e2' fun _ _ σ₃ s₃ e3 e3' st3 r3 k3 => (k3 s₃ _ st3 r3).lift e3') hm
theorem trv_bool {b : Bool} (q : Q b σ) : TRV F (.d (.bool b)) m Q X σ := fun s v st r => by
  obtain rfl := r.bool; exact wpAny_truthy_bool ⟨σ, Ev.refl, st, q⟩
theorem ts_not {e : Expr} (h : TS F e m (fun b σ' => Q (!b) σ') X σ) : TS F (.UnaryOp .Not e pos) m Q X σ := fun s st => wpAny_isTrue_Not (wpAny_mono (h s st) (fun _ _ ⟨σ', a, b, c⟩ => ⟨σ', a, b, c⟩) fun _ _ x => x)
theorem ts_and2 {a b : Expr} (h : TS F a m (fun c σ' => if c then TS F b m Q X σ' else Q false σ') X σ) : TS F (.BoolOp .And [a, b] pos) m Q X σ := fun s st => by
  refine wpAny_isTrue_BoolOp (wpAny_allTrue_And_cons ((h s st).seq Ev.refl fun c σ₁ s₁ e1 st1 q => ?_))
  cases c with
  | true =>
    simp only [if_true] at q ⊢
    refine wpAny_allTrue_And_cons ((q s₁ st1).seq e1 fun c σ₂ s₂ e2 st2 q2 => ?_)
    cases c with
    | true => simp only [if_true]; exact wpAny_allTrue_And_nil ⟨σ₂, e2, st2, q2⟩
    | false => simp only [Bool.false_eq_true, if_false]; exact ⟨σ₂, e2, st2, q2⟩
  | false => simp only [Bool.false_eq_true, if_false] at q ⊢; exact ⟨σ₁, e1, st1, q⟩
theorem ts_or2 {a b : Expr} (h : TS F a m (fun c σ' => if c then Q true σ' else TS F b m Q X σ') X σ) : TS F (.BoolOp .Or [a, b] pos) m Q X σ := fun s st => by
  refine wpAny_isTrue_BoolOp (wpAny_allTrue_Or_cons ((h s st).seq Ev.refl fun c σ₁ s₁ e1 st1 q => ?_))
  cases c with
  | true => simp only [if_true] at q ⊢; exact ⟨σ₁, e1, st1, q⟩
  | false =>
    simp only [Bool.false_eq_true, if_false] at q ⊢
    refine wpAny_allTrue_Or_cons ((q s₁ st1).seq e1 fun c σ₂ s₂ e2 st2 q2 => ?_)
    cases c with
    | true => simp only [if_true]; exact ⟨σ₂, e2, st2, q2⟩
    | false => simp only [Bool.false_eq_true, if_false]; exact wpAny_allTrue_Or_nil ⟨σ₂, e2, st2, q2⟩
/-- a test by a value's truth: names, calls, constants, subscripts -/
theorem ts_val {e : Expr} (hf : isTrue e F.env (eval e F.env) = (do let v ← eval e F.env; standAt e.pos; holding [v] (truthy v))) (h : EV F e m (fun a σ' => TRV F a m Q X σ') X σ) : TS F e m Q X σ := fun s st => by
  unfold TT; rw [hf]
  exact wpAny_bind ((h s st).seq Ev.refl fun v a σ₁ s₁ _ e1 st1 r1 q => wpAny_bind (wpAny_standAt (wpAny_holding ((q s₁ v st1 r1).lift e1))))
end
section
variable {F : Fx} {k : Nat} {m : Lo} {Q : V → Hp → Prop} {X : Value → Hp → Shared → Prop} {σ σ' : Hp} {s s' : Shared} {x : Str} {pos : Pos}
theorem ev_ifexp {test body orelse : Expr} (h : TS F test m (fun b σ' => if b then EV F body m Q X σ' else EV F orelse m Q X σ') X σ) : EV F (.IfExp test body orelse pos) m Q X σ := fun s st => by
  refine wpAny_IfExp ((h s st).seq Ev.refl fun c σ₁ s₁ e1 st1 q => ?_)
  cases c with
  | true => simp only [if_true] at q ⊢; exact (q s₁ st1).lift e1
  | false => simp only [Bool.false_eq_true, if_false] at q ⊢; exact (q s₁ st1).lift e1
theorem ev_and2 {a b : Expr} (h : EV F a m (fun v σ' => TRV F v m (fun c σ'' => if c then EV F b m Q X σ'' else Q v σ'') X σ') X σ) : EV F (.BoolOp .And [a, b] pos) m Q X σ := fun s st => by
  refine wpAny_And2 ((h s st).seq Ev.refl fun v a σ₁ s₁ _ e1 st1 r1 q => wpAny_mono (q s₁ v st1 r1) (fun c s₂ ⟨σ₂, e2, st2, q2⟩ => ?_) fun _ _ ⟨σ₂, e2, st2, q2⟩ => ⟨σ₂, e1.trans e2, st2, q2⟩)
  cases c with
  | true => simp only [if_true] at q2 ⊢; exact (q2 s₂ st2).lift (e1.trans e2)
  | false => simp only [Bool.false_eq_true, if_false] at q2 ⊢; exact ⟨a, σ₂, e1.trans e2, st2, st1.vr e2 r1, q2⟩
end
inductive LPost (F : Fx) (m : Lo) (σ : Hp) (s : Shared) (Q : List V → Hp → Prop) (vs : List Value) (s' : Shared) : Prop
  | mk (as : List V) (σ' : Hp) (e : Ev F.fr F.wr σ σ' s s') (st : St F σ' m s') (r : VRs s'.heap σ' as vs) (q : Q as σ') : LPost F m σ s Q vs s'
noncomputable def TVs (F : Fx) (t : Sem (List Value)) (m : Lo) (Q : List V → Hp → Prop) (X : Value → Hp → Shared → Prop) (σ : Hp) (s : Shared) : Prop :=
  wpAny F.M F.A t (LPost F m σ s Q)
    (VExc F m σ s X) s
/-- expressions one behind the other -/
noncomputable def EVL (F : Fx) (es : List Expr) (m : Lo) (Q : List V → Hp → Prop) (X : Value → Hp → Shared → Prop) (σ : Hp) : Prop :=
  ∀ s pos, St F σ m s → TVs F (spliced (backTo pos (starEach es F.env))) m Q X σ s
theorem VRs.length {h : Heap} {σ : Hp} : ∀ {ps : List V} {vs : List Value}, VRs h σ ps vs → vs.length = ps.length
  | [], _, e => by simp only [VRs] at e; rw [e]; rfl
  | p :: ps, _, e => by
    simp only [VRs] at e
    obtain ⟨v, r, rfl, _, e2⟩ := e
    simp [VRs.length e2]
theorem VRs.nil {h : Heap} {σ : Hp} : VRs h σ [] [] := by simp only [VRs]
theorem VRs.cons {h : Heap} {σ : Hp} {p : V} {v : Value} {ps : List V} {vs : List Value} (a : VR h σ p v) (b : VRs h σ ps vs) : VRs h σ (p :: ps) (v :: vs) := by
  simp only [VRs]; exact ⟨v, vs, rfl, a, b⟩
theorem VRs.uncons {h : Heap} {σ : Hp} {p : V} {ps : List V} {vs : List Value} (e : VRs h σ (p :: ps) vs) : ∃ v r, vs = v :: r ∧ VR h σ p v ∧ VRs h σ ps r := by
  simpa only [VRs] using e
theorem VRs.one {h : Heap} {σ : Hp} {p : V} {vs : List Value} (e : VRs h σ [p] vs) : ∃ v, vs = [v] ∧ VR h σ p v := by
  obtain ⟨v, r, rfl, e1, e2⟩ := e.uncons
  simp only [VRs] at e2; subst e2; exact ⟨v, rfl, e1⟩
theorem VRs.two {h : Heap} {σ : Hp} {p q : V} {vs : List Value} (e : VRs h σ [p, q] vs) : ∃ v w, vs = [v, w] ∧ VR h σ p v ∧ VR h σ q w := by
  obtain ⟨v, r, rfl, e1, e2⟩ := e.uncons
  obtain ⟨w, rfl, e3⟩ := e2.one
  exact ⟨v, w, rfl, e1, e3⟩
theorem RDs.toVRs {h : Heap} {σ : Hp} : ∀ {ds : List D} {vs : List Value}, RDs h σ ds vs → VRs h σ (ds.map .d) vs
  | [], _, e => by simp only [RDs] at e; subst e; exact VRs.nil
  | p :: ps, _, e => by
    simp only [RDs] at e
    obtain ⟨v, r, rfl, e1, e2⟩ := e
    exact VRs.cons (by simpa only [VR] using e1) (RDs.toVRs e2)
theorem VRs.toRDs {h : Heap} {σ : Hp} : ∀ {ds : List D} {vs : List Value}, VRs h σ (ds.map .d) vs → RDs h σ ds vs
  | [], _, e => by simp only [List.map_nil, VRs] at e; subst e; exact RDs.nil
  | p :: ps, _, e => by
    obtain ⟨v, r, rfl, e1, e2⟩ := e.uncons
    exact RDs.cons (by simpa only [VR] using e1) (VRs.toRDs e2)
section
variable {F : Fx} {k : Nat} {m : Lo} {Q : V → Hp → Prop} {QL : List V → Hp → Prop} {X : Value → Hp → Shared → Prop} {σ σ' : Hp} {s s' : Shared} {x : Str} {pos : Pos}
theorem evl_nil (q : QL [] σ) : EVL F [] m QL X σ := fun s pos st => wpAny_items_nil ⟨[], σ, Ev.refl, st, VRs.nil, q⟩
theorem evl_cons {e : Expr} {rest : List Expr} (h : EV F e m (fun a σ₁ => EVL F rest m (fun as σ₂ => QL (a :: as) σ₂) X σ₁) X σ) (he : starEach (e :: rest) F.env = (false, eval e F.env) :: starEach rest F.env) : EVL F (e :: rest) m QL X σ := fun s pos st =>
  wpAny_items_cons ((h s st).seq Ev.refl fun v a σ₁ s₁ _ e1 st1 r1 q => wpAny_mono (q s₁ pos st1) (fun vs s₂ ⟨as, σ₂, e2, st2, r2, q2⟩ => ⟨a :: as, σ₂, e1.trans e2, st2, VRs.cons (st1.vr e2 r1) r2, q2⟩) fun _ _ ⟨σ₂, e2, st2, q2⟩ => ⟨σ₂, e1.trans e2, st2, q2⟩) he
theorem seqKept_push (σ σ' : Hp) (h : Heap) (o : Obj) (hs : ∀ b, b < h.objs.size → σ b = none → σ' b = none) : SeqKept σ σ' h (h.push o) := fun b ob e _ hb =>
  ⟨hs b (Heap.lt_size e) hb, Heap.get?_push_of_some o e⟩
theorem FF.push {h base : Heap} {l : List Env} (x : FF h base l) (o : Obj) : FF (h.push o) base l := x.of fun b ob es ep e hd => ⟨ob, es, ep, Heap.get?_push_of_some o e, hd⟩
/-- a new object that is no writable list -/
theorem GS.push {base : Heap} {l : List Env} (g : GS base l σ s) (o : Obj) (t : Nat) : GS base l σ { s with heap := s.heap.push o, toks := t } where
  keep b ob e := Heap.get?_push_of_some o (g.keep b ob e)
  frames := g.frames.push o
  lists a ds ha := let ⟨h1, vs, n, h2, h3⟩ := g.lists a ds ha; ⟨h1, vs, n, Heap.get?_push_of_some o h2, h3.mono (seqKept_push σ σ s.heap o fun _ _ e => e)⟩
  bare := g.bare
theorem Ev.push {fr : List Addr} {wr : Addr → Prop} (o : Obj) (t : Nat) : Ev fr wr σ σ s { s with heap := s.heap.push o, toks := t } :=
  ⟨fun b ob e _ _ _ _ => Heap.get?_push_of_some o e, fun b ob e _ _ _ => ⟨ob, Heap.get?_push_of_some o e, rfl, rfl⟩, fun _ e => .inl e, fun b ob e => ⟨ob, Heap.get?_push_of_some o e⟩, rfl, fun _ _ e => e⟩
theorem LR.keeps {env : Env} {h h' : Heap} (x : LR env σ m h) (k : SeqKept σ σ' h h') (hk : ∀ b o, h.get? b = some o → (∀ vs n, o.data ≠ .seq vs n) → (∀ vs, o.data ≠ .fields vs) → ∃ o', h'.get? b = some o' ∧ o'.data = o.data) : LR env σ' m h' where
  ns := by
    obtain ⟨mc, ⟨o, es, ep, h1, h2, h3⟩, h4⟩ := x.ns
    obtain ⟨o', e1, e2⟩ := hk _ o h1 (fun vs n q => by rw [h2] at q; cases q) (fun vs q => by rw [h2] at q; cases q)
    exact ⟨mc, ⟨o', es, ep, e1, e2.trans h2, h3⟩, fun y a hk hm => let ⟨v, e1, e2⟩ := h4 y a hk hm; ⟨v, e1, e2.mono k⟩⟩
  cells y ca hc := by
    obtain ⟨o, ov, h1, h2, h3⟩ := x.cells y ca hc
    obtain ⟨o', e1, e2⟩ := hk _ o h1 (fun vs n q => by rw [h2] at q; cases q) (fun vs q => by rw [h2] at q; cases q)
    exact ⟨o', ov, e1, e2.trans h2, fun a hm => let ⟨v, e1, e2⟩ := h3 a hm; ⟨v, e1, e2.mono k⟩⟩
  cellsAll p hp := by
    obtain ⟨o, ov, h1, h2⟩ := x.cellsAll p hp
    obtain ⟨o', e1, e2⟩ := hk _ o h1 (fun vs n q => by rw [h2] at q; cases q) (fun vs q => by rw [h2] at q; cases q)
    exact ⟨o', ov, e1, e2.trans h2⟩
theorem St.push (st : St F σ m s) (o : Obj) (t : Nat) : St F σ m { s with heap := s.heap.push o, toks := t } :=
  ⟨st.gs.push o t, st.lr.keeps (seqKept_push σ σ s.heap o fun _ _ e => e) fun b ob e _ _ => ⟨ob, Heap.get?_push_of_some o e, rfl⟩⟩
theorem GS.none_ge {base : Heap} {l : List Env} (g : GS base l σ s) {a : Addr} (ha : s.heap.objs.size ≤ a) : σ a = none := by
  cases hq : σ a with
  | none => rfl
  | some ds =>
    obtain ⟨_, vs, n, h2, _⟩ := g.lists a ds hq
    exact absurd (Heap.lt_size h2) (Nat.not_lt.mpr ha)
theorem GS.base_ge {base : Heap} {l : List Env} (g : GS base l σ s) {a : Addr} (ha : s.heap.objs.size ≤ a) : base.get? a = none := by
  cases hq : base.get? a with
  | none => rfl
  | some o => exact absurd (Heap.lt_size (g.keep a o hq)) (Nat.not_lt.mpr ha)
theorem seqKept_set (σ : Hp) (h : Heap) (o : Obj) (ds : List D) : SeqKept σ (σ.set h.objs.size ds) h (h.push o) :=
  seqKept_push σ _ h o fun b hb e => by rw [Hp.set_ne _ _ (Nat.ne_of_lt hb)]; exact e
/-- a new list, writable -/
theorem St.newList (st : St F σ m s) {ds : List D} {vs : List Value} (r : RDs s.heap σ ds vs) (t : Nat) :
    St F (σ.set s.heap.objs.size ds) m { s with heap := s.heap.push (seqObj "list" (List.toArray vs) 0), toks := t } ∧ Ev F.fr F.wr σ (σ.set s.heap.objs.size ds) s { s with heap := s.heap.push (seqObj "list" (List.toArray vs) 0), toks := t } := by
  have kq := seqKept_set σ s.heap (seqObj "list" (List.toArray vs) 0) ds
  have base := st.push (seqObj "list" (List.toArray vs) 0) t
  refine ⟨⟨⟨base.gs.keep, base.gs.frames, fun a es ha => ?_, base.gs.bare⟩, st.lr.keeps kq fun b ob e _ _ => ⟨ob, Heap.get?_push_of_some _ e, rfl⟩⟩, ?_⟩
  · by_cases q : a = s.heap.objs.size
    · subst q; rw [Hp.set_same] at ha; cases ha
      exact ⟨st.gs.base_ge (Nat.le_refl _), vs, 0, Heap.get?_push_size _ rfl, r.mono kq⟩
    · rw [Hp.set_ne _ _ q] at ha
      obtain ⟨h1, ws, n, h2, h3⟩ := st.gs.lists a es ha
      exact ⟨h1, ws, n, Heap.get?_push_of_some _ h2, h3.mono kq⟩
  · have e := Ev.push (σ := σ) (s := s) (fr := F.fr) (wr := F.wr) (seqObj "list" (List.toArray vs) 0) t
    refine ⟨e.keep, e.keepD, fun b hb => ?_, e.own, e.os, e.gens⟩
    by_cases q : b = s.heap.objs.size
    · exact .inr (Heap.get?_none_of_le (Nat.le_of_eq q.symm))
    · rw [Hp.set_ne _ _ q] at hb; exact .inl hb
noncomputable def dOf : V → Option D
  | .d p => some p
  | _ => none
noncomputable def dsOf : List V → Option (List D)
  | [] => some []
  | a :: r => match dOf a, dsOf r with
    | some p, some ps => some (p :: ps)
    | _, _ => none
theorem dsOf_map : ∀ {as : List V} {ds : List D}, dsOf as = some ds → as = ds.map .d
  | [], _, h => by simp only [dsOf] at h; cases h; rfl
  | a :: r, ds, h => by
    simp only [dsOf] at h
    cases ha : dOf a with
    | none => simp [ha] at h
    | some p =>
      cases hr : dsOf r with
      | none => simp [ha, hr] at h
      | some ps =>
        simp only [ha, hr] at h; cases h
        cases a with
        | d q => simp only [dOf] at ha; cases ha; simp [dsOf_map hr]
        | _ => simp [dOf] at ha
theorem ev_list {es : List Expr} (h : EVL F es m (fun as σ' => ∃ ds, dsOf as = some ds ∧ ds.length ≤ sizeLine ∧ ∀ a, σ' a = none → Q (.ref a) (σ'.set a ds)) X σ) : EV F (.List es pos) m Q X σ := fun s st =>
  wpAny_List (wpAny_mono (h s pos st) (fun vs s₁ ⟨as, σ₁, e1, st1, r1, ⟨ds, hd, hz, q⟩⟩ => by
    rw [dsOf_map hd] at r1
    have r1' := r1.toRDs
    refine ⟨by rw [r1'.length]; exact hz, ?_⟩
    obtain ⟨st2, e2⟩ := st1.newList r1' s₁.toks
    exact ⟨.ref s₁.heap.objs.size, _, e1.trans e2, st2, vr_ref, q _ (st1.gs.none_ge (Nat.le_refl _))⟩) fun _ _ x => x)
theorem ev_tuple {es : List Expr} {j : Nat} (h : EVL F es m (fun as σ' => as.length ≤ sizeLine ∧ Q (.tup as) σ') X σ) : EV F (.Tuple es j pos) m Q X σ := fun s st =>
  wpAny_Tuple (wpAny_mono (h s pos st) (fun vs s₁ ⟨as, σ₁, e1, st1, r1, ⟨hz, q⟩⟩ => by
    refine ⟨by rw [r1.length]; exact hz, ?_⟩
    refine ⟨.tup as, σ₁, e1.trans (Ev.push (seqObj "tuple" (List.toArray vs) 0) s₁.toks), st1.push (seqObj "tuple" (List.toArray vs) 0) s₁.toks, ?_, q⟩
    simp only [VR]
    exact ⟨s₁.heap.objs.size, vs, 0, rfl, Heap.get?_push_size _ rfl, st1.gs.none_ge (Nat.le_refl _), r1.mono (seqKept_push σ₁ σ₁ _ _ fun _ _ e => e)⟩) fun _ _ x => x)
end
theorem vr_tupD {h : Heap} {σ : Hp} {ds : List D} {v : Value} (e : VR h σ (.tup (ds.map .d)) v) : VR h σ (.d (.tuple ds)) v := by
  simp only [VR, RD] at e ⊢
  obtain ⟨a, vs, n, h1, h2, h5, h6⟩ := e
  exact ⟨a, vs, n, h1, h2, h5, h6.toRDs⟩
mutual
/-- what a returned value says by value, the callee's lists being changed no more; σ₀: the caller's -/
noncomputable def fz (σ₀ σ : Hp) : V → Option D
  | .d p => some p
  | .ref a => match σ₀ a, σ a with
    | none, some ds => some (.list ds)
    | _, _ => none
  | .tup l => match fzs σ₀ σ l with
    | some ds => some (.tuple ds)
    | none => none
  | .lst l => match fzs σ₀ σ l with
    | some ds => some (.list ds)
    | none => none
  | .rng _ _ => none
  | .obj _ => none
noncomputable def fzs (σ₀ σ : Hp) : List V → Option (List D)
  | [] => some []
  | a :: r => match fz σ₀ σ a, fzs σ₀ σ r with
    | some d, some ds => some (d :: ds)
    | _, _ => none
end
/-- the caller's lists alone -/
noncomputable def Hp.only (σ₀ σ : Hp) : Hp := fun b => if (σ₀ b).isSome then σ b else none
theorem Hp.only_none {σ₀ σ : Hp} {b : Addr} (h : σ₀ b = none) : Hp.only σ₀ σ b = none := by unfold Hp.only; rw [h]; rfl
theorem Hp.only_some {σ₀ σ : Hp} {b : Addr} {x : List D} (h : σ₀ b = some x) : Hp.only σ₀ σ b = σ b := by unfold Hp.only; rw [h]; rfl
theorem Hp.only_of {σ₀ σ : Hp} {b : Addr} {x : List D} (h : Hp.only σ₀ σ b = some x) : σ b = some x := by
  unfold Hp.only at h; split at h
  · exact h
  · cases h
theorem seqKept_only (σ₀ σ : Hp) (h : Heap) : SeqKept σ (Hp.only σ₀ σ) h h := fun b o e _ hs => by
  refine ⟨?_, e⟩
  unfold Hp.only; split
  · exact hs
  · rfl
section
variable {base : Heap} {l : List Env} {σ₀ σ : Hp} {s : Shared}
theorem GS.only (g : GS base l σ s) (σ₀ : Hp) : GS base l (Hp.only σ₀ σ) s where
  keep := g.keep
  frames := g.frames
  lists b ds hb := let ⟨h1, vs, n, h2, h3⟩ := g.lists b ds (Hp.only_of hb); ⟨h1, vs, n, h2, h3.mono (seqKept_only σ₀ σ _)⟩
  bare := g.bare
mutual
theorem fz_rd (g : GS base l σ s) : ∀ {a : V} {d : D} {v : Value}, fz σ₀ σ a = some d → VR s.heap σ a v → RD s.heap (Hp.only σ₀ σ) d v
  | .d p, d, v, h, r => by simp only [fz] at h; cases h; simp only [VR] at r; exact r.mono (seqKept_only σ₀ σ _)
  | .ref a, d, v, h, r => by
    simp only [fz] at h
    cases h0 : σ₀ a with
    | some y => simp [h0] at h
    | none =>
      cases h1 : σ a with
      | none => simp [h0, h1] at h
      | some ds =>
        simp only [h0, h1] at h; cases h
        simp only [VR] at r; subst r
        obtain ⟨_, vs, n, e2, e3⟩ := g.lists a ds h1
        simp only [RD]
        exact ⟨a, vs, n, rfl, e2, Hp.only_none h0, e3.mono (seqKept_only σ₀ σ _)⟩
  | .tup as, d, v, h, r => by
    simp only [fz] at h
    cases h0 : fzs σ₀ σ as with
    | none => simp [h0] at h
    | some ds =>
      simp only [h0] at h; cases h
      simp only [VR] at r
      obtain ⟨a, vs, n, rfl, e1, e4, e5⟩ := r
      simp only [RD]
      exact ⟨a, vs, n, rfl, e1, (seqKept_only σ₀ σ s.heap a _ e1 imm_seq e4).1, fzs_rd g h0 e5⟩
  | .lst as, d, v, h, r => by
    simp only [fz] at h
    cases h0 : fzs σ₀ σ as with
    | none => simp [h0] at h
    | some ds =>
      simp only [h0] at h; cases h
      simp only [VR] at r
      obtain ⟨a, vs, n, rfl, e1, e4, e5⟩ := r
      simp only [RD]
      exact ⟨a, vs, n, rfl, e1, (seqKept_only σ₀ σ s.heap a _ e1 imm_seq e4).1, fzs_rd g h0 e5⟩
  | .rng _ _, d, v, h, r => by simp only [fz] at h; cases h
  | .obj _, d, v, h, r => by simp only [fz] at h; cases h
theorem fzs_rd (g : GS base l σ s) : ∀ {as : List V} {ds : List D} {vs : List Value}, fzs σ₀ σ as = some ds → VRs s.heap σ as vs → RDs s.heap (Hp.only σ₀ σ) ds vs
  | [], ds, vs, h, r => by simp only [fzs] at h; cases h; simp only [VRs] at r; subst r; exact RDs.nil
  | a :: as, ds, vs, h, r => by
    simp only [fzs] at h
    obtain ⟨v, rr, rfl, r1, r2⟩ := r.uncons
    cases h0 : fz σ₀ σ a with
    | none => simp [h0] at h
    | some d =>
      cases h1 : fzs σ₀ σ as with
      | none => simp [h0, h1] at h
      | some es => simp only [h0, h1] at h; cases h; exact RDs.cons (fz_rd g h0 r1) (fzs_rd g h1 r2)
end
end
/-- where a call stands -/
structure Cc where
  prog : Program
  w : World
  base : Heap
  G : Str → Option Value
noncomputable def Fx.cc (F : Fx) : Cc := ⟨F.prog, F.w, F.base, F.G⟩
inductive CPost (c : Cc) (outer : List Env) (σ : Hp) (s : Shared) (Q : D → Hp → Prop) (v : Value) (s' : Shared) : Prop
  | mk (d : D) (σ' : Hp) (e : Ev (frAddrs outer) (fun _ => False) σ σ' s s') (gs : GS c.base outer σ' s') (r : RD s'.heap σ' d v) (q : Q d σ') : CPost c outer σ s Q v s'
inductive CExc (c : Cc) (outer : List Env) (σ : Hp) (s : Shared) (X : List Env → Value → Hp → Shared → Prop) (x : Value) (s' : Shared) : Prop
  | mk (σ' : Hp) (e : Ev (frAddrs outer) (fun _ => False) σ σ' s s') (gs : GS c.base outer σ' s') (q : X outer x σ' s') : CExc c outer σ s X x s'
noncomputable def CallPost (c : Cc) (outer : List Env) (σ : Hp) (s : Shared) (Q : D → Hp → Prop) (X : List Env → Value → Hp → Shared → Prop) : Result → Shared → Prop
  | .ok (.ret v), s' => CPost c outer σ s Q v s'
  | .ok _, _ => False
  | .error e, s' => CExc c outer σ s X e s'
/-- a call of a def of the text: its contract; k: the frames that it may want -/
noncomputable def CL (c : Cc) (k : Nat) (f : Addr) (args : List V) (Q : D → Hp → Prop) (X : List Env → Value → Hp → Shared → Prop) (σ : Hp) : Prop :=
  ∀ A outer s vs, A.frames = some outer → A.depth + k < recursionLimit → A.units + 20 * k < cLine → A.handled = none → GS c.base outer σ s → VRs s.heap σ args vs →
    codeAny (model c.prog c.w) A (.call (.ref f) ⟨vs, []⟩) (CallPost c outer σ s Q X) s
/-- the def stands at f -/
structure Fn (c : Cc) (name : Str) (params : Arguments) (body : List Stmt) (scope : Scope) (f : Addr) : Prop where
  at_ : ∃ o pm cd doc, c.base.get? f = some o ∧ o.data = .func (Calls.docDef name params body scope pm cd doc) ∧ c.base.CodeRec cd name
theorem lookup_bindL {kindOf : Str → Option NameKind} : ∀ (binds : List (Str × Value)) (m : Str → Option Value) (x : Str), kindOf x = some .local →
    (∀ p ∈ binds, kindOf p.1 = some .local ∨ kindOf p.1 = some .cell) → (binds.map (·.1)).Nodup → bindL kindOf binds m x = (binds.lookup x).or (m x)
  | [], m, x, _, _, _ => by simp [bindL]
  | (n, v) :: r, m, x, hx, hk, hn => by
    rw [List.map_cons, List.nodup_cons] at hn
    rw [bindL, lookup_bindL r _ x hx (fun p hp => hk p (List.mem_cons_of_mem _ hp)) hn.2, List.lookup_cons]
    by_cases e : x = n
    · subst e
      have h1 : r.lookup x = none := by
        cases hq : r.lookup x with
        | none => rfl
        | some y => exact absurd (List.mem_map.mpr ⟨_, mem_of_look hq, rfl⟩) hn.1
      simp [hx, h1]
    · have hb : (x == n) = false := by simpa using e
      rw [hb]
      split
      · simp [e]
      · rfl
theorem lookup_bindC {kindOf : Str → Option NameKind} : ∀ (binds : List (Str × Value)) (m : Str → Option Value) (x : Str), kindOf x = some .cell →
    (binds.map (·.1)).Nodup → bindC kindOf binds m x = (binds.lookup x).or (m x)
  | [], m, x, _, _ => by simp [bindC]
  | (n, v) :: r, m, x, hx, hn => by
    rw [List.map_cons, List.nodup_cons] at hn
    rw [bindC, lookup_bindC r _ x hx hn.2, List.lookup_cons]
    by_cases e : x = n
    · subst e
      have h1 : r.lookup x = none := by
        cases hq : r.lookup x with
        | none => rfl
        | some y => exact absurd (List.mem_map.mpr ⟨_, mem_of_look hq, rfl⟩) hn.1
      simp [hx, h1]
    · have hb : (x == n) = false := by simpa using e
      rw [hb]
      split
      · rfl
      · simp [e]
theorem zip_lookup {h : Heap} {σ : Hp} : ∀ (ns : List Str) {as : List V} {vs : List Value}, VRs h σ as vs → ∀ x a, (ns.zip as).lookup x = some a → ∃ v, (ns.zip vs).lookup x = some v ∧ VR h σ a v
  | [], _, _, _, x, a, e => by simp at e
  | n :: ns, [], _, _, x, a, e => by simp at e
  | n :: ns, b :: as, _, r, x, a, e => by
    obtain ⟨v, rr, rfl, r1, r2⟩ := r.uncons
    rw [List.zip_cons_cons, List.lookup_cons] at e ⊢
    by_cases q : (x == n) = true
    · simp only [q] at e ⊢; cases e; exact ⟨v, rfl, r1⟩
    · simp only [Bool.not_eq_true] at q; simp only [q] at e ⊢; exact zip_lookup ns r2 x a e
theorem mem_cellsFrom {x : Str} {ca : Addr} : ∀ (names : List (Str × NameKind)) (n : Nat) (acc : List (Str × Addr)), (x, ca) ∈ cellsFrom n names acc → (x, ca) ∈ acc ∨ (x, NameKind.cell) ∈ names
  | [], _, _, h => .inl h
  | (y, kk) :: rest, n, acc, h => by
    unfold cellsFrom at h
    by_cases hkk : (kk == NameKind.cell) = true
    · rw [if_pos hkk] at h
      rcases mem_cellsFrom rest _ _ h with q | q
      · rcases List.mem_cons.mp q with q | q
        · refine .inr ?_
          rw [(Prod.mk.inj q).1, eq_of_beq hkk]; exact List.mem_cons_self
        · exact .inl q
      · exact .inr (List.mem_cons_of_mem _ q)
    · rw [if_neg hkk] at h
      rcases mem_cellsFrom rest _ _ h with q | q
      · exact .inl q
      · exact .inr (List.mem_cons_of_mem _ q)
theorem cellsFrom_nodup : ∀ (names : List (Str × NameKind)) (n : Nat) (acc : List (Str × Addr)), (names.map (·.1)).Nodup → (∀ x ∈ acc.map (·.1), x ∉ names.map (·.1)) → (acc.map (·.1)).Nodup → ((cellsFrom n names acc).map (·.1)).Nodup
  | [], _, _, _, _, h => h
  | (y, kk) :: rest, n, acc, h1, h2, h3 => by
    rw [List.map_cons, List.nodup_cons] at h1
    unfold cellsFrom
    split
    · refine cellsFrom_nodup rest _ _ h1.2 (fun x hx => ?_) ?_
      · rcases List.mem_cons.mp (by simpa using hx : x ∈ y :: acc.map (·.1)) with q | q
        · rw [q]; exact h1.1
        · exact fun hm => h2 x q (List.mem_cons_of_mem _ hm)
      · show (y :: acc.map (·.1)).Nodup
        exact List.nodup_cons.mpr ⟨fun hm => h2 y hm List.mem_cons_self, h3⟩
    · exact cellsFrom_nodup rest _ _ h1.2 (fun x hx hm => h2 x hx (List.mem_cons_of_mem _ hm)) h3
theorem lookup_of_mem {β : Type} : ∀ {l : List (Str × β)} {x : Str} {c : β}, (l.map (·.1)).Nodup → (x, c) ∈ l → l.lookup x = some c
  | (y, d) :: r, x, c, hn, h => by
    rw [List.map_cons, List.nodup_cons] at hn
    rw [List.lookup_cons]
    rcases List.mem_cons.mp h with q | q
    · obtain ⟨rfl, rfl⟩ := Prod.mk.inj q; simp
    · have : (x == y) = false := by
        have hne : x ≠ y := fun e => hn.1 (e ▸ List.mem_map.mpr ⟨_, q, rfl⟩)
        simpa using hne
      rw [this]; exact lookup_of_mem hn.2 q
/-- the frame that a call of a def makes -/
noncomputable def frameOf' (c : Cc) (A : Around) (outer : List Env) (name : Str) (scope : Scope) (L f : Addr) (cd : Value) : Fx :=
  { prog := c.prog, w := c.w, base := c.base, A := A.deeper (envOfC name scope L f cd), env := envOfC name scope L f cd, outer := outer, G := c.G }
/-- a def's contract by its body, nothing being raised -/
theorem cl_fn {c : Cc} {k : Nat} {name : Str} {params : Arguments} {body : List Stmt} {scope : Scope} {f : Addr} {args : List V} {Q : D → Hp → Prop} {X : List Env → Value → Hp → Shared → Prop} {σ : Hp}
    (hf : Fn c name params body scope f) (bs : Bs c.base c.G) (ns : List Str)
    (hbind : ∀ pm cd doc (vs : List Value), vs.length = args.length → bindArgs (Calls.docDef name params body scope pm cd doc) ⟨vs, []⟩ = pure (ns.zip vs))
    (hlen : ns.length = args.length)
    (hkinds : (ns.all fun n => scope.names.lookup n == some .local || scope.names.lookup n == some .cell) = true) (hnd : ns.Nodup) (hnn : (scope.names.map (·.1)).Nodup)
    (hco : scope.isCoroutine = false) (hgen : scope.isGenerator = false) (hk : scope.kind = .function)
    (h : ∀ A outer L cd, A.handled = none → (frameOf' c A outer name scope L f cd).Ok k → EXs (frameOf' c A outer name scope L f cd) body (fun x => (ns.zip args).lookup x)
      (fun fl m' σ' => ∃ d, (match fl with | .ret a => fz σ σ' a | .next => some .none | _ => none) = some d ∧ Q d (Hp.only σ σ')) NoX σ) :
    CL c (k + 1) f args Q X σ := by
  intro A outer s vs hA hd hu hh g r
  obtain ⟨o, pm, cd, doc, ho, hdat, hcd⟩ := hf.at_
  have hlv : vs.length = args.length := r.length
  have hkind : ∀ x ∈ ns.zip vs, scope.names.lookup x.1 = some .local ∨ scope.names.lookup x.1 = some .cell := fun x hx => by
    have hm := List.all_eq_true.mp hkinds x.1 (List.of_mem_zip (show (x.1, x.2) ∈ ns.zip vs from hx)).1
    simpa using hm
  refine call_cells (binds := ns.zip vs) (Nat.lt_of_le_of_lt (Nat.le_add_right _ _) hd) (g.keep _ _ ho) hdat (bs.nolimit.keeps g.keep) (hcd.keeps g.keep) (hbind pm cd doc vs hlv) (fun x hx => ?_) (fun h₁ tk Fr1 C1 => ?_) hco hgen hk
  · rcases hkind x hx with q | q
    · exact .inl q
    · exact .inr ⟨q, cellsFrom_some _ _ _ (.inl q)⟩
  · have hnz : ((ns.zip vs).map (·.1)).Nodup := by
      rw [List.map_fst_zip (by rw [hlen, hlv]; exact Nat.le_refl _)]; exact hnd
    have hLn : c.base.get? s.heap.objs.size = none := g.base_ge (Nat.le_refl _)
    have ok : (frameOf' c A outer name scope s.heap.objs.size f cd).Ok k := by
      refine ⟨Around.frames_deeper hA, fun _ => rfl, hk, rfl, rfl, ?_, ?_, C1.apart, fun p hp => Nat.ne_of_lt (C1.above p.1 p.2 hp), ?_, ?_, bs⟩
      · show A.depth + 1 + k < _; lia
      · show A.units + 3 + 20 * k < _; lia
      · show (scope.kind == .module && _) = false; rw [hk]; rfl
      · intro b hb
        rcases hb with rfl | hb
        · exact hLn
        · obtain ⟨p, hp, rfl⟩ := List.mem_map.mp hb.2
          exact g.base_ge (Nat.le_of_lt (C1.above p.1 p.2 hp))
    have kq : SeqKept σ σ s.heap h₁ := fun b ob e _ hs => ⟨hs, Fr1.keep b ob e⟩
    have st : St (frameOf' c A outer name scope s.heap.objs.size f cd) σ (fun x => (ns.zip args).lookup x) { s with heap := h₁, toks := tk } := by
      refine ⟨⟨fun b ob e => Fr1.keep b ob (g.keep b ob e), ?_, fun a ds ha => ?_, g.bare⟩, ⟨⟨_, Fr1.ns, fun x a hx hm => ?_⟩, fun x ca hc => ?_, fun p hp => ?_⟩⟩
      · obtain ⟨oL, es, ep, e1, e2, _⟩ := Fr1.ns
        exact ⟨by show scope.kind ≠ .module; rw [hk]; decide, ⟨_, oL, es, ep, rfl, hLn, e1, e2⟩, g.frames.of fun b ob es ep e hd => ⟨ob, es, ep, Fr1.keep b ob e, hd⟩⟩
      · obtain ⟨h1, ws, n, h2, h3⟩ := g.lists a ds ha
        exact ⟨h1, ws, n, Fr1.keep _ _ h2, h3.mono kq⟩
      · obtain ⟨v, e1, e2⟩ := zip_lookup ns r x a hm
        refine ⟨v, ?_, e2.mono kq⟩
        exact (lookup_bindL (kindOf := (envOfC name scope s.heap.objs.size f cd).kindOf) _ _ x hx hkind hnz).trans (by rw [e1]; rfl)
      · obtain ⟨oc, e1, e2⟩ := C1.cell x ca hc
        refine ⟨oc, _, e1, e2, fun a hm => ?_⟩
        obtain ⟨v, e3, e4⟩ := zip_lookup ns r x a hm
        refine ⟨v, ?_, e4.mono kq⟩
        have hkx : scope.names.lookup x = some .cell := by
          rcases mem_cellsFrom _ _ _ (mem_of_look hc) with q | q
          · cases q
          · exact lookup_of_mem hnn q
        exact (lookup_bindC (kindOf := (envOfC name scope s.heap.objs.size f cd).kindOf) _ _ x hkx hnz).trans (by rw [e3]; rfl)
      · obtain ⟨oc, e1, e2⟩ := C1.cell p.1 p.2 (lookup_of_mem (cellsFrom_nodup _ _ _ hnn (fun _ h => by cases h) List.nodup_nil) hp)
        exact ⟨oc, _, e1, e2⟩
    refine wpAny_mono (h A outer s.heap.objs.size cd hh ok _ st) (fun fl s' ⟨fl', m', σ', e1, st', r', ⟨d, hd', q⟩⟩ => ?_) fun _ _ ⟨_, _, _, _, x⟩ => x.elim
    have hnw : ∀ b ob, s.heap.get? b = some ob → ¬ (frameOf' c A outer name scope s.heap.objs.size f cd).wr b := fun b ob e hb => by
      have hlt := Heap.lt_size e
      rcases hb with rfl | hb
      · exact Nat.lt_irrefl _ hlt
      · obtain ⟨p, hp, rfl⟩ := List.mem_map.mp hb.2
        exact Nat.lt_irrefl _ (Nat.lt_trans hlt (C1.above p.1 p.2 hp))
    have ev2 : Ev (frAddrs outer) (fun _ => False) σ (Hp.only σ σ') s s' := by
      refine ⟨fun b ob e h1 _ h3 => e1.keep b ob (Fr1.keep b ob e) h1 (hnw b ob e) h3, fun b ob e h1 _ => e1.keepD b ob (Fr1.keep b ob e) h1 (hnw b ob e), fun b hb => ?_, fun b ob e => e1.own b ob (Fr1.keep b ob e), e1.os, e1.gens⟩
      cases hq : σ b with
      | none => exact absurd (Hp.only_none hq) hb
      | some y => exact .inl (fun q => nomatch q)
    have g2 : GS c.base outer (Hp.only σ σ') s' := (⟨st'.gs.keep, st'.gs.frames.2.2, st'.gs.lists, st'.gs.bare⟩ : GS c.base outer σ' s').only σ
    cases fl' with
    | ret a =>
      obtain ⟨v, rfl, r2⟩ := r'
      exact ⟨d, _, ev2, g2, fz_rd st'.gs hd' r2, q⟩
    | next =>
      simp only [FR] at r'; subst r'
      simp only at hd'; cases hd'
      exact ⟨.none, _, ev2, g2, by simp only [RD], q⟩
    | brk => simp at hd'
    | cont => simp at hd'
noncomputable def asL (σ : Hp) : V → Option (List D)
  | .ref a => σ a
  | .d (.list ds) => some ds
  | _ => none
theorem asL_at {base : Heap} {l : List Env} {σ : Hp} {s : Shared} {a : V} {v : Value} {ds : List D} (g : GS base l σ s) (r : VR s.heap σ a v) (h : asL σ a = some ds) :
    ∃ b vs n, v = .ref b ∧ s.heap.get? b = some (seqObj "list" (List.toArray vs) n) ∧ RDs s.heap σ ds vs := by
  cases a with
  | ref b =>
    simp only [asL] at h; obtain rfl := r.ref
    obtain ⟨_, vs, n, e1, e2⟩ := g.lists b ds h
    exact ⟨b, vs, n, rfl, e1, e2⟩
  | d p =>
    cases p with
    | list es =>
      simp only [asL] at h; cases h
      simp only [VR, RD] at r
      obtain ⟨b, vs, n, rfl, e1, _, e2⟩ := r
      exact ⟨b, vs, n, rfl, e1, e2⟩
    | _ => simp [asL] at h
  | _ => simp [asL] at h
section
variable {F : Fx} {k : Nat} {m : Lo} {Q : V → Hp → Prop} {X : Value → Hp → Shared → Prop} {σ σ' : Hp} {s s' : Shared} {x : Str} {pos p : Pos}
/-- a writable list has been changed -/
theorem St.setList (st : St F σ m s) {b : Addr} {ds ds' : List D} (hb : σ b = some ds) {h' : Heap} {vs' : List Value} {n' t : Nat} (hs : Heap.SameBut b s.heap h')
    (ho : h'.get? b = some (seqObj "list" (List.toArray vs') n')) (r : RDs s.heap σ ds' vs') :
    St F (σ.set b ds') m { s with heap := h', toks := t } ∧ Ev F.fr F.wr σ (σ.set b ds') s { s with heap := h', toks := t } := by
  obtain ⟨hbase, vs, n, e1, _⟩ := st.gs.lists b ds hb
  have hne : ∀ c, σ c = none → c ≠ b := fun c hc q => by rw [q, hb] at hc; cases hc
  have kq : SeqKept σ (σ.set b ds') s.heap h' := fun c o e _ hc => ⟨(Hp.set_ne _ _ (hne c hc)).trans hc, (hs.2 c (hne c hc)).trans e⟩
  refine ⟨⟨⟨fun c o e => (hs.2 c fun q => by rw [q, hbase] at e; cases e).trans (st.gs.keep c o e), ?_, fun c es hc => ?_, st.gs.bare⟩, st.lr.keeps kq fun c o e hd _ => ?_⟩, ?_⟩
  · exact st.gs.frames.of fun c o es ep e hd => ⟨o, es, ep, (hs.2 c fun q => by rw [q, e1] at e; cases e; cases hd).trans e, hd⟩
  · by_cases q : c = b
    · subst q; rw [Hp.set_same] at hc; cases hc; exact ⟨hbase, vs', n', ho, r.mono kq⟩
    · rw [Hp.set_ne _ _ q] at hc
      obtain ⟨h1, ws, j, h2, h3⟩ := st.gs.lists c es hc
      exact ⟨h1, ws, j, (hs.2 c q).trans h2, h3.mono kq⟩
  · exact ⟨o, (hs.2 c fun q => by rw [q, e1] at e; cases e; exact hd _ _ rfl).trans e, rfl⟩
  · refine ⟨fun c o e h1 _ _ _ => (hs.2 c (hne c h1)).trans e, fun c o e h1 _ _ => ⟨o, (hs.2 c (hne c h1)).trans e, rfl, rfl⟩, fun c hc => .inl fun q => ?_, fun c o e => (by by_cases q : c = b; (subst q; exact ⟨_, ho⟩); exact ⟨o, (hs.2 c q).trans e⟩), rfl, fun _ _ e => e⟩
    exact hc ((Hp.set_ne _ _ (hne c q)).trans q)
-- calls
noncomputable def BC (F : Fx) (m : Lo) (f : Value) (args : List V) (Q : V → Hp → Prop) (X : Value → Hp → Shared → Prop) (σ : Hp) : Prop :=
  ∀ s vs, St F σ m s → VRs s.heap σ args vs → TV F (call f vs) m Q X σ s
theorem evalArgs_evl {f : Value} {es : List Expr} {QL : List V → Hp → Prop} {Z : Args → Shared → Prop} (hst : starEach es F.env = es.map fun e => (false, eval e F.env)) (h : EVL F es m QL X σ) (st : St F σ m s) (ev₀ : Ev F.fr F.wr σ' σ s' s)
    (hk : ∀ vs as σ₁ s₁, Ev F.fr F.wr σ σ₁ s s₁ → Ev F.fr F.wr σ' σ₁ s' s₁ → St F σ₁ m s₁ → VRs s₁.heap σ₁ as vs → QL as σ₁ → Z ⟨vs, []⟩ s₁) :
    wpAny F.M F.A (evalArgs f true (backTo pos (starEach es F.env)) []) Z (VExc F m σ' s' X) s := by
  have h1 := h s pos st
  cases es with
  | nil =>
    unfold evalArgs
    show wpAny F.M F.A (spliced (backTo pos (starEach [] F.env)) >>= _) Z _ s
    refine wpAny_bind (wpAny_mono h1 (fun vs s₁ ⟨as, σ₁, e1, e2, e3, e4⟩ => ?_) fun _ _ ⟨σ₁, e1, e2, e3⟩ => ⟨σ₁, ev₀.trans e1, e2, e3⟩)
    refine wpAny_bind (wpAny_pure ?_)
    refine wpAny_holding ?_
    exact wpAny_bind (wpAny_pure (wpAny_bind (wpAny_pure (wpAny_pure (hk vs as σ₁ s₁ e1 (ev₀.trans e1) e2 e3 e4)))))
  | cons e rest =>
    rw [hst] at h1 ⊢
    exact Calls.evalArgs_plain (wpAny_mono h1 (fun vs s₁ ⟨as, σ₁, e1, e2, e3, e4⟩ => hk vs as σ₁ s₁ e1 (ev₀.trans e1) e2 e3 e4) fun _ _ ⟨σ₁, e1, e2, e3⟩ => ⟨σ₁, ev₀.trans e1, e2, e3⟩)
theorem any_star {es : List Expr} (hst : starEach es F.env = es.map fun e => (false, eval e F.env)) : (backTo pos (starEach es F.env)).any (·.1) = false := by
  rw [hst]; unfold backTo; simp
/-- a built-in function, by its global name -/
theorem ev_callB {fn : Str} {es : List Expr} {id : String} (ok : F.Ok k) (hl : F.env.kindOf fn = some .globalImplicit) (hG : F.G fn = some (.builtin id)) (hd : (fn == ("__debug__" : Str)) = false)
    (hst : starEach es F.env = es.map fun e => (false, eval e F.env))
    (h : EVL F es m (fun as σ₁ => BC F m (.builtin id) as Q X σ₁) X σ) : EV F (.Call (.Name fn p) es [] pos) m Q X σ := fun s st =>
  wpAny_Call_NameR ((ev_global (pos := p) (Q := fun a σ₁ => a = .obj (.builtin id) ∧ σ₁ = σ) ok hl hG ⟨rfl, rfl⟩ hd s st).seq Ev.refl fun v a σ₁ s₁ _ e1 st1 r1 ⟨q1, q2⟩ => by
    subst q1 q2
    obtain rfl := r1.obj
    exact Calls.callWith_builtin (any_star hst) (evalArgs_evl hst h st1 e1 fun vs as σ₂ s₂ _ e2 st2 r2 q => (q s₂ vs st2 r2).lift e2))
theorem ev_callT {fn : Str} {es : List Expr} {T : String} (ok : F.Ok k) (hl : F.env.kindOf fn = some .globalImplicit) (hG : F.G fn = some (.type T)) (hd : (fn == ("__debug__" : Str)) = false)
    (hst : starEach es F.env = es.map fun e => (false, eval e F.env))
    (h : EVL F es m (fun as σ₁ => BC F m (.type T) as Q X σ₁) X σ) : EV F (.Call (.Name fn p) es [] pos) m Q X σ := fun s st =>
  wpAny_Call_NameR ((ev_global (pos := p) (Q := fun a σ₁ => a = .obj (.type T) ∧ σ₁ = σ) ok hl hG ⟨rfl, rfl⟩ hd s st).seq Ev.refl fun v a σ₁ s₁ _ e1 st1 r1 ⟨q1, q2⟩ => by
    subst q1 q2
    obtain rfl := r1.obj
    exact PyProof.Rows.callWith_type (any_star hst) (evalArgs_evl hst h st1 e1 fun vs as σ₂ s₂ _ e2 st2 r2 q => (q s₂ vs st2 r2).lift e2))
theorem St.after (ok : F.Ok k) (st : St F σ m s) (g : GS F.base F.frs σ' s') (e : Ev (frAddrs F.frs) (fun _ => False) σ σ' s s') : St F σ' m s' ∧ Ev F.fr F.wr σ σ' s s' := by
  refine ⟨⟨g, st.lr.keeps (st.gs.seqKept e) fun b o hb hs hf => ?_⟩, e.weaken (fun b hb => ?_) (fun _ h => h.elim)⟩
  · have hσ : σ b = none := by
      cases hq : σ b with
      | none => rfl
      | some ds =>
        obtain ⟨_, vs, n, e1, _⟩ := st.gs.lists b ds hq
        rw [hb] at e1; cases e1; exact absurd rfl (hs _ _)
    obtain ⟨o', e1, _, e2⟩ := e.keepD b o hb hσ (fun h => h) (notX_data hf)
    exact ⟨o', e1, e2⟩
  · exact (ok.frs_mem hb).symm
/-- a def of the text, by its contract -/
theorem ev_call {fn : Str} {es : List Expr} {fa : Addr} {o : Obj} {fd : FuncData} {j : Nat} (ok : F.Ok k) (hjk : j ≤ k) (hl : F.env.kindOf fn = some .globalImplicit) (hG : F.G fn = some (.ref fa)) (ho : F.base.get? fa = some o) (hdat : o.data = .func fd) (hd : (fn == ("__debug__" : Str)) = false)
    (hh : F.A.handled = none) (hst : starEach es F.env = es.map fun e => (false, eval e F.env))
    (h : EVL F es m (fun as σ₁ => CL F.cc j fa as (fun d σ₂ => Q (.d d) σ₂) (fun _ => X) σ₁) X σ) : EV F (.Call (.Name fn p) es [] pos) m Q X σ := fun s st =>
  wpAny_Call_NameR ((ev_global (pos := p) (Q := fun a σ₁ => a = .obj (.ref fa) ∧ σ₁ = σ) ok hl hG ⟨rfl, rfl⟩ hd s st).seq Ev.refl fun v a σ₁ s₁ _ e1 st1 r1 ⟨q1, q2⟩ => by
    subst q1 q2
    obtain rfl := r1.obj
    refine Calls.callWith_function (o := o) (fd := fd) (evalArgs_evl hst h st1 e1 fun vs as σ₂ s₂ _ e2 st2 r2 q => ⟨⟨st2.gs.keep _ _ ho, hdat⟩, wpAny_call (codeAny_mono (q F.A F.frs s₂ vs ok.frames ?_ ?_ hh st2.gs r2) fun r s₃ hr => ?_)⟩)
    · have := ok.depth; lia
    · have := ok.units; lia
    · match r, hr with
      | .ok (.ret v), ⟨d, σ₃, e3, g3, r3, q3⟩ =>
        obtain ⟨st3, e3'⟩ := st2.after ok g3 e3
        exact ⟨.d d, σ₃, e2.trans e3', st3, by simpa only [VR] using r3, q3⟩
      | .error e, ⟨σ₃, e3, g3, q3⟩ =>
        obtain ⟨st3, e3'⟩ := st2.after ok g3 e3
        exact ⟨σ₃, e2.trans e3', st3, q3⟩)
end
section
variable {F : Fx} {k : Nat} {m : Lo} {Q : V → Hp → Prop} {X : Value → Hp → Shared → Prop} {σ σ' : Hp} {s s' : Shared} {x : Str} {pos p : Pos}
/-- a method of a list or a str -/
theorem ev_meth {o : Expr} {name : Str} {es : List Expr} {T id : String} {apos : Pos}
    (hbase : attributeBase o name F.env (eval o F.env) = eval o F.env)
    (hfew : ((backTo pos (starEach es F.env)).all (fun x => !x.1) && (backToKw pos (keywordEach [] F.env)).all (fun x => x.1.isSome)
      && decide (es.length + ([] : List Keyword).length + (if ([] : List Keyword).isEmpty then 0 else 1) < 30)) = true)
    (hline : (apos.endLine == pos.line) = true) (hst : starEach es F.env = es.map fun e => (false, eval e F.env))
    (pa : PlainAttrs T) (slot : Slot T name id) (hty : typeOf (.builtin id) = pure (.type "method_descriptor"))
    (h : EV F o m (fun a σ₁ => (∀ s v, St F σ₁ m s → VR s.heap σ₁ a v → s.TypeIs v T ∧ ∀ b, v = .ref b → ∃ ob, s.heap.get? b = some ob ∧ ob.dict = none) ∧
      EVL F es m (fun as σ₂ => BC F m (.builtin id) (a :: as) Q X σ₂) X σ₁) X σ) : EV F (.Call (.Attribute o name apos) es [] pos) m Q X σ := fun s st =>
  wpAny_Call_method hbase hfew hline pa slot hty ((h s st).seq Ev.refl fun v a σ₁ s₁ _ e1 st1 r1 ⟨q1, q2⟩ =>
    ⟨(q1 s₁ v st1 r1).1, (q1 s₁ v st1 r1).2, Calls.callWith_builtin (any_star hst) (evalArgs_evl hst q2 st1 e1 fun vs as σ₂ s₂ e2 e2' st2 r2 q => (q s₂ (v :: vs) st2 (VRs.cons (st1.vr e2 r1) r2)).lift e2')⟩)
theorem list_typed {a : V} {ds : List D} (h : asL σ a = some ds) : ∀ s v, St F σ m s → VR s.heap σ a v → s.TypeIs v "list" ∧ ∀ b, v = .ref b → ∃ ob, s.heap.get? b = some ob ∧ ob.dict = none := fun s v st r => by
  obtain ⟨b, vs, n, rfl, e1, _⟩ := asL_at st.gs r h
  exact ⟨⟨_, e1, rfl⟩, fun c hc => by cases hc; exact ⟨_, e1, rfl⟩⟩
theorem str_typed {y : Str} : ∀ s v, St F σ m s → VR s.heap σ (.d (.str y)) v → s.TypeIs v "str" ∧ ∀ b, v = .ref b → ∃ ob, s.heap.get? b = some ob ∧ ob.dict = none := fun s v st r => by
  obtain ⟨t, rfl⟩ := r.str
  exact ⟨typeIs_str s y t, fun c hc => by cases hc⟩
theorem sizeLine_big : (2 : Nat) ^ 23 ≤ sizeLine := by rw [sizeLine_eq]; decide
theorem szl {n : Nat} (h : n ≤ 2 ^ 23) : n ≤ sizeLine := Nat.le_trans h sizeLine_big
theorem bc_append {b : Addr} {ds : List D} {d : D} (hb : σ b = some ds) (hz : ds.length < 2 ^ 23) (q : Q (.d .none) (σ.set b (ds ++ [d]))) : BC F m (.builtin "list.append") [.ref b, .d d] Q X σ := fun s vs st r => by
  obtain ⟨v, w, rfl, r1, r2⟩ := r.two
  obtain rfl := r1.ref
  obtain ⟨_, vs, n, e1, e2⟩ := st.gs.lists b ds hb
  have hlen := e2.length
  have r2' : RD s.heap σ d w := by simpa only [VR] using r2
  refine call_meets PySem.F.slot_list_append ⟨_, e1, rfl⟩ PySem.F.entry_list_append (PySem.F.args_list_append_2 _ _) (list_append b (List.toArray vs) n w (by rw [List.size_toArray, hlen]; have := sizeLine_big; lia  )) ⟨e1, ?_⟩
  have u := IsL.update e1 (fun x_1 => x_1.push w)
  rw [show (List.toArray vs).push w = List.toArray (vs ++ [w]) by simp] at u
  obtain ⟨st', ev'⟩ := st.setList (t := s.toks) hb (Heap.SameBut.update s.heap b _) u (e2.append (RDs.cons r2' RDs.nil))
  exact ⟨.d .none, _, ev', st', vr_none, q⟩
theorem bc_pop {b : Addr} {ds : List D} {d : D} (hb : σ b = some (ds ++ [d])) (hz : ds.length < 2 ^ 23) (q : Q (.d d) (σ.set b ds)) : BC F m (.builtin "list.pop") [.ref b] Q X σ := fun s vs st r => by
  obtain ⟨v, rfl, r1⟩ := r.one
  obtain rfl := r1.ref
  obtain ⟨_, vs, n, e1, e2⟩ := st.gs.lists b _ hb
  have hlen := e2.length
  rw [List.length_append, List.length_singleton] at hlen
  obtain ⟨w, e3, e4⟩ := e2.get ds.length (p := d) (by simp)
  have hsz : (List.toArray vs).size - 1 = ds.length := by rw [List.size_toArray, hlen]; lia
  refine call_meets PySem.F.slot_list_pop ⟨_, e1, rfl⟩ PySem.F.entry_list_pop (PySem.F.args_list_pop_1 _) (MeetsSeq.list_pop_last b (List.toArray vs) n w (by rw [hsz]; simpa using e3) (by rw [List.size_toArray, hlen]; have := sizeLine_big; lia  )) ⟨e1, ?_⟩
  have u := IsL.update e1 (fun xs => xs.eraseIdxIfInBounds ((List.toArray vs).size - 1))
  have hE : (List.toArray vs).eraseIdxIfInBounds ((List.toArray vs).size - 1) = List.toArray (vs.take ds.length) := by
    rw [hsz]
    unfold Array.eraseIdxIfInBounds
    rw [dif_pos (by rw [List.size_toArray]; lia  )]
    simp only [List.eraseIdx_toArray]
    congr 1
    rw [List.eraseIdx_eq_take_drop_succ, List.drop_eq_nil_of_le (by lia  ), List.append_nil]
  rw [hE] at u
  have r5 := RDs.take ds.length e2
  rw [List.take_left] at r5
  obtain ⟨st', ev'⟩ := st.setList (t := s.toks) hb (Heap.SameBut.update s.heap b _) u r5
  exact ⟨.d d, _, ev', st', (show VR s.heap σ (.d d) w by simpa only [VR] using e4) |> (st.vr ev'), q⟩
theorem bc_popAt {b : Addr} {ds : List D} {i : Int} {d : D} (hb : σ b = some ds) (hz : ds.length < 2 ^ 23) (h0 : 0 ≤ i) (hi : ds[i.toNat]? = some d) (q : Q (.d d) (σ.set b (ds.eraseIdx i.toNat))) : BC F m (.builtin "list.pop") [.ref b, .d (.int i)] Q X σ := fun s vs st r => by
  obtain ⟨v, w, rfl, r1, r2⟩ := r.two
  obtain rfl := r1.ref
  obtain ⟨t, rfl⟩ := r2.int
  obtain ⟨_, vs, n, e1, e2⟩ := st.gs.lists b _ hb
  have hlen := e2.length
  obtain ⟨w, e3, e4⟩ := e2.get i.toNat hi
  have hlt : i.toNat < ds.length := (List.getElem?_eq_some_iff.mp hi).1
  have hsx : seqIndex? i (List.toArray vs).size = some i.toNat := seqIndex_of h0 (by rw [List.size_toArray]; lia  )
  refine call_meets PySem.F.slot_list_pop ⟨_, e1, rfl⟩ PySem.F.entry_list_pop (PySem.F.args_list_pop_2 _ _) (MeetsSeq.list_pop_at b (List.toArray vs) n i t i.toNat w (fitsIndex_of h0 (by lia  )) hsx (by simpa using e3) (by rw [List.size_toArray, hlen]; have := sizeLine_big; lia  )) ⟨e1, ?_⟩
  have u := IsL.update e1 (fun xs => xs.eraseIdxIfInBounds i.toNat)
  have hE : (List.toArray vs).eraseIdxIfInBounds i.toNat = List.toArray (vs.eraseIdx i.toNat) := by
    unfold Array.eraseIdxIfInBounds
    rw [dif_pos (by rw [List.size_toArray]; lia  )]
    simp only [List.eraseIdx_toArray]
  rw [hE] at u
  have r5 : RDs s.heap σ (ds.eraseIdx i.toNat) (vs.eraseIdx i.toNat) := by
    rw [List.eraseIdx_eq_take_drop_succ, List.eraseIdx_eq_take_drop_succ]
    exact (RDs.take _ e2).append (RDs.drop _ e2)
  obtain ⟨st', ev'⟩ := st.setList (t := s.toks) hb (Heap.SameBut.update s.heap b _) u r5
  exact ⟨.d d, _, ev', st', (show VR s.heap σ (.d d) w by simpa only [VR] using e4) |> (st.vr ev'), q⟩
theorem bc_extend {b : Addr} {a : V} {ds es : List D} (hb : σ b = some ds) (ha : asL σ a = some es) (hz : ds.length + es.length < 2 ^ 23) (q : Q (.d .none) (σ.set b (ds ++ es))) : BC F m (.builtin "list.extend") [.ref b, a] Q X σ := fun s vs st r => by
  obtain ⟨v, w, rfl, r1, r2⟩ := r.two
  obtain rfl := r1.ref
  obtain ⟨_, vs, n, e1, e2⟩ := st.gs.lists b ds hb
  obtain ⟨c, ws, j, rfl, e3, e4⟩ := asL_at st.gs r2 ha
  have hlen := e2.length
  have hlen2 := e4.length
  have hbig := sizeLine_big
  refine call_meets PySem.F.slot_list_extend ⟨_, e1, rfl⟩ PySem.F.entry_list_extend (PySem.F.args_list_extend_2 _ _) (AutoSeq1.list_extend_list_list_0 b (List.toArray vs) n c (List.toArray ws) j ?_ (by rw [List.size_toArray]; lia  ) (by rw [List.size_toArray, List.size_toArray]; lia  )) ⟨e1, e3, ?_⟩
  · rw [List.size_toArray, List.size_toArray]
    have : Builtin.List.listTooLong (vs.length + ws.length) = false := by
      unfold Builtin.List.listTooLong
      exact decide_eq_false (by rw [hlen, hlen2]; rw [sizeLine_eq] at *; lia  )
    rw [this]; simp
  · have u := IsL.update e1 (fun xs => xs ++ List.toArray ws)
    rw [show List.toArray vs ++ List.toArray ws = List.toArray (vs ++ ws) by simp] at u
    obtain ⟨st', ev'⟩ := st.setList (t := s.toks) hb (Heap.SameBut.update s.heap b _) u (e2.append e4)
    exact ⟨.d .none, _, ev', st', vr_none, q⟩
theorem bc_lenL {a : V} {ds : List D} (ha : asL σ a = some ds) (hz : ds.length < 2 ^ 23) (q : Q (.d (.int ds.length)) σ) : BC F m (.builtin "len") [a] Q X σ := fun s vs st r => by
  obtain ⟨v, rfl, r1⟩ := r.one
  obtain ⟨b, vs, n, rfl, e1, e2⟩ := asL_at st.gs r1 ha
  have hlen := e2.length
  refine Calls.call_len_list ⟨_, e1, rfl, n, rfl⟩ (by rw [List.size_toArray]; lia  ) ?_
  rw [List.size_toArray, hlen]
  first | exact TV.tok st _ vr_int q | exact TV.here st vr_int q
theorem bc_lenS {y : Str} (hz : y.length < 2 ^ 23) (q : Q (.d (.int y.length)) σ) : BC F m (.builtin "len") [.d (.str y)] Q X σ := fun s vs st r => by
  obtain ⟨v, rfl, r1⟩ := r.one
  obtain ⟨t, rfl⟩ := r1.str
  exact PySem.P.len_str (by lia  ) (TV.tok st _ vr_int q)
end
section
variable {F : Fx} {k : Nat} {m : Lo} {Q : V → Hp → Prop} {X : Value → Hp → Shared → Prop} {σ σ' : Hp} {s s' : Shared} {x : Str} {pos p : Pos}
noncomputable def SB (F : Fx) (m : Lo) (value slice : Expr) (a b : V) (Q : V → Hp → Prop) (X : Value → Hp → Shared → Prop) (σ : Hp) : Prop :=
  ∀ s v w, St F σ m s → VR s.heap σ a v → VR s.heap σ b w → TV F (subscriptTail value slice v w) m Q X σ s
theorem ev_sub {value slice : Expr} (h : EV F value m (fun a σ₁ => EV F slice m (fun b σ₂ => SB F m value slice a b Q X σ₂) X σ₁) X σ) : EV F (.Subscript value slice pos) m Q X σ := fun s st =>
  Subscript_ ((h s st).seq Ev.refl fun _ _ σ₁ s₁ _ e1' st1 r1 k1 => (k1 s₁ st1).seq e1' fun _ _ σ₂ s₂ e2 e2' st2 r2 k2 =>
    (k2 s₂ _ _ st2 (st1.vr e2 r1) r2).lift e2')
theorem sb_list {value slice : Expr} {a : V} {ds : List D} {i : Int} {d : D} (ha : asL σ a = some ds) (hz : ds.length < 2 ^ 23) (h0 : 0 ≤ i) (hi : ds[i.toNat]? = some d) (q : Q (.d d) σ) (hs : ∀ o i, subscripted slice false o i = operate [o, i] (getItem o i)) :
    SB F m value slice a (.d (.int i)) Q X σ := fun s v w st r1 r2 => by
  obtain ⟨t, rfl⟩ := r2.int
  obtain ⟨b, vs, n, rfl, e1, e2⟩ := asL_at st.gs r1 ha
  obtain ⟨w, e3, e4⟩ := e2.get i.toNat hi
  have hlt : i.toNat < ds.length := (List.getElem?_eq_some_iff.mp hi).1
  exact tail_any ⟨_, e1, rfl⟩ list_getitem_lookup (wpAny_getItem_list ⟨_, e1, rfl, n, rfl⟩ h0 (by lia  ) (by simpa using e3) (TV.here st (by simpa only [VR] using e4) q)) (hs _ _)
theorem VRs.get {h : Heap} {σ : Hp} : ∀ {ps : List V} {vs : List Value}, VRs h σ ps vs → ∀ (i : Nat) {p : V}, ps[i]? = some p → ∃ v, vs[i]? = some v ∧ VR h σ p v
  | [], _, _, i, _, e => by simp at e
  | q :: ps, _, a, i, p, e => by
    obtain ⟨v, r, rfl, e1, e2⟩ := a.uncons
    cases i with
    | zero => simp at e; subst e; exact ⟨v, by simp, e1⟩
    | succ i => simp at e; obtain ⟨w, h1, h2⟩ := VRs.get e2 i e; exact ⟨w, by simpa using h1, h2⟩
/-- the parts of a tuple -/
noncomputable def asT : V → Option (List V)
  | .tup l => some l
  | .d (.tuple ds) => some (ds.map .d)
  | _ => none
theorem asT_at {a : V} {v : Value} {as : List V} (r : VR s.heap σ a v) (h : asT a = some as) :
    ∃ b vs n, v = .ref b ∧ s.heap.get? b = some (seqObj "tuple" (List.toArray vs) n) ∧ VRs s.heap σ as vs := by
  cases a with
  | tup l =>
    simp only [asT] at h; cases h
    simp only [VR] at r
    obtain ⟨b, vs, n, rfl, e1, _, e2⟩ := r
    exact ⟨b, vs, n, rfl, e1, e2⟩
  | d p =>
    cases p with
    | tuple es =>
      simp only [asT] at h; cases h
      simp only [VR, RD] at r
      obtain ⟨b, vs, n, rfl, e1, _, e2⟩ := r
      exact ⟨b, vs, n, rfl, e1, e2.toVRs⟩
    | _ => simp [asT] at h
  | _ => simp [asT] at h
theorem sb_tup {value slice : Expr} {a : V} {as : List V} {i : Int} {d : V} (ha : asT a = some as) (hz : as.length < 2 ^ 23) (h0 : 0 ≤ i) (hi : as[i.toNat]? = some d) (q : Q d σ) (hs : ∀ o i, subscripted slice false o i = operate [o, i] (getItem o i)) :
    SB F m value slice a (.d (.int i)) Q X σ := fun s v w st r1 r2 => by
  obtain ⟨t, rfl⟩ := r2.int
  obtain ⟨b, vs, n, rfl, e1, e2⟩ := asT_at r1 ha
  obtain ⟨w, e3, e4⟩ := e2.get i.toNat hi
  have hlt : i.toNat < as.length := (List.getElem?_eq_some_iff.mp hi).1
  have hlen := e2.length
  exact item_tupleT (l := vs) ⟨_, e1, rfl, n, rfl⟩ (by lia  ) (by lia  ) (seqIndex_of h0 (by lia  )) e3 (TV.here st e4 q) (hs _ _)
theorem sb_str {value slice : Expr} {y : Str} {i : Int} {c : Nat} (h0 : 0 ≤ i) (hz : y.length < 2 ^ 23) (hi : y.cps[i.toNat]? = some c) (q : Q (.d (.str ⟨#[c]⟩)) σ) (hs : ∀ o i, subscripted slice false o i = operate [o, i] (getItem o i)) :
    SB F m value slice (.d (.str y)) (.d (.int i)) Q X σ := fun s v w st r1 r2 => by
  obtain ⟨t, rfl⟩ := r2.int
  obtain ⟨u, rfl⟩ := r1.str
  have hlt : i.toNat < y.cps.size := (Array.getElem?_eq_some_iff.mp hi).1
  have hlt' : i.toNat < y.length := hlt
  exact tail_any (typeIs_str s y u) PySem.F.slot_str_getitem.lookup (PySem.P.getItem_str (by simp; lia  ) (by rw [seqIndex_of h0 (by lia  )]; exact hi) (TV.tok st _ vr_str q)) (hs _ _)
-- slices
noncomputable def EVO (F : Fx) (e : Option Expr) (m : Lo) (Q : Option Int → Hp → Prop) (X : Value → Hp → Shared → Prop) (σ : Hp) : Prop :=
  match e with
  | none => Q none σ
  | some e => EV F e m (fun a σ' => ∃ i, a = .d (.int i) ∧ Q (some i) σ') X σ
theorem evo_run {e : Option Expr} {QO : Option Int → Hp → Prop} {Z : Value → Shared → Prop} (h : EVO F e m QO X σ) (st : St F σ m s) (ev₀ : Ev F.fr F.wr σ' σ s' s)
    (hk : ∀ v i σ₁ s₁, Ev F.fr F.wr σ σ₁ s s₁ → Ev F.fr F.wr σ' σ₁ s' s₁ → St F σ₁ m s₁ → IsPart v i → QO i σ₁ → Z v s₁) :
    wpAny F.M F.A (evalPart e F.env) Z (VExc F m σ' s' X) s := by
  cases e with
  | none => exact wpAny_pure (hk .none none σ s Ev.refl ev₀ st .none h)
  | some e =>
    refine TV.seq (h s st) ev₀ ?_
    rintro v a σ₁ s₁ e1 e1' st1 r1 ⟨i, qa, q⟩
    subst qa
    obtain ⟨t, rfl⟩ := r1.int
    exact hk _ (some i) σ₁ s₁ e1 e1' st1 (.int i t) q
noncomputable def sl (ds : List D) (lo hi : Option Int) : List D := (ds.drop (lo.elim 0 (clipAt ds.length))).take (hi.elim ds.length (clipAt ds.length) - lo.elim 0 (clipAt ds.length))
theorem ev_sliceL {value : Expr} {lower upper : Option Expr} (h : EV F value m (fun a σ₁ => EVO F lower m (fun lo σ₂ => EVO F upper m (fun hi σ₃ =>
      ∃ ds, asL σ₁ a = some ds ∧ asL σ₃ a = some ds ∧ ds.length < 2 ^ 23 ∧ ∀ r, σ₃ r = none → Q (.ref r) (σ₃.set r (sl ds lo hi))) X σ₂) X σ₁) X σ)
    (ht : ∀ o r, letTemporaryGo value o r = pure ()) : EV F (.Subscript value (.Slice lower upper none p) pos) m Q X σ := fun s st => by
  refine wpAny_Subscript_list_slice ((h s st).seq Ev.refl fun v a σ₁ s₁ _ e1 st1 r1 q1 => evo_run q1 st1 e1 fun vl lo σ₂ s₂ e2 e2' st2 p2 q2 => evo_run q2 st2 e2' fun vu hi σ₃ s₃ e3 e3' st3 p3 q3 => ?_) ht
  obtain ⟨ds, _, ha, hz, q⟩ := q3
  obtain ⟨b, vs, n, rfl, g1, g2⟩ := asL_at st3.gs (st2.vr e3 (st1.vr e2 r1)) ha
  have hlen := g2.length
  refine ⟨b, List.toArray vs, lo, hi, rfl, ⟨_, g1, rfl, n, rfl⟩, by rw [List.size_toArray]; have := sizeLine_big; lia  , p2, p3, ?_⟩
  have r4 : RDs s₃.heap σ₃ (sl ds lo hi) ((vs.drop (lo.elim 0 (clipAt vs.length))).take (hi.elim vs.length (clipAt vs.length) - lo.elim 0 (clipAt vs.length))) := by
    unfold sl; rw [hlen]; exact (g2.drop _).take _
  have st4 := st3.push { cls := .type "slice", data := .fields #[vl, vu, .none] } s₃.toks
  have ev4 := Ev.push (σ := σ₃) (s := s₃) (fr := F.fr) (wr := F.wr) { cls := .type "slice", data := .fields #[vl, vu, .none] } s₃.toks
  obtain ⟨st5, ev5⟩ := st4.newList (t := s₃.toks) (r4.mono (st3.seqKept ev4))
  rw [slicePick_plain, List.size_toArray]
  have hsz : s₃.heap.objs.size + 1 = (s₃.heap.push { cls := .type "slice", data := .fields #[vl, vu, .none] }).objs.size := (Heap.size_push _ _).symm
  show VPost F m σ s Q (.ref (s₃.heap.objs.size + 1)) _
  rw [hsz]
  exact ⟨.ref _, _, e3'.trans (ev4.trans ev5), st5, vr_ref, q _ (st4.gs.none_ge (Nat.le_refl _))⟩
theorem partValue_of {v : Value} {i : Option Int} (h : IsPart v i) : ∃ l : Option (Int × Tok), v = partValue l ∧ l.map (·.1) = i := by
  cases h with
  | none => exact ⟨none, rfl, rfl⟩
  | int i t => exact ⟨some (i, t), rfl, rfl⟩
theorem ev_sliceS {value : Expr} {lower upper : Option Expr} (h : EV F value m (fun a σ₁ => EVO F lower m (fun lo σ₂ => EVO F upper m (fun hi σ₃ =>
      ∃ y, a = .d (.str y) ∧ y.length < 2 ^ 23 ∧ Q (.d (.str (Txt.slice y lo hi))) σ₃) X σ₂) X σ₁) X σ)
    (ht : ∀ o r, letTemporaryGo value o r = pure ()) : EV F (.Subscript value (.Slice lower upper none p) pos) m Q X σ := fun s st => by
  refine wpAny_Subscript_str_slice ((h s st).seq Ev.refl fun v a σ₁ s₁ _ e1 st1 r1 q1 => evo_run q1 st1 e1 fun vl lo σ₂ s₂ e2 e2' st2 p2 q2 => evo_run q2 st2 e2' fun vu hi σ₃ s₃ e3 e3' st3 p3 q3 => ?_) ht
  obtain ⟨y, qa, hz, q⟩ := q3
  subst qa
  obtain ⟨t, rfl⟩ := r1.str
  obtain ⟨l, rfl, rfl⟩ := partValue_of p2
  obtain ⟨u, rfl, rfl⟩ := partValue_of p3
  have hsz : y.length ≤ sizeLine := by have := sizeLine_big; lia
  have hc : Txt.slice y (l.map (·.1)) (u.map (·.1)) = (if (((none : Option (Int × Tok)).map (·.1)).getD 1 == 1 && (slicePicked y l u none).length == y.length) = true then y else ⟨((slicePicked y l u none).filterMap (y.cps[·]?)).toArray⟩) := rfl
  refine ⟨y, t, l, u, rfl, rfl, rfl, ?_⟩
  have fin : ∀ t' kk, VPost F m σ s Q (.str (Txt.slice y (l.map (·.1)) (u.map (·.1))) t') { s₃ with heap := s₃.heap.push { cls := .type "slice", data := .fields #[partValue l, partValue u, .none] }, toks := kk } := fun t' kk =>
    ⟨.d (.str (Txt.slice y (l.map (·.1)) (u.map (·.1)))), σ₃, e3'.trans (Ev.push (σ := σ₃) (s := s₃) (fr := F.fr) (wr := F.wr) { cls := .type "slice", data := .fields #[partValue l, partValue u, .none] } kk), st3.push { cls := .type "slice", data := .fields #[partValue l, partValue u, .none] } kk, vr_str, q⟩
  have hle := Txt.slice_le y (l.map (·.1)) (u.map (·.1))
  unfold sliceMade
  by_cases hcc : (((none : Option (Int × Tok)).map (·.1)).getD 1 == 1 && (slicePicked y l u none).length == y.length) = true
  · rw [if_pos hcc] at hc ⊢
    rw [hc] at fin
    exact fin t s₃.toks
  · rw [if_neg hcc] at hc ⊢
    rw [hc] at fin hle
    exact ⟨Nat.le_trans hle hsz, fin _ _⟩
end
section
variable {F : Fx} {k : Nat} {m : Lo} {Q : Fl → Lo → Hp → Prop} {X : XE} {σ σ' : Hp} {s s' : Shared} {x : Str} {pos p : Pos}
/-- o[i] = e -/
theorem ex_setitem {o i e : Expr} (h : EV F e m (fun a σ₁ => EV F o m (fun b σ₂ => EV F i m (fun c σ₃ => ∃ r ds j d, b = .ref r ∧ c = .d (.int j) ∧ a = .d d ∧ σ₃ r = some ds ∧ 0 ≤ j ∧ j < ds.length ∧ ds.length < 2 ^ 23 ∧
      Q .next m (σ₃.set r (ds.set j.toNat d))) (fun e => X e m) σ₂) (fun e => X e m) σ₁) (fun e => X e m) σ)
    (hs : swapsWith e (some (.Subscript o i p)) pos.line F.env = pure false) : EX F (.Assign [.Subscript o i p] e pos) m Q X σ := fun s st => by
  refine wpAny_Assign_Subscript ((h s st).inStmt Ev.refl fun v a σ₁ s₁ _ e1 st1 r1 q1 => (q1 s₁ st1).inStmt e1 fun w b σ₂ s₂ e2 e2' st2 r2 q2 => (q2 s₂ st2).inStmt e2' fun u c σ₃ s₃ e3 e3' st3 r3 q3 => ?_) hs
  obtain ⟨r, ds, j, d, rfl, rfl, rfl, hr, h0, hj, hz, q⟩ := q3
  obtain rfl := r2.ref
  obtain ⟨t, rfl⟩ := r3.int
  obtain ⟨_, vs, n, g1, g2⟩ := st3.gs.lists r ds hr
  have r4 : RD s₃.heap σ₃ d v := by simpa only [VR] using st2.vr e3 (st1.vr e2 r1)
  have hlen := g2.length
  refine ki_setAt (n := n) g1 h0 (by lia  ) (by rw [List.size_toArray]; lia  ) ?_
  have u := IsL.update g1 (·.setIfInBounds j.toNat v)
  rw [show (List.toArray vs).setIfInBounds j.toNat v = List.toArray (vs.set j.toNat v) by simp] at u
  obtain ⟨st4, ev4⟩ := st3.setList (t := s₃.toks) hr (Heap.SameBut.update s₃.heap r _) u (g2.set j.toNat r4)
  exact ⟨.next, m, _, e3'.trans ev4, st4, rfl, q⟩
end
section
open PySem.SeqAt PySem.MeetsSeq PySem.MeetsSeq2 PySem.MeetsSeq3 PySem.SeqRoads2
open AutoSeq1 (wpAny_loadPart')
theorem rc_lt {prog : Program} {w : World} {A : Around} {E : Value → Shared → Prop} {s : Shared} {a b : Int} {t u : Tok} {Q : Value → Shared → Prop} (h : Q (.bool (decide (a < b))) s) : wpAny (model prog w) A (richCompare .Lt (.int a t) (.int b u)) Q E s := PySem.P.lt_int h
theorem rc_gt {prog : Program} {w : World} {A : Around} {E : Value → Shared → Prop} {s : Shared} {a b : Int} {t u : Tok} {Q : Value → Shared → Prop} (h : Q (.bool (decide (b < a))) s) : wpAny (model prog w) A (richCompare .Gt (.int a t) (.int b u)) Q E s := PySem.P.gt_int h
section
variable (l b : Addr) (items items2 : Array Value) (n n2 : Nat) (hs1 : items.size = 2) (hs2 : items2.size = 2)
include hs1 hs2
theorem lt_loop2 :
    Meets (Builtin.«list.__eq__.loop» ⟨[.ref l, .ref b, rawInt 2, rawInt 0], []⟩)
      (fun A R s => s.heap.get? l = some (seqObj "list" items n) ∧ s.heap.get? b = some (seqObj "list" items2 n2) ∧ R (.ok (.ret (.bool false))) s) := by
  intro prog w A R s h
  obtain ⟨hp, g, d, tk, os⟩ := s; obtain ⟨hl, hb, h⟩ := h
  have hi1 : items[(2 : Int).toNat]? = none := by simp [hs1]
  have hi2 : items2[(2 : Int).toNat]? = none := by simp [hs2]
  wp_walk using wpAny_loadPart' hl, wpAny_loadPart' hb
  rw [hi1, hi2]
  wp_walk using wpAny_loadPart' hl, wpAny_loadPart' hb
  have e : items.size = items2.size := hs1.trans hs2.symm
  show R (.ok (.ret (.bool (decide (items.size < items2.size))))) _
  rw [e, decide_eq_false (Nat.lt_irrefl _)]; exact h
theorem lt_loop1 {a2 b2 : Int} {t2 u2 : Tok} (ha : items[1]? = some (.int a2 t2)) (hb' : items2[1]? = some (.int b2 u2)) :
    Meets (Builtin.«list.__eq__.loop» ⟨[.ref l, .ref b, rawInt 1, rawInt 0], []⟩)
      (fun A R s => s.heap.get? l = some (seqObj "list" items n) ∧ s.heap.get? b = some (seqObj "list" items2 n2) ∧ R (.ok (.ret (.bool (decide (a2 < b2))))) s) := by
  intro prog w A R s h
  obtain ⟨hp, g, d, tk, os⟩ := s; obtain ⟨hl, hb, h⟩ := h
  have hi1 : items[(1 : Int).toNat]? = some (.int a2 t2) := ha
  have hi2 : items2[(1 : Int).toNat]? = some (.int b2 u2) := hb'
  wp_walk using wpAny_loadPart' hl, wpAny_loadPart' hb
  rw [hi1, hi2]
  refine wpAny_bind (EqAt.int_int a2 t2 b2 u2 prog w _ _ ?_)
  cases hq : (a2 == b2) with
  | true =>
    have e : a2 = b2 := by simpa using hq
    subst e
    have h' : R (.ok (.ret (.bool false))) ⟨hp, g, d, tk, os⟩ := by
      rw [decide_eq_false (Int.lt_irrefl _)] at h; exact h
    wp_walk
    exact ⟨plainId_quiet plain_eq_loop _, codeAny_builtin entry_eq_loop (by
      rw [Around.under_plainId plain_eq_loop _]
      exact lt_loop2 l b items items2 n n2 hs1 hs2 prog w A R _ ⟨hl, hb, h'⟩)⟩
  | false =>
    wp_walk using wpAny_loadPart' hl, wpAny_loadPart' hb
    rw [hi1, hi2]
    show wpAny _ _ (richCompare .Lt _ _ >>= _) _ _ _
    exact wpAny_bind (rc_lt (wpAny_pure h))
theorem lt_loop0 {a1 a2 b1 b2 : Int} {t1 t2 u1 u2 : Tok} (ha0 : items[0]? = some (.int a1 t1)) (hb0 : items2[0]? = some (.int b1 u1)) (ha : items[1]? = some (.int a2 t2)) (hb' : items2[1]? = some (.int b2 u2)) :
    Meets (Builtin.«list.__eq__.loop» ⟨[.ref l, .ref b, rawInt 0, rawInt 0], []⟩)
      (fun A R s => s.heap.get? l = some (seqObj "list" items n) ∧ s.heap.get? b = some (seqObj "list" items2 n2) ∧
        R (.ok (.ret (.bool (decide (a1 < b1 ∨ (a1 = b1 ∧ a2 < b2)))))) s) := by
  intro prog w A R s h
  obtain ⟨hp, g, d, tk, os⟩ := s; obtain ⟨hl, hb, h⟩ := h
  have hi1 : items[(0 : Int).toNat]? = some (.int a1 t1) := ha0
  have hi2 : items2[(0 : Int).toNat]? = some (.int b1 u1) := hb0
  wp_walk using wpAny_loadPart' hl, wpAny_loadPart' hb
  rw [hi1, hi2]
  refine wpAny_bind (EqAt.int_int a1 t1 b1 u1 prog w _ _ ?_)
  cases hq : (a1 == b1) with
  | true =>
    have e : a1 = b1 := by simpa using hq
    subst e
    simp only [Int.lt_irrefl, true_and, false_or] at h
    wp_walk
    exact ⟨plainId_quiet plain_eq_loop _, codeAny_builtin entry_eq_loop (by
      rw [Around.under_plainId plain_eq_loop _]
      exact lt_loop1 l b items items2 n n2 hs1 hs2 ha hb' prog w A R _ ⟨hl, hb, h⟩)⟩
  | false =>
    have hne : ¬ (a1 = b1) := by first | simpa using hq | exact fun q => by simp [q] at hq
    simp only [hne, false_and, or_false] at h
    wp_walk using wpAny_loadPart' hl, wpAny_loadPart' hb
    rw [hi1, hi2]
    show wpAny _ _ (richCompare .Lt _ _ >>= _) _ _ _
    exact wpAny_bind (rc_lt (wpAny_pure h))
theorem list_lt_pair {a1 a2 b1 b2 : Int} {t1 t2 u1 u2 : Tok} (ha0 : items[0]? = some (.int a1 t1)) (hb0 : items2[0]? = some (.int b1 u1)) (ha : items[1]? = some (.int a2 t2)) (hb' : items2[1]? = some (.int b2 u2)) :
    Meets (Builtin.«list.__lt__» ⟨[.ref l, .ref b], []⟩)
      (fun A R s => s.heap.get? l = some (seqObj "list" items n) ∧ s.heap.get? b = some (seqObj "list" items2 n2) ∧
        R (.ok (.ret (.bool (decide (a1 < b1 ∨ (a1 = b1 ∧ a2 < b2)))))) s) := by
  intro prog w A R s h
  obtain ⟨hp, g, d, tk, os⟩ := s; obtain ⟨hl, hb, h⟩ := h
  have f3 := AutoSeq1.sub_list_list
  wp_walk using wpAny_loadPart' hl, wpAny_loadPart' hb
  exact ⟨plainId_quiet plain_eq_loop _, codeAny_builtin entry_eq_loop (by
    rw [Around.under_plainId plain_eq_loop _]
    exact lt_loop0 l b items items2 n n2 hs1 hs2 ha0 hb0 ha hb' prog w A R _ ⟨hl, hb, h⟩)⟩
theorem gt_loop2 :
    Meets (Builtin.«list.__eq__.loop» ⟨[.ref l, .ref b, rawInt 2, rawInt 4], []⟩)
      (fun A R s => s.heap.get? l = some (seqObj "list" items n) ∧ s.heap.get? b = some (seqObj "list" items2 n2) ∧ R (.ok (.ret (.bool false))) s) := by
  intro prog w A R s h
  obtain ⟨hp, g, d, tk, os⟩ := s; obtain ⟨hl, hb, h⟩ := h
  have hi1 : items[(2 : Int).toNat]? = none := by simp [hs1]
  have hi2 : items2[(2 : Int).toNat]? = none := by simp [hs2]
  wp_walk using wpAny_loadPart' hl, wpAny_loadPart' hb
  rw [hi1, hi2]
  wp_walk using wpAny_loadPart' hl, wpAny_loadPart' hb
  have e : items.size = items2.size := hs1.trans hs2.symm
  show R (.ok (.ret (.bool (decide (items.size > items2.size))))) _
  rw [e, decide_eq_false (Nat.lt_irrefl _)]; exact h
theorem gt_loop1 {a2 b2 : Int} {t2 u2 : Tok} (ha : items[1]? = some (.int a2 t2)) (hb' : items2[1]? = some (.int b2 u2)) :
    Meets (Builtin.«list.__eq__.loop» ⟨[.ref l, .ref b, rawInt 1, rawInt 4], []⟩)
      (fun A R s => s.heap.get? l = some (seqObj "list" items n) ∧ s.heap.get? b = some (seqObj "list" items2 n2) ∧ R (.ok (.ret (.bool (decide (b2 < a2))))) s) := by
  intro prog w A R s h
  obtain ⟨hp, g, d, tk, os⟩ := s; obtain ⟨hl, hb, h⟩ := h
  have hi1 : items[(1 : Int).toNat]? = some (.int a2 t2) := ha
  have hi2 : items2[(1 : Int).toNat]? = some (.int b2 u2) := hb'
  wp_walk using wpAny_loadPart' hl, wpAny_loadPart' hb
  rw [hi1, hi2]
  refine wpAny_bind (EqAt.int_int a2 t2 b2 u2 prog w _ _ ?_)
  cases hq : (a2 == b2) with
  | true =>
    have e : a2 = b2 := by simpa using hq
    subst e
    have h' : R (.ok (.ret (.bool false))) ⟨hp, g, d, tk, os⟩ := by
      rw [decide_eq_false (Int.lt_irrefl _)] at h; exact h
    wp_walk
    exact ⟨plainId_quiet plain_eq_loop _, codeAny_builtin entry_eq_loop (by
      rw [Around.under_plainId plain_eq_loop _]
      exact gt_loop2 l b items items2 n n2 hs1 hs2 prog w A R _ ⟨hl, hb, h'⟩)⟩
  | false =>
    wp_walk using wpAny_loadPart' hl, wpAny_loadPart' hb
    rw [hi1, hi2]
    show wpAny _ _ (richCompare .Gt _ _ >>= _) _ _ _
    exact wpAny_bind (rc_gt (wpAny_pure h))
theorem gt_loop0 {a1 a2 b1 b2 : Int} {t1 t2 u1 u2 : Tok} (ha0 : items[0]? = some (.int a1 t1)) (hb0 : items2[0]? = some (.int b1 u1)) (ha : items[1]? = some (.int a2 t2)) (hb' : items2[1]? = some (.int b2 u2)) :
    Meets (Builtin.«list.__eq__.loop» ⟨[.ref l, .ref b, rawInt 0, rawInt 4], []⟩)
      (fun A R s => s.heap.get? l = some (seqObj "list" items n) ∧ s.heap.get? b = some (seqObj "list" items2 n2) ∧
        R (.ok (.ret (.bool (decide (b1 < a1 ∨ (b1 = a1 ∧ b2 < a2)))))) s) := by
  intro prog w A R s h
  obtain ⟨hp, g, d, tk, os⟩ := s; obtain ⟨hl, hb, h⟩ := h
  have hi1 : items[(0 : Int).toNat]? = some (.int a1 t1) := ha0
  have hi2 : items2[(0 : Int).toNat]? = some (.int b1 u1) := hb0
  wp_walk using wpAny_loadPart' hl, wpAny_loadPart' hb
  rw [hi1, hi2]
  refine wpAny_bind (EqAt.int_int a1 t1 b1 u1 prog w _ _ ?_)
  cases hq : (a1 == b1) with
  | true =>
    have e : a1 = b1 := by simpa using hq
    subst e
    simp only [Int.lt_irrefl, true_and, false_or] at h
    wp_walk
    exact ⟨plainId_quiet plain_eq_loop _, codeAny_builtin entry_eq_loop (by
      rw [Around.under_plainId plain_eq_loop _]
      exact gt_loop1 l b items items2 n n2 hs1 hs2 ha hb' prog w A R _ ⟨hl, hb, h⟩)⟩
  | false =>
    have hne : ¬ (b1 = a1) := by first | simpa using hq | exact fun q => by simp [q] at hq
    simp only [hne, false_and, or_false] at h
    wp_walk using wpAny_loadPart' hl, wpAny_loadPart' hb
    rw [hi1, hi2]
    show wpAny _ _ (richCompare .Gt _ _ >>= _) _ _ _
    exact wpAny_bind (rc_gt (wpAny_pure h))
theorem list_gt_pair {a1 a2 b1 b2 : Int} {t1 t2 u1 u2 : Tok} (ha0 : items[0]? = some (.int a1 t1)) (hb0 : items2[0]? = some (.int b1 u1)) (ha : items[1]? = some (.int a2 t2)) (hb' : items2[1]? = some (.int b2 u2)) :
    Meets (Builtin.«list.__gt__» ⟨[.ref l, .ref b], []⟩)
      (fun A R s => s.heap.get? l = some (seqObj "list" items n) ∧ s.heap.get? b = some (seqObj "list" items2 n2) ∧
        R (.ok (.ret (.bool (decide (b1 < a1 ∨ (b1 = a1 ∧ b2 < a2)))))) s) := by
  intro prog w A R s h
  obtain ⟨hp, g, d, tk, os⟩ := s; obtain ⟨hl, hb, h⟩ := h
  have f3 := AutoSeq1.sub_list_list
  wp_walk using wpAny_loadPart' hl, wpAny_loadPart' hb
  exact ⟨plainId_quiet plain_eq_loop _, codeAny_builtin entry_eq_loop (by
    rw [Around.under_plainId plain_eq_loop _]
    exact gt_loop0 l b items items2 n n2 hs1 hs2 ha0 hb0 ha hb' prog w A R _ ⟨hl, hb, h⟩)⟩
end
end
section
open PySem.SeqAt
mutual
/-- what a value says by value now -/
noncomputable def rdv (σ : Hp) : V → Option D
  | .d p => some p
  | .ref a => match σ a with
    | some ds => some (.list ds)
    | none => none
  | .tup l => match rdvs σ l with
    | some ds => some (.tuple ds)
    | none => none
  | .lst l => match rdvs σ l with
    | some ds => some (.list ds)
    | none => none
  | .rng _ _ => none
  | .obj _ => none
noncomputable def rdvs (σ : Hp) : List V → Option (List D)
  | [] => some []
  | a :: r => match rdv σ a, rdvs σ r with
    | some d, some ds => some (d :: ds)
    | _, _ => none
end
mutual
theorem RD.reads {h : Heap} {σ : Hp} : ∀ {p : D} {v : Value}, RD h σ p v → ∃ as, Reads h v p as
  | .none, _, e => by simp only [RD] at e; subst e; exact ⟨_, .none⟩
  | .bool _, _, e => by simp only [RD] at e; subst e; exact ⟨_, .bool _⟩
  | .int _, _, e => by simp only [RD] at e; obtain ⟨t, rfl⟩ := e; exact ⟨_, .int _ t⟩
  | .str _, _, e => by simp only [RD] at e; obtain ⟨t, rfl⟩ := e; exact ⟨_, .str _ t⟩
  | .list ds, v, e => by
    simp only [RD] at e
    obtain ⟨a, vs, n, rfl, ho, _, r⟩ := e
    obtain ⟨as, r'⟩ := RDs.reads r
    exact ⟨_, .list ho rfl rfl r'⟩
  | .tuple ds, v, e => by
    simp only [RD] at e
    obtain ⟨a, vs, n, rfl, ho, _, r⟩ := e
    obtain ⟨as, r'⟩ := RDs.reads r
    exact ⟨_, .tuple ho rfl rfl r'⟩
  | .dict _, _, e => by simp only [RD] at e
theorem RDs.reads {h : Heap} {σ : Hp} : ∀ {ps : List D} {vs : List Value}, RDs h σ ps vs → ∃ as, ReadsAll h vs ps as
  | [], _, e => by simp only [RDs] at e; subst e; exact ⟨_, .nil⟩
  | p :: ps, vs, e => by
    simp only [RDs] at e
    obtain ⟨v, r, rfl, e1, e2⟩ := e
    obtain ⟨as, r1⟩ := RD.reads e1
    obtain ⟨bs, r2⟩ := RDs.reads e2
    exact ⟨_, .cons r1 r2⟩
end
section
variable {base : Heap} {l : List Env} {σ : Hp} {s : Shared}
mutual
theorem rdv_reads (g : GS base l σ s) : ∀ {a : V} {d : D} {v : Value}, rdv σ a = some d → VR s.heap σ a v → ∃ as, Reads s.heap v d as
  | .d p, d, v, h, r => by simp only [rdv] at h; cases h; simp only [VR] at r; exact r.reads
  | .ref a, d, v, h, r => by
    simp only [rdv] at h
    cases h1 : σ a with
    | none => simp [h1] at h
    | some ds =>
      simp only [h1] at h; cases h
      obtain rfl := r.ref
      obtain ⟨_, vs, n, e2, e3⟩ := g.lists a ds h1
      obtain ⟨as, r'⟩ := e3.reads
      exact ⟨_, .list e2 rfl rfl r'⟩
  | .tup as, d, v, h, r => by
    simp only [rdv] at h
    cases h0 : rdvs σ as with
    | none => simp [h0] at h
    | some ds =>
      simp only [h0] at h; cases h
      simp only [VR] at r
      obtain ⟨a, vs, n, rfl, e1, e4, e5⟩ := r
      obtain ⟨bs, r'⟩ := rdvs_reads g h0 e5
      exact ⟨_, .tuple e1 rfl rfl r'⟩
  | .lst as, d, v, h, r => by
    simp only [rdv] at h
    cases h0 : rdvs σ as with
    | none => simp [h0] at h
    | some ds =>
      simp only [h0] at h; cases h
      simp only [VR] at r
      obtain ⟨a, vs, n, rfl, e1, e4, e5⟩ := r
      obtain ⟨bs, r'⟩ := rdvs_reads g h0 e5
      exact ⟨_, .list e1 rfl rfl r'⟩
  | .rng _ _, d, v, h, r => by simp only [rdv] at h; cases h
  | .obj _, d, v, h, r => by simp only [rdv] at h; cases h
theorem rdvs_reads (g : GS base l σ s) : ∀ {as : List V} {ds : List D} {vs : List Value}, rdvs σ as = some ds → VRs s.heap σ as vs → ∃ bs, ReadsAll s.heap vs ds bs
  | [], ds, vs, h, r => by simp only [rdvs] at h; cases h; simp only [VRs] at r; subst r; exact ⟨_, .nil⟩
  | a :: as, ds, vs, h, r => by
    simp only [rdvs] at h
    obtain ⟨v, rr, rfl, r1, r2⟩ := r.uncons
    cases h0 : rdv σ a with
    | none => simp [h0] at h
    | some d =>
      cases h1 : rdvs σ as with
      | none => simp [h0, h1] at h
      | some es =>
        simp only [h0, h1] at h; cases h
        obtain ⟨_, q1⟩ := rdv_reads g h0 r1
        obtain ⟨_, q2⟩ := rdvs_reads g h1 r2
        exact ⟨_, .cons q1 q2⟩
end
end
section
variable {F : Fx} {k : Nat} {m : Lo} {Q : V → Hp → Prop} {X : Value → Hp → Shared → Prop} {σ σ' : Hp} {s s' : Shared} {x : Str} {pos p : Pos}
theorem Fx.Ok.deep (ok : F.Ok (k + 1)) {n : Nat} (hn : n ≤ 19) : F.A.units + n < cLine := by
  have := ok.units; lia
theorem cv_eqD {a b : V} {da db : D} (ok : F.Ok (k + 1)) (ha : rdv σ a = some da) (hb : rdv σ b = some db) (la : da.canLay0 = true) (lb : db.canLay0 = true) (hd : min da.depth db.depth ≤ 19) (q : Q (.d (.bool (PyData.eqv da db))) σ) : CV F m .Eq a b Q X σ := fun s v w st r1 r2 => by
  obtain ⟨as, ra⟩ := rdv_reads st.gs ha r1
  obtain ⟨bs, rb⟩ := rdv_reads st.gs hb r2
  exact rcAt_reads ra rb la lb (ok.deep hd) _ _ _ _ (TV.here st vr_bool q)
theorem cv_neD {a b : V} {da db : D} (ok : F.Ok (k + 1)) (ha : rdv σ a = some da) (hb : rdv σ b = some db) (la : da.canLay0 = true) (lb : db.canLay0 = true) (hd : min da.depth db.depth ≤ 19) (q : Q (.d (.bool (!PyData.eqv da db))) σ) : CV F m .NotEq a b Q X σ := fun s v w st r1 r2 => by
  obtain ⟨as, ra⟩ := rdv_reads st.gs ha r1
  obtain ⟨bs, rb⟩ := rdv_reads st.gs hb r2
  exact rcNeAt_reads ra rb la lb (ok.deep hd) _ _ _ _ (TV.here st vr_bool q)
theorem cv_inT {a b : V} {da : D} {ds : List D} (ok : F.Ok (k + 1)) (ha : rdv σ a = some da) (hb : rdv σ b = some (.tuple ds)) (la : da.canLay0 = true) (lb : PyData.canLayAll0 ds = true) (hd : 1 + min (PyData.depthAll ds) da.depth ≤ 19) (q : Q (.d (.bool (ds.any fun y => PyData.eqv y da))) σ) : CV F m .In a b Q X σ := fun s v w st r1 r2 => by
  obtain ⟨as, ra⟩ := rdv_reads st.gs ha r1
  obtain ⟨bs, rb⟩ := rdv_reads st.gs hb r2
  exact in_tuple_reads rb ra lb la (by have := ok.deep hd; lia  ) (TV.here st vr_bool q)
/-- x not in y, for texts -/
theorem cv_ninS {a b : Str} (q : Q (.d (.bool (Builtin.Str.occurrences b a 0 b.length 1).isEmpty)) σ) : CV F m .NotIn (.d (.str a)) (.d (.str b)) Q X σ := fun s v w st r1 r2 => by
  obtain ⟨t, rfl⟩ := r1.str; obtain ⟨u, rfl⟩ := r2.str
  first
    | exact PyProof.Rows.notIn_str (TV.here st vr_bool (by simpa using q))
    | exact PySem.P.notIn_str (TV.here st vr_bool (by simpa using q))
noncomputable abbrev thing (a b : Int) : D := .list [.int a, .int b]
theorem pair_at {h : Heap} {a1 a2 : Int} {v : Value} (r : RD h σ (thing a1 a2) v) : ∃ b vs n t1 t2, v = .ref b ∧ h.get? b = some (seqObj "list" (List.toArray vs) n) ∧ vs = [.int a1 t1, .int a2 t2] := by
  simp only [thing, RD] at r
  obtain ⟨b, vs, n, rfl, e1, _, e2⟩ := r
  simp only [RDs, RD] at e2
  obtain ⟨v1, r1, rfl, ⟨t1, rfl⟩, v2, r2, rfl, ⟨t2, rfl⟩, rfl⟩ := e2
  exact ⟨b, _, n, t1, t2, rfl, e1, rfl⟩
theorem cv_ltP {a1 a2 b1 b2 : Int} (ok : F.Ok k) (q : Q (.d (.bool (decide (a1 < b1 ∨ (a1 = b1 ∧ a2 < b2))))) σ) : CV F m .Lt (.d (thing a1 a2)) (.d (thing b1 b2)) Q X σ := fun s v w st r1 r2 => by
  simp only [VR] at r1 r2
  obtain ⟨b, vs, n, t1, t2, rfl, e1, hv⟩ := pair_at r1
  obtain ⟨c, ws, j, u1, u2, rfl, e2, hw⟩ := pair_at r2
  exact richCompare_meets_room (op := .Lt) ⟨_, e1, rfl⟩ ⟨_, e2, rfl⟩ PySem.F.slot_list_lt PySem.F.entry_list_lt (PySem.F.args_list_lt_2 _ _)
    (list_lt_pair b c (List.toArray vs) (List.toArray ws) n j (by rw [hv]; rfl) (by rw [hw]; rfl) (a1 := a1) (a2 := a2) (b1 := b1) (b2 := b2) (t1 := t1) (t2 := t2) (u1 := u1) (u2 := u2) (by rw [hv]; rfl) (by rw [hw]; rfl) (by rw [hv]; rfl) (by rw [hw]; rfl))
    ⟨e1, e2, (fun x => nomatch x), TV.here st vr_bool q⟩ ok.unit
theorem cv_gtP {a1 a2 b1 b2 : Int} (ok : F.Ok k) (q : Q (.d (.bool (decide (b1 < a1 ∨ (b1 = a1 ∧ b2 < a2))))) σ) : CV F m .Gt (.d (thing a1 a2)) (.d (thing b1 b2)) Q X σ := fun s v w st r1 r2 => by
  simp only [VR] at r1 r2
  obtain ⟨b, vs, n, t1, t2, rfl, e1, hv⟩ := pair_at r1
  obtain ⟨c, ws, j, u1, u2, rfl, e2, hw⟩ := pair_at r2
  exact richCompare_meets_room (op := .Gt) ⟨_, e1, rfl⟩ ⟨_, e2, rfl⟩ PySem.F.slot_list_gt PySem.F.entry_list_gt (PySem.F.args_list_gt_2 _ _)
    (list_gt_pair b c (List.toArray vs) (List.toArray ws) n j (by rw [hv]; rfl) (by rw [hw]; rfl) (a1 := a1) (a2 := a2) (b1 := b1) (b2 := b2) (t1 := t1) (t2 := t2) (u1 := u1) (u2 := u2) (by rw [hv]; rfl) (by rw [hw]; rfl) (by rw [hv]; rfl) (by rw [hw]; rfl))
    ⟨e1, e2, (fun x => nomatch x), TV.here st vr_bool q⟩ ok.unit
/-- x is None -/
noncomputable def isNone : V → Option Bool
  | .d .none => some true
  | .d _ => some false
  | .ref _ => some false
  | .tup _ => some false
  | .lst _ => some false
  | .rng _ _ => some false
  | .obj _ => none
theorem isNone_val {h : Heap} {a : V} {v : Value} {b : Bool} (r : VR h σ a v) (e : isNone a = some b) : (v == .none) = b := by
  cases a with
  | d p =>
    simp only [VR] at r
    cases p <;> simp only [isNone] at e <;> cases e <;> simp only [RD] at r
    · subst r; rfl
    · subst r; rfl
    · obtain ⟨t, rfl⟩ := r; rfl
    · obtain ⟨t, rfl⟩ := r; rfl
    · obtain ⟨a, vs, n, rfl, _⟩ := r; rfl
    · obtain ⟨a, vs, n, rfl, _⟩ := r; rfl
  | ref a => simp only [isNone] at e; cases e; obtain rfl := r.ref; rfl
  | tup l => simp only [isNone] at e; cases e; simp only [VR] at r; obtain ⟨a, vs, n, rfl, _⟩ := r; rfl
  | lst l => simp only [isNone] at e; cases e; simp only [VR] at r; obtain ⟨a, vs, n, rfl, _⟩ := r; rfl
  | rng x y => simp only [isNone] at e; cases e; simp only [VR] at r; obtain ⟨a, t, u, w, rfl, _⟩ := r; rfl
  | obj w => simp [isNone] at e
theorem cv_isNone {a : V} {b : Bool} (h : isNone a = some b) (q : Q (.d (.bool b)) σ) : CV F m .Is a (.d .none) Q X σ := fun s v w st r1 r2 => by
  obtain rfl := r2.none
  exact PySem.is_none (by rw [isNone_val r1 h]; exact TV.here st vr_bool q)
theorem cv_isNotNone {a : V} {b : Bool} (h : isNone a = some b) (q : Q (.d (.bool (!b))) σ) : CV F m .IsNot a (.d .none) Q X σ := fun s v w st r1 r2 => by
  obtain rfl := r2.none
  exact PySem.isNot_none (by rw [isNone_val r1 h]; exact TV.here st vr_bool q)
theorem cv_isB {a b : Bool} (q : Q (.d (.bool (a == b))) σ) : CV F m .Is (.d (.bool a)) (.d (.bool b)) Q X σ := fun s v w st r1 r2 => by
  obtain rfl := r1.bool; obtain rfl := r2.bool
  exact wpAny_is_plain rfl (by rw [show (Value.bool a == Value.bool b) = (a == b) by cases a <;> cases b <;> rfl]; exact TV.here st vr_bool q)
end
section
variable {F : Fx} {k : Nat} {m : Lo} {Q : Bool → Hp → Prop} {X : Value → Hp → Shared → Prop} {σ σ' : Hp} {s s' : Shared}
theorem trv_list {a : V} {ds : List D} (ha : asL σ a = some ds) (hz : ds.length < 2 ^ 23) (q : Q (!ds.isEmpty) σ) : TRV F a m Q X σ := fun s v st r => by
  obtain ⟨b, vs, n, rfl, e1, e2⟩ := asL_at st.gs r ha
  have hlen := e2.length
  refine wpAny_truthy_list ⟨_, e1, rfl, n, rfl⟩ (by rw [List.size_toArray]; lia  ) ?_
  have : (!(List.toArray vs).isEmpty) = !ds.isEmpty := by
    cases ds <;> cases vs <;> simp at hlen ⊢
  first
    | (rw [this]; exact ⟨σ, Ev.toks _, st.toks _, q⟩)
    | (rw [this]; exact ⟨σ, Ev.refl, st, q⟩)
end
section
variable {F : Fx} {k : Nat} {m : Lo} {Q : V → Hp → Prop} {X : Value → Hp → Shared → Prop} {σ σ' : Hp} {s s' : Shared} {pos p : Pos}
theorem ev_callF {fn nm : Str} {es : List Expr} {fa : Addr} {ps : Arguments} {bd : List Stmt} {sc : Scope} (ok : F.Ok k) (hl : F.env.kindOf fn = some .globalImplicit) (hG : F.G fn = some (.ref fa)) (hf : Fn F.cc nm ps bd sc fa) (hd : (fn == ("__debug__" : Str)) = false)
    (hh : F.A.handled = none) (hst : starEach es F.env = es.map fun e => (false, eval e F.env))
    (h : EVL F es m (fun as σ₁ => CL F.cc k fa as (fun d σ₂ => Q (.d d) σ₂) (fun _ => X) σ₁) X σ) : EV F (.Call (.Name fn p) es [] pos) m Q X σ := by
  obtain ⟨o, pm, cd, doc, ho, hdat, _⟩ := hf.at_
  exact ev_call ok (Nat.le_refl _) hl hG ho hdat hd hh hst h
theorem CL.use {j : Nat} {c : Cc} {f : Addr} {args : List V} {Q Q' : D → Hp → Prop} {X X' : List Env → Value → Hp → Shared → Prop} (h : CL c j f args Q X σ) (hjk : j ≤ k) (hq : ∀ d σ', Q d σ' → Q' d σ') (hx : ∀ o e σ' s', X o e σ' s' → X' o e σ' s') : CL c k f args Q' X' σ := by
  intro A outer s vs h1 h2 h3 h4 h5 h6
  refine codeAny_mono (h A outer s vs h1 (by lia  ) (by lia  ) h4 h5 h6) fun r s' hr => ?_
  match r, hr with
  | .ok (.ret v), ⟨d, σ', e1, e2, e3, e4⟩ => exact ⟨d, σ', e1, e2, e3, hq _ _ e4⟩
  | .error e, ⟨σ', e1, e2, e3⟩ => exact ⟨σ', e1, e2, hx _ _ _ _ e3⟩
end
-- short forms that keep the terms small
theorem if_t {c : Bool} {A B : Prop} (h : c = true) (p : A) : if c = true then A else B := by rw [if_pos h]; exact p
theorem if_f {c : Bool} {A B : Prop} (h : c = false) (p : B) : if c = true then A else B := by rw [if_neg (by rw [h]; decide)]; exact p
theorem CL.use1 {k j : Nat} {c : Cc} {f : Addr} {σ σ₀ : Hp} {args : List V} {d₀ : D} {Q' : D → Hp → Prop} {X' : List Env → Value → Hp → Shared → Prop} (h : CL c j f args (fun d σ' => d = d₀ ∧ σ' = σ₀) (fun _ _ _ _ => False) σ) (hjk : j ≤ k) (hq : Q' d₀ σ₀) : CL c k f args Q' X' σ :=
  CL.use h hjk (fun d σ' q => by rw [q.1, q.2]; exact hq) fun _ _ _ _ x => x.elim
theorem len1 {α : Type} {l : List α} (h : l.length = 1) : ∃ a, l = [a] := List.length_eq_one_iff.mp h
theorem len2 {α : Type} {l : List α} (h : l.length = 2) : ∃ a b, l = [a, b] := by
  match l, h with
  | [a, b], _ => exact ⟨a, b, rfl⟩
theorem len3 {α : Type} {l : List α} (h : l.length = 3) : ∃ a b c, l = [a, b, c] := by
  match l, h with
  | [a, b, c], _ => exact ⟨a, b, c, rfl⟩
theorem len4 {α : Type} {l : List α} (h : l.length = 4) : ∃ a b c d, l = [a, b, c, d] := by
  match l, h with
  | [a, b, c, d], _ => exact ⟨a, b, c, d, rfl⟩
/-- what a statement hands on, under a name of its own -/
noncomputable def Seal (Q Q' : Fl → Lo → Hp → Prop) : Prop := ∀ fl m σ, Q fl m σ → Q' fl m σ
theorem seal_go {Q Q' : Fl → Lo → Hp → Prop} {fl : Fl} {m : Lo} {σ : Hp} (s : Seal Q Q') (q : Q fl m σ) : Q' fl m σ := s _ _ _ q
theorem ex_seq {F : Fx} {m : Lo} {Q : Fl → Lo → Hp → Prop} {X : XE} {σ : Hp} {st : Stmt} {rest : List Stmt} (h : ∀ Q', Seal (Then F rest Q X) Q' → EX F st m Q' X σ) : EXs F (st :: rest) m Q X σ := ex_cons (h _ fun _ _ _ q => q)
theorem min_ok' {a b n : Nat} (h : b ≤ n) : min a b ≤ n := Nat.le_trans (Nat.min_le_right _ _) h
theorem min_ok {a b n : Nat} (h : a ≤ n) : min a b ≤ n := Nat.le_trans (Nat.min_le_left _ _) h
end
inductive APost (F : Fx) (σ : Hp) (s : Shared) (K : Lo → Hp → Prop) (s' : Shared) : Prop
  | mk (m' : Lo) (σ' : Hp) (e : Ev F.fr F.wr σ σ' s s') (st : St F σ' m' s') (q : K m' σ') : APost F σ s K s'
/-- an assignment to a target -/
noncomputable def AT (F : Fx) (target : Expr) (a : V) (m : Lo) (K : Lo → Hp → Prop) (σ : Hp) : Prop :=
  ∀ s v, St F σ m s → VR s.heap σ a v → wpAny F.M F.A (assign target F.env v) (fun _ s' => APost F σ s K s') (fun _ _ => False) s
/-- an iterator that gives the items one by one; s₀: the state before it was made -/
structure ItOk (F : Fx) (target : Expr) (σ₀ : Hp) (s₀ : Shared) (it : Value) (J : Nat → Hp → Shared → Prop) (ds : List V) : Prop where
  item : ∀ i d s σ m, J i σ s → St F σ m s → Ev F.fr F.wr σ₀ σ s₀ s → ds[i]? = some d →
    wpAny F.M F.A (pyNext it) (fun r s' => ∃ v, r = some v ∧ J (i + 1) σ s' ∧ St F σ m s' ∧ Ev F.fr F.wr σ₀ σ s₀ s' ∧ VR s'.heap σ d v) (fun _ _ => False) s
  fin : ∀ i s σ m, J i σ s → St F σ m s → Ev F.fr F.wr σ₀ σ s₀ s → ds[i]? = none →
    wpAny F.M F.A (pyNext it) (fun r s' => r = none ∧ St F σ m s' ∧ Ev F.fr F.wr σ₀ σ s₀ s') (fun _ _ => False) s
  keep : ∀ i s s' σ σ' m, J i σ s → St F σ m s → Ev F.fr F.wr σ σ' s s' → J i σ' s'
  own : ∀ i σ s v, J i σ s → wpAny F.M F.A (letOwnedTupleGo target it v) (fun _ s' => s' = s) (fun _ _ => False) s
  self : ∀ i σ s, J i σ s → wpAny F.M F.A (pyIter it) (fun v s' => v = it ∧ s' = s) (fun _ _ => False) s
/-- another frame where F stands -/
noncomputable def Fx.re (F : Fx) (env' : Env) (outer' : List Env) (comp' : Bool) : Fx := { F with env := env', outer := outer', comp := comp' }
/-- it stands where F stands, and what it may write is F's, or is not in h -/
structure Like (F : Fx) (env' : Env) (outer' : List Env) (comp' : Bool) (h : Heap) : Prop where
  frs : (F.re env' outer' comp').frs = F.frs
  fr : ∀ b, b ∈ frAddrs outer' → b ∈ frAddrs F.frs
  nw : ∀ b, (b = env'.locals ∨ b ∈ env'.cells.map (·.2)) → (b = F.env.locals ∨ b ∈ F.env.cells.map (·.2)) ∨ h.get? b = none
  ok : ∀ k, F.Ok k → (F.re env' outer' comp').Ok k
theorem Like.refl {F : Fx} {h : Heap} : Like F F.env F.outer F.comp h := ⟨rfl, fun b hb => by
    unfold Fx.frs
    split
    · exact hb
    · unfold frAddrs at hb ⊢
      rw [List.filterMap_cons]
      split
      · exact hb
      · exact List.mem_cons_of_mem _ hb, fun b hb => .inl hb, fun k ok => ok⟩
theorem Like.seqKept {F : Fx} {env' : Env} {outer' : List Env} {comp' : Bool} {σ σ' : Hp} {m : Lo} {s s' : Shared} (L : Like F env' outer' comp' s.heap) (st : St F σ m s) (ev : Ev (F.re env' outer' comp').fr (F.re env' outer' comp').wr σ σ' s s') : SeqKept σ σ' s.heap s'.heap := fun b o e hi hs =>
  ⟨ev.dom' e hs, ev.keep b o e hs (fun hw => by
    have : b = env'.locals ∨ b ∈ env'.cells.map (·.2) := hw.imp (fun q => q) fun q => q.2
    rcases L.nw b this with q | q
    · rcases q with rfl | q
      · exact st.lr.wr_kind (.inl rfl) e hi
      · obtain ⟨p, hp, rfl⟩ := List.mem_map.mp q
        obtain ⟨o', ov, h1, h2⟩ := st.lr.cellsAll p hp
        rw [e] at h1; cases h1
        rcases hi with ⟨ws, n, q⟩ | ⟨ws, q, _⟩ <;> rw [h2] at q <;> cases q
    · rw [e] at q; cases q) (fun hm => by
    obtain ⟨o', es, ep, e1, e2⟩ := st.gs.frames.mem (L.fr b hm)
    rw [e] at e1; cases e1
    rcases hi with ⟨ws, n, q⟩ | ⟨ws, q, _⟩ <;> rw [q] at e2 <;> cases e2) hi.notX⟩
theorem Like.mono {F : Fx} {env' : Env} {outer' : List Env} {comp' : Bool} {h h' : Heap} (L : Like F env' outer' comp' h') (k : ∀ b o, h.get? b = some o → ∃ o', h'.get? b = some o') : Like F env' outer' comp' h :=
  ⟨L.frs, L.fr, fun b hb => (L.nw b hb).imp (fun q => q) fun q => (by
    cases hq : h.get? b with
    | none => rfl
    | some o => obtain ⟨o', e⟩ := k b o hq; rw [q] at e; cases e), L.ok⟩
/-- the heap has grown, all else is the same -/
noncomputable def Grown (s s' : Shared) : Prop := (∀ b o, s.heap.get? b = some o → s'.heap.get? b = some o) ∧ s'.gens = s.gens ∧ s'.os = s.os
theorem Grown.refl {s : Shared} : Grown s s := ⟨fun _ _ e => e, rfl, rfl⟩
/-- a value that can be walked along, by F or by any like it; its items at first in s -/
noncomputable def Walkable (F : Fx) (target : Expr) (σ : Hp) (s : Shared) (it : Value) (s₂ : Shared) (ds : List V) : Prop :=
  ∀ env' outer' comp', Like F env' outer' comp' s₂.heap → ∃ J : Nat → Hp → Shared → Prop, (∀ s₄ σ₄, Grown s₂ s₄ → (∀ b o, s₂.heap.get? b = some o → σ₄ b = σ b) → J 0 σ₄ s₄) ∧ ItOk (F.re env' outer' comp') target σ s it J ds
noncomputable def ITER (F : Fx) (target : Expr) (a : V) (σ : Hp) (ds : List V) : Prop :=
  ∀ s v m, St F σ m s → VR s.heap σ a v → wpAny F.M F.A (pyIter v) (fun it s' => Ev F.fr F.wr σ σ s s' ∧ Ev (frAddrs F.frs) (fun _ => False) σ σ s s' ∧ St F σ m s' ∧ Walkable F target σ s it s' ds) (fun _ _ => False) s
section
variable {prog : Program} {w : World} {A : Around} {E : Value → Shared → Prop} {s : Shared}
theorem codeAny_forLoop2 {R : Result → Shared → Prop} {target it body orelse env} (I : Nat → Shared → Prop)
    (turn : ∀ n s, I n s → wpAny (model prog w) A (pyNext it) (fun r s₁ => match r with
      | none => wpAny (model prog w) A (execs orelse env) (fun f s₃ => R (.ok f) s₃) (notedBy (model prog w) A env fun e s' => R (.error e) s') s₁
      | some v => wpAny (model prog w) A (letOwnedTupleGo target it v) (fun _ s₁' => wpAny (model prog w) A (assign target env v) (fun _ s₂ => wpAny (model prog w) A (execs body env) (fun f s₃ => match f with
          | .next | .cont => ∃ m, m < n ∧ I m s₃
          | .brk => R (.ok .next) s₃
          | .ret v => R (.ok (.ret v)) s₃) (notedBy (model prog w) A env fun e s' => R (.error e) s') s₂) (notedBy (model prog w) A env fun e s' => R (.error e) s') s₁') (notedBy (model prog w) A env fun e s' => R (.error e) s') s₁) (notedBy (model prog w) A env fun e s' => R (.error e) s') s)
    (n : Nat) (h : I n s) : codeAny (model prog w) A (.forLoop target it body orelse env) R s := by
  refine codeAny_loop' rfl I (fun n s hI => ?_) n h
  show wpAny _ _ ((forTurn target it body orelse env).onRaise (fun x => do noteFrame x env; theTreesLotGoes x)) _ _ s
  refine wpAny_noted ?_
  simp only [forTurn]
  refine wpAny_bind (wpAny_standAt (wpAny_bind (wpAny_onRaise (wpAny_mono (turn n s hI) (fun r s₁ h₁ => ?_) fun _ _ h' => wpAny_standAt h'))))
  cases r with
  | none => exact wpAny_pure (.inr ⟨rfl, codeAny_block h₁⟩)
  | some v =>
    refine wpAny_bind (wpAny_mono h₁ (fun _ s₁' h₁' => ?_) fun _ _ h' => h')
    refine wpAny_bind (wpAny_mono h₁' (fun _ s₂ h₂ => wpAny_bind (wpAny_mono h₂ (fun f s₃ h₃ => ?_) fun _ _ h' => h')) fun _ _ h' => h')
    cases f with
    | next => exact wpAny_pure (.inl ⟨rfl, h₃⟩)
    | cont => exact wpAny_pure (.inl ⟨rfl, h₃⟩)
    | brk => exact wpAny_pure h₃
    | ret v => exact wpAny_pure h₃
end
section
variable {F : Fx} {k : Nat} {m : Lo} {Q : Fl → Lo → Hp → Prop} {X : XE} {σ σ' : Hp} {s s' : Shared} {x : Str} {pos p : Pos}
theorem at_name {a : V} {K : Lo → Hp → Prop} (ok : F.Ok k) (hb : Bound F x) (h : K (m.put x a) σ) : AT F (.Name x p) a m K σ := fun s v st r =>
  wpAny_assign_Name (store ok hb st r fun s' e st' => ⟨_, σ, e, st', h⟩)
end
section
variable {F : Fx} {k : Nat} {m : Lo} {σ σ' σ₀ : Hp} {s s' s₀ : Shared}
/-- a record of the interpreter's own, made after s₀, has been changed -/
theorem St.chg (st : St F σ m s) {I : Addr} (hb : F.base.get? I = none) {o : Obj} {vs : Array Value} (ho : s.heap.get? I = some o) (hd : o.data = .fields vs) (hc : o.cls ≠ .type "range") {h' : Heap} {t : Nat}
    (hk : ∀ b o, b ≠ I → s.heap.get? b = some o → h'.get? b = some o) : St F σ m { s with heap := h', toks := t } ∧ SeqKept σ σ s.heap h' := by
  have kq : SeqKept σ σ s.heap h' := fun b ob e hi hs => ⟨hs, hk b ob (fun q => by
    rw [q, ho] at e; cases e
    rcases hi with ⟨ws, n, q⟩ | ⟨ws, _, q⟩
    · rw [hd] at q; cases q
    · exact hc q) e⟩
  refine ⟨⟨⟨fun b ob e => hk b ob (fun q => by rw [q, hb] at e; cases e) (st.gs.keep b ob e), ?_, fun a ds ha => ?_, st.gs.bare⟩, st.lr.keeps kq fun b ob e h1 h2 => ?_⟩, kq⟩
  · exact st.gs.frames.of fun b ob es ep e hd' => ⟨ob, es, ep, hk b ob (fun q => by rw [q, ho] at e; cases e; rw [hd] at hd'; cases hd') e, hd'⟩
  · obtain ⟨h1, ws, n, h2, h3⟩ := st.gs.lists a ds ha
    exact ⟨h1, ws, n, hk a _ (fun q => by rw [q, ho] at h2; cases h2; cases hd) h2, h3.mono kq⟩
  · exact ⟨ob, hk b ob (fun q => by rw [q, ho] at e; cases e; exact h2 _ hd) e, rfl⟩
theorem Ev.chg (ev : Ev F.fr F.wr σ₀ σ s₀ s) {I : Addr} (hI : s₀.heap.get? I = none) {h' : Heap} {t : Nat} (hk : ∀ b o, b ≠ I → s.heap.get? b = some o → h'.get? b = some o) : Ev F.fr F.wr σ₀ σ s₀ { s with heap := h', toks := t } where
  keep b o e h1 h2 h3 h4 := hk b o (fun q => by rw [q, hI] at e; cases e) (ev.keep b o e h1 h2 h3 h4)
  keepD b o e h1 h2 h4 := let ⟨o', e', c', d'⟩ := ev.keepD b o e h1 h2 h4; ⟨o', hk b o' (fun q => by rw [q, hI] at e; cases e) e', c', d'⟩
  dom := ev.dom
  own b o e := let ⟨o', e'⟩ := ev.own b o e; ⟨o', hk b o' (fun q => by rw [q, hI] at e; cases e) e'⟩
  os := ev.os
  gens := ev.gens
/-- the library's walks as iterators here -/
theorem ItOk.of_walks {target : Expr} {I : Addr} {fp : List Addr} {n : Nat} {P : Nat → Value → Prop} {T : Nat → Heap → Prop} {ds : List V}
    (W : Walks F.prog F.w F.A I fp [I] n P T) (hn : n = ds.length) (hI : s₀.heap.get? I = none) (hb : F.base.get? I = none)
    (hrec : ∀ i h, T i h → ∃ o vs, h.get? I = some o ∧ o.data = .fields vs ∧ o.cls ≠ .type "range" ∧ ¬ Xish o)
    (hP : ∀ i v d σ s m, St F σ m s → Ev F.fr F.wr σ₀ σ s₀ s → T i s.heap → ds[i]? = some d → P i v → VR s.heap σ d v)
    (hown : ∀ i s v, T i s.heap → wpAny F.M F.A (letOwnedTupleGo target (.ref I) v) (fun _ s' => s' = s) (fun _ _ => False) s) :
    ItOk F target σ₀ s₀ (.ref I) (fun i σ s => i ≤ n ∧ T i s.heap ∧ ∀ b ∈ fp, b ≠ I → σ b = none ∧ ∃ o, s.heap.get? b = some o ∧ Imm o) ds where
  item i d s σ m j st ev hd := by
    have hlt : i < ds.length := (List.getElem?_eq_some_iff.mp hd).1
    obtain ⟨o, vs, ho, hdat, hcls, hxi⟩ := hrec i _ j.2.1
    refine W.item i s _ _ (by omega) j.2.1 fun v h' tk hp ht hk => ?_
    have hk' : ∀ b o, b ≠ I → s.heap.get? b = some o → h'.get? b = some o := fun b o hne e => hk b o (by simpa using hne) e
    obtain ⟨st', kq⟩ := st.chg (t := tk) hb ho hdat hcls hk'
    exact ⟨v, rfl, ⟨by omega, ht, fun b hb hne => let ⟨h1, ob, h2, h3⟩ := j.2.2 b hb hne; ⟨h1, ob, hk' b ob hne h2, h3⟩⟩, st', ev.chg hI hk', (hP i v d σ s m st ev j.2.1 hd hp).mono kq⟩
  fin i s σ m j st ev hd := by
    have hge : ds.length ≤ i := by simpa using hd
    have hi : i = n := by have := j.1; lia
    subst hi
    obtain ⟨o, vs, ho, hdat, hcls, hxi⟩ := hrec _ _ j.2.1
    refine W.done s _ _ j.2.1 fun h' tk hk => ?_
    have hk' : ∀ b o, b ≠ I → s.heap.get? b = some o → h'.get? b = some o := fun b o hne e => hk b o (by simpa using hne) e
    obtain ⟨st', kq⟩ := st.chg (t := tk) hb ho hdat hcls hk'
    exact ⟨rfl, st', ev.chg hI hk'⟩
  keep i s s' σ σ' m j st ev := by
    obtain ⟨o, vs, ho, hdat, hcls, hxi⟩ := hrec _ _ j.2.1
    have hIs : s'.heap.get? I = some o := by
      refine ev.keep I o ho ?_ ?_ ?_ hxi
      · cases hq : σ I with
        | none => rfl
        | some es =>
          obtain ⟨_, ws, n, e1, _⟩ := st.gs.lists I es hq
          rw [ho] at e1; cases e1; cases hdat
      · intro hw
        rcases hw with rfl | hw
        · obtain ⟨mc, ⟨o', es, ep, e1, e2, _⟩, _⟩ := st.lr.ns
          rw [ho] at e1; cases e1; rw [hdat] at e2; cases e2
        · obtain ⟨p, hp, rfl⟩ := List.mem_map.mp hw.2
          obtain ⟨o', ov, e1, e2⟩ := st.lr.cellsAll p hp
          rw [ho] at e1; cases e1; rw [hdat] at e2; cases e2
      · intro hm
        obtain ⟨o', es, ep, e1, e2⟩ := (Fx.ffo st.gs.frames).mem hm
        rw [ho] at e1; cases e1; rw [hdat] at e2; cases e2
    have hall : ∀ b ∈ fp, ∀ o, s.heap.get? b = some o → s'.heap.get? b = some o := fun b hb ob e => by
      by_cases q : b = I
      · subst q; rw [ho] at e; cases e; exact hIs
      · obtain ⟨h1, ob', h2, h3⟩ := j.2.2 b hb q
        rw [e] at h2; cases h2
        exact (st.seqKept ev b ob e h3 h1).2
    refine ⟨j.1, W.frame i _ _ j.2.1 hall, fun b hb hne => ?_⟩
    obtain ⟨h1, ob, h2, h3⟩ := j.2.2 b hb hne
    exact ⟨(st.seqKept ev b ob h2 h3 h1).1, ob, hall b hb ob h2, h3⟩
  own i σ s v j := hown i s v j.2.1
  self i σ s j := W.self i s _ _ j.2.1 ⟨rfl, rfl⟩
/-- what the walks want at first -/
theorem walks_start {I : Addr} {fp : List Addr} {n : Nat} {P : Nat → Value → Prop} {T : Nat → Heap → Prop} {s s₄ : Shared} {A : Around} {prog : Program} {w : World} {σ σ₄ : Hp}
    (W : Walks prog w A I fp [I] n P T) (gr : Grown s s₄) (hσ : ∀ b o, s.heap.get? b = some o → σ₄ b = σ b) (h : 0 ≤ n ∧ T 0 s.heap ∧ ∀ b ∈ fp, b ≠ I → σ b = none ∧ ∃ o, s.heap.get? b = some o ∧ Imm o) (hI : ∃ o, s.heap.get? I = some o) :
    0 ≤ n ∧ T 0 s₄.heap ∧ ∀ b ∈ fp, b ≠ I → σ₄ b = none ∧ ∃ o, s₄.heap.get? b = some o ∧ Imm o :=
  ⟨h.1, W.frame 0 _ _ h.2.1 fun b _ o e => gr.1 b o e, fun b hb hne => let ⟨h1, o, h2, h3⟩ := h.2.2 b hb hne; ⟨(hσ b o h2).trans h1, o, gr.1 b o h2, h3⟩⟩
/-- the items of a list taken by value -/
theorem iter_listD {target : Expr} {ds : List D} (hh : F.A.handled = none) (ht : ∀ it v, letOwnedTupleGo target it v = pure ()) : ITER F target (.d (.list ds)) σ (ds.map .d) := fun s v m st r => by
  have r' := r
  simp only [VR, RD] at r
  obtain ⟨b, vs, n, rfl, e1, hσ, e2⟩ := r
  have hI : s.heap.get? s.heap.objs.size = none := Heap.get?_none_of_le (Nat.le_refl _)
  have hne : b ≠ s.heap.objs.size := Nat.ne_of_lt (Heap.lt_size e1)
  have W := fun (F' : Fx) (hh' : F'.A.handled = none) => Walks.list (prog := F'.prog) (w := F'.w) hh' s.heap.objs.size b hne (List.toArray vs)
  refine wpAny_pyIter_list ⟨_, e1, rfl, n, rfl⟩ ⟨Ev.push _ s.toks, Ev.push _ s.toks, st.push _ s.toks, fun env' outer' comp' L => ⟨_, fun s₄ σ₄ gr hσ₄ => walks_start (W F hh) gr hσ₄ ?_ ⟨_, Heap.get?_push_size _ rfl⟩, ItOk.of_walks (F := F.re env' outer' comp') (W F hh) (by simp [e2.length]) hI (st.gs.base_ge (Nat.le_refl _)) (fun i h ht => ?_) (fun i v d σ' s' m' st' ev' ht hd hv => ?_) (fun i s' v _ => by rw [ht]; exact wpAny_pure rfl)⟩⟩
  · refine ⟨Nat.zero_le _, ⟨⟨_, Heap.get?_push_size _ rfl, rfl, rfl⟩, ⟨_, Heap.get?_push_of_some _ e1, rfl, n, rfl⟩⟩, fun c hc hcn => ?_⟩
    rcases List.mem_cons.mp hc with q | q
    · exact absurd q hcn
    · obtain rfl := List.mem_singleton.mp q
      exact ⟨hσ, _, Heap.get?_push_of_some _ e1, imm_seq⟩
  · obtain ⟨⟨o, ho, hc, hd⟩, _⟩ := ht
    exact ⟨o, _, ho, hd, by rw [hc]; decide, notX_cls hc (by decide) (by decide)⟩
  · have kq := (L.mono (h := s.heap) fun b o e => ⟨o, Heap.get?_push_of_some _ e⟩).seqKept st ev'
    have r2 := r'.mono kq
    simp only [VR, RD] at r2
    obtain ⟨b', vs', n', hb', e1', _, e2'⟩ := r2
    cases hb'
    have : s'.heap.get? b = some (seqObj "list" (List.toArray vs) n) := (kq b _ e1 imm_seq hσ).2
    rw [this] at e1'; cases e1'
    rw [List.getElem?_map] at hd
    obtain ⟨p, hp, rfl⟩ := Option.map_eq_some_iff.mp hd
    obtain ⟨w, h1, h2⟩ := e2'.get i hp
    have hv' : vs[i]? = some v := by simpa using hv
    rw [hv'] at h1; cases h1
    simpa only [VR] using h2
/-- the signs of a text -/
noncomputable def signs (y : Str) : List D := y.cps.toList.map fun c => .str ⟨#[c]⟩
theorem iter_str {target : Expr} {y : Str} (hh : F.A.handled = none) (ht : ∀ it v, letOwnedTupleGo target it v = pure ()) : ITER F target (.d (.str y)) σ ((signs y).map .d) := fun s v m st r => by
  obtain ⟨t, rfl⟩ := r.str
  have hI : s.heap.get? s.heap.objs.size = none := Heap.get?_none_of_le (Nat.le_refl _)
  refine PySem.wpAny_pyIter_strU (x := y) (t := t) ?_
  have key : ∀ ty, (ty ≠ "range" ∧ ty ≠ "IndexError" ∧ ty ≠ "traceback") → Walks F.prog F.w F.A s.heap.objs.size [s.heap.objs.size] [s.heap.objs.size] y.cps.size (SignAt y) (fun i h => h.IsStrIter s.heap.objs.size ty y t i) →
      Ev F.fr F.wr σ σ s { s with heap := s.heap.push { cls := .type ty, data := .fields #[.str y t, .int 0 0] } } ∧ Ev (frAddrs F.frs) (fun _ => False) σ σ s { s with heap := s.heap.push { cls := .type ty, data := .fields #[.str y t, .int 0 0] } } ∧ St F σ m { s with heap := s.heap.push { cls := .type ty, data := .fields #[.str y t, .int 0 0] } } ∧
        Walkable F target σ s (.ref s.heap.objs.size) { s with heap := s.heap.push { cls := .type ty, data := .fields #[.str y t, .int 0 0] } } ((signs y).map .d) := fun ty hty W => by
    refine ⟨Ev.push _ s.toks, Ev.push _ s.toks, st.push _ s.toks, fun env' outer' comp' L => ⟨_, fun s₄ σ₄ gr hσ₄ => walks_start W gr hσ₄ ?_ ⟨_, Heap.get?_push_size _ rfl⟩, ItOk.of_walks (F := F.re env' outer' comp') W (by simp [signs]) hI (st.gs.base_ge (Nat.le_refl _)) (fun i h ht => ?_) (fun i v d σ' s' m' st' ev' ht hd hv => ?_) (fun i s' v _ => by rw [ht]; exact wpAny_pure rfl)⟩⟩
    · exact ⟨Nat.zero_le _, ⟨_, Heap.get?_push_size _ rfl, rfl, rfl⟩, fun c hc hcn => absurd (List.mem_singleton.mp hc) hcn⟩
    · obtain ⟨o, ho, hc, hd⟩ := ht
      exact ⟨o, _, ho, hd, by rw [hc]; simpa using hty.1, notX_cls hc hty.2.1 hty.2.2⟩
    · obtain ⟨c, u, hc, rfl⟩ := hv
      have : d = .d (.str ⟨#[c]⟩) := by
        simp only [signs, List.map_map, List.getElem?_map] at hd
        rw [show y.cps.toList[i]? = some c by simpa using hc] at hd
        simpa using hd.symm
      subst this
      exact vr_str
  unfold strIterType
  split
  · exact key _ (by decide) (Walks.strAscii hh _ y t)
  · exact key _ (by decide) (Walks.strWide hh _ y t)
noncomputable def upInts (a : Int) (n : Nat) : List D := (List.range n).map fun (i : Nat) => .int (a + (i : Int))
theorem iter_rng {target : Expr} {a b : Int} (hh : F.A.handled = none) (ht : ∀ it v, letOwnedTupleGo target it v = pure ()) (ha : -(2 ^ 31) ≤ a) (ha' : a < 2 ^ 31) (hb : -(2 ^ 31) ≤ b) (hb' : b < 2 ^ 31) : ITER F target (.rng a b) σ ((upInts a (b - a).toNat).map .d) := fun s v m st r => by
  simp only [VR] at r
  obtain ⟨r0, t, u, w, rfl, e1, hσ⟩ := r
  have hI : s.heap.get? s.heap.objs.size = none := Heap.get?_none_of_le (Nat.le_refl _)
  have hsz : Builtin.Range.rangeSize a b 1 = ((b - a).toNat : Int) := rangeSize_nat a b
  have hfit : ∀ x : Int, -(2 ^ 33) ≤ x → x < 2 ^ 33 → Builtin.Range.rangeFitsLong x = true := fun x h1 h2 => by
    unfold Builtin.Range.rangeFitsLong
    simp only [Bool.and_eq_true, decide_eq_true_eq]
    lia
  have hsmall : Builtin.Range.small a b 1 = true := by
    unfold Builtin.Range.small
    rw [hsz, hfit a (by lia  ) (by lia  ), hfit b (by lia  ) (by lia  ), hfit 1 (by lia  ) (by lia  ), hfit ((b - a).toNat : Int) (by lia  ) (by lia  )]
    simp only [Bool.and_self, Bool.true_and, Int.sub_self, Int.add_zero]
    rw [hfit b (by lia  ) (by lia  )]
    simp
  refine wpAny_pyIter_range e1 hsmall ?_
  refine ⟨Ev.push _ s.toks, Ev.push _ s.toks, st.push _ s.toks, fun env' outer' comp' L => ⟨_, fun s₄ σ₄ gr hσ₄ => walks_start (Walks.range (prog := F.prog) (w := F.w) (A := F.A) hh s.heap.objs.size a 1 (b - a).toNat) gr hσ₄ ?_ ⟨_, Heap.get?_push_size _ rfl⟩, ItOk.of_walks (F := F.re env' outer' comp') (Walks.range (prog := F.prog) (w := F.w) (A := F.A) hh s.heap.objs.size a 1 (b - a).toNat) (by simp [upInts]) hI (st.gs.base_ge (Nat.le_refl _)) (fun i h ht => ?_) (fun i v d σ' s' m' st' ev' ht hd hv => ?_) (fun i s' v _ => by rw [ht]; exact wpAny_pure rfl)⟩⟩
  · refine ⟨Nat.zero_le _, ?_, fun c hc hcn => absurd (List.mem_singleton.mp hc) hcn⟩
    have := Heap.get?_push_size s.heap (o := { cls := .type "range_iterator", data := .fields #[rawInt a, rawInt (Builtin.Range.rangeSize a b 1), rawInt 1] }) rfl
    rw [hsz] at this ⊢
    simpa using this
  · exact ⟨_, _, ht, rfl, fun q => absurd (Value.type.inj q) (by decide), notX_cls rfl (by decide) (by decide)⟩
  · obtain ⟨tk, rfl⟩ := hv
    have : d = .d (.int (a + i * 1)) := by
      simp only [upInts, List.map_map, List.getElem?_map] at hd
      cases hr : (List.range (b - a).toNat)[i]? with
      | none => rw [hr] at hd; cases hd
      | some j =>
        rw [hr] at hd
        have : j = i := by
          obtain ⟨h1, h2⟩ := List.getElem?_eq_some_iff.mp hr
          simpa using h2.symm
        subst this
        simpa using hd.symm
    subst this
    exact vr_int
theorem iter_rngN {target : Expr} {n : Nat} (hh : F.A.handled = none) (ht : ∀ it v, letOwnedTupleGo target it v = pure ()) (hn : n < 2 ^ 20) : ITER F target (.rng 0 n) σ ((upInts 0 ((n : Int) - 0).toNat).map .d) :=
  iter_rng hh ht (by decide) (by decide) (by lia  ) (by lia  )
end
/-- a change of exceptions, traces and marks on frames alone -/
structure XS (base : Heap) (l : List Env) (h h' : Heap) : Prop where
  keep : ∀ b o, h.get? b = some o → b ∉ frAddrs l → ¬ Xish o → h'.get? b = some o
  keepD : ∀ b o, h.get? b = some o → ¬ Xish o → ∃ o', h'.get? b = some o' ∧ o'.cls = o.cls ∧ o'.data = o.data
  own : ∀ b o, h.get? b = some o → ∃ o', h'.get? b = some o'
  base : base.StaysIn h → base.StaysIn h'
theorem XS.refl {base : Heap} {l : List Env} {h : Heap} : XS base l h h := ⟨fun _ _ e _ _ => e, fun _ o e _ => ⟨o, e, rfl, rfl⟩, fun _ o e => ⟨o, e⟩, fun x => x⟩
theorem XS.trans {base : Heap} {l : List Env} {h h' h'' : Heap} (x : XS base l h h') (y : XS base l h' h'') : XS base l h h'' where
  keep b o e h1 h2 := y.keep b o (x.keep b o e h1 h2) h1 h2
  keepD b o e h2 := by
    obtain ⟨o', e', c', d'⟩ := x.keepD b o e h2
    obtain ⟨o'', e'', c'', d''⟩ := y.keepD b o' e' (by unfold Xish; rw [c', d']; exact h2)
    exact ⟨o'', e'', c''.trans c', d''.trans d'⟩
  own b o e := by
    obtain ⟨o', e'⟩ := x.own b o e
    exact y.own b o' e'
  base z := y.base (x.base z)
theorem XS.upd {base : Heap} {l : List Env} {h : Heap} {a : Addr} {o : Obj} (ho : h.get? a = some o) (hx : Xish o) (hb : base.get? a = none) {f : Obj → Obj} (hf : (f o).isFreed = false) : XS base l h (h.update a f) where
  keep b ob e _ h2 := (Heap.get?_update_other _ _ (fun q => by subst q; rw [ho] at e; cases e; exact h2 hx)).trans e
  keepD b ob e h2 := ⟨ob, (Heap.get?_update_other _ _ (fun q => by subst q; rw [ho] at e; cases e; exact h2 hx)).trans e, rfl, rfl⟩
  own b ob e := by
    by_cases q : a = b
    · subst q; exact ⟨_, Heap.get?_update_self _ ho hf⟩
    · exact ⟨ob, (Heap.get?_update_other _ _ q).trans e⟩
  base k b ob e := (Heap.get?_update_other _ _ (fun q => by subst q; rw [hb] at e; cases e)).trans (k b ob e)
theorem XS.push {base : Heap} {l : List Env} {h : Heap} (o : Obj) : XS base l h (h.push o) :=
  ⟨fun _ _ e _ _ => Heap.get?_push_of_some o e, fun _ ob e _ => ⟨ob, Heap.get?_push_of_some o e, rfl, rfl⟩, fun _ ob e => ⟨ob, Heap.get?_push_of_some o e⟩, fun k b ob e => Heap.get?_push_of_some o (k b ob e)⟩
theorem XS.slots {base : Heap} {l : List Env} {h h' : Heap} (x : Heap.SlotsOnly (frAddrs l) h h') (hf : FF h base l) : XS base l h h' where
  keep b o e h1 _ := (x.2.1 b h1).trans e
  keepD b o e _ := let ⟨sl, e'⟩ := x.2.2 b o e; ⟨_, e', rfl, rfl⟩
  own b o e := let ⟨sl, e'⟩ := x.2.2 b o e; ⟨_, e'⟩
  base k b o e := (x.2.1 b fun hm => by
    have := (hf.fun.mem hm).1
    rw [e] at this; cases this).trans (k b o e)
section
variable {F : Fx} {k : Nat} {m : Lo} {σ σ' : Hp} {s s' : Shared}
theorem St.xs (ok : F.Ok k) (st : St F σ m s) {h' : Heap} {t : Nat} (x : XS F.base F.frs s.heap h') : St F σ m { s with heap := h', toks := t } ∧ Ev F.fr F.wr σ σ s { s with heap := h', toks := t } := by
  have e : Ev (frAddrs F.frs) (fun _ => False) σ σ s { s with heap := h', toks := t } := ⟨fun b o e _ _ h3 h4 => x.keep b o e h3 h4, fun b o e _ _ h4 => x.keepD b o e h4, fun b hb => .inl hb, x.own, rfl, fun _ _ e => e⟩
  refine st.after ok ⟨x.base st.gs.keep, ?_, fun a ds ha => ?_, st.gs.bare⟩ e
  · exact st.gs.frames.of fun b o es ep e hd => by
      obtain ⟨o', e', c', d'⟩ := x.keepD b o e (notX_data fun vs q => by rw [hd] at q; cases q)
      exact ⟨o', es, ep, e', d'.trans hd⟩
  · obtain ⟨h1, ws, n, h2, h3⟩ := st.gs.lists a ds ha
    refine ⟨h1, ws, n, x.keep _ _ h2 (fun hm => ?_) imm_seq.notX, h3.mono (st.gs.seqKept e)⟩
    obtain ⟨o', es, ep, e1, e2⟩ := st.gs.frames.mem hm
    rw [h2] at e1; cases e1; cases e2
end
/-- an exception that is on its way, or held; a0: its args, a2: its context; tr: it has a trace -/
structure Xc (base : Heap) (tr : Bool) (a0 a2 : Value) (e : Value) (s : Shared) : Prop where
  at_ : ∃ ea o vs, e = .ref ea ∧ base.get? ea = none ∧ s.heap.get? ea = some o ∧ o.cls = .type "IndexError" ∧ o.data = .fields vs ∧ 2 < vs.size ∧ vs[0]? = some a0 ∧ vs[2]? = some a2 ∧
    ((tr = false ∧ vs[1]? = some .none) ∨ ∃ T oT ts, vs[1]? = some (.ref T) ∧ base.get? T = none ∧ s.heap.get? T = some oT ∧ oT.cls = .type "traceback" ∧ oT.data = .fields ts ∧ 3 < ts.size)
section
variable {F : Fx} {k : Nat} {m : Lo} {σ σ' : Hp} {s s' : Shared} {A : Around} {E : Value → Shared → Prop} {Q : Unit → Shared → Prop} {a0 a2 e : Value} {tr : Bool}
theorem xc_note (hc : F.comp = false) (ok : F.Ok k) (hA : A.frames = some F.frs) (st : St F σ m s) (x : Xc F.base tr a0 a2 e s)
    (h : ∀ h', XS F.base F.frs s.heap h' → Xc F.base true a0 a2 e { s with heap := h' } → Q () { s with heap := h' }) : wpAny F.M A (noteFrame e F.env) Q E s := by
  obtain ⟨ea, o, vs, rfl, h2, h3, h4, h5, h6, h7, h8, h9⟩ := x.at_
  have hxo : Xish o := ⟨⟨vs, h5⟩, .inl h4⟩
  have hfs : F.frs = F.env :: F.outer := by unfold Fx.frs; rw [hc]
  have new : ∀ (head : Value) (hadNext : Bool) (h₀ : Heap), XS F.base F.frs s.heap h₀ → h₀.get? ea = some o → FF h₀ F.base F.frs →
      wpAny F.M A (do let a ← frameOf F.env; let pl ← entryPlaceOf F.env.locals hadNext; let b ← EntryCells.newEntry head a .none (rawInt F.env.locals) .none pl; setField (.ref ea) 1 b) Q E { s with heap := h₀ } := fun head hadNext h₀ x₀ ho₀ ff₀ => by
    refine wpAny_bind (wpAny_frameOf_fun (hA.trans (congrArg some hfs)) (hfs ▸ ff₀).fun (ok.frame hc) fun h₁ hs₁ => ?_)
    replace hs₁ : Heap.SlotsOnly (frAddrs F.frs) h₀ h₁ := by rw [hfs]; exact hs₁
    refine wpAny_bind (wpAny_entryPlaceOf fun pl hpl => ?_)
    unfold EntryCells.newEntry newFields
    refine wpAny_bind (wpAny_newObj_type ?_ (hpl.sizeOk5 _ _ _ _ _))
    have x₁ := XS.slots hs₁ ff₀
    have hne : ea ∉ frAddrs F.frs := fun hm => by
      obtain ⟨o', es, ep, e1, e2⟩ := ff₀.mem hm
      rw [ho₀] at e1; cases e1; rw [h5] at e2; cases e2
    have ho₁ : h₁.get? ea = some o := (hs₁.2.1 ea hne).trans ho₀
    have ho₂ := Heap.get?_push_of_some (h := h₁) { cls := .type "traceback", dict := none, data := .fields ([head, .ref F.env.locals, .none, rawInt F.env.locals, .none] ++ (if pl.isEmpty then List.replicate 6 Value.none else pl)).toArray } ho₁
    refine wpAny_setField ho₂ h5 (by lia  ) ?_
    have hTe : h₁.objs.size ≠ ea := Nat.ne_of_gt (Heap.lt_size ho₁)
    have hd₃ := Obj.data_mapFields h5 (·.setIfInBounds 1 (Value.ref h₁.objs.size))
    have hT : F.base.get? h₁.objs.size = none := by
      cases hq : F.base.get? h₁.objs.size with
      | none => rfl
      | some o' => exact absurd (Heap.lt_size (x₁.base (x₀.base st.gs.keep) _ _ hq)) (Nat.lt_irrefl _)
    have hT₃ := (Heap.get?_update_other (h₁.push { cls := .type "traceback", dict := none, data := .fields ([head, .ref F.env.locals, .none, rawInt F.env.locals, .none] ++ (if pl.isEmpty then List.replicate 6 Value.none else pl)).toArray })
      (Obj.mapFields (·.setIfInBounds 1 (Value.ref h₁.objs.size))) (Ne.symm hTe)).trans (Heap.get?_push_size h₁ rfl)
    refine h _ (x₀.trans (x₁.trans ((XS.push _).trans (XS.upd ho₂ hxo h2 (Obj.isFreed_of_fields hd₃))))) ⟨ea, _, _, rfl, h2, Heap.get?_update_self _ ho₂ (Obj.isFreed_of_fields hd₃), (Obj.cls_mapFields _ _).trans h4, hd₃, ?_, ?_, ?_, .inr ⟨h₁.objs.size, _, _, ?_, hT, hT₃, rfl, rfl, ?_⟩⟩
    · simpa using h6
    · simpa using h7
    · simpa using h8
    · show (vs.setIfInBounds 1 _)[1]? = _
      rw [Array.getElem?_setIfInBounds_self_of_lt (by lia  )]
    · simp only [List.size_toArray, List.length_append, List.length_cons, List.length_nil]; lia
  unfold noteFrame
  simp only [ok.frame hc]
  rcases h9 with ⟨_, h9⟩ | ⟨T, oT, ts, h9, t1, t2, t3, t4, t5⟩
  · refine wpAny_bind (wpAny_field h3 h5 h9 ?_)
    rw [if_neg (by decide)]
    exact new _ _ _ XS.refl h3 st.gs.frames
  · refine wpAny_bind (wpAny_field h3 h5 h9 ?_)
    rw [if_pos (show (Value.ref T != Value.none) = true from by simp)]
    obtain ⟨y, hy⟩ : ∃ y, ts[3]? = some y := ⟨ts[3], Array.getElem?_eq_getElem t5⟩
    refine wpAny_bind (wpAny_field t2 t4 hy ?_)
    by_cases hq : (y == rawInt F.env.locals) = true
    · rw [if_pos hq]
      exact wpAny_pure (h _ XS.refl ⟨ea, o, vs, rfl, h2, h3, h4, h5, h6, h7, h8, .inr ⟨T, oT, ts, h9, t1, t2, t3, t4, t5⟩⟩)
    · rw [if_neg hq]
      have hdT := Obj.data_mapFields t4 (·.setIfInBounds 3 Value.none)
      have x₀ : XS F.base F.frs s.heap _ := XS.upd t2 ⟨⟨ts, t4⟩, .inr t3⟩ t1 (Obj.isFreed_of_fields hdT)
      refine wpAny_bind (wpAny_setField t2 t4 t5 ?_)
      have hne : T ≠ ea := fun q => by subst q; rw [t2] at h3; cases h3; rw [t3] at h4; exact absurd (Value.type.inj h4) (by decide)
      refine new _ _ _ x₀ ((Heap.get?_update_other _ _ hne).trans h3) ?_
      exact st.gs.frames.of fun b o es ep e hd => by
        obtain ⟨o', e', c', d'⟩ := x₀.keepD b o e (notX_data fun vs q => by rw [hd] at q; cases q)
        exact ⟨o', es, ep, e', d'.trans hd⟩
theorem xc_flight {fr : Option Addr} {l : List Env} {base : Heap} {M : Model} (x : Xc base tr a0 a2 e s)
    (h : ∀ h', XS base l s.heap h' → Xc base tr a0 a2 e { s with heap := h' } → Q () { s with heap := h' }) : wpAny M A (setFlight e fr) Q E s := by
  obtain ⟨ea, o, vs, rfl, h2, h3, h4, h5, h6, h7, h8, h9⟩ := x.at_
  unfold setFlight
  rcases h9 with ⟨h0, h9⟩ | ⟨T, oT, ts, h9, t1, t2, t3, t4, t5⟩
  · refine wpAny_bind (wpAny_field h3 h5 h9 ?_)
    rw [if_neg (by decide)]
    exact wpAny_pure (h _ XS.refl ⟨ea, o, vs, rfl, h2, h3, h4, h5, h6, h7, h8, .inl ⟨h0, h9⟩⟩)
  · refine wpAny_bind (wpAny_field h3 h5 h9 ?_)
    rw [if_pos (show (Value.ref T != Value.none) = true from by simp)]
    have hdT := Obj.data_mapFields t4 (·.setIfInBounds 3 (fr.elim .none fun f => rawInt f))
    have hne : T ≠ ea := fun q => by subst q; rw [t2] at h3; cases h3; rw [t3] at h4; exact absurd (Value.type.inj h4) (by decide)
    refine wpAny_setField t2 t4 t5 (h _ (XS.upd t2 ⟨⟨ts, t4⟩, .inr t3⟩ t1 (Obj.isFreed_of_fields hdT)) ⟨ea, o, vs, rfl, h2, (Heap.get?_update_other _ _ hne).trans h3, h4, h5, h6, h7, h8, .inr ⟨T, _, _, h9, t1, Heap.get?_update_self _ t2 (Obj.isFreed_of_fields hdT), (Obj.cls_mapFields _ _).trans t3, hdT, by simpa using t5⟩⟩)
theorem xc_leaving (hc : F.comp = false) (ok : F.Ok k) (hA : A.frames = some F.frs) (st : St F σ m s) (x : Xc F.base tr a0 a2 e s)
    (h : ∀ h', XS F.base F.frs s.heap h' → Xc F.base true a0 a2 e { s with heap := h' } → Q () { s with heap := h' }) : wpAny F.M A (leaving F.env e) Q E s := by
  unfold leaving
  exact wpAny_bind (xc_note hc ok hA st x fun h₁ x₁ c₁ => xc_flight c₁ fun h₂ x₂ c₂ => h h₂ (x₁.trans x₂) c₂)
end
theorem entry_unchain : entryFor table "proto.unchain" = some Builtin.«proto.unchain» := entryFor_of_tree (by kernel_rfl)
/-- what holds where an IndexError has been raised -/
structure NewIx (h h' : Heap) (e : Addr) (a2 : Value) (msg : Str) : Prop where
  keeps : ∀ b o, h.get? b = some o → h'.get? b = some o
  new : h.get? e = none
  there : ∃ ta t o, h.get? ta = none ∧ h'.get? e = some o ∧ o.cls = .type "IndexError" ∧ o.data = .fields #[.ref ta, .none, a2, .none, .bool false, .none] ∧ h'.get? ta = some (seqObj "tuple" #[.str msg t] 0)
/-- nothing is handled here, or an exception without a context -/
noncomputable def HandledOk (A : Around) (h : Heap) : Prop := A.handled = none ∨ ∃ ea o vs, A.handled = some (.ref ea) ∧ h.get? ea = some o ∧ o.data = .fields vs ∧ vs[2]? = some .none
noncomputable def ctxOf (A : Around) : Value := A.handled.getD .none
section
variable {α : Type} {prog : Program} {w : World} {A : Around} {E : Value → Shared → Prop} {s : Shared}
theorem raise_ix {msg : String} {Q : α → Shared → Prop} (hh : HandledOk A s.heap)
    (h : ∀ h' tk e, NewIx s.heap h' e (ctxOf A) (msg : Str) → E (.ref e) { s with heap := h', toks := tk }) :
    wpAny (model prog w) A (raiseErrorWords "IndexError" msg : Sem α) Q E s := by
  unfold raiseErrorWords
  refine wpAny_bind (wpAny_mkText (wpAny_bind ?_))
  unfold newExc newTuple
  refine wpAny_bind (wpAny_newObj_type ?_)
  refine wpAny_bind (m := firstArgMember _ _) (wpAny_of_eq (a := Value.none) (by simp only [firstArgMember, plainExc_IndexError.first]; rfl) ?_)
  rw [plainExc_IndexError.own]
  refine wpAny_newObj_type ?_
  unfold raiseNew
  refine wpAny_bind (wpAny_handled ?_)
  have hk : ∀ b o, s.heap.get? b = some o → ((s.heap.push { cls := .type "tuple", data := .seq #[.str msg s.toks] }).push { cls := .type "IndexError", data := .fields (#[.ref s.heap.objs.size, .none, .none, .none, .bool false, .none] ++ #[]) }).get? b = some o := fun b o hb => Heap.get?_push_of_some _ (Heap.get?_push_of_some _ hb)
  rcases hh with hh | ⟨ea, o, vs, hh, ho, hd, h2⟩
  · rw [hh]
    have hc : ctxOf A = .none := by unfold ctxOf; rw [hh]; rfl
    rw [hc] at h
    first
      | refine wpAny_throw ?_
      | refine wpAny_bind (wpAny_pure (wpAny_throw ?_))
    exact h _ _ _ ⟨hk, Heap.get?_none_of_le (by simp), s.heap.objs.size, s.toks, _, Heap.get?_none_of_le (Nat.le_refl _), Heap.get?_push_size _ rfl, rfl, by simp, Heap.get?_push_of_some _ (Heap.get?_push_size _ rfl)⟩
  · rw [hh]
    have hc : ctxOf A = .ref ea := by unfold ctxOf; rw [hh]; rfl
    rw [hc] at h
    have hne : ea ≠ (s.heap.push { cls := .type "tuple", data := .seq #[.str msg s.toks] }).objs.size := Nat.ne_of_lt (by rw [Heap.size_push]; exact Nat.lt_succ_of_lt (Heap.lt_size ho))
    show wpAny _ _ (if (Value.ref ea != Value.ref _) = true then _ else _) _ _ _
    rw [if_pos (by simpa using hne)]
    have ho' := hk ea o ho
    refine wpAny_bind (wpAny_holding (wpAny_runValue (codeAny_builtin entry_unchain ?_)))
    show wpAny _ _ (field (.ref ea) 2 >>= _) _ _ _
    refine wpAny_bind (wpAny_field ho' hd h2 ?_)
    rw [if_pos (by decide)]
    refine wpAny_pure ?_
    show wpAny _ _ (updateField _ 2 (.ref ea) >>= _) _ _ _
    have he : ((s.heap.push { cls := .type "tuple", data := .seq #[.str msg s.toks] }).push { cls := .type "IndexError", data := .fields (#[.ref s.heap.objs.size, .none, .none, .none, .bool false, .none] ++ #[]) }).get? (s.heap.push { cls := .type "tuple", data := .seq #[.str msg s.toks] }).objs.size = some { cls := .type "IndexError", data := .fields (#[.ref s.heap.objs.size, .none, .none, .none, .bool false, .none] ++ #[]) } := Heap.get?_push_size _ rfl
    refine wpAny_bind (wpAny_setField he rfl (by simp) (wpAny_throw ?_))
    have hd₃ := Obj.data_mapFields (o := { cls := .type "IndexError", data := .fields (#[.ref s.heap.objs.size, .none, .none, .none, .bool false, .none] ++ #[]) }) rfl (·.setIfInBounds 2 (Value.ref ea))
    refine h _ _ _ ⟨fun b ob hb => (Heap.get?_update_other _ _ ?_).trans (hk b ob hb), Heap.get?_none_of_le (by simp), s.heap.objs.size, s.toks, _, Heap.get?_none_of_le (Nat.le_refl _), Heap.get?_update_self _ he (Obj.isFreed_of_fields hd₃), Obj.cls_mapFields _ _, ?_, (Heap.get?_update_other _ _ ?_).trans (Heap.get?_push_of_some _ (Heap.get?_push_size _ rfl))⟩
    · rw [Heap.size_push]; exact Nat.ne_of_gt (Nat.lt_succ_of_lt (Heap.lt_size hb))
    · rw [hd₃]; simp
    · rw [Heap.size_push]; exact Nat.ne_of_gt (Nat.lt_succ_self _)
end
/-- an IndexError with its words; a2: its context -/
noncomputable def Xm (base : Heap) (σ : Hp) (msg : Str) (a2 : Value) (e : Value) (s : Shared) : Prop :=
  ∃ tr ta t, Xc base tr (.ref ta) a2 e s ∧ s.heap.get? ta = some (seqObj "tuple" #[.str msg t] 0) ∧ σ ta = none
noncomputable def HOk (F : Fx) : Prop := F.A.handled = none ∨ ∃ ea o vs, F.A.handled = some (.ref ea) ∧ F.base.get? ea = some o ∧ o.data = .fields vs ∧ vs[2]? = some .none
theorem HOk.ok {F : Fx} {A : Around} {σ : Hp} {m : Lo} {s : Shared} (h : HOk F) (st : St F σ m s) (hA : A.handled = F.A.handled) : HandledOk A s.heap := by
  rcases h with h | ⟨ea, o, vs, h1, h2, h3, h4⟩
  · exact .inl (hA.trans h)
  · exact .inr ⟨ea, o, vs, hA.trans h1, st.gs.keep _ _ h2, h3, h4⟩
section
variable {F : Fx} {k : Nat} {m : Lo} {Q : V → Hp → Prop} {X : Value → Hp → Shared → Prop} {σ σ' : Hp} {s s' : Shared} {x : Str} {pos p : Pos}
theorem St.newIx (st : St F σ m s) {h' : Heap} {e : Addr} {a2 : Value} {msg : Str} {tk : Nat} (x : NewIx s.heap h' e a2 msg) :
    St F σ m { s with heap := h', toks := tk } ∧ Ev F.fr F.wr σ σ s { s with heap := h', toks := tk } ∧ Xm F.base σ msg a2 (.ref e) { s with heap := h', toks := tk } := by
  obtain ⟨ta, t, o, h1, h2, h3, h4, h5⟩ := x.there
  have kq : SeqKept σ σ s.heap h' := fun b ob e _ hs => ⟨hs, x.keeps b ob e⟩
  have nb : ∀ b, s.heap.get? b = none → F.base.get? b = none := fun b hb => by
    cases hq : F.base.get? b with
    | none => rfl
    | some o' => have := st.gs.keep b o' hq; rw [hb] at this; cases this
  refine ⟨⟨⟨fun b ob e => x.keeps b ob (st.gs.keep b ob e), st.gs.frames.of fun b ob es ep e hd => ⟨ob, es, ep, x.keeps b ob e, hd⟩, fun a ds ha => ?_, st.gs.bare⟩, st.lr.keeps kq fun b ob e _ _ => ⟨ob, x.keeps b ob e, rfl⟩⟩,
    ⟨fun b ob e _ _ _ _ => x.keeps b ob e, fun b ob e _ _ _ => ⟨ob, x.keeps b ob e, rfl, rfl⟩, fun _ e => .inl e, fun b ob e => ⟨ob, x.keeps b ob e⟩, rfl, fun _ _ e => e⟩,
    false, ta, t, ⟨e, o, _, rfl, nb e x.new, h2, h3, h4, by simp, rfl, rfl, .inl ⟨rfl, rfl⟩⟩, h5, ?_⟩
  · obtain ⟨q1, ws, n, q2, q3⟩ := st.gs.lists a ds ha
    exact ⟨q1, ws, n, x.keeps _ _ q2, q3.mono kq⟩
  · cases hq : σ ta with
    | none => rfl
    | some ds =>
      obtain ⟨_, ws, n, q2, _⟩ := st.gs.lists ta ds hq
      rw [h1] at q2; cases q2
theorem getItem_out {prog : Program} {w : World} {A : Around} {E : Value → Shared → Prop} {l : Addr} {items : Array Value} {k : Int} {t : Tok} {Q : Value → Shared → Prop} (hA : HandledOk A s.heap) (hl : s.heap.IsList l items)
    (h0 : 0 ≤ k) (hout : (items.size : Int) ≤ k) (hhi : k < 2 ^ 63)
    (hE : ∀ h' tk e, NewIx s.heap h' e (ctxOf A) "list index out of range" → E (.ref e) { s with heap := h', toks := tk }) :
    wpAny (model prog w) A (getItem (.ref l) (.int k t)) Q E s := by
  obtain ⟨o, ho, hc, ne, hd⟩ := id hl
  unfold getItem
  try with_reducible refine wpAny_holding ?_
  first | refine wpAny_bind (wpAny_pure ?_) | skip
  refine wpAny_bind (wpAny_sequenceKey hl.typeIs (by decide) ?_)
  refine wpAny_bind (wpAny_callSpecial?_slot (name := Str.ofString "__getitem__") hl.typeIs slot_list_getitem
    (wpAny_call_entry slot_list_getitem hl.typeIs entry_list_getitem ?_ (args_list_getitem _ _)))
  show wpAny _ _ (Builtin.List.listSubscript? (.int k t) >>= _) _ _ s
  refine wpAny_bind (wpAny_listSubscript_int (fitsIndex_both (by lia  ) hhi) ?_)
  clear hhi
  cases k with
  | ofNat j =>
    have hx : items[j]? = none := Array.getElem?_eq_none (by have : (items.size : Int) ≤ (j : Int) := hout; lia  )
    show wpAny _ _ ((seqItemAt l j >>= fun r => pure (r.map (j, ·))) >>= _) _ _ s
    refine wpAny_bind (wpAny_bind (wpAny_seqItemAt ho hd (wpAny_pure ?_)))
    rw [hx]
    first
      | exact wpAny_bind (wpAny_rule (raise_ix hA hE))
      | exact wpAny_bind (wpAny_rule (wpAny_bind (raise_ix hA hE)))
      | exact wpAny_bind (wpAny_bind (wpAny_rule (raise_ix hA hE)))
      | exact wpAny_rule (raise_ix hA hE)
  | negSucc j => exact absurd h0 (by have := Int.negSucc_lt_zero j; lia  )
/-- an index behind a list's end -/
theorem sb_out {value slice : Expr} {a : V} {ds : List D} {i : Int} (ha : asL σ a = some ds) (hz : ds.length < 2 ^ 23) (h0 : (ds.length : Int) ≤ i) (h1 : i < 2 ^ 40) (hh : HOk F)
    (q : ∀ e s, Xm F.base σ "list index out of range" (ctxOf F.A) e s → X e σ s) (hs : ∀ o i, subscripted slice false o i = operate [o, i] (getItem o i)) :
    SB F m value slice a (.d (.int i)) Q X σ := fun s v w st r1 r2 => by
  obtain ⟨t, rfl⟩ := r2.int
  obtain ⟨b, vs, n, rfl, e1, e2⟩ := asL_at st.gs r1 ha
  have hlen := e2.length
  refine tail_any ⟨_, e1, rfl⟩ list_getitem_lookup (getItem_out (hh.ok st rfl) ⟨_, e1, rfl, n, rfl⟩ (by lia  ) (by rw [List.size_toArray]; lia  ) (by lia  ) fun h' tk e x => ?_) (hs _ _)
  obtain ⟨st', ev', xm⟩ := st.newIx (tk := tk) x
  exact ⟨σ, ev', st', q _ _ xm⟩
theorem list_pop_empty (l : Addr) (n : Nat) :
    Meets (Builtin.«list.pop» ⟨[.ref l], []⟩) (fun A R s => s.heap.get? l = some { cls := .type "list", dict := none, data := .seq #[] n, slots := #[] } ∧ HandledOk A s.heap ∧ ∀ h' tk e, NewIx s.heap h' e (ctxOf A) "pop from empty list" → R (.error (.ref e)) { s with heap := h', toks := tk }) :=
  .of_wp fun prog w A R s h => by
    obtain ⟨hp, g, d, tk, os⟩ := s; obtain ⟨hl, h⟩ := h
    have hc0 : (#[] : Array Value).isEmpty = true := rfl
    wp_walk using wpAny_loadPart' hl
    exact raise_ix h.1 h.2
theorem bc_popEmpty {b : Addr} (hb : σ b = some []) (hh : HOk F) (q : ∀ e s, Xm F.base σ "pop from empty list" (ctxOf F.A) e s → X e σ s) : BC F m (.builtin "list.pop") [.ref b] Q X σ := fun s vs st r => by
  obtain ⟨v, rfl, r1⟩ := r.one
  obtain rfl := r1.ref
  obtain ⟨_, vs, n, e1, e2⟩ := st.gs.lists b _ hb
  obtain rfl : vs = [] := by simpa only [RDs] using e2
  refine call_meets PySem.F.slot_list_pop ⟨_, e1, rfl⟩ PySem.F.entry_list_pop (PySem.F.args_list_pop_1 _) (list_pop_empty b n) ⟨e1, hh.ok st rfl, fun h' tk e x => ?_⟩
  obtain ⟨st', ev', xm⟩ := st.newIx (tk := tk) x
  exact ⟨σ, ev', st', q _ _ xm⟩
end
/-- the objects at some addresses alone -/
noncomputable def keepOnly (h : Heap) (p : Addr → Bool) : Heap := { h with objs := h.objs.mapIdx fun i o => if p i then o else { o with data := .freed } }
theorem get?_keepOnly (h : Heap) (p : Addr → Bool) (a : Addr) : (keepOnly h p).get? a = if p a then h.get? a else none := by
  unfold keepOnly Heap.get?
  simp only [Array.getElem?_mapIdx]
  cases hq : h.objs[a]? with
  | none => simp
  | some o =>
    by_cases hp : p a = true
    · simp [hp]
    · simp [hp]
/-- the base and some objects more -/
noncomputable def baseOn (base h : Heap) (as : List Addr) : Heap := keepOnly h fun a => (base.get? a).isSome || as.contains a
theorem baseOn_stays {base h : Heap} {as : List Addr} : (baseOn base h as).StaysIn h := fun b o e => by
  unfold baseOn at e; rw [get?_keepOnly] at e
  split at e
  · exact e
  · cases e
theorem baseOn_base {base h : Heap} {as : List Addr} (k : base.StaysIn h) : base.StaysIn (baseOn base h as) := fun b o e => by
  unfold baseOn; rw [get?_keepOnly, if_pos (by simp [e])]; exact k b o e
theorem baseOn_in {base h : Heap} {as : List Addr} {a : Addr} {o : Obj} (ha : a ∈ as) (e : h.get? a = some o) : (baseOn base h as).get? a = some o := by
  unfold baseOn; rw [get?_keepOnly, if_pos (by simp [ha])]; exact e
theorem baseOn_none {base h : Heap} {as : List Addr} {a : Addr} (h1 : base.get? a = none) (h2 : a ∉ as) : (baseOn base h as).get? a = none := by
  unfold baseOn; rw [get?_keepOnly, if_neg (by simp [h1, h2])]
theorem Bs.more {base base' : Heap} {G : Str → Option Value} (b : Bs base G) (k : base.StaysIn base') : Bs base' G where
  nolimit := b.nolimit.keeps k
  look x v h := by
    rcases b.look x v h with ⟨mg, g1, g2⟩ | ⟨mg, mb, g1, g2, g3, g4⟩
    · exact .inl ⟨mg, g1.keeps k, g2⟩
    · exact .inr ⟨mg, mb, g1.keeps k, g2, g3.keeps k, g4⟩
/-- an exception is handled, and the base knows some objects more -/
noncomputable abbrev Fx.held (F : Fx) (base' : Heap) (e : Value) : Fx := { F with base := base', A := F.A.mark (some e) }
section
variable {F : Fx} {k : Nat} {m : Lo} {σ σ' : Hp} {s s' : Shared} {x : Str} {pos p : Pos} {base' : Heap} {e : Value}
theorem St.unheld (kb : F.base.StaysIn base') (st : St (F.held base' e) σ m s) : St F σ m s := by
  have nb : ∀ b, base'.get? b = none → F.base.get? b = none := fun b hb => by
    cases hq : F.base.get? b with
    | none => rfl
    | some o => have := kb b o hq; rw [hb] at this; cases this
  have ff : ∀ l : List Env, FF s.heap base' l → FF s.heap F.base l := fun l => by
    induction l with
    | nil => exact fun _ => trivial
    | cons env rest ih => exact fun ⟨h1, ⟨L, o, es, ep, h2, h3, h4⟩, h5⟩ => ⟨h1, ⟨L, o, es, ep, h2, nb L h3, h4⟩, ih h5⟩
  exact ⟨⟨fun b o h => st.gs.keep b o (kb b o h), ff _ st.gs.frames, fun a ds ha => let ⟨h1, h2⟩ := st.gs.lists a ds ha; ⟨nb a h1, h2⟩, st.gs.bare⟩, st.lr⟩
/-- objects that are neither frames nor cells nor writable lists may be taken into the base -/
theorem St.held (ok : F.Ok k) (st : St F σ m s) (e : Value) (as : List Addr) (has : ∀ a ∈ as, ∃ o, s.heap.get? a = some o ∧ (∀ es ep, o.data ≠ .dict es ep) ∧ (∀ v, o.data ≠ .cell v) ∧ σ a = none) :
    (F.held (baseOn F.base s.heap as) e).Ok k ∧ St (F.held (baseOn F.base s.heap as) e) σ m s := by
  have ff : ∀ l : List Env, FF s.heap F.base l → FF s.heap (baseOn F.base s.heap as) l := fun l => by
    induction l with
    | nil => exact fun _ => trivial
    | cons env rest ih => exact fun ⟨h1, ⟨L, o, es, ep, h2, h3, h4, h4'⟩, h5⟩ => ⟨h1, ⟨L, o, es, ep, h2, baseOn_none h3 fun hm => by
        obtain ⟨o', q1, q2, _⟩ := has L hm
        rw [h4] at q1; cases q1; exact q2 _ _ h4', h4, h4'⟩, ih h5⟩
  refine ⟨⟨ok.frames, ok.frame, ok.kind, ok.glob, ok.blt, ok.depth, ok.units, ok.apart, ok.above, ok.inter, fun b hb => baseOn_none (ok.fresh b hb) fun hm => ?_, ok.bs.more (baseOn_base st.gs.keep)⟩,
    ⟨⟨baseOn_stays, ff _ st.gs.frames, fun a ds ha => let ⟨h1, h2⟩ := st.gs.lists a ds ha; ⟨baseOn_none h1 fun hm => ?_, h2⟩, st.gs.bare⟩, st.lr⟩⟩
  · obtain ⟨o', q1, q2, q3, _⟩ := has b hm
    rcases hb with rfl | hb
    · obtain ⟨mc, ⟨o, es, ep, h1, h2, _⟩, _⟩ := st.lr.ns
      rw [h1] at q1; cases q1; exact q2 _ _ h2
    · obtain ⟨p, hp, rfl⟩ := List.mem_map.mp hb.2
      obtain ⟨o, ov, h1, h2⟩ := st.lr.cellsAll p hp
      rw [h1] at q1; cases q1; exact q3 _ h2
  · obtain ⟨o', _, _, _, q4⟩ := has a hm
    rw [ha] at q4; cases q4
/-- a global name, nothing being changed -/
theorem globalS {A : Around} {v : Value} {Q : Value → Shared → Prop} {E : Value → Shared → Prop} (ok : F.Ok k) (st : St F σ m s) (hl : F.env.kindOf x = some .globalImplicit) (hm : F.G x = some v) (q : Q v s) (hd : (x == ("__debug__" : Str)) = false) : wpAny F.M A (eval (.Name x pos) F.env) Q E s := by
  refine Calls.Name_function_global ok.kind hl ?_ hd
  rcases ok.bs.look x v hm with ⟨mg, g1, g2⟩ | ⟨mg, mb, g1, g2, g3, g4⟩
  · exact Calls.loadGlobal_global (by rw [ok.glob]; exact g1.keeps st.gs.keep) g2 q
  · exact Calls.loadGlobal_builtin (by rw [ok.glob]; exact g1.keeps st.gs.keep) g2 (by rw [ok.blt]; exact g3.keeps st.gs.keep) g4 q
theorem Xm.xs {base : Heap} {l : List Env} {σ : Hp} {msg : Str} {a2 e : Value} {ta : Addr} {t : Tok} {tr : Bool} {h' : Heap} (hf : FF s.heap base l) (x : XS base l s.heap h') (c : Xc base tr (.ref ta) a2 e { s with heap := h' }) (h1 : s.heap.get? ta = some (seqObj "tuple" #[.str msg t] 0)) (h2 : σ ta = none) : Xm base σ msg a2 e { s with heap := h' } :=
  ⟨tr, ta, t, c, x.keep _ _ h1 (fun hm => by
    obtain ⟨o, es, ep, q1, q2⟩ := hf.mem hm
    rw [h1] at q1; cases q1; cases q2) imm_seq.notX, h2⟩
/-- the exceptions that a rule hands on -/
noncomputable def XI (F : Fx) (msg : Str) (c : Bool) (P : Lo → Hp → Prop) : XE := fun e m σ s => P m σ ∧ ∃ a2, (c = true → a2 = .none) ∧ Xm F.base σ msg a2 e s
theorem xi_note (hcm : F.comp = false) {A : Around} {msg : Str} {c : Bool} {P : Lo → Hp → Prop} {Q : Unit → Shared → Prop} {E : Value → Shared → Prop} (ok : F.Ok k) (hA : A.frames = some F.frs) (st : St F σ m s) (x : XI F msg c P e m σ s)
    (h : ∀ s' a2 ta t, Ev F.fr F.wr σ σ s s' → St F σ m s' → (c = true → a2 = .none) → P m σ → Xc F.base true (.ref ta) a2 e s' → s'.heap.get? ta = some (seqObj "tuple" #[.str msg t] 0) → σ ta = none → Q () s') : wpAny F.M A (noteFrame e F.env) Q E s := by
  obtain ⟨hp, a2, hc, tr, ta, t, x1, x2, x3⟩ := x
  refine xc_note hcm ok hA st x1 fun h' xs' c' => ?_
  obtain ⟨st', ev'⟩ := st.xs ok (t := s.toks) xs'
  obtain ⟨_, _, _, _, e2, _⟩ := Xm.xs st.gs.frames xs' c' x2 x3
  refine h _ a2 ta t ev' st' hc hp c' ?_ x3
  exact xs'.keep _ _ x2 (fun hm => by
    obtain ⟨o, es, ep, q1, q2⟩ := st.gs.frames.mem hm
    rw [x2] at q1; cases q1; cases q2) imm_seq.notX
theorem xt_flight {A : Around} {msg : Str} {fr : Option Addr} {a2 : Value} {ta : Addr} {t : Tok} {Q : Unit → Shared → Prop} {E : Value → Shared → Prop} (ok : F.Ok k) (st : St F σ m s) (x1 : Xc F.base true (.ref ta) a2 e s) (x2 : s.heap.get? ta = some (seqObj "tuple" #[.str msg t] 0))
    (h : ∀ s', Ev F.fr F.wr σ σ s s' → St F σ m s' → Xc F.base true (.ref ta) a2 e s' → s'.heap.get? ta = some (seqObj "tuple" #[.str msg t] 0) → Q () s') : wpAny F.M A (setFlight e fr) Q E s := by
  refine xc_flight (l := F.frs) x1 fun h' xs' c' => ?_
  obtain ⟨st', ev'⟩ := st.xs ok (t := s.toks) xs'
  exact h _ ev' st' c' (xs'.keep _ _ x2 (fun hm => by
    obtain ⟨o, es, ep, q1, q2⟩ := st.gs.frames.mem hm
    rw [x2] at q1; cases q1; cases q2) imm_seq.notX)
theorem xt_back {A : Around} {msg : Str} {c : Bool} {P : Lo → Hp → Prop} {a2 : Value} {ta : Addr} {t : Tok} {E : Value → Shared → Prop} (ok : F.Ok k) (st : St F σ m s) (x1 : Xc F.base true (.ref ta) a2 e s) (x2 : s.heap.get? ta = some (seqObj "tuple" #[.str msg t] 0)) (x3 : σ ta = none) (hc : c = true → a2 = .none) (hp : P m σ)
    (h : ∀ s', Ev F.fr F.wr σ σ s s' → St F σ m s' → XI F msg c P e m σ s' → E e s') : cameBackBy F.M A F.env E e s := by
  unfold cameBackBy
  obtain ⟨ea, o, vs, rfl, h2, h3, h4, h5, h6, h7, h8, h9⟩ := id x1.at_
  rcases h9 with ⟨h0, h9⟩ | ⟨T, oT, ts, h9, tt⟩
  · cases h0
  · refine wpAny_bind (wpAny_field h3 h5 h9 ?_)
    rw [if_neg (show ¬ ((Value.ref T == Value.none) = true) from by simp)]
    exact xt_flight ok st x1 x2 fun s' ev' st' c' h2' => h s' ev' st' ⟨hp, a2, hc, true, ta, t, c', h2', x3⟩
variable {Q : Fl → Lo → Hp → Prop}
/-- a while loop whose turns may raise -/
theorem ex_whileX (hcm : F.comp = false) {test : Expr} {body orelse : List Stmt} {msg : Str} {c : Bool} {P : Lo → Hp → Prop} (ok : F.Ok k) (I : Nat → Lo → Hp → Prop) (n : Nat) (h0 : I n m σ)
    (turn : ∀ n m σ, I n m σ → TS F test m (fun b σ' => if b then EXs F body m (fun fl m' σ'' => match fl with
        | .next | .cont => ∃ j, j < n ∧ I j m' σ''
        | .brk => Q .next m' σ''
        | .ret a => Q (.ret a) m' σ'') (XI F msg c P) σ' else EXs F orelse m Q (XI F msg c P) σ') (fun e => XI F msg c P e m) σ) : EX F (.While test body orelse pos) m Q (XI F msg c P) σ := fun s st => by
  have exc : ∀ (e : Value) (s' : Shared) m' σ', Ev F.fr F.wr σ σ' s s' → St F σ' m' s' → XI F msg c P e m' σ' s' →
      notedBy F.M F.A F.env (fun e s' => cameBackBy F.M F.A F.env (XExc F σ s (XI F msg c P)) e s') e s' := fun e s' m' σ' ev st' x => by
    unfold notedBy
    exact xi_note hcm ok ok.frames st' x fun s₁ a2 ta t ev1 st1 hc hp x1 x2 x3 => xt_back ok st1 x1 x2 x3 hc hp fun s₂ ev2 st2 x => ⟨m', σ', ev.trans (ev1.trans ev2), st2, x⟩
  refine wpAny_While (codeAny_whileLoop (fun n s' => ∃ m' σ', Ev F.fr F.wr σ σ' s s' ∧ St F σ' m' s' ∧ I n m' σ') (fun n s₁ ⟨m₁, σ₁, e1, st1, hI⟩ => ?_) n ⟨m, σ, Ev.refl, st, h0⟩)
  refine wpAny_mono (turn n m₁ σ₁ hI s₁ st1) (fun b s₂ ⟨σ₂, e2, st2, q⟩ => ?_) fun e s₂ ⟨σ₂, e2, st2, x⟩ => exc e s₂ m₁ σ₂ (e1.trans e2) st2 x
  cases b with
  | true =>
    simp only [if_true] at q ⊢
    refine wpAny_mono (q s₂ st2) (fun f s₃ ⟨fl, m₃, σ₃, e3, st3, r3, q3⟩ => ?_) fun e s₃ ⟨m₃, σ₃, e3, st3, x⟩ => exc e s₃ m₃ σ₃ (e1.trans (e2.trans e3)) st3 x
    have e := e1.trans (e2.trans e3)
    cases fl with
    | next => simp only [FR] at r3; subst r3; obtain ⟨j, hj, hI'⟩ := q3; exact ⟨j, hj, m₃, σ₃, e, st3, hI'⟩
    | cont => simp only [FR] at r3; subst r3; obtain ⟨j, hj, hI'⟩ := q3; exact ⟨j, hj, m₃, σ₃, e, st3, hI'⟩
    | brk => simp only [FR] at r3; subst r3; exact ⟨.next, m₃, σ₃, e, st3, rfl, q3⟩
    | ret a => obtain ⟨v, rfl, r⟩ := r3; exact ⟨.ret a, m₃, σ₃, e, st3, ⟨v, rfl, r⟩, q3⟩
  | false =>
    simp only [Bool.false_eq_true, if_false] at q ⊢
    exact wpAny_mono (q s₂ st2) (fun f s₃ ⟨fl, m₃, σ₃, e3, st3, r3, q3⟩ => ⟨fl, m₃, σ₃, e1.trans (e2.trans e3), st3, r3, q3⟩) fun e s₃ ⟨m₃, σ₃, e3, st3, x⟩ => exc e s₃ m₃ σ₃ (e1.trans (e2.trans e3)) st3 x
/-- try, with one except IndexError -/
theorem ex_try (hcm : F.comp = false) {body suite : List Stmt} {b₀ : Stmt} {hp : Pos} {msg : Str} {c : Bool} {P : Lo → Hp → Prop} {X : XE} (ok : F.Ok k) (hl : F.env.kindOf "IndexError" = some .globalImplicit) (hG : F.G "IndexError" = some (.type "IndexError"))
    (h : EXs F body m Q (XI F msg c P) σ)
    (hs : ∀ e base' m' σ', (F.held base' e).Ok k → P m' σ' → EXs (F.held base' e) (b₀ :: suite) m' Q NoX σ') :
    EX F (.Try body [.ExceptHandler (some (.Name "IndexError" p)) none (b₀ :: suite) hp] [] [] pos) m Q X σ := fun s st => by
  refine wpAny_Try_except (wpAny_mono (h s st) (fun f s₁ ⟨fl, m₁, σ₁, e1, st1, r1, q1⟩ => ?_) fun e s₁ ⟨m₁, σ₁, e1, st1, x⟩ => ?_)
  · cases fl with
    | next => simp only [FR] at r1; subst r1; exact wpAny_execs_nil ⟨.next, m₁, σ₁, e1, st1, rfl, q1⟩
    | cont => simp only [FR] at r1; subst r1; exact ⟨.cont, m₁, σ₁, e1, st1, rfl, q1⟩
    | brk => simp only [FR] at r1; subst r1; exact ⟨.brk, m₁, σ₁, e1, st1, rfl, q1⟩
    | ret a => obtain ⟨v, rfl, r⟩ := r1; exact ⟨.ret a, m₁, σ₁, e1, st1, ⟨v, rfl, r⟩, q1⟩
  · refine xi_note hcm ok ok.frames st1 x fun s₂ a2 ta t ev2 st2 hc hp x1 x2 x3 => ?_
    refine xt_flight ok st2 x1 x2 fun s₃ ev3 st3 y1 y2 => ?_
    obtain ⟨ea, o, vs, rfl, z⟩ := id y1.at_
    refine wpAny_handleBy_builtin PySem.F.isExc_IndexError PySem.F.notTuple_IndexError PySem.F.self_IndexError ?_
    refine globalS ok st3 hl hG ?_ (by decide)
    refine ⟨rfl, ⟨o, z.2.1, z.2.2.1⟩, ?_⟩
    simp only [if_true]
    refine xt_flight ok st3 y1 y2 fun s₄ ev4 st4 w1 w2 => ?_
    obtain ⟨ok', st'⟩ := st4.held ok (.ref ea) [] (fun a ha => by cases ha)
    refine wpAny_mono (hs (.ref ea) _ m₁ σ₁ ok' hp s₄ st') (fun f s₅ ⟨fl, m₅, σ₅, e5, st5, r5, q5⟩ => ⟨fl, m₅, σ₅, e1.trans (ev2.trans (ev3.trans (ev4.trans e5))), st5.unheld (baseOn_base st4.gs.keep), r5, q5⟩) fun _ _ ⟨_, _, _, _, x⟩ => x.elim
end
noncomputable def Lo.del (m : Lo) (x : Str) : Lo := fun y => if y = x then none else m y
theorem Lo.del_ne (m : Lo) {x y : Str} (h : y ≠ x) : m.del x y = m y := if_neg h
section
variable {F : Fx} {k : Nat} {m : Lo} {σ σ' : Hp} {s s' : Shared} {x : Str} {pos p : Pos} {base' : Heap} {e : Value}
theorem Xc.unheld {base base' : Heap} {tr : Bool} {a0 a2 : Value} (kb : base.StaysIn base') (x : Xc base' tr a0 a2 e s) : Xc base tr a0 a2 e s := by
  have nb : ∀ b, base'.get? b = none → base.get? b = none := fun b hb => by
    cases hq : base.get? b with
    | none => rfl
    | some o => have := kb b o hq; rw [hb] at this; cases this
  obtain ⟨ea, o, vs, h1, h2, h3, h4, h5, h6, h7, h8, h9⟩ := x.at_
  exact ⟨ea, o, vs, h1, nb _ h2, h3, h4, h5, h6, h7, h8, h9.imp (fun h => h) fun ⟨T, oT, ts, t1, t2, t3⟩ => ⟨T, oT, ts, t1, nb _ t2, t3⟩⟩
theorem XI.unheld {e' : Value} {msg : Str} {c : Bool} {P : Lo → Hp → Prop} (kb : F.base.StaysIn base') (x : XI (F.held base' e') msg c P e m σ s) : XI F msg c P e m σ s :=
  let ⟨h1, a2, h2, tr, ta, t, x1, x2, x3⟩ := x; ⟨h1, a2, h2, tr, ta, t, x1.unheld kb, x2, x3⟩
theorem nameGoes {A : Around} {n : Str} {hp : Pos} {Q : Unit → Shared → Prop} {E : Value → Shared → Prop} (ok : F.Ok k) (st : St F σ m s) (hl : F.env.kindOf n = some .local) (hc : F.env.cells.lookup n = none)
    (h : ∀ s', Ev F.fr F.wr σ σ s s' → St F σ (m.del n) s' → Q () s') : wpAny F.M A (do bindName F.env n .none; unbindBehindTheSuite F.env n hp) Q E s := by
  obtain ⟨mc, h1, h2⟩ := st.lr.ns
  refine wpAny_nameGoes_keeps hl h1 (by rw [ok.kind]; rfl) fun h' v hn hs => ?_
  have key := St.own (t := s.toks + 1) (m' := m.del n) ok st (b := F.env.locals) (.inl rfl) hs (let ⟨o, es, ep, e1, e2, _⟩ := hn; ⟨o, e1⟩) (let ⟨o, es, ep, e1, e2, _⟩ := hn; fun _ _ _ _ _ => ⟨o, es, ep, e1, e2⟩) (fun kq => ?_)
  · exact h _ key.2 key.1
  · refine ⟨⟨_, hn, fun y a hk hm => ?_⟩, fun y ca hc' => ?_, fun q hq => ?_⟩
    · by_cases hy : y = n
      · subst hy; unfold Lo.del at hm; rw [if_pos rfl] at hm; cases hm
      · rw [Lo.del_ne _ hy] at hm
        obtain ⟨w, e1, e2⟩ := h2 y a hk hm
        exact ⟨w, by simpa only [if_neg hy] using e1, e2.mono kq⟩
    · obtain ⟨o, ov, e1, e2, e3⟩ := st.lr.cells y ca hc'
      have hne : ca ≠ F.env.locals := fun q => ok.above (y, ca) (mem_of_look hc') q.symm
      refine ⟨o, ov, (hs.2 ca hne).trans e1, e2, fun a hm => ?_⟩
      by_cases hy : y = n
      · subst hy; rw [hc] at hc'; cases hc'
      · rw [Lo.del_ne _ hy] at hm
        obtain ⟨w, e4, e5⟩ := e3 a hm
        exact ⟨w, e4, e5.mono kq⟩
    · obtain ⟨o, ov, e1, e2⟩ := st.lr.cellsAll q hq
      exact ⟨o, ov, (hs.2 q.2 (fun z => ok.above q hq z.symm)).trans e1, e2⟩
variable {Q : Fl → Lo → Hp → Prop}
/-- try, with one except IndexError as a name -/
theorem ex_tryAs (hcm : F.comp = false) {body suite : List Stmt} {b₀ : Stmt} {hp : Pos} {n : Str} {msg : Str} {c : Bool} {P : Lo → Hp → Prop} {X : XE} (ok : F.Ok k) (hl : F.env.kindOf "IndexError" = some .globalImplicit) (hG : F.G "IndexError" = some (.type "IndexError"))
    (hn : F.env.kindOf n = some .local) (hnc : F.env.cells.lookup n = none)
    (h : EXs F body m Q (XI F msg c P) σ)
    (hs : ∀ ea base' ta t m' σ', (F.held base' (.ref ea)).Ok k → P m' σ' → base'.ExcAt ea "IndexError" (.ref ta) → base'.TupAt ta [.str msg t] → EXs (F.held base' (.ref ea)) (b₀ :: suite) (m'.put n (.obj (.ref ea))) (fun fl m'' σ'' => Q fl (m''.del n) σ'') NoX σ') :
    EX F (.Try body [.ExceptHandler (some (.Name "IndexError" p)) (some n) (b₀ :: suite) hp] [] [] pos) m Q X σ := fun s st => by
  refine wpAny_Try_except (wpAny_mono (h s st) (fun f s₁ ⟨fl, m₁, σ₁, e1, st1, r1, q1⟩ => ?_) fun e s₁ ⟨m₁, σ₁, e1, st1, x⟩ => ?_)
  · cases fl with
    | next => simp only [FR] at r1; subst r1; exact wpAny_execs_nil ⟨.next, m₁, σ₁, e1, st1, rfl, q1⟩
    | cont => simp only [FR] at r1; subst r1; exact ⟨.cont, m₁, σ₁, e1, st1, rfl, q1⟩
    | brk => simp only [FR] at r1; subst r1; exact ⟨.brk, m₁, σ₁, e1, st1, rfl, q1⟩
    | ret a => obtain ⟨v, rfl, r⟩ := r1; exact ⟨.ret a, m₁, σ₁, e1, st1, ⟨v, rfl, r⟩, q1⟩
  · refine xi_note hcm ok ok.frames st1 x fun s₂ a2 ta t ev2 st2 hc hpp x1 x2 x3 => ?_
    refine xt_flight ok st2 x1 x2 fun s₃ ev3 st3 y1 y2 => ?_
    obtain ⟨ea, o, vs, rfl, z⟩ := id y1.at_
    refine wpAny_handleBy_builtin_as PySem.F.isExc_IndexError PySem.F.notTuple_IndexError PySem.F.self_IndexError ?_
    refine globalS ok st3 hl hG ?_ (by decide)
    refine ⟨rfl, ⟨o, z.2.1, z.2.2.1⟩, ?_⟩
    simp only [if_true]
    refine xt_flight ok st3 y1 y2 fun s₄ ev4 st4 w1 w2 => ?_
    obtain ⟨ea', o', vs', hea, v2, v3, v4, v5, v6, v7, v8, v9⟩ := id w1.at_
    cases hea
    obtain ⟨ok', st'⟩ := st4.held ok (.ref ea) [ea, ta] (fun a ha => by
      rcases List.mem_cons.mp ha with rfl | ha
      · refine ⟨o', v3, fun es ep q => (by rw [v5] at q; cases q), fun v q => (by rw [v5] at q; cases q), ?_⟩
        cases hq : σ₁ a with
        | none => rfl
        | some ds =>
          obtain ⟨_, ws, nn, q2, _⟩ := st4.gs.lists a ds hq
          rw [v3] at q2; cases q2; cases v5
      · obtain rfl := List.mem_singleton.mp ha
        exact ⟨_, w2, fun es ep q => (by cases q), fun v q => (by cases q), x3⟩)
    refine store (F := F.held _ (.ref ea)) (a := .obj (.ref ea)) ok' (.loc hn hnc) st' vr_obj fun s₅ ev5 st5 => ?_
    refine wpAny_mono (hs ea _ ta t m₁ σ₁ ok' hpp ⟨o', vs', baseOn_in (List.mem_cons_self) v3, v4, v5, v7⟩ ⟨_, 0, baseOn_in (List.mem_cons_of_mem _ List.mem_cons_self) w2, rfl, rfl⟩ s₅ st5) (fun f s₆ ⟨fl, m₆, σ₆, e6, st6, r6, q6⟩ => ?_) fun _ _ ⟨_, _, _, _, x⟩ => x.elim
    refine nameGoes ok (st6.unheld (baseOn_base st4.gs.keep)) hn hnc fun s₇ ev7 st7 => ?_
    refine ⟨fl, _, σ₆, e1.trans (ev2.trans (ev3.trans (ev4.trans (ev5.trans (e6.trans ev7))))), st7, ?_, q6⟩
    cases fl with
    | next => exact r6
    | brk => exact r6
    | cont => exact r6
    | ret a => obtain ⟨v, rfl, r⟩ := r6; exact ⟨v, rfl, (st6.unheld (baseOn_base st4.gs.keep)).vr ev7 r⟩
/-- try, with finally: what the body raises flies on behind it, or what finally raises -/
theorem ex_fin (hcm : F.comp = false) {body final : List Stmt} {f₀ : Stmt} {msg : Str} {P P₁ : Lo → Hp → Prop} (ok : F.Ok k)
    (h : EXs F body m (fun fl m' σ' => fl = .next ∧ EXs F (f₀ :: final) m' Q (XI F msg false P) σ') (XI F msg true P₁) σ)
    (hs : ∀ e base' m' σ', (F.held base' e).Ok k → HOk (F.held base' e) → P₁ m' σ' → EXs (F.held base' e) (f₀ :: final) m' (fun fl m'' σ'' => fl = .next ∧ P m'' σ'') (XI (F.held base' e) msg false P) σ') :
    EX F (.Try body [] [] (f₀ :: final) pos) m Q (XI F msg false P) σ := fun s st => by
  have exc : ∀ (A : Around) (hA : A.frames = some F.frs) (e : Value) (s' : Shared) m' σ', Ev F.fr F.wr σ σ' s s' → St F σ' m' s' → XI F msg false P e m' σ' s' →
      notedBy F.M A F.env (cameBackBy F.M F.A F.env (XExc F σ s (XI F msg false P))) e s' := fun A hA e s' m' σ' ev st' x => by
    unfold notedBy
    exact xi_note hcm ok hA st' x fun s₁ a2 ta t ev1 st1 hc hp x1 x2 x3 => xt_back ok st1 x1 x2 x3 hc hp fun s₂ ev2 st2 x => ⟨m', σ', ev.trans (ev1.trans ev2), st2, x⟩
  refine wpAny_Try_finally (wpAny_mono (h s st) (fun f s₁ ⟨fl, m₁, σ₁, e1, st1, r1, q1, q2⟩ => ?_) fun e s₁ ⟨m₁, σ₁, e1, st1, x⟩ => ?_)
  · subst q1
    simp only [FR] at r1; subst r1
    refine wpAny_execs_nil ?_
    refine wpAny_mono (q2 s₁ st1) (fun g s₂ ⟨fl, m₂, σ₂, e2, st2, r2, q⟩ => ?_) fun e s₂ ⟨m₂, σ₂, e2, st2, x⟩ => exc _ ok.frames e s₂ m₂ σ₂ (e1.trans e2) st2 x
    cases fl with
    | next => simp only [FR] at r2; subst r2; exact ⟨.next, m₂, σ₂, e1.trans e2, st2, rfl, q⟩
    | cont => simp only [FR] at r2; subst r2; exact ⟨.cont, m₂, σ₂, e1.trans e2, st2, rfl, q⟩
    | brk => simp only [FR] at r2; subst r2; exact ⟨.brk, m₂, σ₂, e1.trans e2, st2, rfl, q⟩
    | ret a => obtain ⟨v, rfl, r⟩ := r2; exact ⟨.ret a, m₂, σ₂, e1.trans e2, st2, ⟨v, rfl, r⟩, q⟩
  · refine xi_note hcm ok ok.frames st1 x fun s₂ a2 ta t ev2 st2 hc hpp x1 x2 x3 => ?_
    obtain rfl := hc rfl
    refine ⟨?_, ?_⟩
    · obtain ⟨ea, o, vs, rfl, _⟩ := x1.at_; exact ref_ne_byPass ea
    refine xi_note hcm (P := P₁) (c := true) ok ok.frames st2 ⟨hpp, .none, fun _ => rfl, true, ta, t, x1, x2, x3⟩ fun s₃ a2' ta' t' ev3 st3 hc3 _ y1 y2 y3 => ?_
    obtain rfl := hc3 rfl
    refine xt_flight ok st3 y1 y2 fun s₄ ev4 st4 w1 w2 => ?_
    obtain ⟨ea, o, vs, rfl, v2, v3, v4, v5, v6, v7, v8, v9⟩ := id w1.at_
    rcases v9 with ⟨v9, _⟩ | ⟨T, oT, ts, v9, t1, t2, t3, t4, t5⟩
    · cases v9
    have nos : ∀ a o vs, s₄.heap.get? a = some o → o.data = .fields vs → σ₁ a = none := fun a o vs h1 h2 => by
      cases hq : σ₁ a with
      | none => rfl
      | some ds =>
        obtain ⟨_, ws, nn, q2, _⟩ := st4.gs.lists a ds hq
        rw [h1] at q2; cases q2; cases h2
    obtain ⟨ok', st'⟩ := st4.held ok (.ref ea) [ea, ta', T] (fun a ha => by
      simp only [List.mem_cons, List.not_mem_nil, or_false] at ha
      rcases ha with rfl | rfl | rfl
      · exact ⟨o, v3, fun es ep q => (by rw [v5] at q; cases q), fun v q => (by rw [v5] at q; cases q), nos _ _ _ v3 v5⟩
      · exact ⟨_, w2, fun es ep q => (by cases q), fun v q => (by cases q), y3⟩
      · exact ⟨oT, t2, fun es ep q => (by rw [t4] at q; cases q), fun v q => (by rw [t4] at q; cases q), nos _ _ _ t2 t4⟩)
    have hb := baseOn_base (as := [ea, ta', T]) st4.gs.keep
    have hok : HOk (F.held (baseOn F.base s₄.heap [ea, ta', T]) (.ref ea)) := .inr ⟨ea, o, vs, rfl, baseOn_in (by simp) v3, v5, v8⟩
    have e4 := e1.trans (ev2.trans (ev3.trans ev4))
    refine wpAny_mono (hs (.ref ea) _ m₁ σ₁ ok' hok hpp s₄ st') (fun f s₅ ⟨fl, m₅, σ₅, e5, st5, r5, q5, q5'⟩ => ?_) fun e s₅ ⟨m₅, σ₅, e5, st5, x⟩ => exc (F.A.mark (some (.ref ea))) ok.frames e s₅ m₅ σ₅ (e4.trans e5) (st5.unheld hb) (x.unheld hb)
    subst q5
    simp only [FR] at r5; subst r5
    show wpAny _ _ (PySem.passOn _ _ _) _ _ _
    unfold PySem.passOn
    have k1 := st5.gs.keep _ _ (baseOn_in (base := F.base) (as := [ea, ta', T]) (by simp) v3)
    have k2 := st5.gs.keep _ _ (baseOn_in (base := F.base) (as := [ea, ta', T]) (by simp) t2)
    have k3 := st5.gs.keep _ _ (baseOn_in (base := F.base) (as := [ea, ta', T]) (by simp) w2)
    have u1 : Xc F.base true (.ref ta') .none (.ref ea) s₅ := ⟨ea, o, vs, rfl, v2, k1, v4, v5, v6, v7, v8, .inr ⟨T, oT, ts, v9, t1, k2, t3, t4, t5⟩⟩
    refine wpAny_bind (wpAny_field k1 v5 v9 ?_)
    rw [if_neg (show ¬ ((Value.ref T == Value.none) = true) from by simp)]
    have y5 : σ₅ ta' = none := by
      cases hq : σ₅ ta' with
      | none => rfl
      | some ds =>
        have := (st5.gs.lists ta' ds hq).1
        rw [baseOn_in (base := F.base) (as := [ea, ta', T]) (by simp) w2] at this; cases this
    refine wpAny_bind (xt_flight ok (st5.unheld hb) u1 k3 fun s₆ ev6 st6 p1 p2 => wpAny_throw ⟨m₅, σ₅, (e4.trans e5).trans ev6, st6, q5', .none, (fun q => (by cases q)), true, ta', t', p1, p2, y5⟩)
theorem bc_strExc {ea ta : Addr} {t : Tok} {msg : Str} {Q : V → Hp → Prop} {X : Value → Hp → Shared → Prop} (ok : F.Ok k) (hk : 1 ≤ k) (h1 : F.base.ExcAt ea "IndexError" (.ref ta)) (h2 : F.base.TupAt ta [.str msg t]) (q : Q (.d (.str msg)) σ) : BC F m (.type "str") [.obj (.ref ea)] Q X σ := fun s vs st r => by
  obtain ⟨v, rfl, r1⟩ := r.one
  obtain rfl := r1.obj
  obtain ⟨o, ws, e1, e2, e3, e4⟩ := h1
  obtain ⟨o', j, f1, f2, f3⟩ := h2
  exact P.str_of_exc_one PySem.F.excStr_IndexError (by have := ok.units; lia  ) ⟨o, ws, st.gs.keep _ _ e1, e2, e3, e4⟩ ⟨o', j, st.gs.keep _ _ f1, f2, f3⟩ (TV.here st vr_str q)
end
/-- a def's contract by its body, which may raise an IndexError -/
theorem cl_fnX {msg : Str} {cc : Bool} {P : Lo → Hp → Prop} {PX : Hp → Prop} {c : Cc} {k : Nat} {name : Str} {params : Arguments} {body : List Stmt} {scope : Scope} {f : Addr} {args : List V} {Q : D → Hp → Prop} {σ : Hp}
    (hf : Fn c name params body scope f) (bs : Bs c.base c.G) (ns : List Str)
    (hbind : ∀ pm cd doc (vs : List Value), vs.length = args.length → bindArgs (Calls.docDef name params body scope pm cd doc) ⟨vs, []⟩ = pure (ns.zip vs))
    (hlen : ns.length = args.length)
    (hkinds : (ns.all fun n => scope.names.lookup n == some .local || scope.names.lookup n == some .cell) = true) (hnd : ns.Nodup) (hnn : (scope.names.map (·.1)).Nodup)
    (hco : scope.isCoroutine = false) (hgen : scope.isGenerator = false) (hk : scope.kind = .function)
    (h : ∀ A outer L cd, A.handled = none → (frameOf' c A outer name scope L f cd).Ok k → EXs (frameOf' c A outer name scope L f cd) body (fun x => (ns.zip args).lookup x)
      (fun fl m' σ' => ∃ d, (match fl with | .ret a => fz σ σ' a | .next => some .none | _ => none) = some d ∧ Q d (Hp.only σ σ')) (XI (frameOf' c A outer name scope L f cd) msg cc P) σ) (hP : ∀ m' σ', P m' σ' → PX (Hp.only σ σ')) :
    CL c (k + 1) f args Q (fun _ e σ' s' => PX σ' ∧ ∃ a2, (cc = true → a2 = .none) ∧ Xm c.base σ' msg a2 e s') σ := by
  intro A outer s vs hA hd hu hh g r
  obtain ⟨o, pm, cd, doc, ho, hdat, hcd⟩ := hf.at_
  have hlv : vs.length = args.length := r.length
  have hkind : ∀ x ∈ ns.zip vs, scope.names.lookup x.1 = some .local ∨ scope.names.lookup x.1 = some .cell := fun x hx => by
    have hm := List.all_eq_true.mp hkinds x.1 (List.of_mem_zip (show (x.1, x.2) ∈ ns.zip vs from hx)).1
    simpa using hm
  refine call_cells (binds := ns.zip vs) (Nat.lt_of_le_of_lt (Nat.le_add_right _ _) hd) (g.keep _ _ ho) hdat (bs.nolimit.keeps g.keep) (hcd.keeps g.keep) (hbind pm cd doc vs hlv) (fun x hx => ?_) (fun h₁ tk Fr1 C1 => ?_) hco hgen hk
  · rcases hkind x hx with q | q
    · exact .inl q
    · exact .inr ⟨q, cellsFrom_some _ _ _ (.inl q)⟩
  · have hnz : ((ns.zip vs).map (·.1)).Nodup := by
      rw [List.map_fst_zip (by rw [hlen, hlv]; exact Nat.le_refl _)]; exact hnd
    have hLn : c.base.get? s.heap.objs.size = none := g.base_ge (Nat.le_refl _)
    have ok : (frameOf' c A outer name scope s.heap.objs.size f cd).Ok k := by
      refine ⟨Around.frames_deeper hA, fun _ => rfl, hk, rfl, rfl, ?_, ?_, C1.apart, fun p hp => Nat.ne_of_lt (C1.above p.1 p.2 hp), ?_, ?_, bs⟩
      · show A.depth + 1 + k < _; lia
      · show A.units + 3 + 20 * k < _; lia
      · show (scope.kind == .module && _) = false; rw [hk]; rfl
      · intro b hb
        rcases hb with rfl | hb
        · exact hLn
        · obtain ⟨p, hp, rfl⟩ := List.mem_map.mp hb.2
          exact g.base_ge (Nat.le_of_lt (C1.above p.1 p.2 hp))
    have kq : SeqKept σ σ s.heap h₁ := fun b ob e _ hs => ⟨hs, Fr1.keep b ob e⟩
    have st : St (frameOf' c A outer name scope s.heap.objs.size f cd) σ (fun x => (ns.zip args).lookup x) { s with heap := h₁, toks := tk } := by
      refine ⟨⟨fun b ob e => Fr1.keep b ob (g.keep b ob e), ?_, fun a ds ha => ?_, g.bare⟩, ⟨⟨_, Fr1.ns, fun x a hx hm => ?_⟩, fun x ca hc => ?_, fun p hp => ?_⟩⟩
      · obtain ⟨oL, es, ep, e1, e2, _⟩ := Fr1.ns
        exact ⟨by show scope.kind ≠ .module; rw [hk]; decide, ⟨_, oL, es, ep, rfl, hLn, e1, e2⟩, g.frames.of fun b ob es ep e hd => ⟨ob, es, ep, Fr1.keep b ob e, hd⟩⟩
      · obtain ⟨h1, ws, n, h2, h3⟩ := g.lists a ds ha
        exact ⟨h1, ws, n, Fr1.keep _ _ h2, h3.mono kq⟩
      · obtain ⟨v, e1, e2⟩ := zip_lookup ns r x a hm
        refine ⟨v, ?_, e2.mono kq⟩
        exact (lookup_bindL (kindOf := (envOfC name scope s.heap.objs.size f cd).kindOf) _ _ x hx hkind hnz).trans (by rw [e1]; rfl)
      · obtain ⟨oc, e1, e2⟩ := C1.cell x ca hc
        refine ⟨oc, _, e1, e2, fun a hm => ?_⟩
        obtain ⟨v, e3, e4⟩ := zip_lookup ns r x a hm
        refine ⟨v, ?_, e4.mono kq⟩
        have hkx : scope.names.lookup x = some .cell := by
          rcases mem_cellsFrom _ _ _ (mem_of_look hc) with q | q
          · cases q
          · exact lookup_of_mem hnn q
        exact (lookup_bindC (kindOf := (envOfC name scope s.heap.objs.size f cd).kindOf) _ _ x hkx hnz).trans (by rw [e3]; rfl)
      · obtain ⟨oc, e1, e2⟩ := C1.cell p.1 p.2 (lookup_of_mem (cellsFrom_nodup _ _ _ hnn (fun _ h => by cases h) List.nodup_nil) hp)
        exact ⟨oc, _, e1, e2⟩
    have hnw : ∀ b ob, s.heap.get? b = some ob → ¬ (frameOf' c A outer name scope s.heap.objs.size f cd).wr b := fun b ob e hb => by
      have hlt := Heap.lt_size e
      rcases hb with rfl | hb
      · exact Nat.lt_irrefl _ hlt
      · obtain ⟨p, hp, rfl⟩ := List.mem_map.mp hb.2
        exact Nat.lt_irrefl _ (Nat.lt_trans hlt (C1.above p.1 p.2 hp))
    have evs : ∀ σ' s', Ev (frameOf' c A outer name scope s.heap.objs.size f cd).fr (frameOf' c A outer name scope s.heap.objs.size f cd).wr σ σ' { s with heap := h₁, toks := tk } s' → Ev (frAddrs outer) (fun _ => False) σ (Hp.only σ σ') s s' := fun σ' s' e1 => by
      refine ⟨fun b ob e h1 _ h3 => e1.keep b ob (Fr1.keep b ob e) h1 (hnw b ob e) h3, fun b ob e h1 _ => e1.keepD b ob (Fr1.keep b ob e) h1 (hnw b ob e), fun b hb => ?_, fun b ob e => e1.own b ob (Fr1.keep b ob e), e1.os, e1.gens⟩
      cases hq : σ b with
      | none => exact absurd (Hp.only_none hq) hb
      | some y => exact .inl (fun q => nomatch q)
    have gss : ∀ σ' m' s', St (frameOf' c A outer name scope s.heap.objs.size f cd) σ' m' s' → GS c.base outer (Hp.only σ σ') s' := fun σ' m' s' st' => (⟨st'.gs.keep, st'.gs.frames.2.2, st'.gs.lists, st'.gs.bare⟩ : GS c.base outer σ' s').only σ
    refine wpAny_mono (h A outer s.heap.objs.size cd hh ok _ st) (fun fl s' ⟨fl', m', σ', e1, st', r', ⟨d, hd', q⟩⟩ => ?_) fun e s' ⟨m', σ', e1, st', x⟩ => ?_
    · cases fl' with
      | ret a =>
        obtain ⟨v, rfl, r2⟩ := r'
        exact ⟨d, _, evs _ _ e1, gss _ _ _ st', fz_rd st'.gs hd' r2, q⟩
      | next =>
        simp only [FR] at r'; subst r'
        simp only at hd'; cases hd'
        exact ⟨.none, _, evs _ _ e1, gss _ _ _ st', by simp only [RD], q⟩
      | brk => simp at hd'
      | cont => simp at hd'
    · obtain ⟨hp, a2, hc, tr, ta, t, x1, x2, x3⟩ := x
      refine xc_leaving (F := frameOf' c A outer name scope s.heap.objs.size f cd) rfl ok ok.frames st' x1 fun h' xs' c' => ?_
      obtain ⟨st2, ev2⟩ := st'.xs ok (t := s'.toks) xs'
      refine ⟨_, evs _ _ (e1.trans ev2), gss _ _ _ st2, hP _ _ hp, a2, hc, true, ta, t, c', ?_, ?_⟩
      · exact xs'.keep _ _ x2 (fun hm => by
          obtain ⟨o, es, ep, q1, q2⟩ := st'.gs.frames.mem hm
          rw [x2] at q1; cases q1; cases q2) imm_seq.notX
      · unfold Hp.only; split
        · exact x3
        · rfl
noncomputable def stmtAt (p : Program) (i : Nat) : Stmt := p.main.body.getD i (.Pass ⟨0, 0, 0, 0⟩)
noncomputable def fbody : Stmt → List Stmt
  | .FunctionDef _ _ b _ _ _ _ _ _ _ => b
  | _ => []
noncomputable def fscope : Stmt → Scope
  | .FunctionDef _ _ _ _ _ _ s _ _ _ => s
  | _ => { kind := .module, names := [], isGenerator := false, isCoroutine := false, more := [] }
noncomputable def fargs : Stmt → Arguments
  | .FunctionDef _ a _ _ _ _ _ _ _ _ => a
  | _ => ⟨[], [], none, [], [], none, []⟩
noncomputable def fname : Stmt → Str
  | .FunctionDef n _ _ _ _ _ _ _ _ _ => n
  | _ => Str.empty
theorem Hp.only_set {σ : Hp} {a : Addr} {x y : List D} (h : σ a = some x) : Hp.only σ (σ.set a y) = σ.set a y := by
  funext b
  by_cases e : b = a
  · subst e; rw [Hp.only_some h]
  · rw [Hp.set_ne _ _ e]
    cases hq : σ b with
    | none => exact Hp.only_none hq
    | some z => rw [Hp.only_some hq, Hp.set_ne _ _ e, hq]
theorem Hp.set_self {σ : Hp} {a : Addr} {x : List D} (h : σ a = some x) : σ.set a x = σ := by
  funext b
  by_cases e : b = a
  · subst e; rw [Hp.set_same, h]
  · rw [Hp.set_ne _ _ e]
noncomputable abbrev T := Int × Int
noncomputable abbrev tD (t : T) : D := thing t.1 t.2
noncomputable def tlt (a b : T) : Prop := a.1 < b.1 ∨ (a.1 = b.1 ∧ a.2 < b.2)
instance (a b : T) : Decidable (tlt a b) := by unfold tlt; infer_instance
noncomputable def upF (x : T) : Nat → List T → Nat → List T
  | 0, ts, p => ts.set p x
  | n + 1, ts, p => if p = 0 then ts.set 0 x else if tlt x (ts.getD ((p - 1) / 2) (0, 0)) then upF x n (ts.set p (ts.getD ((p - 1) / 2) (0, 0))) ((p - 1) / 2) else ts.set p x
theorem upF_fuel {x : T} : ∀ (n m : Nat) (ts : List T) (p : Nat), p < n → p < m → upF x n ts p = upF x m ts p
  | 0, _, _, _, h, _ => absurd h (Nat.not_lt_zero _)
  | _, 0, _, _, _, h => absurd h (Nat.not_lt_zero _)
  | n + 1, m + 1, ts, p, h1, h2 => by
    unfold upF
    by_cases h : p = 0
    · rw [if_pos h, if_pos h]
    · rw [if_neg h, if_neg h, upF_fuel n m _ ((p - 1) / 2) (by lia  ) (by lia  )]
/-- x comes up from the place p -/
noncomputable def up (ts : List T) (x : T) (p : Nat) : List T := upF x (p + 1) ts p
theorem up_eq (ts : List T) (x : T) (p : Nat) : up ts x p = if h : p = 0 then ts.set 0 x else if tlt x (ts.getD ((p - 1) / 2) (0, 0)) then up (ts.set p (ts.getD ((p - 1) / 2) (0, 0))) x ((p - 1) / 2) else ts.set p x := by
  by_cases h : p = 0
  · rw [dif_pos h]; unfold up upF; rw [if_pos h]
  · rw [dif_neg h]; unfold up
    rw [upF, if_neg h, upF_fuel p ((p - 1) / 2 + 1) _ _ (by lia  ) (by lia  )]
theorem up_ind {x : T} {motive : List T → Nat → Prop} (case1 : ∀ ts, motive ts 0)
    (case2 : ∀ ts p, ¬ p = 0 → tlt x (ts.getD ((p - 1) / 2) (0, 0)) → motive (ts.set p (ts.getD ((p - 1) / 2) (0, 0))) ((p - 1) / 2) → motive ts p)
    (case3 : ∀ ts p, ¬ p = 0 → ¬ tlt x (ts.getD ((p - 1) / 2) (0, 0)) → motive ts p) (ts : List T) (p : Nat) : motive ts p := by
  induction p using Nat.strongRecOn generalizing ts with
  | ind p ih =>
    by_cases h : p = 0
    · subst h; exact case1 ts
    · by_cases hlt : tlt x (ts.getD ((p - 1) / 2) (0, 0))
      · exact case2 ts p h hlt (ih _ (by lia  ) _)
      · exact case3 ts p h hlt
noncomputable def dnF : Nat → List T → Nat → List T × Nat
  | 0, ts, p => (ts, p)
  | n + 1, ts, p =>
    if 2 * p + 1 < ts.length then
      if 2 * p + 2 < ts.length ∧ ¬ tlt (ts.getD (2 * p + 1) (0, 0)) (ts.getD (2 * p + 2) (0, 0)) then dnF n (ts.set p (ts.getD (2 * p + 2) (0, 0))) (2 * p + 2)
      else dnF n (ts.set p (ts.getD (2 * p + 1) (0, 0))) (2 * p + 1)
    else (ts, p)
theorem dnF_fuel : ∀ (n m : Nat) (ts : List T) (p : Nat), ts.length ≤ n + p → ts.length ≤ m + p → dnF n ts p = dnF m ts p
  | 0, 0, _, _, _, _ => rfl
  | 0, m + 1, ts, p, h, _ => by unfold dnF; rw [if_neg (by lia  )]
  | n + 1, 0, ts, p, _, h => by unfold dnF; rw [if_neg (by lia  )]
  | n + 1, m + 1, ts, p, h1, h2 => by
    unfold dnF
    by_cases h : 2 * p + 1 < ts.length
    · rw [if_pos h, if_pos h, dnF_fuel n m _ (2 * p + 2) (by rw [List.length_set]; lia  ) (by rw [List.length_set]; lia  ), dnF_fuel n m _ (2 * p + 1) (by rw [List.length_set]; lia  ) (by rw [List.length_set]; lia  )]
    · rw [if_neg h, if_neg h]
/-- the hole at p goes down to a leaf, the lesser child coming up -/
noncomputable def dn (ts : List T) (p : Nat) : List T × Nat := dnF ts.length ts p
theorem dn_eq (ts : List T) (p : Nat) : dn ts p = if h : 2 * p + 1 < ts.length then
      if 2 * p + 2 < ts.length ∧ ¬ tlt (ts.getD (2 * p + 1) (0, 0)) (ts.getD (2 * p + 2) (0, 0)) then dn (ts.set p (ts.getD (2 * p + 2) (0, 0))) (2 * p + 2)
      else dn (ts.set p (ts.getD (2 * p + 1) (0, 0))) (2 * p + 1)
    else (ts, p) := by
  unfold dn
  simp only [List.length_set]
  rw [dnF_fuel ts.length (ts.length + 1) ts p (by lia  ) (by lia  )]
  conv => lhs; unfold dnF
  by_cases h : 2 * p + 1 < ts.length
  · rw [if_pos h, dif_pos h]
  · rw [if_neg h, dif_neg h]
theorem dn_ind {motive : List T → Nat → Prop}
    (case1 : ∀ ts p, 2 * p + 1 < ts.length → 2 * p + 2 < ts.length ∧ ¬ tlt (ts.getD (2 * p + 1) (0, 0)) (ts.getD (2 * p + 2) (0, 0)) → motive (ts.set p (ts.getD (2 * p + 2) (0, 0))) (2 * p + 2) → motive ts p)
    (case2 : ∀ ts p, 2 * p + 1 < ts.length → ¬ (2 * p + 2 < ts.length ∧ ¬ tlt (ts.getD (2 * p + 1) (0, 0)) (ts.getD (2 * p + 2) (0, 0))) → motive (ts.set p (ts.getD (2 * p + 1) (0, 0))) (2 * p + 1) → motive ts p)
    (case3 : ∀ ts p, ¬ 2 * p + 1 < ts.length → motive ts p) (ts : List T) (p : Nat) : motive ts p := by
  have key : ∀ (n : Nat) (ts : List T) (p : Nat), ts.length ≤ n + p → motive ts p := fun n => by
    induction n with
    | zero => exact fun ts p h => case3 ts p (by lia  )
    | succ n ih =>
      intro ts p h
      by_cases h1 : 2 * p + 1 < ts.length
      · by_cases h2 : 2 * p + 2 < ts.length ∧ ¬ tlt (ts.getD (2 * p + 1) (0, 0)) (ts.getD (2 * p + 2) (0, 0))
        · exact case1 ts p h1 h2 (ih _ _ (by rw [List.length_set]; lia  ))
        · exact case2 ts p h1 h2 (ih _ _ (by rw [List.length_set]; lia  ))
      · exact case3 ts p h1
  exact key ts.length ts p (Nat.le_add_right _ _)
noncomputable def sup (ts : List T) : List T := up ((dn ts 0).1.set (dn ts 0).2 (ts.getD 0 (0, 0))) (ts.getD 0 (0, 0)) (dn ts 0).2
noncomputable def popped (ts : List T) : List T := if ts.length = 1 then [] else sup (ts.dropLast.set 0 (ts.getLastD (0, 0)))
section
variable {M : Model} {A : Around} {R : GenEnd} {Y : Protocol} {n : Nat} {s₀ : Shared} {c : Code} {fs : List Frame} {s : Shared} {env : Env}
  {K : Flow → Sem Fin} {H : Value → Sem Fin} {gd : Bool → Bool} {lv : List Value → List Value}
theorem seg_If {test : Expr} {body orelse : List Stmt} {pos : Pos}
    (h : wpAny M (A.over c fs) (isTrue test env (eval test env)) (fun b s' => Seg M A R Y n s₀ c ((execs (if b then body else orelse) env).wrap K H gd lv) fs s') (fun x s' => Seg M A R Y n s₀ c (H x) fs s') s) :
    Seg M A R Y n s₀ c ((exec (.If test body orelse pos) env).wrap K H gd lv) fs s := by
  rw [exec_If]
  show Seg M A R Y n s₀ c (.at pos fun _ => ((isTrue test env (eval test env)) >>= fun b => if b then execs body env else execs orelse env).wrap K H gd lv) fs s
  refine seg_at ?_
  rw [Sem.bind_eq_wrap', Sem.wrap_wrap]
  refine seg_wrap (wpAny_mono h (fun b s' hb => ?_) fun _ _ x => x)
  cases b <;> exact hb
theorem seg_For {target iter : Expr} {body orelse : List Stmt} {pos : Pos} (hs : ∀ x, foldedSetIterable iter env x = pure x)
    (h : wpAny M (A.over c fs) (eval iter env) (fun x s₁ => wpAny M (A.over c fs) (pyIter x) (fun it s₂ =>
      ∀ p, Seg M A R Y n s₀ (.forLoop target it body orelse env) (M.den (.forLoop target it body orelse env))
      (.ret (fun r => ((match r with | .ok f => (.pure f : Sem Flow) | .error e => .raise e).onRaise fun (x : Value) => do
        if (← field x 1) == Value.none then unsupported "frame.own-activation:exception-without-traceback"
        setFlight x env.frame).wrap K H gd lv) none (gd false) (lv []) c p [] :: fs) s₂) (fun x s' => Seg M A R Y n s₀ c (H x) fs s') s₁) (fun x s' => Seg M A R Y n s₀ c (H x) fs s') s) :
    Seg M A R Y n s₀ c ((exec (.For target iter body orelse pos) env).wrap K H gd lv) fs s := by
  rw [exec_For]
  refine seg_at ?_
  show Seg M A R Y n s₀ c ((eval iter env >>= fun x => foldedSetIterable iter env x >>= fun x => standAt iter.pos >>= fun _ => holding [x] (pyIter x) >>= fun it => runOwn (.forLoop target it body orelse env) env).wrap K H gd lv) fs s
  rw [Sem.bind_eq_wrap', Sem.wrap_wrap]
  refine seg_wrap (wpAny_mono h (fun x s₁ h₁ => ?_) fun _ _ x => x)
  rw [hs]
  refine seg_at ?_
  show Seg M A R Y n s₀ c ((holding [x] (pyIter x) >>= fun it => runOwn (.forLoop target it body orelse env) env).wrap K H gd lv) fs s₁
  rw [Sem.bind_eq_wrap', Sem.wrap_wrap]
  refine seg_wrap (wpAny_holding (wpAny_mono h₁ (fun it s₂ h₂ => ?_) fun _ _ x => x))
  exact seg_call h₂
end
section
variable {prog : Program} {w : World} {A : Around} {R : GenEnd} {Y : Protocol} {n : Nat} {s₀ : Shared} {fs : List Frame} {s : Shared} {env : Env}
theorem seg_block_nil {k h g l c₁ p₁ kp} (hk : Seg (model prog w) A R Y n s₀ c₁ (k (.ok .next)) fs s) :
    Seg (model prog w) A R Y n s₀ (.block [] env) ((model prog w).den (.block [] env)) (.ret k h g l c₁ p₁ kp :: fs) s :=
  seg_leaf (.ok .next) hk
/-- a turn of a for loop in a generator -/
theorem seg_forLoop {target : Expr} {it : Value} {body orelse : List Stmt}
    (h : wpAny (model prog w) (A.over (.forLoop target it body orelse env) fs) (pyNext it) (fun r s₁ => match r with
        | none => Seg (model prog w) A R Y n s₀ (.block orelse env) ((model prog w).den (.block orelse env)) fs s₁
        | some v => wpAny (model prog w) (A.over (.forLoop target it body orelse env) fs) (letOwnedTupleGo target it v) (fun _ s₂ =>
            wpAny (model prog w) (A.over (.forLoop target it body orelse env) fs) (assign target env v) (fun _ s₃ =>
              Seg (model prog w) A R Y n s₀ (.forLoop target it body orelse env) ((execs body env).wrap (fun f => match f with
                | .next | .cont => .pure (.again (.forLoop target it body orelse env))
                | .brk => .pure (.done .next)
                | .ret v => .pure (.done (.ret v))) (fun e => (do noteFrame e env; theTreesLotGoes e : Sem Unit).wrap (fun _ => .raise e) .raise id id) id id) fs s₃) (fun _ _ => False) s₂) (fun _ _ => False) s₁)
      (fun _ _ => False) s) (hq : (Code.block orelse env).quiet = true := by rfl) :
    Seg (model prog w) A R Y n s₀ (.forLoop target it body orelse env) ((model prog w).den (.forLoop target it body orelse env)) fs s := by
  show Seg _ A R Y n s₀ _ ((forTurn target it body orelse env).onRaise (fun x => do noteFrame x env; theTreesLotGoes x)) fs s
  unfold forTurn
  rw [Sem.onRaise_eq_wrap]
  refine seg_at ?_
  show Seg _ A R Y n s₀ _ (((pyNext it).onRaise (fun _ => standAt { target.pos with line := 0 }) >>= _).wrap _ _ _ _) fs s
  rw [Sem.bind_eq_wrap', Sem.wrap_wrap]
  refine seg_wrap (wpAny_onRaise (wpAny_mono h (fun r s₁ h₁ => ?_) fun _ _ x => x.elim))
  cases r with
  | none => exact seg_again hq h₁
  | some v =>
    show Seg _ A R Y n s₀ _ ((letOwnedTupleGo target it v >>= fun _ => assign target env v >>= fun _ => execs body env >>= _).wrap _ _ _ _) fs s₁
    rw [Sem.bind_eq_wrap', Sem.wrap_wrap]
    refine seg_wrap (wpAny_mono h₁ (fun _ s₂ h₂ => ?_) fun _ _ x => x.elim)
    rw [Sem.bind_eq_wrap', Sem.wrap_wrap]
    refine seg_wrap (wpAny_mono h₂ (fun _ s₃ h₃ => ?_) fun _ _ x => x.elim)
    rw [Sem.bind_eq_wrap', Sem.wrap_wrap]
    rw [Sem.wrap_congr (execs body env) _ _ (K' := fun f => match f with
          | .next | .cont => .pure (.again (.forLoop target it body orelse env))
          | .brk => .pure (.done .next)
          | .ret v => .pure (.done (.ret v))) (H' := (fun e => (do noteFrame e env; theTreesLotGoes e : Sem Unit).wrap (fun _ => .raise e) .raise id id))
      (fun f => by cases f <;> rfl)
      (fun e => by first | exact Sem.bind_eq_wrap _ _ | (show (do noteFrame e env; theTreesLotGoes e : Sem Unit).bind (fun _ => .raise e) = _; rw [Sem.bind_eq_wrap]))]
    exact h₃
end
section
variable {prog : Program} {w : World} {A : Around} {E : Value → Shared → Prop} {s : Shared}
/-- a generator function's object is asked for its next item -/
theorem next_gen {a : Addr} {g n : Nat} {gs : GenState} {P : Nat → Shared → Shared → Prop} {Y : Protocol} {Q : Option Value → Shared → Prop} (hh : A.handled = none)
    (hl : s.heap.NoLimit) (hroom : A.depth < recursionLimit)
    (hg : s.heap.IsGen a g) (hgs : s.gens[g]? = some gs)
    (hgo : gs.Goes (model prog w) A.in1 (fun n s₀ r s₁ => r = .ok (.ret .none) ∧ P n s₀ s₁) Y n (.send .none) (s.setGen g .running))
    (hY : ∀ v s₁ gs', gs'.bare = true → Y (n - 1) (s.setGen g .running) v s₁ (fun r' s'' => match n with
        | 0 => False
        | m + 1 => gs'.Goes (model prog w) A.in1 (fun n s₀ r s₁ => r = .ok (.ret .none) ∧ P n s₀ s₁) Y m r' s'') → Q (some v) (s₁.setGen g gs'))
    (hP : ∀ s₁, P n (s.setGen g .running) s₁ → ∀ h', (∀ b o, s₁.heap.get? b = some o → h'.get? b = some o) → Q none { s₁.setGen g .finished with heap := h' }) :
    wpAny (model prog w) A (pyNext (.ref a)) Q E s := by
  unfold pyNext
  refine wpAny_bind (wpAny_attempt (wpAny_callSpecial?_slot (name := Str.ofString "__next__") hg.typeIs slot_gen_next
    (wpAny_call_entry slot_gen_next hg.typeIs entry_gen_next ?_ (args_gen_next _))))
  show wpAny _ A.in1 (Builtin.Generator.genWake (.ref a) (.send .none)) _ _ s
  unfold Builtin.Generator.genWake
  refine wpAny_bind (wpAny_holding (wpAny_genNumber hg (wpAny_bind (wpAny_genState hgs ?_))))
  cases gs with
  | running => exact hgo.elim
  | finished => exact hgo.elim
  | _ =>
    refine wpAny_bind (wpAny_roomToWake hl hroom ?_)
    show wpAny _ A.in1 (.resume g (.send .none) [] _) _ _ s
    refine wpAny_resumeQ hgs hgo (fun x s₁ hx => ?_) (fun v s₁ gs' hb hv => ?_)
    · obtain ⟨rfl, hp⟩ := hx
      show wpAny _ A.in1 (newExc (.type "StopIteration") [] >>= _) _ _ _
      refine wpAny_bind ?_
      simp only [newExc, newTuple]
      refine wpAny_bind (wpAny_newObj_type ?_ (by size_fits))
      refine wpAny_bind (m := firstArgMember _ _) (wpAny_of_eq (a := Value.none) (by first | rfl | (simp only [firstArgMember]; rfl)) ?_)
      refine wpAny_newObj_type ?_ (by size_fits)
      simp only [raiseNew]
      refine wpAny_bind (wpAny_bind (wpAny_handled ?_))
      first | rw [show A.in1.handled = none from hh] | rw [hh]
      refine wpAny_throw ?_
      refine wpAny_bind (wpAny_isInstance (T := "StopIteration") (b := true) ⟨_, Heap.get?_push_size _ rfl, rfl⟩ isSubtype_stop ?_)
      exact wpAny_pure (hP s₁ hp _ fun b o hb => Heap.get?_push_of_some _ (Heap.get?_push_of_some _ hb))
    · exact wpAny_pure ⟨v, rfl, wpAny_pure (hY v s₁ gs' hb hv)⟩
end
noncomputable def noHp : Hp := fun _ => none
noncomputable abbrev uD (u : Int × Str) : D := .tuple [.int u.1, .str u.2]
/-- a generator object -/
noncomputable def Genish (o : Obj) : Prop := (∃ vs, o.data = .fields vs) ∧ o.cls = .type "generator"
/-- a generator's step: all but its own objects stays -/
structure EvG (fr pv : List Addr) (s s' : Shared) : Prop where
  keep : ∀ b o, s.heap.get? b = some o → b ∉ pv → b ∉ fr → ¬ Xish o → s'.heap.get? b = some o
  keepD : ∀ b o, s.heap.get? b = some o → b ∉ pv → ¬ Xish o → ∃ o', s'.heap.get? b = some o' ∧ o'.cls = o.cls ∧ o'.data = o.data
  own : ∀ b o, s.heap.get? b = some o → b ∉ pv → ∃ o', s'.heap.get? b = some o'
  os : s'.os = s.os
  gens : ∀ (g : Nat) (x : GenState), s.gens[g]? = some x → s'.gens[g]? = some x
theorem EvG.refl {fr pv : List Addr} {s : Shared} : EvG fr pv s s := ⟨fun _ _ e _ _ _ => e, fun _ o e _ _ => ⟨o, e, rfl, rfl⟩, fun _ o e _ => ⟨o, e⟩, rfl, fun _ _ e => e⟩
theorem EvG.trans {fr pv : List Addr} {s s' s'' : Shared} (x : EvG fr pv s s') (y : EvG fr pv s' s'') : EvG fr pv s s'' where
  keep b o e h2 h3 h4 := y.keep b o (x.keep b o e h2 h3 h4) h2 h3 h4
  keepD b o e h2 h4 := by
    obtain ⟨o', e', c', d'⟩ := x.keepD b o e h2 h4
    obtain ⟨o'', e'', c'', d''⟩ := y.keepD b o' e' h2 (by unfold Xish; rw [c', d']; exact h4)
    exact ⟨o'', e'', c''.trans c', d''.trans d'⟩
  own b o e h := by
    obtain ⟨o', e'⟩ := x.own b o e h
    exact y.own b o' e' h
  os := y.os.trans x.os
  gens g z e := y.gens g z (x.gens g z e)
theorem Ev.g {fr pv : List Addr} {wr : Addr → Prop} {s s' : Shared} (x : Ev fr wr noHp noHp s s') (h : ∀ b, wr b → b ∈ pv) : EvG fr pv s s' :=
  ⟨fun b o e h2 h3 h4 => x.keep b o e rfl (fun q => h2 (h b q)) h3 h4, fun b o e h2 h4 => x.keepD b o e rfl (fun q => h2 (h b q)) h4, fun b o e _ => x.own b o e, x.os, x.gens⟩
/-- what a generator's step keeps; pv: the generator's own objects -/
structure StepG (base : Heap) (l : List Env) (lo : Addr → Prop) (pv : List Addr) (s s' : Shared) : Prop where
  ev : EvG (frAddrs l) pv s s'
  gs : GS base l noHp s'
  new : ∀ b ∈ pv, lo b
  old : ∀ b ∈ pv, ∀ o, s.heap.get? b = some o → ¬ Imm o ∧ ¬ Genish o
noncomputable def Kept (pv : List Addr) (s' s'' : Shared) : Prop := ∀ b ∈ pv, s''.heap.get? b = s'.heap.get? b
noncomputable def Own (pv : List Addr) (s' : Shared) : Prop := ∀ b ∈ pv, ∃ o, s'.heap.get? b = some o ∧ ¬ Imm o ∧ ¬ Xish o
noncomputable def GY (base : Heap) (l : List Env) (lo : Addr → Prop) (us : List (Int × Str)) : Protocol := fun n s₀ v s' kap =>
  ∃ j u pv pw, j + 1 + n = us.length ∧ us[j]? = some u ∧ VR s'.heap noHp (.d (uD u)) v ∧ StepG base l lo pv s₀ s' ∧ (∀ b ∈ pw, b ∈ pv) ∧ Own pw s' ∧
    ∀ s'', GS base l noHp s'' → Kept pw s' s'' → kap (.send .none) s''
noncomputable def GP (base : Heap) (l : List Env) (lo : Addr → Prop) : Nat → Shared → Shared → Prop := fun n s₀ s₁ => n = 0 ∧ ∃ pv, StepG base l lo pv s₀ s₁
noncomputable abbrev GR (base : Heap) (l : List Env) (lo : Addr → Prop) : GenEnd := fun n s₀ r s₁ => r = .ok (.ret .none) ∧ GP base l lo n s₀ s₁
theorem unit_vr {base : Heap} {l : List Env} {σ σ' : Hp} {s : Shared} {u : Int × Str} {v : Value} (g : GS base l σ s) (r : VR s.heap σ' (.d (uD u)) v) : VR s.heap σ (.d (uD u)) v := by
  simp only [VR] at r ⊢
  rw [RD] at r ⊢
  obtain ⟨a, vs, n, rfl, h1, h2, h3⟩ := r
  refine ⟨a, vs, n, rfl, h1, ?_, ?_⟩
  · cases hq : σ a with
    | none => rfl
    | some ds =>
      obtain ⟨_, ws, j, h4, _⟩ := g.lists a ds hq
      rw [h1] at h4
      exact absurd (congrArg (fun o => o.map Obj.cls) h4) (by simp [seqObj])
  · rw [RDs] at h3
    obtain ⟨v1, r1, rfl, q1, q2⟩ := h3
    rw [RDs] at q2
    obtain ⟨v2, r2, rfl, q3, q4⟩ := q2
    simp only [RD] at q1 q3
    obtain rfl : r2 = [] := by simpa only [RDs] using q4
    exact RDs.cons (by simpa only [RD] using q1) (RDs.cons (by simpa only [RD] using q3) RDs.nil)
theorem LR.keepsW {env : Env} {σ σ' : Hp} {m : Lo} {h h' : Heap} (x : LR env σ m h) (k : SeqKept σ σ' h h') (hk : ∀ b o, (b = env.locals ∨ b ∈ env.cells.map (·.2)) → h.get? b = some o → (∀ vs, o.data ≠ .fields vs) → ∃ o', h'.get? b = some o' ∧ o'.data = o.data) : LR env σ' m h' where
  ns := by
    obtain ⟨mc, ⟨o, es, ep, h1, h2, h3⟩, h4⟩ := x.ns
    obtain ⟨o', e1, e2⟩ := hk _ o (.inl rfl) h1 (fun vs q => by rw [h2] at q; cases q)
    exact ⟨mc, ⟨o', es, ep, e1, e2.trans h2, h3⟩, fun y a hk hm => let ⟨v, e1, e2⟩ := h4 y a hk hm; ⟨v, e1, e2.mono k⟩⟩
  cells y ca hc := by
    obtain ⟨o, ov, h1, h2, h3⟩ := x.cells y ca hc
    obtain ⟨o', e1, e2⟩ := hk _ o (.inr (List.mem_map.mpr ⟨_, mem_of_look hc, rfl⟩)) h1 (fun vs q => by rw [h2] at q; cases q)
    exact ⟨o', ov, e1, e2.trans h2, fun a hm => let ⟨v, e1, e2⟩ := h3 a hm; ⟨v, e1, e2.mono k⟩⟩
  cellsAll p hp := by
    obtain ⟨o, ov, h1, h2⟩ := x.cellsAll p hp
    obtain ⟨o', e1, e2⟩ := hk _ o (.inr (List.mem_map.mpr ⟨p, hp, rfl⟩)) h1 (fun vs q => by rw [h2] at q; cases q)
    exact ⟨o', ov, e1, e2.trans h2⟩
section
variable {F : Fx} {k : Nat} {m m₀ : Lo} {σ σ' σ₀ : Hp} {s s' s₀ : Shared}
theorem St.wr_there (st : St F σ m s) {b : Addr} (hb : F.wr b) : ∃ o, s.heap.get? b = some o := by
  rcases hb with rfl | hb
  · obtain ⟨mc, ⟨o, es, ep, h1, _⟩, _⟩ := st.lr.ns; exact ⟨o, h1⟩
  · obtain ⟨p, hp, rfl⟩ := List.mem_map.mp hb.2
    obtain ⟨o, ov, h1, _⟩ := st.lr.cellsAll p hp; exact ⟨o, h1⟩
theorem St.lr_there (st : St F σ m s) {b : Addr} (hb : b = F.env.locals ∨ b ∈ F.env.cells.map (·.2)) : ∃ o, s.heap.get? b = some o := by
  rcases hb with rfl | hb
  · obtain ⟨mc, ⟨o, es, ep, h1, _⟩, _⟩ := st.lr.ns; exact ⟨o, h1⟩
  · obtain ⟨p, hp, rfl⟩ := List.mem_map.mp hb
    obtain ⟨o, ov, h1, _⟩ := st.lr.cellsAll p hp; exact ⟨o, h1⟩
theorem St.fr_there (st : St F σ m s) {b : Addr} (hb : b ∈ frAddrs F.frs) : ∃ o, s.heap.get? b = some o :=
  let ⟨o, _, _, h, _⟩ := st.gs.frames.mem hb; ⟨o, h⟩
/-- a generator's step, as its consumer sees it -/
theorem St.stepG (ok : F.Ok k) (st : St F σ m s) {al : Addr → Prop} (hal : ∀ b, al b → s₀.heap.objs.size ≤ b ∧ ¬ (b = F.env.locals ∨ b ∈ F.env.cells.map (·.2))) {pv : List Addr} {s₁ : Shared} {gens' : Array GenState} (x : StepG F.base F.frs al pv s₁ s') (hs : s₁.heap = s.heap) (ho : s₁.os = s.os)
    (ev : Ev F.fr F.wr σ₀ σ s₀ s) (hb : AllBare gens') (hg : ∀ (g : Nat) (y : GenState), s₀.gens[g]? = some y → gens'[g]? = some y) : St F σ m { s' with gens := gens' } ∧ Ev F.fr F.wr σ₀ σ s₀ { s' with gens := gens' } := by
  have hnw : ∀ b, (b = F.env.locals ∨ b ∈ F.env.cells.map (·.2)) → b ∉ pv := fun b hw hm => (hal b (x.new b hm)).2 hw
  have hown : ∀ b ∈ pv, ∀ o, s.heap.get? b = some o → ¬ Imm o := fun b hm o e => (x.old b hm o (by rw [hs]; exact e)).1
  have kk := x.ev.keep
  have kd := x.ev.keepD
  rw [hs] at kk kd
  have kq : SeqKept σ σ s.heap s'.heap := fun b o e hi hσ => ⟨hσ, kk b o e (fun hm => hown b hm o e hi) (fun hm => by
    obtain ⟨o', es, ep, q1, q2⟩ := st.gs.frames.mem hm
    rw [e] at q1; cases q1
    rcases hi with ⟨ws, n, q⟩ | ⟨ws, q, _⟩ <;> rw [q] at q2 <;> cases q2) hi.notX⟩
  refine ⟨⟨⟨x.gs.keep, x.gs.frames, fun a ds ha => ?_, hb⟩, st.lr.keepsW kq fun b o hw e hd => ?_⟩, ⟨fun b o e h1 h2 h3 h4 => ?_, fun b o e h1 h2 h4 => ?_, ev.dom, fun b o e => ?_, ?_, hg⟩⟩
  · obtain ⟨h1, ws, n, h2, h3⟩ := st.gs.lists a ds ha
    refine ⟨h1, ws, n, kk a _ h2 (fun hm => hown a hm _ h2 imm_seq) (fun hm => ?_) imm_seq.notX, h3.mono kq⟩
    obtain ⟨o', es, ep, q1, q2⟩ := st.gs.frames.mem hm
    rw [h2] at q1; cases q1; cases q2
  · obtain ⟨o', e1, _, e2⟩ := kd b o e (hnw b hw) (notX_data hd)
    exact ⟨o', e1, e2⟩
  · have e' := ev.keep b o e h1 h2 h3 h4
    refine kk b o e' (fun hm => absurd (Heap.lt_size e) (Nat.not_lt.mpr (hal b (x.new b hm)).1)) (fun hm => ?_) h4
    exact (ok.frs_mem hm).elim h2 h3
  · obtain ⟨o', e', c', d'⟩ := ev.keepD b o e h1 h2 h4
    obtain ⟨o'', e'', c'', d''⟩ := kd b o' e' (fun hm => absurd (Heap.lt_size e) (Nat.not_lt.mpr (hal b (x.new b hm)).1)) (by unfold Xish; rw [c', d']; exact h4)
    exact ⟨o'', e'', c''.trans c', d''.trans d'⟩
  · obtain ⟨o', e'⟩ := ev.own b o e
    exact x.ev.own b o' (by rw [hs]; exact e') (fun hm => absurd (Heap.lt_size e) (Nat.not_lt.mpr (hal b (x.new b hm)).1))
  · exact x.ev.os.trans (ho.trans ev.os)
/-- where a generator object stands for its consumer -/
structure GJ (F : Fx) (s₀ : Shared) (al : Addr → Prop) (ga : Addr) (g : Nat) (us : List (Int × Str)) (i : Nat) (σ : Hp) (s : Shared) : Prop where
  gen : s.heap.IsGen ga g
  gnew : s₀.heap.get? ga = none
  gg : s₀.gens.size ≤ g
  le : i ≤ us.length
  goes : ∃ gs pv, s.gens[g]? = some gs ∧ (∀ b ∈ pv, al b) ∧ ga ∉ pv ∧ Own pv s ∧ ∀ s'', GS F.base F.frs noHp s'' → Kept pv s s'' → (∀ b, (b = F.env.locals ∨ b ∈ F.env.cells.map (·.2)) → ∃ o, s''.heap.get? b = some o) →
    gs.Goes F.M F.A.in1 (GR F.base F.frs al) (GY F.base F.frs al us) (us.length - i) (.send .none) s''
theorem own_gen {target : Expr} {ga : Addr} {g : Nat} {v : Value} {M : Model} {A : Around} (h : s.heap.IsGen ga g) : wpAny M A (letOwnedTupleGo target (.ref ga) v) (fun _ s' => s' = s) (fun _ _ => False) s := by
  obtain ⟨o, nm, qn, h1, h2, h3, _⟩ := h
  have key : ∀ {t : Sem Unit}, t = (do
      let (.ref r, .ref a) := ((Value.ref ga), v) | return
      let o ← load r
      match o.cls, o.data with
      | .type n, .fields vs =>
        if ["enumerate", "zip", "dict_itemiterator", "dict_reverseitemiterator", "odict_iterator", "itertools.zip_longest", "itertools.pairwise"].contains n && vs[0]? == some (rawInt a) then
          rule "for.unpacks-the-owned-tuple"
          updateField r 0 .none
      | _, _ => pure ()) → wpAny M A t (fun _ s' => s' = s) (fun _ _ => False) s := fun ht => by
    rw [ht]
    cases v with
    | ref a =>
      refine wpAny_bind (wpAny_load h1 ?_)
      rw [h2, h3]
      exact wpAny_pure rfl
    | _ => exact wpAny_pure rfl
  cases target <;> first | exact wpAny_pure rfl | exact key rfl
theorem ItOk.gen {target : Expr} {ga : Addr} {g : Nat} {us : List (Int × Str)} {al : Addr → Prop} (ok : F.Ok k) (hh : F.A.handled = none) (hal : ∀ b, al b → s₀.heap.objs.size ≤ b ∧ ¬ (b = F.env.locals ∨ b ∈ F.env.cells.map (·.2))) (hga : ¬ F.wr ga) (ff₀ : FF s₀.heap F.base F.outer) : ItOk F target σ₀ s₀ (.ref ga) (GJ F s₀ al ga g us) (us.map fun u => .d (uD u)) where
  item i d s σ m j st ev hd := by
    obtain ⟨gs, pv, hgs, hlo, hga', hown, goes⟩ := j.goes
    rw [List.getElem?_map] at hd
    obtain ⟨u, hu, rfl⟩ := Option.map_eq_some_iff.mp hd
    have hlt : i < us.length := (List.getElem?_eq_some_iff.mp hu).1
    obtain ⟨q, hq⟩ : ∃ q, us.length - i = q + 1 := ⟨us.length - i - 1, by lia  ⟩
    rw [hq] at goes
    have gb : AllBare (s.setGen g .running).gens := st.gs.bare.moved (GenOnlyQ.of (GenOnly.setGen s g .running) (setGen_self hgs) rfl)
    have g0 : GS F.base F.frs noHp (s.setGen g .running) := ⟨st.gs.keep, st.gs.frames, fun a ds ha => (nomatch ha), gb⟩
    refine next_gen hh (ok.bs.nolimit.keeps st.gs.keep) ok.room j.gen hgs (goes _ g0 (fun b _ => rfl) fun b hb => st.lr_there hb) (fun v s₁ gs' hb hY => ?_) (fun s₁ hP => absurd hP.1 (by lia  ))
    obtain ⟨j', u', pv', pw', hj, hu', hv, step, hsub, hown', hk⟩ := hY
    obtain rfl : j' = i := by lia
    rw [hu] at hu'; cases hu'
    have hbare : AllBare (s₁.setGen g gs').gens := step.gs.bare.moved (GenOnlyQ.of (GenOnly.setGen s₁ g gs') (setGen_self (step.ev.gens g .running (setGen_self hgs))) hb)
    have hgens : ∀ (g' : Nat) (y : GenState), s₀.gens[g']? = some y → (s₁.setGen g gs').gens[g']? = some y := fun g' y hy => by
      have hne : g' ≠ g := fun q => by
        subst q
        have := (Array.getElem?_eq_some_iff.mp hy).1
        exact absurd this (Nat.not_lt.mpr j.gg)
      rw [(GenOnly.setGen s₁ g gs').2 g' hne]
      refine step.ev.gens g' y ?_
      rw [(GenOnly.setGen s g .running).2 g' hne]
      exact ev.gens g' y hy
    obtain ⟨st', ev'⟩ := st.stepG ok hal step rfl rfl ev hbare hgens
    have hgen : s₁.heap.IsGen ga g := by
      obtain ⟨o, nm, qn, h1, h2, h3, h4⟩ := j.gen
      refine ⟨o, nm, qn, ?_, h2, h3, h4⟩
      exact step.ev.keep ga o h1 (fun hm => (step.old ga hm o h1).2 ⟨⟨_, h3⟩, h2⟩) (fun hm => by
        obtain ⟨o', es, ep, q1, q2⟩ := st.gs.frames.mem hm
        rw [h1] at q1; cases q1; rw [h3] at q2; cases q2) (notX_cls h2 (by decide) (by decide))
    refine ⟨v, rfl, ⟨hgen, j.gnew, j.gg, by lia  , gs', pw', setGen_self (step.ev.gens g .running (setGen_self hgs)), fun b hb => step.new b (hsub b hb), ?_, hown', fun s'' hs'' hkept _ => ?_⟩, st', ev', unit_vr st'.gs hv⟩
    · intro hm
      obtain ⟨o, nm, qn, h1, h2, h3, h4⟩ := j.gen
      exact (step.old ga (hsub ga hm) o h1).2 ⟨⟨_, h3⟩, h2⟩
    · rw [show us.length - (j' + 1) = q by lia  ]
      exact hk s'' hs'' hkept
  fin i s σ m j st ev hd := by
    obtain ⟨gs, pv, hgs, hlo, hga', hown, goes⟩ := j.goes
    have hge : us.length ≤ i := by simpa using hd
    rw [show us.length - i = 0 by lia  ] at goes
    have gb : AllBare (s.setGen g .running).gens := st.gs.bare.moved (GenOnlyQ.of (GenOnly.setGen s g .running) (setGen_self hgs) rfl)
    have g0 : GS F.base F.frs noHp (s.setGen g .running) := ⟨st.gs.keep, st.gs.frames, fun a ds ha => (nomatch ha), gb⟩
    refine next_gen hh (ok.bs.nolimit.keeps st.gs.keep) ok.room j.gen hgs (goes _ g0 (fun b _ => rfl) fun b hb => st.lr_there hb) (fun v s₁ gs' hb hY => ?_) (fun s₁ hP h' hk => ?_)
    · obtain ⟨j', u', pv', pw', hj, hu', hv, step, hsub, hown', hk⟩ := hY
      exact (hk s₁ step.gs fun _ _ => rfl).elim
    · obtain ⟨_, pv', step⟩ := hP
      have hbare : AllBare (s₁.setGen g .finished).gens := step.gs.bare.moved (GenOnlyQ.of (GenOnly.setGen s₁ g .finished) (setGen_self (step.ev.gens g .running (setGen_self hgs))) rfl)
      have hgens : ∀ (g' : Nat) (y : GenState), s₀.gens[g']? = some y → (s₁.setGen g .finished).gens[g']? = some y := fun g' y hy => by
        have hne : g' ≠ g := fun q => by
          subst q
          have := (Array.getElem?_eq_some_iff.mp hy).1
          exact absurd this (Nat.not_lt.mpr j.gg)
        rw [(GenOnly.setGen s₁ g .finished).2 g' hne]
        refine step.ev.gens g' y ?_
        rw [(GenOnly.setGen s g .running).2 g' hne]
        exact ev.gens g' y hy
      obtain ⟨st', ev'⟩ := st.stepG ok hal step rfl rfl ev hbare hgens
      have kq : SeqKept σ σ s₁.heap h' := fun b o e _ hσ => ⟨hσ, hk b o e⟩
      refine ⟨rfl, ⟨⟨fun b o e => hk b o (st'.gs.keep b o e), st'.gs.frames.of fun b o es ep e hd => ⟨o, es, ep, hk b o e, hd⟩, fun a ds ha => ?_, hbare⟩, st'.lr.keeps kq fun b o e _ _ => ⟨o, hk b o e, rfl⟩⟩,
        ev'.trans ⟨fun b o e _ _ _ _ => hk b o e, fun b o e _ _ _ => ⟨o, hk b o e, rfl, rfl⟩, fun _ e => .inl e, fun b o e => ⟨o, hk b o e⟩, rfl, fun _ _ e => e⟩⟩
      obtain ⟨h1, ws, n, h2, h3⟩ := st'.gs.lists a ds ha
      exact ⟨h1, ws, n, hk _ _ h2, h3.mono kq⟩
  keep i s s' σ σ' m j st ev := by
    obtain ⟨gs, pv, hgs, hlo, hga', hown, goes⟩ := j.goes
    have kp : ∀ b o, s.heap.get? b = some o → ¬ Imm o → ¬ Xish o → s₀.heap.get? b = none → ¬ F.wr b → s'.heap.get? b = some o := fun b o e hi hx hn hnw => by
      refine ev.keep b o e ?_ (fun hw => ?_) (fun hm => ?_) hx
      · cases hq : σ b with
        | none => rfl
        | some ds =>
          obtain ⟨_, ws, n, h2, _⟩ := st.gs.lists b ds hq
          rw [e] at h2; cases h2; exact absurd imm_seq hi
      · exact hnw hw
      · obtain ⟨o', es, ep, e', _⟩ := ff₀.mem hm
        rw [hn] at e'; cases e'
    have kpv : Kept pv s s' := fun b hb => by
      obtain ⟨o, e, hi, hx⟩ := hown b hb
      rw [e]; exact kp b o e hi hx (Heap.get?_none_of_le (hal b (hlo b hb)).1) (fun hw => (hal b (hlo b hb)).2 (hw.imp (fun q => q) fun q => q.2))
    obtain ⟨o, nm, qn, h1, h2, h3, h4⟩ := j.gen
    refine ⟨⟨o, nm, qn, kp ga o h1 ?_ ?_ j.gnew hga, h2, h3, h4⟩, j.gnew, j.gg, j.le, gs, pv, ev.gens g gs hgs, hlo, hga', fun b hb => ?_, fun s'' hs'' hk hw => goes s'' hs'' (fun b hb => (hk b hb).trans (kpv b hb)) hw⟩
    · rintro (⟨ws, n, q⟩ | ⟨ws, _, q⟩)
      · rw [h3] at q; cases q
      · rw [h2] at q; exact absurd (Value.type.inj q) (by decide)
    · exact notX_cls h2 (by decide) (by decide)
    · obtain ⟨o, e, hi, hx⟩ := hown b hb
      exact ⟨o, by rw [kpv b hb]; exact e, hi, hx⟩
  own i σ s v j := own_gen j.gen
  self i σ s j := wpAny_pyIter_gen j.gen ⟨rfl, rfl⟩
end
/-- the call of a generator function: its contract -/
noncomputable def GL (c : Cc) (k : Nat) (f : Addr) (args : List V) (us : List (Int × Str)) (σ : Hp) : Prop :=
  ∀ A outer s vs, A.frames = some outer → A.depth + k < recursionLimit → A.units + 20 * k < cLine → A.handled = none → GS c.base outer σ s → VRs s.heap σ args vs →
    codeAny (model c.prog c.w) A (.call (.ref f) ⟨vs, []⟩) (fun r s' => ∃ ga g gs pv, r = .ok (.ret (.ref ga)) ∧ Ev (frAddrs outer) (fun _ => False) σ σ s s' ∧ GS c.base outer σ s' ∧
      s'.heap.IsGen ga g ∧ s.heap.get? ga = none ∧ s.gens.size ≤ g ∧ s'.gens[g]? = some gs ∧ (∀ b ∈ pv, s.heap.objs.size ≤ b) ∧ ga ∉ pv ∧ Own pv s' ∧
      ∀ A' outer' s'' (al : Addr → Prop), (∀ b ∈ pv, al b) → (∀ b, s.heap.objs.size < b → s''.heap.get? b = none → al b) → A'.frames = some outer' → A'.depth + k < recursionLimit → A'.units + 20 * k < cLine → A'.handled = none → GS c.base outer' noHp s'' → Kept pv s' s'' →
        gs.Goes (model c.prog c.w) A' (GR c.base outer' al) (GY c.base outer' al us) us.length (.send .none) s'') s
inductive WPost (F : Fx) (target : Expr) (m : Lo) (σ : Hp) (s : Shared) (K : List V → Hp → Prop) (it : Value) (s₂ : Shared) : Prop
  | mk (ds : List V) (σ₁ : Hp) (s' : Shared) (e1 : Ev F.fr F.wr σ σ₁ s s') (st1 : St F σ₁ m s') (e2 : Ev F.fr F.wr σ₁ σ₁ s' s₂) (e3 : Ev (frAddrs F.frs) (fun _ => False) σ₁ σ₁ s' s₂) (st2 : St F σ₁ m s₂) (wk : Walkable F target σ₁ s' it s₂ ds) (q : K ds σ₁) : WPost F target m σ s K it s₂
/-- an expression that is walked along -/
noncomputable def ITX (F : Fx) (iter target : Expr) (m : Lo) (K : List V → Hp → Prop) (σ : Hp) : Prop :=
  ∀ s, St F σ m s → wpAny F.M F.A (eval iter F.env) (fun v s₁ => wpAny F.M F.A (pyIter v) (WPost F target m σ s K) (fun _ _ => False) s₁) (fun _ _ => False) s
section
variable {F : Fx} {k : Nat} {m : Lo} {σ σ' : Hp} {s s' : Shared} {x : Str} {pos p : Pos}
theorem itx_val {iter target : Expr} {K : List V → Hp → Prop} (h : EV F iter m (fun a σ₁ => ∃ ds, ITER F target a σ₁ ds ∧ K ds σ₁) (fun _ _ _ => False) σ) : ITX F iter target m K σ := fun s st =>
  wpAny_mono (h s st) (fun v s₁ ⟨a, σ₁, e1, st1, r1, ds, hit, q⟩ => wpAny_mono (hit s₁ v m st1 r1) (fun it s₂ ⟨e2, e2', st2, wk⟩ => ⟨ds, σ₁, s₁, e1, st1, e2, e2', st2, wk, q⟩) fun _ _ x => x) fun _ _ ⟨_, _, _, x⟩ => x
theorem itx_gen {fn : Str} {es : List Expr} {fa : Addr} {o : Obj} {fd : FuncData} {j : Nat} {target : Expr} {K : List V → Hp → Prop} (ok : F.Ok k) (hjk : j + 1 ≤ k) (hl : F.env.kindOf fn = some .globalImplicit) (hG : F.G fn = some (.ref fa)) (ho : F.base.get? fa = some o) (hdat : o.data = .func fd) (hd : (fn == ("__debug__" : Str)) = false)
    (hh : F.A.handled = none) (hst : starEach es F.env = es.map fun e => (false, eval e F.env))
    (h : EVL F es m (fun as σ₁ => ∃ us, GL F.cc j fa as us σ₁ ∧ K (us.map fun u => .d (uD u)) σ₁) (fun _ _ _ => False) σ) : ITX F (.Call (.Name fn p) es [] pos) target m K σ := fun s st => by
  refine wpAny_mono (Q := fun v s₁ => wpAny F.M F.A (pyIter v) (WPost F target m σ s K) (fun _ _ => False) s₁) (E := VExc F m σ s fun _ _ _ => False) ?_ (fun _ _ x => x) fun _ _ ⟨_, _, _, x⟩ => x
  refine wpAny_Call_NameR ((ev_global (pos := p) (X := fun _ _ _ => False) (Q := fun a σ₁ => a = .obj (.ref fa) ∧ σ₁ = σ) ok hl hG ⟨rfl, rfl⟩ hd s st).seq Ev.refl fun v a σ₁ s₁ _ e1 st1 r1 ⟨q1, q2⟩ => ?_)
  subst q1 q2
  obtain rfl := r1.obj
  refine Calls.callWith_function (o := o) (fd := fd) (evalArgs_evl hst h st1 e1 fun vs as σ₂ s₂ _ e2 st2 r2 ⟨us, gl, hK⟩ => ⟨⟨st2.gs.keep _ _ ho, hdat⟩, wpAny_call (codeAny_mono (gl F.A F.frs s₂ vs ok.frames ?_ ?_ hh st2.gs r2) fun r s₃ hr => ?_)⟩)
  · have := ok.depth; lia
  · have := ok.units; lia
  · obtain ⟨ga, g, gs, pv, rfl, ev, g3, hg, hgn, hgg, hgs, hlo, hga, hown, goes⟩ := hr
    obtain ⟨st3, ev3⟩ := st2.after ok g3 ev
    refine wpAny_pyIter_gen hg ⟨_, σ₂, s₂, e2, st2, ev3, ev, st3, fun env' outer' comp' L => ?_, hK⟩
    have hold : ∀ b, s₂.heap.objs.size ≤ b → ∀ o, s₃.heap.get? b = some o → ¬ (b = env'.locals ∨ b ∈ env'.cells.map (·.2)) := fun b hb o ho hw => by
      rcases L.nw b hw with q | q
      · obtain ⟨o', ho'⟩ := st2.lr_there q
        exact absurd (Heap.lt_size ho') (Nat.not_lt.mpr hb)
      · rw [ho] at q; cases q
    have hpv : ∀ b ∈ pv, s₂.heap.objs.size ≤ b ∧ ¬ (b = env'.locals ∨ b ∈ env'.cells.map (·.2)) := fun b hb => by
      obtain ⟨o, ho, _⟩ := hown b hb
      exact ⟨hlo b hb, hold b (hlo b hb) o ho⟩
    have hgw : ¬ (F.re env' outer' comp').wr ga := fun hw => by
      have hw' : ga = env'.locals ∨ ga ∈ env'.cells.map (·.2) := hw.imp (fun q => q) fun q => q.2
      obtain ⟨o, nm, qn, ho, _⟩ := hg
      rcases L.nw ga hw' with q | q
      · obtain ⟨o', ho'⟩ := st2.lr_there q
        rw [hgn] at ho'; cases ho'
      · rw [ho] at q; cases q
    have ff₀ : FF s₂.heap F.base outer' := by
      have := st2.gs.frames
      rw [← L.frs] at this
      exact Fx.ffo this
    refine ⟨GJ (F.re env' outer' comp') s₂ (fun b => s₂.heap.objs.size ≤ b ∧ ¬ (b = env'.locals ∨ b ∈ env'.cells.map (fun p : Str × Addr => p.2))) ga g us, fun s₄ σ₄ gr _ => ⟨hg.keeps gr.1, hgn, hgg, Nat.zero_le _, gs, pv, by rw [gr.2.1]; exact hgs, hpv, hga, fun b hb => ?_, fun s'' hs'' hk hw => ?_⟩, ItOk.gen (L.ok k ok) hh (fun _ h => h) hgw ff₀⟩
    · obtain ⟨o, ho, h1⟩ := hown b hb
      exact ⟨o, gr.1 b o ho, h1⟩
    · have hs' : GS F.base F.frs noHp s'' := by rw [← L.frs]; exact hs''
      show gs.Goes F.M F.A.in1 (GR F.base (F.re env' outer' comp').frs _) (GY F.base (F.re env' outer' comp').frs _ us) us.length _ s''
      rw [L.frs]
      refine goes F.A.in1 F.frs s'' _ hpv (fun b h1 h2 => ⟨Nat.le_of_lt h1, fun hb => ?_⟩) ok.frames ?_ ?_ hh hs' (fun b hb => ?_)
      · obtain ⟨o, ho⟩ := hw b hb
        rw [h2] at ho; cases ho
      · have := ok.depth; show F.A.depth + j < _; lia
      · have := ok.units; show F.A.units + 1 + 20 * j < _; lia
      · obtain ⟨o, ho, _⟩ := hown b hb
        rw [hk b hb, gr.1 b o ho, ho]
variable {Q : Fl → Lo → Hp → Prop} {X : XE}
inductive ForI (F : Fx) (J : Nat → Hp → Shared → Prop) (I : Nat → Lo → Hp → Prop) (σ₁ : Hp) (s' : Shared) (N : Nat) (n : Nat) (sx : Shared) : Prop
  | mk (i : Nat) (m' : Lo) (σ' : Hp) (e : Ev F.fr F.wr σ₁ σ' s' sx) (st : St F σ' m' sx) (j : J i σ' sx) (hI : I i m' σ') (hi : i ≤ N) (hn : n = N + 1 - i) : ForI F J I σ₁ s' N n sx
/-- a for loop whose turns raise nothing -/
theorem ex_forX {target iter : Expr} {body : List Stmt}
    (h : ITX F iter target m (fun ds σ₁ => ∃ (I : Nat → Lo → Hp → Prop), I 0 m σ₁ ∧
      (∀ i d m' σ', ds[i]? = some d → I i m' σ' → AT F target d m' (fun m'' σ'' => EXs F body m'' (fun fl m₃ σ₃ => match fl with
        | .next | .cont => I (i + 1) m₃ σ₃
        | .brk => Q .next m₃ σ₃
        | .ret a => Q (.ret a) m₃ σ₃) NoX σ'') σ') ∧
      (∀ m' σ', I ds.length m' σ' → Q .next m' σ')) σ)
    (hs : ∀ x, foldedSetIterable iter F.env x = pure x) : EX F (.For target iter body [] pos) m Q X σ := fun s st => by
  refine wpAny_For (wpAny_mono (h s st) (fun v s₁ h₁ => ?_) fun _ _ x => x.elim) hs
  refine wpAny_mono h₁ (fun it s₂ ⟨ds, σ₁, s', e1, st1, e2, _, st2, wk, I, h0, turn, fin⟩ => ?_) fun _ _ x => x.elim
  obtain ⟨J, j0', ok⟩ := wk F.env F.outer F.comp Like.refl
  have j0 := j0' s₂ σ₁ Grown.refl fun _ _ _ => rfl
  replace ok : ItOk F target σ₁ s' it J ds := ok
  refine codeAny_forLoop2 (ForI F J I σ₁ s' ds.length) (fun n s₃ ⟨i, m₃, σ₃, e3, st3, j3, i3, hi, hn⟩ => ?_) (ds.length + 1) ⟨0, m, σ₁, e2, st2, j0, h0, Nat.zero_le _, rfl⟩
  cases hd : ds[i]? with
  | none =>
    have hi' : i = ds.length := Nat.le_antisymm hi (by simpa using hd)
    refine wpAny_mono (ok.fin i s₃ σ₃ m₃ j3 st3 e3 hd) (fun r s₄ ⟨hr, st4, e4⟩ => ?_) fun _ _ x => x.elim
    subst hr
    exact wpAny_execs_nil ⟨.next, m₃, σ₃, e1.trans e4, st4, rfl, fin m₃ σ₃ (hi' ▸ i3)⟩
  | some d =>
    have hlt : i < ds.length := (List.getElem?_eq_some_iff.mp hd).1
    refine wpAny_mono (ok.item i d s₃ σ₃ m₃ j3 st3 e3 hd) (fun r s₄ ⟨v4, hr, j4, st4, e4, r4⟩ => ?_) fun _ _ x => x.elim
    subst hr
    refine wpAny_mono (ok.own (i + 1) σ₃ s₄ v4 j4) (fun _ s₄' hs4 => ?_) fun _ _ x => x.elim
    subst hs4
    refine wpAny_mono (turn i d m₃ σ₃ hd i3 s₄' v4 st4 r4) (fun _ s₅ ⟨m₅, σ₅, e5, st5, q5⟩ => ?_) fun _ _ x => x.elim
    refine wpAny_mono (q5 s₅ st5) (fun f s₆ ⟨fl, m₆, σ₆, e6, st6, r6, q6⟩ => ?_) fun _ _ ⟨_, _, _, _, x⟩ => x.elim
    have e7 : Ev F.fr F.wr σ₁ σ₆ s' s₆ := e4.trans (e5.trans e6)
    have j6 : J (i + 1) σ₆ s₆ := ok.keep _ _ _ _ _ _ j4 st4 (e5.trans e6)
    cases fl with
    | next => simp only [FR] at r6; subst r6; exact ⟨ds.length + 1 - (i + 1), by omega, i + 1, m₆, σ₆, e7, st6, j6, q6, hlt, rfl⟩
    | cont => simp only [FR] at r6; subst r6; exact ⟨ds.length + 1 - (i + 1), by omega, i + 1, m₆, σ₆, e7, st6, j6, q6, hlt, rfl⟩
    | brk => simp only [FR] at r6; subst r6; exact ⟨.next, m₆, σ₆, e1.trans e7, st6, rfl, q6⟩
    | ret a => obtain ⟨v, rfl, r⟩ := r6; exact ⟨.ret a, m₆, σ₆, e1.trans e7, st6, ⟨v, rfl, r⟩, q6⟩
end
section
variable {F : Fx} {k : Nat} {m : Lo} {σ σ' : Hp} {s s' : Shared} {x : Str} {pos p : Pos}
/-- the heap has grown -/
theorem St.ext (st : St F σ m s) {h' : Heap} {t : Nat} (hk : ∀ b o, s.heap.get? b = some o → h'.get? b = some o) : St F σ m { s with heap := h', toks := t } ∧ Ev F.fr F.wr σ σ s { s with heap := h', toks := t } := by
  have kq : SeqKept σ σ s.heap h' := fun b o e _ hσ => ⟨hσ, hk b o e⟩
  refine ⟨⟨⟨fun b o e => hk b o (st.gs.keep b o e), st.gs.frames.of fun b o es ep e hd => ⟨o, es, ep, hk b o e, hd⟩, fun a ds ha => ?_, st.gs.bare⟩, st.lr.keeps kq fun b o e _ _ => ⟨o, hk b o e, rfl⟩⟩,
    ⟨fun b o e _ _ _ _ => hk b o e, fun b o e _ _ _ => ⟨o, hk b o e, rfl, rfl⟩, fun _ e => .inl e, fun b o e => ⟨o, hk b o e⟩, rfl, fun _ _ e => e⟩⟩
  obtain ⟨h1, ws, n, h2, h3⟩ := st.gs.lists a ds ha
  exact ⟨h1, ws, n, hk _ _ h2, h3.mono kq⟩
/-- assignments one by one -/
noncomputable def ATs (F : Fx) : List Expr → List V → Lo → (Lo → Hp → Prop) → Hp → Prop
  | [], [], m, K, σ => K m σ
  | t :: ts, a :: as, m, K, σ => AT F t a m (fun m' σ' => ATs F ts as m' K σ') σ
  | _, _, _, _, _ => False
theorem ats_nil {F : Fx} {K : Lo → Hp → Prop} {m : Lo} {σ : Hp} (h : K m σ) : ATs F [] [] m K σ := h
theorem inOrder {K : Lo → Hp → Prop} : ∀ {ts : List Expr} {as : List V} {vs : List Value} {m : Lo} {σ σ₀ : Hp} {s s₀ : Shared}, ATs F ts as m K σ → VRs s.heap σ as vs → St F σ m s → Ev F.fr F.wr σ₀ σ s₀ s →
    wpAny F.M F.A (assignInOrder (ts.map fun t => assign t F.env) vs) (fun _ s' => APost F σ₀ s₀ K s') (fun _ _ => False) s
  | [], [], vs, m, σ, σ₀, s, s₀, h, r, st, ev => by
    simp only [VRs] at r; subst r
    exact wpAny_pure ⟨m, σ, ev, st, h⟩
  | [], _ :: _, _, _, _, _, _, _, h, _, _, _ => h.elim
  | _ :: _, [], _, _, _, _, _, _, h, _, _, _ => h.elim
  | t :: ts, a :: as, vs, m, σ, σ₀, s, s₀, h, r, st, ev => by
    obtain ⟨v, rr, rfl, r1, r2⟩ := r.uncons
    show wpAny F.M F.A (holding rr (assign t F.env v) >>= fun _ => assignInOrder (ts.map fun t => assign t F.env) rr) _ _ s
    refine wpAny_bind (wpAny_holding (wpAny_mono (h s v st r1) (fun _ s₁ ⟨m₁, σ₁, e1, st1, h1⟩ => ?_) fun _ _ x => x))
    exact inOrder h1 (r2.mono (st.seqKept e1)) st1 (ev.trans e1)
theorem VRs.append {h : Heap} {σ : Hp} : ∀ {as bs : List V} {vs ws : List Value}, VRs h σ as vs → VRs h σ bs ws → VRs h σ (as ++ bs) (vs ++ ws)
  | [], bs, vs, ws, r1, r2 => by simp only [VRs] at r1; subst r1; exact r2
  | a :: as, bs, vs, ws, r1, r2 => by
    obtain ⟨v, rr, rfl, q1, q2⟩ := r1.uncons
    simp only [List.cons_append, VRs]
    exact ⟨v, rr ++ ws, rfl, q1, VRs.append q2 r2⟩
theorem VRs.rev {h : Heap} {σ : Hp} : ∀ {as : List V} {vs : List Value}, VRs h σ as vs → VRs h σ as.reverse vs.reverse
  | [], vs, r => by simp only [VRs] at r; subst r; simp only [List.reverse_nil, VRs]
  | a :: as, vs, r => by
    obtain ⟨v, rr, rfl, q1, q2⟩ := r.uncons
    rw [List.reverse_cons, List.reverse_cons]
    exact (VRs.rev q2).append (by simp only [VRs]; exact ⟨v, [], rfl, q1, rfl⟩)
noncomputable def Lo.puts : Lo → List Str → List V → Lo
  | m, n :: ns, a :: as => (m.put n a).puts ns as
  | m, _, _ => m
theorem inOrderN (ok : F.Ok k) : ∀ {names : List Str} {as : List V} {vs : List Value} {m : Lo} {σ σ₀ : Hp} {s s₀ : Shared}, (∀ n ∈ names, Bound F n) → names.length = as.length → VRs s.heap σ as vs → St F σ m s → Ev F.fr F.wr σ₀ σ s₀ s →
    wpAny F.M F.A (assignInOrder (names.map fun n => bindName F.env n) vs) (fun _ s' => Ev F.fr F.wr σ₀ σ s₀ s' ∧ St F σ (m.puts names as) s') (fun _ _ => False) s
  | [], [], vs, m, σ, σ₀, s, s₀, h, hl, r, st, ev => by
    simp only [VRs] at r; subst r
    exact wpAny_pure ⟨ev, st⟩
  | [], _ :: _, _, _, _, _, _, _, _, h, _, _, _ => by simp at h
  | _ :: _, [], _, _, _, _, _, _, _, h, _, _, _ => by simp at h
  | t :: ts, a :: as, vs, m, σ, σ₀, s, s₀, h, hl, r, st, ev => by
    obtain ⟨v, rr, rfl, r1, r2⟩ := r.uncons
    show wpAny F.M F.A (holding rr (bindName F.env t v) >>= fun _ => assignInOrder (ts.map fun t => bindName F.env t) rr) _ _ s
    exact wpAny_bind (wpAny_holding (wpAny_bindName (store ok (h t List.mem_cons_self) st r1 fun s₁ e1 st1 =>
      inOrderN ok (fun n hn => h n (List.mem_cons_of_mem _ hn)) (by simpa using hl) (r2.mono (st.seqKept e1)) st1 (ev.trans e1))))
theorem at_tuple {elts : List Expr} {a : V} {as : List V} {j : Nat} {K : Lo → Hp → Prop} (hh : F.A.handled = none) (ha : asT a = some as) (hl : elts.length = as.length) (he : assignEach elts F.env = elts.map fun t => (false, assign t F.env)) (h : ATs F elts as m K σ) : AT F (.Tuple elts j pos) a m K σ := fun s v st r => by
  obtain ⟨b, vs, n, rfl, e1, e2⟩ := asT_at r ha
  have hlen := e2.length
  refine wpAny_assign_Tuple (items := List.toArray vs) hh ⟨_, e1, rfl, n, rfl⟩ (by rw [he]; simp [hl, hlen]) (by rw [he]; rw [List.findIdx?_eq_none_iff]; simp) fun h' hx => ?_
  have hk : ∀ b o, s.heap.get? b = some o → h'.get? b = some o := fun b o e => hx b o (Nat.ne_of_lt (Heap.lt_size e)) e
  obtain ⟨st', ev'⟩ := st.ext (t := s.toks) hk
  rw [he, List.map_map]
  exact inOrder h (e2.mono (st.seqKept ev')) st' ev'
/-- rooms[place] = x, as a target -/
theorem at_setitem {o i : Expr} {d : D} {K : Lo → Hp → Prop} (h : EV F o m (fun b σ₂ => EV F i m (fun c σ₃ => ∃ r ds j, b = .ref r ∧ c = .d (.int j) ∧ σ₃ r = some ds ∧ 0 ≤ j ∧ j < ds.length ∧ ds.length < 2 ^ 23 ∧ K m (σ₃.set r (ds.set j.toNat d))) (fun _ _ _ => False) σ₂) (fun _ _ _ => False) σ)
    : AT F (.Subscript o i p) (.d d) m K σ := fun s v st r => by
  rw [assign_Subscript]
  refine wpAny_bind (wpAny_holding (wpAny_mono (h s st) (fun w s₁ ⟨b, σ₁, e1, st1, r1, q1⟩ => ?_) fun _ _ ⟨_, _, _, x⟩ => x))
  refine wpAny_bind (wpAny_holding (wpAny_mono (q1 s₁ st1) (fun u s₂ ⟨c, σ₂, e2, st2, r2, q2⟩ => ?_) fun _ _ ⟨_, _, _, x⟩ => x))
  obtain ⟨r', ds, j, rfl, rfl, hr, h0, hj, hz, q⟩ := q2
  obtain rfl := r1.ref
  obtain ⟨t, rfl⟩ := r2.int
  obtain ⟨_, vs, n, g1, g2⟩ := st2.gs.lists r' ds hr
  have r4 : RD s₂.heap σ₂ d v := by simpa only [VR] using st1.vr e2 (st.vr e1 r)
  have hlen := g2.length
  refine wpAny_bind (wpAny_standAt (wpAny_bind (wpAny_holding (ki_setAt (n := n) g1 h0 (by lia  ) (by rw [List.size_toArray]; lia  ) ?_))))
  have u := IsL.update g1 (·.setIfInBounds j.toNat v)
  rw [show (List.toArray vs).setIfInBounds j.toNat v = List.toArray (vs.set j.toNat v) by simp] at u
  obtain ⟨st4, ev4⟩ := st2.setList (t := s₂.toks) hr (Heap.SameBut.update s₂.heap r' _) u (g2.set j.toNat r4)
  exact wpAny_release ⟨m, _, (e1.trans e2).trans ev4, st4, q⟩
variable {Q : Fl → Lo → Hp → Prop} {X : XE}
theorem ex_assignT {elts : List Expr} {j : Nat} {value : Expr} (h : EV F value m (fun a σ₁ => AT F (.Tuple elts j p) a m (fun m' σ' => Q .next m' σ') σ₁) (fun e => X e m) σ)
    (hs : swapsWithSole [.Tuple elts j p] value pos.line F.env = pure false) (hw : swappedStores [.Tuple elts j p] value F.env = pure none) : EX F (.Assign [.Tuple elts j p] value pos) m Q X σ := fun s st =>
  Assign_Tuple ((h s st).inStmt Ev.refl fun v a σ₁ s₁ _ e1 st1 r1 q => wpAny_mono (q s₁ v st1 r1) (fun _ s₂ ⟨m₂, σ₂, e2, st2, q2⟩ => ⟨.next, m₂, σ₂, e1.trans e2, st2, rfl, q2⟩) fun _ _ x => x.elim) hs hw
/-- a, b = x, y: the names are bound from behind -/
theorem ex_assignS {elts : List Expr} {j : Nat} {value : Expr} {names : List Str} (ok : F.Ok k) (hh : F.A.handled = none) (hb : ∀ n ∈ names.reverse, Bound F n)
    (h : EV F value m (fun a σ₁ => ∃ as, asT a = some as ∧ as.length = names.length ∧ Q .next (m.puts names.reverse as.reverse) σ₁) (fun e => X e m) σ)
    (hs : swapsWithSole [.Tuple elts j p] value pos.line F.env = pure false) (hw : swappedStores [.Tuple elts j p] value F.env = pure (some names)) : EX F (.Assign [.Tuple elts j p] value pos) m Q X σ := fun s st => by
  refine Assign_Tuple_swapped ((h s st).inStmt Ev.refl fun v a σ₁ s₁ _ e1 st1 r1 ⟨as, ha, hl, q⟩ => ?_) hs hw
  obtain ⟨b, vs, n, rfl, f1, f2⟩ := asT_at r1 ha
  have hlen := f2.length
  have key := wpAny_unpackItems_tuple (prog := F.prog) (w := F.w) (A := F.A) (s := s₁) (t := b) (items := List.toArray vs)
    (Q := fun items s₂ => wpAny F.M F.A (assignInOrder (names.reverse.map fun n => bindName F.env n) items.reverse) (fun _ s' => XPost F σ s Q .next s') (XExc F σ s X) s₂)
    (E := XExc F σ s X) hh ⟨_, f1, rfl, n, rfl⟩ (fun h' hx => ?_)
  · rw [show (List.toArray vs).size = names.length by rw [List.size_toArray, hlen, hl]] at key
    exact key
  · have hk : ∀ b o, s₁.heap.get? b = some o → h'.get? b = some o := fun b o e => hx b o (Nat.ne_of_lt (Heap.lt_size e)) e
    obtain ⟨st', ev'⟩ := st1.ext (t := s₁.toks) hk
    have rr : VRs h' σ₁ as.reverse vs.reverse := (f2.mono (st1.seqKept ev')).rev
    have := inOrderN ok (names := names.reverse) hb (by simp [hl]) rr st' (e1.trans ev')
    exact wpAny_mono this (fun _ s' ⟨a1, a2⟩ => ⟨.next, _, σ₁, a1, a2, rfl, q⟩) fun _ _ x => x.elim
/-- x = y = e -/
theorem ex_assign2 {y : Str} {value : Expr} {q : Pos} (ok : F.Ok k) (hx : Bound F x) (hy : Bound F y) (h : EV F value m (fun a σ₁ => Q .next ((m.put x a).put y a) σ₁) (fun e => X e m) σ)
    (hw : swappedStores [.Name x p, .Name y q] value F.env = pure none) : EX F (.Assign [.Name x p, .Name y q] value pos) m Q X σ := fun s st =>
  wpAny_Assign_two ((h s st).inStmt Ev.refl fun v a σ₁ s₁ _ e1 st1 r1 q1 => wpAny_assign_Name (store ok hx st1 r1 fun s₂ e2 st2 => wpAny_assign_Name (store ok hy st2 (st1.vr e2 r1) fun s₃ e3 st3 => ⟨.next, _, σ₁, e1.trans (e2.trans e3), st3, rfl, q1⟩))) rfl hw
end
/-- what _iter_escaped_chars gives: i the next place, b: a mark has come -/
noncomputable def escU : List Nat → Nat → Bool → List (Int × Str)
  | [], _, false => []
  | [], i, true => [((i : Int) - 1, ⟨#[92]⟩)]
  | c :: r, i, true => ((i : Int), ⟨#[92, c]⟩) :: escU r (i + 1) false
  | c :: r, i, false => if c = 92 then escU r (i + 1) true else ((i : Int), ⟨#[c]⟩) :: escU r (i + 1) false
section
variable {F : Fx} {k : Nat} {m m' : Lo} {σ σ' : Hp} {s s' s₀ : Shared} {A : Around} {R : GenEnd} {Y : Protocol} {n : Nat} {c : Code} {fs : List Frame}
  {K : Flow → Sem Fin} {H : Value → Sem Fin} {gd : Bool → Bool} {lv : List Value → List Value}
theorem St.sub (st : St F σ m s) (h : ∀ x a, m' x = some a → m x = some a) : St F σ m' s :=
  ⟨st.gs, ⟨let ⟨mc, h1, h2⟩ := st.lr.ns; ⟨mc, h1, fun x a hk hm => h2 x a hk (h x a hm)⟩, fun x ca hc => let ⟨o, ov, h1, h2, h3⟩ := st.lr.cells x ca hc; ⟨o, ov, h1, h2, fun a hm => h3 a (h x a hm)⟩, st.lr.cellsAll⟩⟩
theorem seg_ex {stm : Stmt} {P : Lo → Prop} (hA : F.A = A.over c fs) (st : St F σ m s) (h : EX F stm m (fun fl m' σ' => fl = .next ∧ σ' = σ ∧ P m') NoX σ)
    (hk : ∀ m' s', Ev F.fr F.wr σ σ s s' → St F σ m' s' → P m' → Seg F.M A R Y n s₀ c (K .next) fs s') : Seg F.M A R Y n s₀ c ((exec stm F.env).wrap K H gd lv) fs s := by
  refine seg_wrap ?_
  rw [← hA]
  refine wpAny_mono (h s st) (fun f s₁ ⟨fl, m₁, σ₁, e1, st1, r1, q1, q2, q3⟩ => ?_) fun _ _ ⟨_, _, _, _, x⟩ => x.elim
  subst q1 q2
  simp only [FR] at r1; subst r1
  exact hk m₁ s₁ e1 st1 q3
theorem seg_if {test : Expr} {body orelse : List Stmt} {pos : Pos} {b : Bool} (hA : F.A = A.over c fs) (st : St F σ m s) (h : TS F test m (fun b' σ' => b' = b ∧ σ' = σ) (fun _ _ _ => False) σ)
    (hk : ∀ s', Ev F.fr F.wr σ σ s s' → St F σ m s' → Seg F.M A R Y n s₀ c ((execs (if b then body else orelse) F.env).wrap K H gd lv) fs s') : Seg F.M A R Y n s₀ c ((exec (.If test body orelse pos) F.env).wrap K H gd lv) fs s := by
  refine seg_If ?_
  rw [← hA]
  refine wpAny_mono (h s st) (fun b' s₁ ⟨σ₁, e1, st1, q1, q2⟩ => ?_) fun _ _ ⟨_, _, _, x⟩ => x.elim
  subst q1 q2
  exact hk s₁ e1 st1
theorem seg_yieldE {e : Expr} {ypos pos : Pos} {a : V} (hA : F.A = A.over c fs) (st : St F σ m s) (hfs : splitAtGen fs = none) (hgd : gd false = false) (hfg : fs.any Frame.guarded = false) (h : EV F e m (fun a' σ' => a' = a ∧ σ' = σ) (fun _ _ _ => False) σ)
    (hk : ∀ v s', Ev F.fr F.wr σ σ s s' → St F σ m s' → VR s'.heap σ a v → ∀ kap : Resume → Shared → Prop, (∀ s'', Seg F.M A R Y n s'' c (K .next) fs s'' → kap (.send .none) s'') → Y n s₀ v s' kap)
    (hco : F.env.scope.isCoroutine = false) (hi : interactive F.env = false) :
    Seg F.M A R Y (n + 1) s₀ c ((exec (.Expr (.Yield (some e) ypos) pos) F.env).wrap K H gd lv) fs s := by
  refine seg_Expr_Yield hfs hgd hfg ?_ hco hi
  rw [← hA]
  refine wpAny_mono (h s st) (fun v s₁ ⟨a₁, σ₁, e1, st1, r1, q1, q2⟩ => ?_) fun _ _ ⟨_, _, _, x⟩ => x.elim
  subst q1 q2
  exact fun kap hkap => hk v s₁ e1 st1 r1 kap fun s'' hs => hkap .none s'' hs
/-- the generator's frame, seen again at its next waking -/
theorem St.resume (hcm : F.comp = false) (hc : F.env.cells = []) (hfr : F.env.frame = some F.env.locals) (hkd : F.env.scope.kind ≠ .module) (hb : F.base.get? F.env.locals = none) (st : St F noHp m s') (hm : ∀ x a, m x = some a → (∃ i, a = .d (.int i)) ∨ ∃ b, a = .d (.bool b)) (g : GS F.base F.outer noHp s) (hk : s.heap.get? F.env.locals = s'.heap.get? F.env.locals) : St F noHp m s := by
  obtain ⟨mc, ⟨o, es, ep, h1, h2, h3⟩, h4⟩ := st.lr.ns
  rw [← hk] at h1
  refine ⟨⟨g.keep, (by unfold Fx.frs; rw [hcm]; exact ⟨hkd, ⟨_, o, es, ep, hfr, hb, h1, h2⟩, g.frames⟩), fun a ds ha => (nomatch ha), g.bare⟩, ⟨⟨mc, ⟨o, es, ep, h1, h2, h3⟩, fun x a hx hma => ?_⟩, fun x ca hca => ?_, fun p hp => ?_⟩⟩
  · obtain ⟨v, e1, e2⟩ := h4 x a hx hma
    refine ⟨v, e1, ?_⟩
    rcases hm x a hma with ⟨i, rfl⟩ | ⟨b, rfl⟩
    · obtain ⟨t, rfl⟩ := e2.int; exact vr_int
    · obtain rfl := e2.bool; exact vr_bool
  · rw [hc] at hca; cases hca
  · rw [hc] at hp; cases hp
end
noncomputable def gm (q : Int) (b : Bool) : Lo := Lo.put (Lo.put (fun _ => none) "pos" (.d (.int q))) "escape" (.d (.bool b))
theorem gm_scalar {q : Int} {b : Bool} (x : Str) (a : V) (h : gm q b x = some a) : (∃ i, a = .d (.int i)) ∨ ∃ b, a = .d (.bool b) := by
  unfold gm Lo.put at h
  split at h
  · cases h; exact .inr ⟨_, rfl⟩
  · split at h
    · cases h; exact .inl ⟨_, rfl⟩
    · cases h
theorem gm_sub {q : Int} {b : Bool} {m : Lo} (h1 : m "pos" = some (.d (.int q))) (h2 : m "escape" = some (.d (.bool b))) (x : Str) (a : V) (h : gm q b x = some a) : m x = some a := by
  unfold gm Lo.put at h
  split at h
  · rename_i e; subst e; cases h; exact h2
  · split at h
    · rename_i e; subst e; cases h; exact h1
    · cases h
/-- the generator's frame -/
noncomputable def gF (c : Cc) (A : Around) (outer : List Env) (env : Env) : Fx := { prog := c.prog, w := c.w, base := c.base, A := A, env := env, outer := outer, G := c.G }
theorem rds_ints {h : Heap} {σ : Hp} : ∀ {ns : List Int} {vs : List Value}, RDs h σ (ns.map .int) vs → IntsAre vs ns
  | [], vs, r => by simp only [List.map_nil, RDs] at r; subst r; exact .nil
  | n :: ns, vs, r => by
    rw [List.map_cons, RDs] at r
    obtain ⟨v, rr, rfl, h1, h2⟩ := r
    simp only [RD] at h1
    obtain ⟨t, rfl⟩ := h1
    exact .cons n t (rds_ints h2)
theorem rds_strs {h : Heap} {σ : Hp} : ∀ {ns : List Str} {vs : List Value}, RDs h σ (ns.map .str) vs → StrsAre vs ns
  | [], vs, r => by simp only [List.map_nil, RDs] at r; subst r; exact .nil
  | n :: ns, vs, r => by
    rw [List.map_cons, RDs] at r
    obtain ⟨v, rr, rfl, h1, h2⟩ := r
    simp only [RD] at h1
    obtain ⟨t, rfl⟩ := h1
    exact .cons n t (rds_strs h2)
theorem ints_rds {h : Heap} {σ : Hp} : ∀ {ns : List Int} {vs : List Value}, IntsAre vs ns → RDs h σ (ns.map .int) vs
  | _, _, .nil => RDs.nil
  | _, _, .cons n t r => RDs.cons (by simp only [RD]; exact ⟨t, rfl⟩) (ints_rds r)
theorem rds_of_get {h : Heap} {σ : Hp} : ∀ {ds : List D} {vs : List Value}, ds.length = vs.length → (∀ (i : Nat) (d : D) (v : Value), ds[i]? = some d → vs[i]? = some v → RD h σ d v) → RDs h σ ds vs
  | [], [], _, _ => RDs.nil
  | [], _ :: _, h, _ => by simp at h
  | _ :: _, [], h, _ => by simp at h
  | d :: ds, v :: vs, h, hg => RDs.cons (hg 0 d v rfl rfl) (rds_of_get (by simpa using h) fun i d' v' h1 h2 => hg (i + 1) d' v' (by simpa using h1) (by simpa using h2))
section
variable {F : Fx} {k : Nat} {m : Lo} {Q : V → Hp → Prop} {X : Value → Hp → Shared → Prop} {σ σ' : Hp} {s s' : Shared} {x : Str} {pos p : Pos}
theorem bc_range1 {n : Int} (q : Q (.rng 0 n) σ) : BC F m (.type "range") [.d (.int n)] Q X σ := fun s vs st r => by
  obtain ⟨v, rfl, r1⟩ := r.one
  obtain ⟨t, rfl⟩ := r1.int
  refine call_range_1 ⟨.rng 0 n, σ, Ev.push _ _, st.push _ _, ?_, q⟩
  simp only [VR]
  exact ⟨_, _, _, _, rfl, Heap.get?_push_size _ rfl, st.gs.none_ge (Nat.le_refl _)⟩
/-- a new writable list that a built-in has made -/
theorem St.newAt (st : St F σ m s) {h' : Heap} {ds : List D} {vs : List Value} {n t : Nat} (hk : ∀ b o, s.heap.get? b = some o → h'.get? b = some o) {a : Addr} (ha : s.heap.get? a = none) (ho : h'.get? a = some (seqObj "list" (List.toArray vs) n)) (r : RDs s.heap σ ds vs) :
    St F (σ.set a ds) m { s with heap := h', toks := t } ∧ Ev F.fr F.wr σ (σ.set a ds) s { s with heap := h', toks := t } := by
  have hσ : σ a = none := by
    cases hq : σ a with
    | none => rfl
    | some es =>
      obtain ⟨_, ws, j, h2, _⟩ := st.gs.lists a es hq
      rw [ha] at h2; cases h2
  have hb : F.base.get? a = none := by
    cases hq : F.base.get? a with
    | none => rfl
    | some o => have := st.gs.keep a o hq; rw [ha] at this; cases this
  have ne : ∀ b o, s.heap.get? b = some o → b ≠ a := fun b o e q => by rw [q, ha] at e; cases e
  have kq : SeqKept σ (σ.set a ds) s.heap h' := fun b o e _ hs => ⟨(Hp.set_ne _ _ (ne b o e)).trans hs, hk b o e⟩
  refine ⟨⟨⟨fun b o e => hk b o (st.gs.keep b o e), st.gs.frames.of fun b o es ep e hd => ⟨o, es, ep, hk b o e, hd⟩, fun b es hbs => ?_, st.gs.bare⟩, st.lr.keeps kq fun b o e _ _ => ⟨o, hk b o e, rfl⟩⟩,
    ⟨fun b o e _ _ _ _ => hk b o e, fun b o e _ _ _ => ⟨o, hk b o e, rfl, rfl⟩, fun b hbs => ?_, fun b o e => ⟨o, hk b o e⟩, rfl, fun _ _ e => e⟩⟩
  · by_cases q : b = a
    · subst q; rw [Hp.set_same] at hbs; cases hbs
      exact ⟨hb, vs, n, ho, r.mono kq⟩
    · rw [Hp.set_ne _ _ q] at hbs
      obtain ⟨h1, ws, j, h2, h3⟩ := st.gs.lists b es hbs
      exact ⟨h1, ws, j, hk _ _ h2, h3.mono kq⟩
  · by_cases q : b = a
    · subst q; exact .inr ha
    · rw [Hp.set_ne _ _ q] at hbs; exact .inl hbs
theorem smallRange {a b : Int} (ha : -(2 ^ 31) ≤ a) (ha' : a < 2 ^ 31) (hb : -(2 ^ 31) ≤ b) (hb' : b < 2 ^ 31) : Builtin.Range.small a b 1 = true := by
  have hfit : ∀ x : Int, -(2 ^ 33) ≤ x → x < 2 ^ 33 → Builtin.Range.rangeFitsLong x = true := fun x h1 h2 => by
    unfold Builtin.Range.rangeFitsLong
    simp only [Bool.and_eq_true, decide_eq_true_eq]
    lia
  unfold Builtin.Range.small
  rw [rangeSize_nat a b, hfit a (by lia  ) (by lia  ), hfit b (by lia  ) (by lia  ), hfit 1 (by lia  ) (by lia  ), hfit ((b - a).toNat : Int) (by lia  ) (by lia  )]
  simp only [Bool.and_self, Bool.true_and, Int.sub_self, Int.add_zero]
  rw [hfit b (by lia  ) (by lia  )]
  simp
theorem bc_listRange {n : Nat} (hh : F.A.handled = none) (hn : n < 2 ^ 20) (q : ∀ a, σ a = none → Q (.ref a) (σ.set a (upInts 0 n))) : BC F m (.type "list") [.rng 0 n] Q X σ := fun s vs st r => by
  obtain ⟨v, rfl, r1⟩ := r.one
  simp only [VR] at r1
  obtain ⟨r0, t, u, w, rfl, e1, hσ⟩ := r1
  refine call_list_range (n := n) hh e1 (smallRange (by lia  ) (by lia  ) (by lia  ) (by lia  )) (by rw [rangeSize_nat]; simp) (by lia  ) fun h' tk acc c' hk ho hi => ?_
  have hnone : s.heap.get? s.heap.objs.size = none := Heap.get?_none_of_le (Nat.le_refl _)
  have r2 : RDs s.heap σ (upInts 0 n) acc.toList := by
    refine rds_of_get (by simp [upInts, hi.1]) fun i d v h1 h2 => ?_
    obtain ⟨tk, rfl⟩ := hi.2 i v (by simpa using h2)
    simp only [upInts, List.getElem?_map] at h1
    obtain ⟨j, hj, rfl⟩ := Option.map_eq_some_iff.mp h1
    obtain ⟨h3, h4⟩ := List.getElem?_eq_some_iff.mp hj
    have : j = i := by simpa using h4.symm
    subst this
    simp only [RD]
    exact ⟨tk, by simp⟩
  obtain ⟨st', ev'⟩ := st.newAt (t := tk) hk hnone (vs := acc.toList) (by simpa using ho) r2
  exact ⟨.ref s.heap.objs.size, _, ev', st', vr_ref, q _ (st.gs.none_ge (Nat.le_refl _))⟩
theorem bc_listCopy {a : V} {ds : List D} (ha : asL σ a = some ds) (hz : ds.length < 2 ^ 23) (q : ∀ a, σ a = none → Q (.ref a) (σ.set a ds)) : BC F m (.type "list") [a] Q X σ := fun s vs st r => by
  obtain ⟨v, rfl, r1⟩ := r.one
  obtain ⟨b, vs, n, rfl, e1, e2⟩ := asL_at st.gs r1 ha
  have hlen := e2.length
  refine call_list_seq b (.inl rfl) e1 rfl rfl (fun h' c' hk ho => ?_) (by rw [List.size_toArray, hlen]; have := sizeLine_big; lia  )
  obtain ⟨st', ev'⟩ := st.newAt (t := s.toks) hk (Heap.get?_none_of_le (Nat.le_refl _)) ho e2
  exact ⟨.ref s.heap.objs.size, _, ev', st', vr_ref, q _ (st.gs.none_ge (Nat.le_refl _))⟩
theorem bv_addL {a b : V} {ds es : List D} (ha : asL σ a = some ds) (hb : asL σ b = some es) (hz : ds.length + es.length < 2 ^ 23) (q : ∀ a, σ a = none → Q (.ref a) (σ.set a (ds ++ es))) : BV F m .Add a b Q X σ := fun s v w st r1 r2 => by
  obtain ⟨b1, vs, n, rfl, e1, e2⟩ := asL_at st.gs r1 ha
  obtain ⟨b2, ws, n2, rfl, f1, f2⟩ := asL_at st.gs r2 hb
  have hl1 := e2.length
  have hl2 := f2.length
  refine concat_meets ⟨_, e1, rfl⟩ ⟨_, f1, rfl⟩ noFill_list_add seq_list_add PySem.F.slot_list_add PySem.F.entry_list_add (PySem.F.args_list_add_2 _ _) (list_addW b1 b2 (List.toArray vs) (List.toArray ws) n n2 none none #[] #[] (by simp [hl1, hl2]; have := sizeLine_big; lia  )) ⟨e1, f1, ?_⟩
  obtain ⟨st', ev'⟩ := st.newAt (t := s.toks) (h' := s.heap.push (seqObj "list" (List.toArray (vs ++ ws)) 0)) (fun _ _ e => Heap.get?_push_of_some _ e) (Heap.get?_none_of_le (Nat.le_refl _)) (Heap.get?_push_size _ rfl) (e2.append f2)
  have : (List.toArray vs ++ List.toArray ws) = List.toArray (vs ++ ws) := by simp
  rw [this]
  exact ⟨.ref s.heap.objs.size, _, ev', st', vr_ref, q _ (st.gs.none_ge (Nat.le_refl _))⟩
theorem bc_join {a : V} {sep : Str} {ys : List Str} (ha : asL σ a = some (ys.map .str)) (hz : (ys.map (·.length)).sum + ys.length * sep.length ≤ 16777216) (q : Q (.d (.str (Txt.join sep ys))) σ) : BC F m (.builtin "str.join") [.d (.str sep), a] Q X σ := fun s vs st r => by
  obtain ⟨v, w, rfl, r1, r2⟩ := r.two
  obtain ⟨t, rfl⟩ := r1.str
  obtain ⟨b, vs, n, rfl, e1, e2⟩ := asL_at st.gs r2 ha
  exact join_list ⟨_, e1, rfl, n, rfl⟩ (rds_strs e2) hz fun t' k => ⟨_, σ, Ev.toks _, st.toks _, vr_str, q⟩
theorem bc_sum {a : V} {ns : List Int} (hh : F.A.handled = none) (ha : asL σ a = some (ns.map .int)) (q : Q (.d (.int ns.sum)) σ) : BC F m (.builtin "sum") [a] Q X σ := fun s vs st r => by
  obtain ⟨v, rfl, r1⟩ := r.one
  obtain ⟨b, vs, n, rfl, e1, e2⟩ := asL_at st.gs r1 ha
  have hi := rds_ints e2
  obtain ⟨xs, hx⟩ := hi.allInts.items
  have hl : s.heap.IsList b (intItems xs) := by rw [← hx]; exact ⟨_, e1, rfl, n, rfl⟩
  refine sum_intListG hh hl fun h' tk t' hk => ?_
  obtain ⟨st', ev'⟩ := st.ext (t := tk) hk
  have hs : preSum (numAt xs) xs.size = ns.sum := by
    rw [preSum_eq, List.take_of_length_le (by simp)]
    have := hi.numsOf
    rw [← this, ← nums_intItems, ← hx]
  rw [hs]
  exact ⟨_, σ, ev', st', vr_int, q⟩
/-- [d] * n -/
theorem bv_mulL {a : V} {d : D} {x : Int} (ha : asL σ a = some [d]) (h1 : x < 2 ^ 20) (h0 : -(2 ^ 20) < x) (q : ∀ a, σ a = none → Q (.ref a) (σ.set a (List.replicate x.toNat d))) : BV F m .Mult a (.d (.int x)) Q X σ := fun s v w st r1 r2 => by
  obtain ⟨b, vs, n, rfl, e1, e2⟩ := asL_at st.gs r1 ha
  obtain ⟨u, rfl⟩ := r2.int
  rw [RDs] at e2
  obtain ⟨v, rr, rfl, e3, e4⟩ := e2
  obtain rfl : rr = [] := by simpa only [RDs] using e4
  refine wpAny_binaryOp_repeat_ref (T := "list") (U := "int") (by decide) ⟨_, e1, rfl⟩ (fun s' => typeIs_int s' x u) noFill_list_mul PySem.F.fills_int_mul PySem.F.slot_int_rmul repeat_list PySem.F.slot_int_index.lookup
    (call_meets PySem.F.slot_int_rmul (typeIs_int s x u) PySem.F.entry_int_rmul (PySem.F.args_int_rmul_2 _ _) (int___rmul___int_list x u b #[v] n)
      ⟨e1, rfl, ⟨_, e1, rfl⟩, call_meets PySem.F.slot_list_mul ⟨_, e1, rfl⟩ PySem.F.entry_list_mul (PySem.F.args_list_mul_2 _ _)
        (AutoListH.list___mul___list_int_3 b #[v] n x u (by simp [Builtin.List.listFitsIndex]; lia  ) (by simp; lia  ) (by simp [Builtin.List.listTooLong, sizeLine]; lia  ))
        ⟨e1, ?_⟩⟩)
  have hf : List.foldl (fun x1 x2 => x1 ++ x2) #[] (List.replicate (if (#[v] : Array Value).isEmpty = true then 0 else x.toNat) #[v]) = List.toArray (List.replicate x.toNat v) := by
    have key : ∀ (j : Nat) (acc : List Value), List.foldl (fun x1 x2 => x1 ++ x2) (List.toArray acc) (List.replicate j (#[v] : Array Value)) = List.toArray (acc ++ List.replicate j v) := fun j => by
      induction j with
      | zero => intro acc; simp
      | succ j ih =>
        intro acc
        rw [List.replicate_succ, List.foldl_cons, show List.toArray acc ++ #[v] = List.toArray (acc ++ [v]) by simp, ih, List.replicate_succ]
        simp
    simpa using key x.toNat []
  rw [hf]
  obtain ⟨st', ev'⟩ := st.newAt (t := s.toks) (h' := s.heap.push (seqObj "list" (List.toArray (List.replicate x.toNat v)) 0)) (fun _ _ e => Heap.get?_push_of_some _ e) (Heap.get?_none_of_le (Nat.le_refl _)) (Heap.get?_push_size _ rfl) (ds := List.replicate x.toNat d) (rds_of_get (by simp) fun i d' v' h1 h2 => by
    rw [List.getElem?_replicate] at h1 h2
    split at h1
    · cases h1; simp at h2; obtain ⟨_, rfl⟩ := h2; exact e3
    · cases h1)
  exact ⟨.ref s.heap.objs.size, _, ev', st', vr_ref, q _ (st.gs.none_ge (Nat.le_refl _))⟩
theorem bc_max2 {a b : Int} (hh : F.A.handled = none) (q : Q (.d (.int (max a b))) σ) : BC F m (.builtin "max") [.d (.int a), .d (.int b)] Q X σ := fun s vs st r => by
  obtain ⟨v, w, rfl, r1, r2⟩ := r.two
  obtain ⟨t, rfl⟩ := r1.int
  obtain ⟨u, rfl⟩ := r2.int
  refine max_two_ints hh fun h' tk hk => ?_
  obtain ⟨st', ev'⟩ := st.ext (t := tk) hk
  refine ⟨.d (.int (max a b)), σ, ev', st', ?_, q⟩
  by_cases h : b > a
  · rw [if_pos h, show max a b = b by lia  ]; exact vr_int
  · rw [if_neg h, show max a b = a by lia  ]; exact vr_int
noncomputable def rep (c : Nat) (n : Nat) : Str := ⟨List.toArray (List.replicate n c)⟩
theorem bv_mulS {c : Nat} {n : Int} (h1 : n < 2 ^ 20) (h0 : -(2 ^ 20) < n) (q : Q (.d (.str (rep c n.toNat))) σ) : BV F m .Mult (.d (.str ⟨#[c]⟩)) (.d (.int n)) Q X σ := fun s v w st r1 r2 => by
  obtain ⟨t, rfl⟩ := r1.str
  obtain ⟨u, rfl⟩ := r2.int
  have hl : ∀ (h : ¬ n < 1), n.toNat ≤ 2 ^ 20 := fun _ => by lia
  refine P.mul_str (by rw [decide_eq_false (by lia  ), decide_eq_false (by lia  )]; rfl) (fun h h' => ?_) (fun h h' => ?_) ?_
  · have h1' : ((⟨#[c]⟩ : Str).length : Int) = 1 := rfl
    rw [h1']
    have : (1 : Int) ≤ (2 ^ 63 - 1) / n := Int.le_ediv_of_mul_le (by lia  ) (by lia  )
    lia
  · have h1' : (⟨#[c]⟩ : Str).length = 1 := rfl
    rw [h1']
    unfold Builtin.Str.tooLong
    have := sizeLine_big
    have := hl h
    exact decide_eq_false (by lia  )
  · by_cases hn : n < 1
    · rw [if_pos hn]
      have : rep c n.toNat = Str.empty := by rw [show n.toNat = 0 by lia  ]; rfl
      rw [this] at q
      exact ⟨by decide, _, σ, Ev.toks _, st.toks _, vr_str, q⟩
    · rw [if_neg hn]
      by_cases hn1 : (n == 1 || (⟨#[c]⟩ : Str).length == 0) = true
      · rw [if_pos hn1]
        have h1' : n = 1 := by
          have : ((⟨#[c]⟩ : Str).length == 0) = false := rfl
          rw [this] at hn1; simpa using hn1
        subst h1'
        exact ⟨_, σ, Ev.refl, st, vr_str, q⟩
      · rw [if_neg hn1]
        have key : ∀ (j : Nat) (acc : List Nat), List.foldl (fun x1 x2 => x1 ++ x2) (List.toArray acc) (List.replicate j (#[c] : Array Nat)) = List.toArray (acc ++ List.replicate j c) := fun j => by
          induction j with
          | zero => intro acc; simp
          | succ j ih =>
            intro acc
            rw [List.replicate_succ, List.foldl_cons, show List.toArray acc ++ #[c] = List.toArray (acc ++ [c]) by simp, ih, List.replicate_succ]
            simp
        have hk : (⟨(List.replicate n.toNat (⟨#[c]⟩ : Str).cps).foldl (· ++ ·) #[]⟩ : Str) = rep c n.toNat := by
          have := key n.toNat []
          unfold rep
          rw [List.nil_append] at this
          rw [← this]
        rw [hk]
        refine ⟨?_, _, σ, Ev.toks _, st.toks _, vr_str, q⟩
        have := sizeLine_big
        show (List.toArray (List.replicate n.toNat c)).size ≤ _
        simp
        lia
end
section
variable {prog : Program} {w : World} {A : Around} {R : Result → Shared → Prop} {s : Shared}
theorem codeAny_compLoop2 {elt target iter : Expr} {ifs : List Expr} {scope : Scope} {pos : Pos} {it acc : Value} {env : Env} (I : Nat → Shared → Prop)
    (turn : ∀ n s, I n s → wpAny (model prog w) A (pyNext it) (fun r s₁ => match r with
      | none => R (.ok .next) s₁
      | some v => wpAny (model prog w) A (letOwnedTupleGo target it v) (fun _ s₁' => wpAny (model prog w) A (assign target env v) (fun _ s₂ =>
          wpAny (model prog w) A (forIn ifs true fun c r => if r = true then do let ok ← isTrue c env (eval c env); pure (ForInStep.yield ok) else pure (ForInStep.yield r)) (fun ok s₃ =>
            if ok = true then wpAny (model prog w) A (eval elt env) (fun x s₄ =>
              wpAny (model prog w) A (call (.builtin "list.append") [acc, x]) (fun _ s₅ => ∃ m, m < n ∧ I m s₅) (fun _ _ => False) s₄) (fun _ _ => False) s₃
            else ∃ m, m < n ∧ I m s₃) (fun _ _ => False) s₂) (fun _ _ => False) s₁') (fun _ _ => False) s₁) (fun _ _ => False) s)
    (n : Nat) (h : I n s) :
    codeAny (model prog w) A (.compLoop (.ListComp elt [⟨target, iter, ifs, 0⟩] scope pos) 0 it acc env) R s := by
  refine codeAny_loop rfl I (fun n s hI => ?_) n h
  show wpAny _ A ((compTurn (.ListComp elt [⟨target, iter, ifs, 0⟩] scope pos) 0 it acc env).onRaise (fun x => do noteFrame x env; theTreesLotGoes x)) _ _ s
  refine wpAny_noted ?_
  rw [compTurn_list]
  refine wpAny_bind (wpAny_standAt (wpAny_bind (wpAny_mono (turn n s hI) (fun r s₁ h₁ => ?_) fun _ _ x => x.elim)))
  cases r with
  | none => exact wpAny_pure h₁
  | some v =>
    refine wpAny_bind (wpAny_mono h₁ (fun _ s₁' h₁' => ?_) fun _ _ x => x.elim)
    refine wpAny_bind (wpAny_mono h₁' (fun _ s₂ h₂ => wpAny_bind (wpAny_mono h₂ (fun ok s₃ h₃ => ?_) fun _ _ x => x.elim)) fun _ _ x => x.elim)
    cases ok with
    | false => exact wpAny_pure ⟨rfl, h₃⟩
    | true =>
      exact wpAny_bind (wpAny_bind (wpAny_mono h₃ (fun x s₄ h₄ => wpAny_bind (wpAny_mono h₄ (fun _ s₅ h₅ => wpAny_pure (wpAny_pure ⟨rfl, h₅⟩)) fun _ _ x => x.elim)) fun _ _ x => x.elim))
end
/-- a comprehension's frame within F -/
noncomputable def Fx.cp (F : Fx) (scope : Scope) (cl : List (Str × Addr)) (C : Addr) : Fx := F.re (compEnvC scope cl C F.env) F.frs true
noncomputable def Lo.of (l : List (Str × V)) : Lo := fun x => l.lookup x
section
variable {F : Fx} {k : Nat} {m m' : Lo} {σ σ' σ₀ : Hp} {s s' s₀ : Shared} {x : Str} {pos p : Pos} {scope : Scope} {cl : List (Str × Addr)}
theorem Fx.Ok.cp {C : Addr} (hk : scope.kind = .function) (hcl : ∀ p ∈ cl, F.env.cells.lookup p.1 = some p.2) (hnd : (cl.map (·.1)).Nodup) (hC : F.base.get? C = none) (hne : ∀ p ∈ cl, C ≠ p.2) (k : Nat) (ok : F.Ok k) : (F.cp scope cl C).Ok k := by
  refine ⟨ok.frames, fun h => (by cases h), hk, ok.glob, ok.blt, ok.depth, ok.units, ?_, hne, ?_, fun b hb => ?_, ok.bs⟩
  · show cl.Pairwise _
    have : ∀ l : List (Str × Addr), (∀ p ∈ l, F.env.cells.lookup p.1 = some p.2) → (l.map (·.1)).Nodup → l.Pairwise fun x y => x.2 ≠ y.2 := fun l => by
      induction l with
      | nil => exact fun _ _ => List.Pairwise.nil
      | cons a r ih =>
        intro h1 h2
        rw [List.map_cons, List.nodup_cons] at h2
        refine List.pairwise_cons.mpr ⟨fun b hb q => h2.1 ?_, ih (fun p hp => h1 p (List.mem_cons_of_mem _ hp)) h2.2⟩
        have ha := mem_of_look (h1 a List.mem_cons_self)
        have hb' := mem_of_look (h1 b (List.mem_cons_of_mem _ hb))
        rw [← q] at hb'
        rw [pairwise_inj ok.apart ha hb']
        exact List.mem_map.mpr ⟨b, hb, rfl⟩
    exact this cl hcl hnd
  · show (scope.kind == .module && _) = false
    rw [hk]; rfl
  · rcases hb with rfl | ⟨h, _⟩
    · exact hC
    · cases h
/-- the comprehension's names at first -/
theorem St.cp {C : Addr} (st : St F σ m s) {h₁ : Heap} {t : Nat} (hk : ∀ b o, s.heap.get? b = some o → h₁.get? b = some o) (hn : ∃ mc, h₁.Ns C mc) (l : List (Str × V)) (hl : ∀ p ∈ l, m p.1 = some p.2 ∧ (relabel scope F.env).names.lookup p.1 ≠ some .local)
    (hcl : ∀ p ∈ cl, F.env.cells.lookup p.1 = some p.2) : St (F.cp scope cl C) σ (Lo.of l) { s with heap := h₁, toks := t } := by
  obtain ⟨st', ev'⟩ := st.ext (t := t) hk
  obtain ⟨mc, hn⟩ := hn
  refine ⟨⟨st'.gs.keep, st'.gs.frames, st'.gs.lists, st'.gs.bare⟩, ⟨⟨mc, hn, fun x a hx hm => ?_⟩, fun x ca hc => ?_, fun p hp => ?_⟩⟩
  · exact absurd hx (hl (x, a) (mem_of_look hm)).2
  · obtain ⟨o, ov, h1, h2, h3⟩ := st'.lr.cells x ca (hcl (x, ca) (mem_of_look hc))
    exact ⟨o, ov, h1, h2, fun a hm => h3 a (hl (x, a) (mem_of_look hm)).1⟩
  · obtain ⟨o, ov, h1, h2, h3⟩ := st'.lr.cells p.1 p.2 (hcl p hp)
    exact ⟨o, ov, h1, h2⟩
theorem St.cells_no {b : Addr} {o : Obj} (st : St F σ m s) (hb : b = F.env.locals ∨ b ∈ F.env.cells.map (·.2)) (e : s.heap.get? b = some o) : σ b = none ∧ ¬ Xish o ∧ ¬ Imm o := by
  have hd : ∀ vs, o.data ≠ .fields vs := fun vs q => by
    rcases hb with rfl | hb
    · obtain ⟨mc, ⟨o', es, ep, h1, h2, _⟩, _⟩ := st.lr.ns
      rw [e] at h1; cases h1; rw [h2] at q; cases q
    · obtain ⟨p, hp, rfl⟩ := List.mem_map.mp hb
      obtain ⟨o', ov, h1, h2⟩ := st.lr.cellsAll p hp
      rw [e] at h1; cases h1; rw [h2] at q; cases q
  have hs : ∀ vs n, o.data ≠ .seq vs n := fun vs n q => by
    rcases hb with rfl | hb
    · obtain ⟨mc, ⟨o', es, ep, h1, h2, _⟩, _⟩ := st.lr.ns
      rw [e] at h1; cases h1; rw [h2] at q; cases q
    · obtain ⟨p, hp, rfl⟩ := List.mem_map.mp hb
      obtain ⟨o', ov, h1, h2⟩ := st.lr.cellsAll p hp
      rw [e] at h1; cases h1; rw [h2] at q; cases q
  refine ⟨?_, notX_data hd, ?_⟩
  · cases hq : σ b with
    | none => rfl
    | some ds =>
      obtain ⟨_, vs, n, h1, _⟩ := st.gs.lists b ds hq
      rw [e] at h1; cases h1
      exact absurd rfl (hs _ _)
  · rintro (⟨ws, n, q⟩ | ⟨ws, q, _⟩)
    · exact hs _ _ q
    · exact hd _ q
/-- back from the comprehension's frame -/
theorem St.back {C : Addr} (ok : F.Ok k) (st₀ : St F σ₀ m s₀) (hC : s₀.heap.get? C = none) (L : Like F (compEnvC scope cl C F.env) F.frs true s₀.heap) (st : St (F.cp scope cl C) σ m' s) (ev : Ev (F.cp scope cl C).fr (F.cp scope cl C).wr σ₀ σ s₀ s) :
    St F σ m s ∧ Ev F.fr F.wr σ₀ σ s₀ s := by
  have nw : ∀ b o, s₀.heap.get? b = some o → ¬ (F.cp scope cl C).wr b := fun b o e hw => by
    rcases hw with rfl | ⟨h, _⟩
    · have e' := hC.symm.trans e
      cases e'
    · cases h
  refine ⟨⟨⟨st.gs.keep, st.gs.frames, st.gs.lists, st.gs.bare⟩, st₀.lr.keepsW (L.seqKept st₀ ev) fun b o hw e hd => ?_⟩, ⟨fun b o e h1 h2 h3 h4 => ?_, fun b o e h1 _ h4 => ev.keepD b o e h1 (nw b o e) h4, ev.dom, ev.own, ev.os, ev.gens⟩⟩
  · obtain ⟨h1, h2, h3⟩ := st₀.cells_no hw e
    obtain ⟨o', e1, _, e2⟩ := ev.keepD b o e h1 (nw b o e) h2
    exact ⟨o', e1, e2⟩
  · exact ev.keep b o e h1 (nw b o e) (fun hm => (ok.frs_mem hm).elim h2 h3) h4
/-- the comprehension's own dict has been changed -/
theorem St.butC {C : Addr} (ok : F.Ok k) (st : St F σ m s) {h' : Heap} (hs : Heap.SameBut C s.heap h') (hbase : F.base.get? C = none) (hd : ∃ o es ep, s.heap.get? C = some o ∧ o.data = .dict es ep) (hw : ¬ (C = F.env.locals ∨ C ∈ F.env.cells.map (·.2))) (hf : C ∉ frAddrs F.frs) :
    St F σ m { s with heap := h' } := by
  obtain ⟨oC, es, ep, hC, hdC⟩ := hd
  have kq : SeqKept σ σ s.heap h' := fun b o e hi hσ => ⟨hσ, (hs.2 b fun q => by
    subst q; rw [hC] at e; cases e
    rcases hi with ⟨ws, n, q⟩ | ⟨ws, q, _⟩ <;> rw [hdC] at q <;> cases q).trans e⟩
  have ff : ∀ l : List Env, (∀ b ∈ frAddrs l, b ≠ C) → FF s.heap F.base l → FF h' F.base l := fun l => by
    induction l with
    | nil => exact fun _ _ => trivial
    | cons env rest ih =>
      rintro hne ⟨h1, ⟨L, o, es, ep, h2, h3, h4, h5⟩, h6⟩
      have hL : L ∈ frAddrs (env :: rest) := by unfold frAddrs; rw [List.filterMap_cons, h2]; exact List.mem_cons_self
      refine ⟨h1, ⟨L, o, es, ep, h2, h3, (hs.2 L (hne L hL)).trans h4, h5⟩, ih (fun b hb => hne b ?_) h6⟩
      unfold frAddrs; rw [List.filterMap_cons, h2]; exact List.mem_cons_of_mem _ hb
  refine ⟨⟨fun b o e => (hs.2 b fun q => by rw [q, hbase] at e; cases e).trans (st.gs.keep b o e), ff _ (fun b hb q => hf (q ▸ hb)) st.gs.frames, fun a ds ha => ?_, st.gs.bare⟩, st.lr.keepsW kq fun b o hb e _ => ⟨o, (hs.2 b fun q => hw (q ▸ hb)).trans e, rfl⟩⟩
  obtain ⟨h1, vs, n, h2, h3⟩ := st.gs.lists a ds ha
  exact ⟨h1, vs, n, (hs.2 a fun q => by subst q; rw [hC] at h2; cases h2; cases hdC).trans h2, h3.mono kq⟩
noncomputable def CT (F : Fx) (ifs : List Expr) (m : Lo) (Q : Bool → Hp → Prop) (σ : Hp) : Prop :=
  match ifs with
  | [] => Q true σ
  | [c] => TS F c m Q (fun _ _ _ => False) σ
  | _ => False
theorem ct_run {ifs : List Expr} {Q : Bool → Hp → Prop} (h : CT F ifs m Q σ) (st : St F σ m s) :
    wpAny F.M F.A (forIn ifs true fun c r => if r = true then do let ok ← isTrue c F.env (eval c F.env); pure (ForInStep.yield ok) else pure (ForInStep.yield r))
      (BPost F m σ s Q) (fun _ _ => False) s := by
  match ifs, h with
  | [], h => exact wpAny_tests_nil ⟨σ, Ev.refl, st, h⟩
  | [c], h => exact wpAny_tests_one (wpAny_mono (h s st) (fun _ _ x => x) fun _ _ ⟨_, _, _, x⟩ => x)
/-- the turn of a comprehension -/
noncomputable def TurnC (F : Fx) (k : Nat) (elt target : Expr) (ifs : List Expr) (scope : Scope) (cl : List (Str × Addr)) (l : List (Str × V)) (ds : List V) (g : Nat → Option D) (σ₁ : Hp) : Prop :=
  ∀ i d D C, ds[i]? = some d → σ₁ D = none → (F.cp scope cl C).Ok k → AT (F.cp scope cl C) target d (Lo.of l) (fun m₁ σ₂ => (∀ p ∈ l, m₁ p.1 = some p.2) ∧
    CT (F.cp scope cl C) ifs m₁ (fun b σ₃ => match b with
      | true => EV (F.cp scope cl C) elt m₁ (fun v σ₄ => σ₄ = σ₁.set D ((List.range i).filterMap g) ∧ ∃ d', v = .d d' ∧ g i = some d') (fun _ _ _ => False) σ₃
      | false => g i = none ∧ σ₃ = σ₁.set D ((List.range i).filterMap g)) σ₂) (σ₁.set D ((List.range i).filterMap g))
theorem comp_core {elt target iter : Expr} {ifs : List Expr} {l : List (Str × V)} {use : Option (Value → Sem Unit)} {Qv : Value → Shared → Prop} {E : Value → Shared → Prop} {fp : Pos}
    (ok : F.Ok k) (hclos : closureFor scope F.env = pure cl) (hcell : ∀ x ∈ scope.names, x.2 ≠ .cell) (hkind : scope.kind = .function) (hnames : ∀ x ∈ scope.names, x.2 = .local → scope.names.lookup x.1 = some .local)
    (hcl : ∀ p ∈ cl, F.env.cells.lookup p.1 = some p.2) (hnd : (cl.map (·.1)).Nodup) (hnl : (l.map (·.1)).Nodup) (hl : ∀ p ∈ l, m p.1 = some p.2 ∧ (relabel scope F.env).names.lookup p.1 ≠ some .local)
    (hs : ∀ x, foldedSetIterable iter F.env x = pure x) (st : St F σ m s)
    (h : ITX F iter target m (fun ds σ₁ => ∃ g, TurnC F k elt target ifs scope cl l ds g σ₁ ∧ ds.length < 2 ^ 20 ∧
      ∀ D C s' sx, σ₁ D = none → Ev F.fr F.wr σ σ₁ s s' → St F (σ₁.set D ((List.range ds.length).filterMap g)) m sx → Ev F.fr F.wr σ₁ (σ₁.set D ((List.range ds.length).filterMap g)) s' sx →
        F.base.get? C = none → s'.heap.get? C = none → (∃ mc, sx.heap.Ns C mc) → ¬ (C = F.env.locals ∨ C ∈ F.env.cells.map (·.2)) → C ∉ frAddrs F.frs → compPost F.M F.A E use Qv (.ref D) C (.ok .next) sx) σ) :
    wpAny F.M F.A (comprehension (.ListComp elt [⟨target, iter, ifs, 0⟩] scope pos) scope F.env fp (newList []) false (eval iter F.env) use) Qv E s := by
  refine wpAny_comprehension_free (use := use) rfl hs hclos hkind hnames (wpAny_mono (h s st) (fun v s₁ h₁ => wpAny_mono h₁ (fun it s₂ h₂ => ?_) fun _ _ x => x.elim) fun _ _ x => x.elim)
  obtain ⟨ds, σ₁, s', e1, st1, e2, e2', st2, wk, g, turn, hz, fin⟩ := h₂
  refine wpAny_newObj_type (wpAny_newFunctionEnv hcell (by intro y hy; simp at hy) (fun h₁ hns₁ hsb₁ => ?_) hkind)
  dsimp only at hns₁ hsb₁ ⊢
  generalize hH2 : s₂.heap.push { cls := .type "list", dict := none, data := .seq ([] : List Value).toArray } = H2 at hns₁ hsb₁ ⊢
  have hCs : H2.objs.size = s₂.heap.objs.size + 1 := by rw [← hH2, Heap.size_push]
  have hC2 : s₂.heap.get? H2.objs.size = none := Heap.get?_none_of_le (by rw [hCs]; exact Nat.le_succ _)
  have hD2 : s₂.heap.get? s₂.heap.objs.size = none := Heap.get?_none_of_le (Nat.le_refl _)
  have back : ∀ b, s₂.heap.get? b = none → s'.heap.get? b = none := fun b hb => by
    cases hq : s'.heap.get? b with
    | none => rfl
    | some o => obtain ⟨o', e⟩ := e2.own b o hq; rw [hb] at e; cases e
  have hDC : s₂.heap.objs.size ≠ H2.objs.size := by rw [hCs]; exact Nat.ne_of_lt (Nat.lt_succ_self _)
  have old : ∀ b o, s₂.heap.get? b = some o → h₁.get? b = some o := fun b o e =>
    (hsb₁.2 b (Nat.ne_of_lt (by rw [hCs]; exact Nat.lt_succ_of_lt (Heap.lt_size e)))).trans (Heap.get?_push_of_some _ (hH2 ▸ Heap.get?_push_of_some _ e))
  have hbC : F.base.get? H2.objs.size = none := st2.gs.base_ge (by rw [hCs]; exact Nat.le_succ _)
  have hcC : ∀ p ∈ cl, H2.objs.size ≠ p.2 := fun p hp q => by
    obtain ⟨o, ov, h1, _⟩ := st2.lr.cells p.1 p.2 (hcl p hp)
    rw [← q, hC2] at h1; cases h1
  have okc : ∀ k, F.Ok k → (F.cp scope cl H2.objs.size).Ok k := Fx.Ok.cp hkind hcl hnd hbC hcC
  have L : ∀ hh : Heap, hh.get? H2.objs.size = none → Like F (compEnvC scope cl H2.objs.size F.env) F.frs true hh := fun hh hno => ⟨rfl, fun b hb => hb, fun b hb => by
    rcases hb with rfl | hb
    · exact .inr hno
    · obtain ⟨p, hp, rfl⟩ := List.mem_map.mp hb
      exact .inl (.inr (List.mem_map.mpr ⟨_, mem_of_look (hcl p hp), rfl⟩)), okc⟩
  obtain ⟨J, j0, it_ok⟩ := wk _ _ _ (L _ hC2)
  replace it_ok : ItOk (F.cp scope cl H2.objs.size) target σ₁ s' it J ds := it_ok
  have hσD : σ₁ s₂.heap.objs.size = none := st2.gs.none_ge (Nat.le_refl _)
  have stc := st2.cp (C := H2.objs.size) (scope := scope) (cl := cl) (t := s₂.toks + ([] : List (Str × Value)).length) old ⟨_, hns₁⟩ l hl hcl
  have hD1 : h₁.get? s₂.heap.objs.size = some (seqObj "list" (List.toArray []) 0) :=
    (hsb₁.2 _ hDC).trans (Heap.get?_push_of_some _ (hH2 ▸ Heap.get?_push_size _ rfl))
  -- the new list becomes writable
  have kq : SeqKept σ₁ (σ₁.set s₂.heap.objs.size []) s₂.heap h₁ := fun b o e _ hσ => ⟨(Hp.set_ne _ _ (fun q => by rw [q, hD2] at e; cases e)).trans hσ, old b o e⟩
  have stD : St (F.cp scope cl H2.objs.size) (σ₁.set s₂.heap.objs.size []) (Lo.of l) { s₂ with heap := h₁, toks := s₂.toks + ([] : List (Str × Value)).length } := by
    have kq' : SeqKept σ₁ σ₁ s₂.heap h₁ := fun b o e _ hσ => ⟨hσ, old b o e⟩
    obtain ⟨mc, hn, _⟩ := stc.lr.ns
    refine ⟨⟨stc.gs.keep, stc.gs.frames, fun a es ha => ?_, stc.gs.bare⟩, ⟨⟨mc, hn, fun x a hx hm => ?_⟩, fun x ca hc => ?_, stc.lr.cellsAll⟩⟩
    · by_cases q : a = s₂.heap.objs.size
      · subst q; rw [Hp.set_same] at ha; cases ha
        exact ⟨st2.gs.base_ge (Nat.le_refl _), [], 0, hD1, RDs.nil⟩
      · rw [Hp.set_ne _ _ q] at ha
        obtain ⟨h1, ws, n, h2, h3⟩ := st2.gs.lists a es ha
        exact ⟨h1, ws, n, old _ _ h2, h3.mono kq⟩
    · exact absurd hx (hl (x, a) (mem_of_look hm)).2
    · obtain ⟨o, ov, h1, h2, h3⟩ := st2.lr.cells x ca (hcl (x, ca) (mem_of_look hc))
      exact ⟨o, ov, old _ _ h1, h2, fun a hm => let ⟨v, q1, q2⟩ := h3 a (hl (x, a) (mem_of_look hm)).1; ⟨v, q1, q2.mono kq⟩⟩
  have evD : Ev (F.cp scope cl H2.objs.size).fr (F.cp scope cl H2.objs.size).wr σ₁ (σ₁.set s₂.heap.objs.size []) s' { s₂ with heap := h₁, toks := s₂.toks + ([] : List (Str × Value)).length } := by
    refine ⟨fun b o e h1 h2 h3 h4 => old b o (e2'.keep b o e h1 (fun h => h) h3 h4), fun b o e h1 h2 h4 => ?_, fun b hb => ?_, fun b o e => ?_, e2'.os, e2'.gens⟩
    · obtain ⟨o', q1, q2⟩ := e2'.keepD b o e h1 (fun h => h) h4
      exact ⟨o', old _ _ q1, q2⟩
    · by_cases q : b = s₂.heap.objs.size
      · exact .inr (back b (by rw [q]; exact hD2))
      · rw [Hp.set_ne _ _ q] at hb; exact .inl hb
    · obtain ⟨o', q1⟩ := e2'.own b o e
      exact ⟨o', old _ _ q1⟩
  have j00 : J 0 (σ₁.set s₂.heap.objs.size []) { s₂ with heap := h₁, toks := s₂.toks + ([] : List (Str × Value)).length } :=
    j0 _ _ ⟨old, rfl, rfl⟩ fun b o e => Hp.set_ne _ _ (fun q => by rw [q, hD2] at e; cases e)
  have loop : codeAny F.M F.A (.compLoop (.ListComp elt [⟨target, iter, ifs, 0⟩] scope pos) 0 it (.ref s₂.heap.objs.size) (compEnvC scope cl H2.objs.size F.env))
      (compPost F.M F.A E use Qv (.ref s₂.heap.objs.size) H2.objs.size) { s₂ with heap := h₁, toks := s₂.toks + ([] : List (Str × Value)).length } := by
    refine codeAny_compLoop2 (fun n sx => ∃ i mx, Ev (F.cp scope cl H2.objs.size).fr (F.cp scope cl H2.objs.size).wr σ₁ (σ₁.set s₂.heap.objs.size ((List.range i).filterMap g)) s' sx ∧ St (F.cp scope cl H2.objs.size) (σ₁.set s₂.heap.objs.size ((List.range i).filterMap g)) mx sx ∧
      J i (σ₁.set s₂.heap.objs.size ((List.range i).filterMap g)) sx ∧ (∀ p ∈ l, mx p.1 = some p.2) ∧ i ≤ ds.length ∧ n = ds.length + 1 - i) (fun n sx ⟨i, mx, ex, stx, jx, hm, hi, hn⟩ => ?_) (ds.length + 1) ⟨0, Lo.of l, evD, stD, j00, fun p hp => lookup_of_mem hnl hp, Nat.zero_le _, rfl⟩
    replace stx : St (F.cp scope cl H2.objs.size) (σ₁.set s₂.heap.objs.size ((List.range i).filterMap g)) (Lo.of l) sx := stx.sub fun x a hx => hm (x, a) (mem_of_look hx)
    cases hd : ds[i]? with
    | none =>
      have hi' : i = ds.length := Nat.le_antisymm hi (by simpa using hd)
      refine wpAny_mono (it_ok.fin i sx _ _ jx stx ex hd) (fun r s₄ ⟨hr, st4, e4⟩ => ?_) fun _ _ x => x.elim
      subst hr
      rw [hi'] at st4 e4
      obtain ⟨st5, e5⟩ := St.back ok st1 (back _ hC2) (L _ (back _ hC2)) st4 e4
      obtain ⟨mc, hn, _⟩ := st4.lr.ns
      refine fin _ _ s' s₄ hσD e1 st5 e5 hbC (back _ hC2) ⟨mc, hn⟩ (fun hb => ?_) (fun hb => ?_)
      · obtain ⟨o, ho⟩ := st2.lr_there hb
        rw [hC2] at ho; cases ho
      · obtain ⟨o, ho⟩ := st2.fr_there hb
        rw [hC2] at ho; cases ho
    | some d =>
      have hlt : i < ds.length := (List.getElem?_eq_some_iff.mp hd).1
      refine wpAny_mono (it_ok.item i d sx _ _ jx stx ex hd) (fun r s₄ ⟨v4, hr, j4, st4, e4, r4⟩ => ?_) fun _ _ x => x.elim
      subst hr
      refine wpAny_mono (it_ok.own (i + 1) _ s₄ v4 j4) (fun _ s₄' hs4 => ?_) fun _ _ x => x.elim
      subst hs4
      refine wpAny_mono (turn i d _ H2.objs.size hd hσD (okc k ok) s₄' v4 st4 r4) (fun _ s₅ ⟨m₅, σ₅, e5, st5, q5, q5'⟩ => ?_) fun _ _ x => x.elim
      refine wpAny_mono (ct_run q5' st5) (fun b s₆ ⟨σ₆, e6, st6, q6⟩ => ?_) fun _ _ x => x.elim
      have hrange : (List.range (i + 1)).filterMap g = (List.range i).filterMap g ++ (g i).toList := by
        rw [List.range_succ, List.filterMap_append]
        cases hg : g i <;> simp [hg]
      cases b with
      | false =>
        obtain ⟨hg, hσ⟩ := q6
        subst hσ
        rw [hg] at hrange
        simp only [Option.toList_none, List.append_nil] at hrange
        simp only [Bool.false_eq_true, if_false]
        refine ⟨ds.length + 1 - (i + 1), by omega, i + 1, m₅, ?_, ?_, ?_, q5, hlt, rfl⟩
        · rw [hrange]; exact e4.trans (e5.trans e6)
        · rw [hrange]; exact st6
        · rw [hrange]; exact it_ok.keep _ _ _ _ _ _ j4 st4 (e5.trans e6)
      | true =>
        simp only [if_true]
        refine wpAny_mono (q6 s₆ st6) (fun x s₇ ⟨a, σ₇, e7, st7, r7, hσ, d', ha, hg⟩ => ?_) fun _ _ ⟨_, _, _, x⟩ => x
        subst hσ ha
        have hlen : ((List.range i).filterMap g).length < 2 ^ 23 := by
          have := List.length_filterMap_le g (List.range i)
          rw [List.length_range] at this; lia
        refine wpAny_mono ((bc_append (F := F.cp scope cl H2.objs.size) (m := m₅) (X := fun _ _ _ => False) (Q := fun _ σ' => σ' = (σ₁.set s₂.heap.objs.size ((List.range i).filterMap g)).set s₂.heap.objs.size ((List.range i).filterMap g ++ [d'])) (Hp.set_same _ _ _) hlen rfl) s₇ [.ref s₂.heap.objs.size, x] st7 (VRs.cons vr_ref (VRs.cons r7 VRs.nil))) (fun _ s₈ ⟨_, σ₈, e8, st8, _, hσ⟩ => ?_) fun _ _ ⟨_, _, _, x⟩ => x
        rw [Hp.set_set] at hσ
        subst hσ
        rw [hg] at hrange
        simp only [Option.toList_some] at hrange
        refine ⟨ds.length + 1 - (i + 1), by omega, i + 1, m₅, ?_, ?_, ?_, q5, hlt, rfl⟩
        · rw [hrange]; exact e4.trans (e5.trans (e6.trans (e7.trans e8)))
        · rw [hrange]; exact st8
        · rw [hrange]; exact it_ok.keep _ _ _ _ _ _ j4 st4 (e5.trans (e6.trans (e7.trans e8)))
  exact codeAny_compStart_list loop (wpAny_mono (it_ok.self 0 _ _ j00) (fun v s ⟨h1, h2⟩ => by subst h1 h2; exact loop) fun _ _ x => x.elim)
end
section
variable {F : Fx} {k : Nat} {m m' : Lo} {σ σ' σ₀ : Hp} {s s' s₀ : Shared} {x : Str} {pos p : Pos} {scope : Scope} {cl : List (Str × Addr)}
theorem ITX.mono {iter target : Expr} {K K' : List V → Hp → Prop} (h : ITX F iter target m K σ) (hk : ∀ ds σ₁, K ds σ₁ → K' ds σ₁) : ITX F iter target m K' σ := fun s st =>
  wpAny_mono (h s st) (fun _ _ h₁ => wpAny_mono h₁ (fun _ _ ⟨ds, σ₁, s', e1, e2, e3, e4, e5, e6, e7⟩ => ⟨ds, σ₁, s', e1, e2, e3, e4, e5, e6, hk _ _ e7⟩) fun _ _ x => x) fun _ _ x => x
theorem ev_listComp {elt target iter : Expr} {ifs : List Expr} {Q : V → Hp → Prop} {X : Value → Hp → Shared → Prop} (l : List (Str × V))
    (ok : F.Ok k) (hclos : closureFor scope F.env = pure cl) (hcell : ∀ x ∈ scope.names, x.2 ≠ .cell) (hkind : scope.kind = .function) (hnames : ∀ x ∈ scope.names, x.2 = .local → scope.names.lookup x.1 = some .local)
    (hcl : ∀ p ∈ cl, F.env.cells.lookup p.1 = some p.2) (hnd : (cl.map (·.1)).Nodup) (hnl : (l.map (·.1)).Nodup) (hl : ∀ p ∈ l, m p.1 = some p.2 ∧ (relabel scope F.env).names.lookup p.1 ≠ some .local)
    (hs : ∀ x, foldedSetIterable iter F.env x = pure x)
    (h : ITX F iter target m (fun ds σ₁ => ∃ g, TurnC F k elt target ifs scope cl l ds g σ₁ ∧ ds.length < 2 ^ 20 ∧ ∀ D, σ₁ D = none → Q (.ref D) (σ₁.set D ((List.range ds.length).filterMap g))) σ) :
    EV F (.ListComp elt [⟨target, iter, ifs, 0⟩] scope pos) m Q X σ := fun s st => by
  unfold TV
  rw [eval_ListComp]
  refine comp_core (use := none) ok hclos hcell hkind hnames hcl hnd hnl hl hs st (h.mono fun ds σ₁ ⟨g, h1, h2, h3⟩ => ⟨g, h1, h2, fun D C s' sx hD e1 stx ex hbC hC ⟨mc, hn⟩ hw hf => ?_⟩)
  refine ⟨mc, hn, fun h' hs' => ?_⟩
  obtain ⟨o, es, ep, ho, hd, _⟩ := hn
  exact ⟨.ref D, _, e1.trans (ex.chg (t := sx.toks) hC fun b o hb e => (hs'.2 b hb).trans e), stx.butC ok hs' hbC ⟨o, es, ep, ho, hd⟩ hw hf, vr_ref, h3 D hD⟩
/-- x = [...], both on one line -/
theorem ex_assignComp {elt target iter : Expr} {ifs : List Expr} {Q : Fl → Lo → Hp → Prop} {X : XE} {y : Str} {py spos : Pos} (l : List (Str × V))
    (ok : F.Ok k) (hsw : swapsWith (.ListComp elt [⟨target, iter, ifs, 0⟩] scope pos) (some (.Name y py)) spos.line F.env = pure true) (hb : Bound F y)
    (hclos : closureFor scope F.env = pure cl) (hcell : ∀ x ∈ scope.names, x.2 ≠ .cell) (hkind : scope.kind = .function) (hnames : ∀ x ∈ scope.names, x.2 = .local → scope.names.lookup x.1 = some .local)
    (hcl : ∀ p ∈ cl, F.env.cells.lookup p.1 = some p.2) (hnd : (cl.map (·.1)).Nodup) (hnl : (l.map (·.1)).Nodup) (hl : ∀ p ∈ l, m p.1 = some p.2 ∧ (relabel scope F.env).names.lookup p.1 ≠ some .local)
    (hs : ∀ x, foldedSetIterable iter F.env x = pure x)
    (h : ITX F iter target m (fun ds σ₁ => ∃ g, TurnC F k elt target ifs scope cl l ds g σ₁ ∧ ds.length < 2 ^ 20 ∧ ∀ D, σ₁ D = none → Q .next (m.put y (.ref D)) (σ₁.set D ((List.range ds.length).filterMap g))) σ) :
    EX F (.Assign [.Name y py] (.ListComp elt [⟨target, iter, ifs, 0⟩] scope pos) spos) m Q X σ := fun s st => by
  unfold TX
  rw [exec_Assign_Name_used _ _ _ _ hsw]
  refine wpAny_bind (wpAny_standAt (wpAny_bind ?_))
  show wpAny _ F.A (do let _ ← comprehension (.ListComp elt [⟨target, iter, ifs, 0⟩] scope pos) scope F.env _ (newList []) false (eval iter F.env) (some (assign (.Name y py) F.env))) _ _ s
  refine wpAny_bind (wpAny_mono (comp_core (use := some (assign (.Name y py) F.env)) (E := XExc F σ s X) (Qv := fun _ s' => ∃ m' σ', Ev F.fr F.wr σ σ' s s' ∧ St F σ' m' s' ∧ Q .next m' σ') ok hclos hcell hkind hnames hcl hnd hnl hl hs st (h.mono fun ds σ₁ ⟨g, h1, h2, h3⟩ => ⟨g, h1, h2, fun D C s' sx hD e1 stx ex hbC hC ⟨mc, hn⟩ hw hf => ?_⟩)) (fun _ s' ⟨m', σ', a, b, c⟩ => wpAny_pure (wpAny_pure ⟨.next, m', σ', a, b, rfl, c⟩)) fun _ _ x => x)
  show wpAny _ F.A (assign (.Name y py) F.env (.ref D)) _ _ _
  refine wpAny_assign_Name (store ok hb stx vr_ref fun s₂ e2 st2 => ?_)
  obtain ⟨o, es, ep, ho, hd, hk⟩ := hn
  have hσC : σ₁.set D ((List.range ds.length).filterMap g) C = none := by
    cases hq : σ₁.set D ((List.range ds.length).filterMap g) C with
    | none => rfl
    | some ds' =>
      obtain ⟨_, vs, n, h4, _⟩ := stx.gs.lists C ds' hq
      rw [ho] at h4; cases h4; cases hd
  obtain ⟨o', ho', _, hd'⟩ := e2.keepD C o ho hσC (fun hw' => hw (hw'.imp (fun q => q) fun q => q.2)) (notX_data fun vs q => by rw [hd] at q; cases q)
  refine ⟨mc, ⟨o', es, ep, ho', hd'.trans hd, hk⟩, fun h' hs' => ?_⟩
  exact ⟨_, _, e1.trans ((ex.trans e2).chg (t := s₂.toks) hC fun b o hb e => (hs'.2 b hb).trans e), st2.butC ok hs' hbC ⟨o', es, ep, ho', hd'.trans hd⟩ hw hf, h3 D hD⟩
end
section
variable (lt : Nat → Nat → Bool) (n : Nat)
/-- what a tree of questions gives when they are answered by lt -/
noncomputable def pw {α : Type} : KasT α → (α → Prop) → Prop
  | .ret a, Q => Q a
  | .ask i j k, Q => i < n ∧ j < n ∧ pw (k (lt i j)) Q
structure LtOk : Prop where
  trans : ∀ i j k, lt i j = true → lt j k = true → lt i k = true
  asymm : ∀ i j, lt i j = true → lt j i = true → False
  total : ∀ i j, i < n → j < n → i ≠ j → lt i j = true ∨ lt j i = true
noncomputable def Ent (p : Array Nat) : Prop := p.Perm (List.toArray (List.range n))
noncomputable abbrev att (p : Array Nat) (i : Nat) : Nat := p.getD i 0
noncomputable def Srt (p : Array Nat) (k : Nat) : Prop := ∀ i j, i < j → j < k → lt (att p i) (att p j) = true
noncomputable def Dsc (p : Array Nat) (k : Nat) : Prop := ∀ i j, i < j → j < k → lt (att p j) (att p i) = true
end
section
variable {lt : Nat → Nat → Bool} {n : Nat}
theorem pw_bind {α β : Type} {f : α → KasT β} {Q : β → Prop} : ∀ {t : KasT α}, pw lt n t (fun a => pw lt n (f a) Q) → pw lt n (t.bind f) Q
  | .ret _, h => h
  | .ask _ _ _, ⟨h1, h2, h3⟩ => ⟨h1, h2, pw_bind h3⟩
theorem pw_mono {α : Type} {Q Q' : α → Prop} (hq : ∀ a, Q a → Q' a) : ∀ {t : KasT α}, pw lt n t Q → pw lt n t Q'
  | .ret _, h => hq _ h
  | .ask _ _ _, ⟨h1, h2, h3⟩ => ⟨h1, h2, pw_mono hq h3⟩
theorem Ent.list {p : Array Nat} (h : Ent n p) : p.toList.Perm (List.range n) := Array.perm_iff_toList_perm.mp h
theorem Ent.size {p : Array Nat} (h : Ent n p) : p.size = n := by simpa using h.list.length_eq
theorem att_eq {p : Array Nat} {i : Nat} (hi : i < p.size) : att p i = p[i] := by unfold att; simp [hi]
theorem Ent.bd {p : Array Nat} (h : Ent n p) {i : Nat} (hi : i < n) : att p i < n := by
  have hi' : i < p.size := by rw [h.size]; exact hi
  rw [att_eq hi']
  exact List.mem_range.mp (h.list.mem_iff.mp (by simp))
theorem Ent.ne {p : Array Nat} (h : Ent n p) {i j : Nat} (hi : i < j) (hj : j < n) : att p i ≠ att p j := by
  have hi' : i < p.size := by rw [h.size]; lia
  have hj' : j < p.size := by rw [h.size]; omega
  rw [att_eq hi', att_eq hj']
  have hn : p.toList.Nodup := h.list.nodup_iff.mpr List.nodup_range
  have := List.pairwise_iff_getElem.mp hn i j (by simpa using hi') (by simpa using hj') hi
  simpa using this
theorem Ent.rev {p : Array Nat} (h : Ent n p) (i j : Nat) : Ent n (kas_rev p i j) := (mirror_perm _ _ _ _).trans h
theorem Ent.bub {p : Array Nat} (h : Ent n p) (i j : Nat) : Ent n (bubble p i j) := (bubble_perm _ _ _).trans h
theorem att_congr {p q : Array Nat} {i j : Nat} (h : p[i]? = q[j]?) : att p i = att q j := by
  unfold att
  rw [Array.getD_eq_getD_getElem?, Array.getD_eq_getD_getElem?, h]
theorem att_rev {p : Array Nat} {m i : Nat} (hm : m ≤ p.size) (hi : i < m) : att (kas_rev p 0 m) i = att p (m - 1 - i) := by
  refine att_congr ?_
  unfold kas_rev
  rw [getElem?_mirror_all hm, if_pos ⟨Nat.zero_le _, hi⟩, Nat.zero_add]
theorem asc_ok (L : LtOk lt n) {p : Array Nat} (he : Ent n p) {nrem : Nat} (hn : nrem ≤ n) : ∀ (f a : Nat), a + f = nrem → 1 ≤ a → Srt lt p a →
    pw lt n (kas_asc p f a) (fun m => a ≤ m ∧ m ≤ nrem ∧ Srt lt p m ∧ (m = nrem ∨ lt (att p m) (att p (m - 1)) = true))
  | 0, a, hf, ha, hs => ⟨Nat.le_refl _, by lia  , hs, .inl (by omega)⟩
  | f + 1, a, hf, ha, hs => by
    refine ⟨he.bd (by lia  ), he.bd (by omega), ?_⟩
    show pw lt n (if lt (att p a) (att p (a - 1)) = true then _ else _) _
    cases hc : lt (att p a) (att p (a - 1)) with
    | true =>
      rw [if_pos rfl]
      exact ⟨Nat.le_refl _, by lia  , hs, .inr hc⟩
    | false =>
      rw [if_neg (by decide)]
      have h1 : lt (att p (a - 1)) (att p a) = true := by
        rcases L.total (att p a) (att p (a - 1)) (he.bd (by lia  )) (he.bd (by omega)) (he.ne (i := a - 1) (j := a) (by omega) (by lia  )).symm with q | q
        · rw [hc] at q; cases q
        · exact q
      refine pw_mono (fun m ⟨q1, q2, q3⟩ => ⟨by omega, q2, q3⟩) (asc_ok L he hn f (a + 1) (by lia  ) (by lia  ) fun i j hij hj => ?_)
      by_cases hja : j < a
      · exact hs i j hij hja
      · have : j = a := by lia
        subst this
        by_cases hia : i = j - 1
        · subst hia; exact h1
        · exact L.trans _ _ _ (hs i (j - 1) (by lia  ) (by omega)) h1
theorem desc_ok (L : LtOk lt n) {p : Array Nat} (he : Ent n p) {nrem : Nat} (hn : nrem ≤ n) : ∀ (f a : Nat), a + f = nrem → 1 ≤ a → Dsc lt p a →
    pw lt n (kas_desc f p a 0) (fun r => r.1 = p ∧ r.2.2 = 0 ∧ a ≤ r.2.1 ∧ r.2.1 ≤ nrem ∧ Dsc lt p r.2.1)
  | 0, a, hf, ha, hs => ⟨rfl, rfl, Nat.le_refl _, (by lia   : a ≤ nrem), hs⟩
  | f + 1, a, hf, ha, hs => by
    refine ⟨he.bd (by lia  ), he.bd (by omega), ?_⟩
    show pw lt n (if lt (att p a) (att p (a - 1)) = true then _ else _) _
    cases hc : lt (att p a) (att p (a - 1)) with
    | true =>
      rw [if_pos rfl, if_neg (by decide)]
      refine pw_mono (fun m ⟨q1, q2, q3, q4⟩ => ⟨q1, q2, by omega, q4⟩) (desc_ok L he hn f (a + 1) (by lia  ) (by lia  ) fun i j hij hj => ?_)
      by_cases hja : j < a
      · exact hs i j hij hja
      · have : j = a := by lia
        subst this
        by_cases hia : i = j - 1
        · subst hia; exact hc
        · exact L.trans _ _ _ hc (hs i (j - 1) (by lia  ) (by omega))
    | false =>
      rw [if_neg (by decide)]
      refine ⟨he.bd (by omega), he.bd (by lia  ), ?_⟩
      have h1 : lt (att p (a - 1)) (att p a) = true := by
        rcases L.total (att p a) (att p (a - 1)) (he.bd (by lia  )) (he.bd (by omega)) (he.ne (i := a - 1) (j := a) (by omega) (by lia  )).symm with q | q
        · rw [hc] at q; cases q
        · exact q
      show pw lt n (if lt (att p (a - 1)) (att p a) = true then _ else _) _
      rw [if_pos h1]
      exact ⟨rfl, rfl, Nat.le_refl _, (by lia   : a ≤ nrem), hs⟩
theorem tail_ok (L : LtOk lt n) {p : Array Nat} (he : Ent n p) {m : Nat} (hm : m ≤ n) (h1 : 1 ≤ m) (hs : Dsc lt p m) :
    pw lt n (kas_tail3 m n p) (fun r => Ent n r.2 ∧ 1 ≤ r.1 ∧ r.1 ≤ n ∧ Srt lt r.2 r.1) := by
  unfold kas_tail3
  refine pw_bind (pw_mono (fun k hk => ?_) (asc_ok L (he.rev 0 m) (Nat.le_refl n) (n - m) m (by lia  ) h1 fun i j hij hj => ?_))
  · exact ⟨he.rev 0 m, by have := hk.1; omega, hk.2.1, hk.2.2.1⟩
  · rw [att_rev (by rw [he.size]; exact hm) (by lia  ), att_rev (by rw [he.size]; exact hm) hj]
    exact hs _ _ (by omega) (by omega)
theorem count_ok (L : LtOk lt n) {p : Array Nat} (he : Ent n p) (h1 : 1 ≤ n) :
    pw lt n (kas_count n p) (fun r => Ent n r.2 ∧ 1 ≤ r.1 ∧ r.1 ≤ n ∧ Srt lt r.2 r.1) := by
  unfold kas_count
  refine pw_bind (pw_mono (fun m hm => ?_) (asc_ok L he (Nat.le_refl n) (n - 1) 1 (by lia  ) (Nat.le_refl 1) fun i j hij hj => by omega))
  obtain ⟨hm1, hm2, hs, hor⟩ := hm
  by_cases hmn : m = n
  · rw [if_pos (by simpa using hmn)]
    exact ⟨he, hm1, hm2, hs⟩
  · rw [if_neg (by simpa using hmn)]
    have hd := hor.resolve_left hmn
    by_cases hg : m > 1
    · rw [if_pos hg]
      refine ⟨he.bd (by lia  ), he.bd (by omega), ?_⟩
      have h0 : lt (att p 0) (att p (m - 1)) = true := hs 0 (m - 1) (by omega) (by omega)
      show pw lt n (if lt (att p 0) (att p (m - 1)) = true then _ else _) _
      rw [if_pos h0]
      exact ⟨he, hm1, hm2, hs⟩
    · rw [if_neg hg]
      have : m = 1 := by lia
      subst this
      unfold kas_descPart
      refine pw_bind (pw_mono (fun r hr => ?_) (desc_ok L he (Nat.le_refl n) (n - (1 + 1)) (1 + 1) (by lia  ) (by lia  ) fun i j hij hj => ?_))
      · obtain ⟨q1, q2, q3, q4, q5⟩ := hr
        rw [if_neg (by lia  ), q1]
        exact tail_ok L he q4 (by lia  ) q5
      · have : i = 0 := by lia
        have : j = 1 := by lia
        subst i j
        exact hd
theorem place_ok (L : LtOk lt n) {p : Array Nat} (he : Ent n p) {k : Nat} (hk : k < n) (hs : Srt lt p k) : ∀ (f l r : Nat), r - l ≤ f → l ≤ r → r ≤ k →
    (∀ i, i < l → lt (att p i) (att p k) = true) → (∀ i, r ≤ i → i < k → lt (att p k) (att p i) = true) →
    pw lt n (kas_place p k f l r) (fun l => l ≤ k ∧ (∀ i, i < l → lt (att p i) (att p k) = true) ∧ ∀ i, l ≤ i → i < k → lt (att p k) (att p i) = true)
  | 0, l, r, hf, hlr, hrk, h1, h2 => ⟨by lia  , h1, fun i hi => h2 i (by lia  )⟩
  | f + 1, l, r, hf, hlr, hrk, h1, h2 => by
    unfold kas_place
    by_cases hge : l ≥ r
    · rw [if_pos hge]
      exact ⟨by lia  , h1, fun i hi => h2 i (by lia  )⟩
    · rw [if_neg hge]
      refine ⟨he.bd hk, he.bd (by lia  ), ?_⟩
      show pw lt n (if lt (att p k) (att p ((l + r) / 2)) = true then _ else _) _
      cases hc : lt (att p k) (att p ((l + r) / 2)) with
      | true =>
        rw [if_pos rfl]
        refine place_ok L he hk hs f l ((l + r) / 2) (by omega) (by lia  ) (by lia  ) h1 fun i hi hik => ?_
        by_cases q : i = (l + r) / 2
        · rw [q]; exact hc
        · exact L.trans _ _ _ hc (hs _ _ (by lia  ) hik)
      | false =>
        rw [if_neg (by decide)]
        have h3 : lt (att p ((l + r) / 2)) (att p k) = true := by
          rcases L.total _ _ (he.bd hk) (he.bd (i := (l + r) / 2) (by lia  )) (he.ne (i := (l + r) / 2) (j := k) (by lia  ) hk).symm with q | q
          · rw [hc] at q; cases q
          · exact q
        refine place_ok L he hk hs f ((l + r) / 2 + 1) r (by omega) (by lia  ) hrk (fun i hi => ?_) h2
        by_cases q : i = (l + r) / 2
        · rw [q]; exact h3
        · exact L.trans _ _ _ (hs _ _ (by lia  ) (by lia  )) h3
theorem bin_ok (L : LtOk lt n) : ∀ (f : Nat) (p : Array Nat) (k : Nat), k + f = n → 1 ≤ k → Ent n p → Srt lt p k → pw lt n (kas_bin f p k) (fun p => Ent n p ∧ Srt lt p n)
  | 0, p, k, hf, h1, he, hs => ⟨he, by rw [show n = k by lia  ]; exact hs⟩
  | f + 1, p, k, hf, h1, he, hs => by
    unfold kas_bin
    refine pw_bind (pw_mono (fun l hl => ?_) (place_ok L he (by lia  ) hs k 0 k (by lia  ) (by lia  ) (Nat.le_refl _) (fun i hi => by lia  ) fun i h2 h3 => by lia  ))
    obtain ⟨hlk, q1, q2⟩ := hl
    refine bin_ok L f _ (k + 1) (by lia  ) (by lia  ) (he.bub _ _) fun i j hij hj => ?_
    have hks : k < p.size := by rw [he.size]; lia
    have att_bub : ∀ x, att (bubble p k (k - l)) x = if x = l then att p k else if l < x ∧ x ≤ k then att p (x - 1) else att p x := fun x => by
      have e := getElem?_bubble hks (k - l) (by lia  ) x
      rw [show k - (k - l) = l by lia  ] at e
      by_cases c1 : x = l
      · rw [if_pos c1] at e ⊢; exact att_congr e
      · rw [if_neg c1] at e ⊢
        by_cases c2 : l < x ∧ x ≤ k
        · rw [if_pos c2] at e ⊢; exact att_congr e
        · rw [if_neg c2] at e ⊢; exact att_congr e
    have lo : ∀ x, x < l → att (bubble p k (k - l)) x = att p x := fun x hx => by
      rw [att_bub, if_neg (by lia  ), if_neg (by lia  )]
    have mid : att (bubble p k (k - l)) l = att p k := by rw [att_bub, if_pos rfl]
    have hi : ∀ x, l < x → x ≤ k → att (bubble p k (k - l)) x = att p (x - 1) := fun x h1 h2 => by
      rw [att_bub, if_neg (by lia  ), if_pos ⟨h1, h2⟩]
    rcases Nat.lt_trichotomy i l with h3 | h3 | h3
    · rw [lo i h3]
      rcases Nat.lt_trichotomy j l with h4 | h4 | h4
      · rw [lo j h4]; exact hs _ _ hij (by lia  )
      · rw [h4, mid]; exact q1 _ h3
      · rw [hi j h4 (by lia  )]; exact hs _ _ (by lia  ) (by lia  )
    · rw [h3, mid, hi j (by lia  ) (by lia  )]; exact q2 _ (by lia  ) (by lia  )
    · rw [hi i h3 (by lia  ), hi j (by lia  ) (by lia  )]; exact hs _ _ (by lia  ) (by lia  )
theorem sort_ok (L : LtOk lt n) (h2 : 1 ≤ n) : pw lt n (kas_sort n) (fun p => Ent n p ∧ Srt lt p n) := by
  unfold kas_sort
  refine pw_bind (pw_mono (fun r hr => ?_) (count_ok L (Array.Perm.refl _) h2))
  obtain ⟨q1, q2, q3, q4⟩ := hr
  by_cases hlt : r.1 < n
  · rw [if_pos hlt, show max r.1 1 = r.1 by lia  ]
    exact bin_ok L _ _ _ (by lia  ) q2 q1 q4
  · rw [if_neg hlt]
    refine ⟨q1, ?_⟩
    have : r.1 = n := by lia
    rw [this] at q4; exact q4
theorem kasWp_of_pw {α : Type} {cmp : Nat → Nat → (Bool → Shared → Prop) → Shared → Prop} {s : Shared} {Q : α → Prop} {G : α → Shared → Prop} (hc : ∀ i j C, i < n → j < n → C (lt i j) s → cmp i j C s) (hG : ∀ a, Q a → G a s) : ∀ {t : KasT α}, pw lt n t Q → t.kasWp cmp G s
  | .ret a, h => hG a h
  | .ask i j k, ⟨h1, h2, h3⟩ => hc i j _ h1 h2 (kasWp_of_pw hc hG h3)
end
noncomputable def tltB (a b : T) : Bool := decide (tlt a b)
theorem tltB_iff {a b : T} : tltB a b = true ↔ tlt a b := by unfold tltB; simp
theorem tlt_trans {a b c : T} (h1 : tlt a b) (h2 : tlt b c) : tlt a c := by unfold tlt at *; lia
theorem tlt_irrefl (a : T) : ¬ tlt a a := by unfold tlt; lia
theorem tlt_asymm {a b : T} (h1 : tlt a b) (h2 : tlt b a) : False := by unfold tlt at *; lia
theorem tlt_total {a b : T} (h : a ≠ b) : tlt a b ∨ tlt b a := by
  unfold tlt
  have : ¬ (a.1 = b.1 ∧ a.2 = b.2) := fun ⟨q1, q2⟩ => h (Prod.ext q1 q2)
  lia
noncomputable def ins (x : T) : List T → List T
  | [] => [x]
  | y :: r => if tlt x y then x :: y :: r else y :: ins x r
noncomputable def srt : List T → List T
  | [] => []
  | x :: r => ins x (srt r)
theorem ins_perm (x : T) : ∀ l : List T, (ins x l).Perm (x :: l)
  | [] => List.Perm.refl _
  | y :: r => by
    unfold ins
    split
    · exact List.Perm.refl _
    · exact ((ins_perm x r).cons y).trans (List.Perm.swap x y r)
theorem srt_perm : ∀ l : List T, (srt l).Perm l
  | [] => List.Perm.refl _
  | x :: r => (ins_perm x (srt r)).trans ((srt_perm r).cons x)
theorem ins_sorted {x : T} : ∀ {l : List T}, l.Pairwise tlt → x ∉ l → (ins x l).Pairwise tlt
  | [], _, _ => List.pairwise_singleton _ _
  | y :: r, h, hx => by
    unfold ins
    rw [List.pairwise_cons] at h
    split
    · rename_i hxy
      refine List.pairwise_cons.mpr ⟨fun z hz => ?_, List.pairwise_cons.mpr h⟩
      rcases List.mem_cons.mp hz with rfl | hz
      · exact hxy
      · exact tlt_trans hxy (h.1 z hz)
    · rename_i hxy
      have hyx : tlt y x := (tlt_total (fun q => hx (by rw [q]; exact List.mem_cons_self) : x ≠ y)).resolve_left hxy
      refine List.pairwise_cons.mpr ⟨fun z hz => ?_, ins_sorted h.2 fun q => hx (List.mem_cons_of_mem _ q)⟩
      rcases List.mem_cons.mp ((ins_perm x r).mem_iff.mp hz) with rfl | hz
      · exact hyx
      · exact h.1 z hz
theorem srt_sorted : ∀ {l : List T}, l.Nodup → (srt l).Pairwise tlt
  | [], _ => List.Pairwise.nil
  | x :: r, h => by
    rw [List.nodup_cons] at h
    exact ins_sorted (srt_sorted h.2) fun q => h.1 ((srt_perm r).mem_iff.mp q)
theorem sorted_unique : ∀ {l l' : List T}, l.Pairwise tlt → l'.Pairwise tlt → l.Perm l' → l = l'
  | [], l', _, _, h => (List.Perm.eq_nil h.symm).symm
  | x :: r, l', h1, h2, h => by
    cases l' with
    | nil => exact absurd h.length_eq (by simp)
    | cons y r' =>
      have hx : x = y := by
        rw [List.pairwise_cons] at h1 h2
        by_cases e : x = y
        · exact e
        · have a1 : x ∈ y :: r' := h.mem_iff.mp List.mem_cons_self
          have a2 : y ∈ x :: r := h.mem_iff.mpr List.mem_cons_self
          rcases List.mem_cons.mp a1 with q | q
          · exact q
          · rcases List.mem_cons.mp a2 with q' | q'
            · exact q'.symm
            · exact (tlt_asymm (h2.1 x q) (h1.1 y q')).elim
      subst hx
      rw [sorted_unique (List.pairwise_cons.mp h1).2 (List.pairwise_cons.mp h2).2 ((List.perm_cons x).mp h)]
theorem srt_unique {l l' : List T} (hn : l.Nodup) (h : l'.Pairwise tlt) (hp : l'.Perm l) : l' = srt l :=
  sorted_unique h (srt_sorted hn) (hp.trans (srt_perm l).symm)
theorem tlt_nodup {l : List T} (h : l.Pairwise tlt) : l.Nodup := h.imp fun {a b} q e => by subst e; exact tlt_irrefl _ q
section
variable {prog : Program} {w : World} {A : Around} {E : Value → Shared → Prop} {s : Shared}
theorem keyLt_pairs {b c : Addr} {n j : Nat} {a1 a2 b1 b2 : Int} {t1 t2 u1 u2 : Tok} {Q : Bool → Shared → Prop} (hu : A.units < cLine) (e1 : s.heap.get? b = some (seqObj "list" (List.toArray [.int a1 t1, .int a2 t2]) n)) (e2 : s.heap.get? c = some (seqObj "list" (List.toArray [.int b1 u1, .int b2 u2]) j))
    (h : Q (decide (a1 < b1 ∨ (a1 = b1 ∧ a2 < b2))) s) : wpAny (model prog w) A (keyLt' oneType' (.ref b) (.ref c)) Q E s := by
  rw [keyLt'_oneType, oneLt'_eq]
  simp only [if_true]
  refine wpAny_bind (wpAny_cRoomFor hu ?_)
  refine wpAny_bind (wpAny_callSpecialIfBound?_slot ⟨_, e1, rfl⟩ PySem.F.slot_list_lt (call_meets PySem.F.slot_list_lt ⟨_, e1, rfl⟩ PySem.F.entry_list_lt (PySem.F.args_list_lt_2 _ _)
    (list_lt_pair b c _ _ n j rfl rfl (a1 := a1) (a2 := a2) (b1 := b1) (b2 := b2) (t1 := t1) (t2 := t2) (u1 := u1) (u2 := u2) rfl rfl rfl rfl) ⟨e1, e2, ?_⟩))
  exact wpAny_truthy_bool h
/-- the values stand for the things -/
noncomputable def Things (h : Heap) (ts : List T) (vs : List Value) : Prop := ts.length = vs.length ∧ ∀ (i : Nat) (t : T), ts[i]? = some t → ∃ b n t1 t2, vs[i]? = some (.ref b) ∧ h.get? b = some (seqObj "list" (List.toArray [.int t.1 t1, .int t.2 t2]) n)
theorem Things.keeps {h h' : Heap} {ts : List T} {vs : List Value} (x : Things h ts vs) (k : ∀ b o, h.get? b = some o → h'.get? b = some o) : Things h' ts vs :=
  ⟨x.1, fun i t e => let ⟨b, n, t1, t2, h1, h2⟩ := x.2 i t e; ⟨b, n, t1, t2, h1, k _ _ h2⟩⟩
theorem ltOk_of {ts : List T} (hn : ts.Nodup) : LtOk (fun i j => tltB (ts.getD i (0, 0)) (ts.getD j (0, 0))) ts.length where
  trans i j k h1 h2 := by
    rw [tltB_iff] at *
    exact tlt_trans h1 h2
  asymm i j h1 h2 := by
    rw [tltB_iff] at *
    exact tlt_asymm h1 h2
  total i j hi hj hij := by
    rw [tltB_iff, tltB_iff]
    refine tlt_total fun q => hij ?_
    rw [List.getD_eq_getElem?_getD, List.getD_eq_getElem?_getD, List.getElem?_eq_getElem hi, List.getElem?_eq_getElem hj] at q
    have q' : ts[i] = ts[j] := by simpa using q
    rcases Nat.lt_trichotomy i j with h | h | h
    · exact absurd q' (List.pairwise_iff_getElem.mp hn i j hi hj h)
    · exact h
    · exact absurd q'.symm (List.pairwise_iff_getElem.mp hn j i hj hi h)
theorem list_sort_pairs {a : Addr} {vs : List Value} {ts : List T} {n : Nat} {P : PySem.Fin → Shared → Prop} (hu : A.units < cLine) (ho : s.heap.get? a = some (seqObj "list" vs.toArray n)) (ht : Things s.heap ts vs) (hn : ts.Nodup) (hna : ∀ v ∈ vs, v ≠ .ref a)
    (h64 : vs.length < 64) (h : ∀ p : Array Nat, Ent ts.length p → Srt (fun i j => tltB (ts.getD i (0, 0)) (ts.getD j (0, 0))) p ts.length → P (.done (.ret .none)) { s with heap := sortedHeap s.heap a vs (List.toArray (p.toList.map fun i => vs.getD i Value.none)) }) :
    wpAny (model prog w) A (Builtin.«list.sort» ⟨[.ref a], []⟩) P E s := by
  rw [list_sort_plain]
  have ha : a < s.heap.objs.size := Heap.lt_size ho
  refine wpAny_bind (listItems_at ho rfl ?_)
  refine wpAny_bind (listUpdate_at ho rfl ?_)
  obtain ⟨e1, ho1⟩ : ∃ e1, (s.heap.update a (Obj.mapSeq fun _ => #[])).get? a = some (seqObj "list" #[] e1) := ⟨_, get?_update_seq ho (fun _ => #[])⟩
  refine wpAny_bind (seqEpoch_at ho1 rfl ?_)
  refine wpAny_bind (wpAny_newTuple ?_)
  refine wpAny_bind (wpAny_newList ?_)
  refine wpAny_holding ?_
  have old : ∀ b o, b ≠ a → s.heap.get? b = some o → (((s.heap.update a (Obj.mapSeq fun _ => #[])).push (seqObj "tuple" vs.toArray 0)).push (seqObj "list" #[] 0)).get? b = some o := fun b o hb e =>
    Heap.get?_push_of_some _ (Heap.get?_push_of_some _ ((Heap.get?_update_ne _ _ _ _ hb).trans e))
  have ho6 : (((s.heap.update a (Obj.mapSeq fun _ => #[])).push (seqObj "tuple" vs.toArray 0)).push (seqObj "list" #[] 0)).get? a = some (seqObj "list" #[] e1) := Heap.get?_push_of_some _ (Heap.get?_push_of_some _ ho1)
  have ht6 : Things (((s.heap.update a (Obj.mapSeq fun _ => #[])).push (seqObj "tuple" vs.toArray 0)).push (seqObj "list" #[] 0)) ts vs := ⟨ht.1, fun i t e => by
    obtain ⟨b, m, t1, t2, h1, h2⟩ := ht.2 i t e
    exact ⟨b, m, t1, t2, h1, old b _ (fun q => hna _ (List.mem_of_getElem? h1) (by rw [q])) h2⟩⟩
  show wpAny (model prog w) A _ P E { s with heap := ((s.heap.update a (Obj.mapSeq fun _ => #[])).push (seqObj "tuple" vs.toArray 0)).push (seqObj "list" #[] 0) }
  dsimp only
  have hsz : vs.toArray.size = vs.length := by simp
  by_cases h2 : vs.toArray.size < 2
  · rw [if_pos h2, if_pos h2]
    refine wpAny_bind (wpAny_pure ?_)
    rw [StateT.run_pure]
    refine wpAny_bind (wpAny_pure ?_)
    dsimp only
    refine wpAny_bind (seqEpoch_at ho6 rfl ?_)
    refine wpAny_bind (listUpdate_at ho6 rfl ?_ (hsz2 := by rw [Array.size_map]; show (pairsOf vs).size ≤ _; rw [pairsOf_size, sizeLine_eq]; lia  ))
    simp only [bne_self_eq_false, Bool.false_eq_true, if_false]
    have hv : (arrOf (SortSt.mk' general' (vs.toArray.zip vs.toArray) #[] 7 none)).map (·.2) = List.toArray ((List.toArray (List.range ts.length)).toList.map fun i => vs.getD i Value.none) := by
      show (pairsOf vs).map (·.2) = _
      apply Array.toList_inj.mp
      rw [Array.toList_map, pairsOf_toList]
      have e2 : (vs.zip vs).map Prod.snd = vs := List.map_snd_zip (Nat.le_refl _)
      show (vs.zip vs).map Prod.snd = _
      rw [e2, ht.1]
      refine List.ext_getElem? fun i => ?_
      simp only [List.getElem?_map, List.getElem?_range]
      by_cases hi : i < vs.length
      · simp [hi, List.getD_eq_getElem?_getD]
      · simp [hi]
    have := h (List.toArray (List.range ts.length)) (Array.Perm.refl _) (fun i j hij hj => by rw [ht.1] at hj; omega)
    rw [← hv] at this
    exact wpAny_pure this
  · rw [if_neg h2, if_neg h2]
    have h2' : 2 ≤ vs.length := by lia
    refine wpAny_bind (kas_kind (T := .type "list") h2' (fun v hv => ?_) (by decide) (by decide) ?_)
    · obtain ⟨i, hi⟩ := List.mem_iff_getElem?.mp hv
      have hlt : i < ts.length := by rw [ht.1]; exact (List.getElem?_eq_some_iff.mp hi).1
      obtain ⟨b, m, t1, t2, q1, q2⟩ := ht6.2 i _ (List.getElem?_eq_getElem hlt)
      rw [hi] at q1; cases q1
      intro A' Q' E' s' k q
      exact wpAny_typeOf (T := "list") ⟨_, k _ _ q2, rfl⟩ q
    have est : SortSt.mk' oneType' (vs.toArray.zip vs.toArray) #[] 7 none = kas_st oneType' (pairsOf vs) (List.toArray (List.range vs.length)) := by
      have e := kas_range (pairsOf vs)
      rw [pairsOf_size] at e
      show SortSt.mk' oneType' (pairsOf vs) #[] 7 none = SortSt.mk' oneType' ((List.toArray (List.range vs.length)).map (kas_item (pairsOf vs))) #[] 7 none
      rw [e]
    have hpw := sort_ok (ltOk_of hn) (by rw [ht.1]; lia  )
    have run := kas_runs (prog := prog) (w := w) (A := A) (κ := oneType') (it := pairsOf vs) (E := E) (s := { s with heap := ((s.heap.update a (Obj.mapSeq fun _ => #[])).push (seqObj "tuple" vs.toArray 0)).push (seqObj "list" #[] 0) })
      (Q := fun _ st' s' => ∃ p : Array Nat, arrOf st' = p.map (kas_item (pairsOf vs)) ∧ failedOf st' = none ∧ s' = { s with heap := ((s.heap.update a (Obj.mapSeq fun _ => #[])).push (seqObj "tuple" vs.toArray 0)).push (seqObj "list" #[] 0) } ∧ Ent ts.length p ∧ Srt (fun i j => tltB (ts.getD i (0, 0)) (ts.getD j (0, 0))) p ts.length)
      (G := fun p s' => s' = { s with heap := ((s.heap.update a (Obj.mapSeq fun _ => #[])).push (seqObj "tuple" vs.toArray 0)).push (seqObj "list" #[] 0) } ∧ Ent ts.length p ∧ Srt (fun i j => tltB (ts.getD i (0, 0)) (ts.getD j (0, 0))) p ts.length)
      h2' h64 (fun p' st' s' a1 a2 a3 ⟨b1, b2, b3⟩ => ⟨p', a2, a3, b1, b2, b3⟩) (by
        rw [← ht.1]
        refine kasWp_of_pw (fun i j C hi hj hC => ?_) (fun p hp => ⟨rfl, hp.1, hp.2⟩) hpw
        rw [← kas_ask_eq]
        unfold kas_ask
        obtain ⟨b, m, t1, t2, q1, q2⟩ := ht6.2 i _ (List.getElem?_eq_getElem hi)
        obtain ⟨c, m', u1, u2, q3, q4⟩ := ht6.2 j _ (List.getElem?_eq_getElem hj)
        rw [List.getD_eq_getElem?_getD, List.getD_eq_getElem?_getD, q1, q3]
        refine keyLt_pairs hu q2 q4 ?_
        have : tltB (ts.getD i (0, 0)) (ts.getD j (0, 0)) = decide (ts[i].1 < ts[j].1 ∨ ts[i].1 = ts[j].1 ∧ ts[i].2 < ts[j].2) := by
          unfold tltB tlt
          rw [List.getD_eq_getElem?_getD, List.getD_eq_getElem?_getD, List.getElem?_eq_getElem hi, List.getElem?_eq_getElem hj]
          rfl
        rw [← this]; exact hC)
    rw [← est] at run
    refine wpAny_bind (wpAny_mono run ?_ fun _ _ e => e)
    rintro ⟨⟨⟩, st'⟩ s' ⟨p, har, hf, rfl, hp1, hp2⟩
    dsimp only
    have hout : (arrOf st').map (·.2) = List.toArray (p.toList.map fun i => vs.getD i Value.none) := by
      apply Array.toList_inj.mp
      rw [har, Array.map_map, Array.toList_map]
      exact List.map_congr_left fun i _ => by show (kas_item (pairsOf vs) i).2 = _; rw [kas_item_eq]
    have hsz : (List.toArray (p.toList.map fun i => vs.getD i Value.none)).size = vs.length := by rw [List.size_toArray, List.length_map, Array.length_toList, hp1.size, ht.1]
    rw [hout]
    refine wpAny_bind (seqEpoch_at ho6 rfl ?_)
    refine wpAny_bind (listUpdate_at ho6 rfl ?_ (Nat.zero_le _) (Nat.le_trans (Nat.le_of_eq hsz) (by rw [sizeLine_eq]; lia  )))
    rw [hf]
    simp only [bne_self_eq_false, Bool.false_eq_true, if_false]
    exact wpAny_pure (h p hp1 hp2)
theorem sorted_pairs {l : Addr} {vs : List Value} {ts : List T} {Q : Value → Shared → Prop} (hu : A.in1.in1.units < cLine) (hl : s.heap.IsList l vs.toArray) (ht : Things s.heap ts vs) (hn : ts.Nodup) (h64 : vs.length < 64)
    (h : ∀ p : Array Nat, Ent ts.length p → Srt (fun i j => tltB (ts.getD i (0, 0)) (ts.getD j (0, 0))) p ts.length → Q (.ref (s.heap.objs.size + 1)) { s with heap := sortedAll s.heap vs (List.toArray (p.toList.map fun i => vs.getD i Value.none)) }) :
    wpAny (model prog w) A (call (.builtin "sorted") [.ref l]) Q E s := by
  refine Calls.call_function_entry kind_sorted plain_sorted entry_sorted (args_sorted1 _) ?_
  unfold Builtin.«sorted»
  refine wpAny_bind (m := checkCount "sorted" 1 1 _) (wpAny_pure ?_)
  refine wpAny_bind (collect_list hl ?_)
  refine wpAny_bind (wpAny_newList ?_)
  have hsz : ((s.heap.push (seqObj "list" #[] 0)).update s.heap.objs.size (Obj.mapSeq (· ++ vs.toArray))).objs.size = s.heap.objs.size + 1 := by
    rw [Heap.size_update, size_push']
  have hoL : (((s.heap.push (seqObj "list" #[] 0)).update s.heap.objs.size (Obj.mapSeq (· ++ vs.toArray))).push (seqObj "list" vs.toArray 0)).get? (s.heap.objs.size + 1) = some (seqObj "list" vs.toArray 0) := by
    rw [← hsz]; exact Heap.get?_push_size _ rfl
  have keep : ∀ b o, s.heap.get? b = some o → (((s.heap.push (seqObj "list" #[] 0)).update s.heap.objs.size (Obj.mapSeq (· ++ vs.toArray))).push (seqObj "list" vs.toArray 0)).get? b = some o := fun b o q => by
    have hlt : b < s.heap.objs.size := Heap.lt_size q
    rw [Heap.get?_push_ne _ _ _ (by rw [hsz]; exact Nat.ne_of_lt (Nat.lt_succ_of_lt hlt)), Heap.get?_update_ne _ _ _ _ (Nat.ne_of_lt hlt), Heap.get?_push_ne _ _ _ (Nat.ne_of_lt hlt)]
    exact q
  have hna : ∀ v ∈ vs, v ≠ .ref (s.heap.objs.size + 1) := fun v hv q => by
    obtain ⟨i, hi⟩ := List.mem_iff_getElem?.mp hv
    have hlt : i < ts.length := by rw [ht.1]; exact (List.getElem?_eq_some_iff.mp hi).1
    obtain ⟨b, m, t1, t2, q1, q2⟩ := ht.2 i _ (List.getElem?_eq_getElem hlt)
    rw [hi, q] at q1; cases q1
    exact absurd (Heap.lt_size q2) (Nat.not_lt.mpr (Nat.le_succ _))
  show wpAny _ _ _ _ _ { s with heap := ((s.heap.push (seqObj "list" #[] 0)).update s.heap.objs.size (Obj.mapSeq (· ++ vs.toArray))).push (seqObj "list" vs.toArray 0) }
  rw [hsz]
  refine wpAny_bind (wpAny_holding (wpAny_call_entry slot_list_sort ⟨_, hoL, rfl⟩ entry_list_sort (list_sort_pairs hu hoL (ht.keeps keep) hn hna h64 fun p a1 a2 => ⟨_, rfl, ?_⟩) (args_list_sort _)))
  exact wpAny_pure ⟨_, rfl, h p a1 a2⟩
end
theorem rds_things {h : Heap} {σ : Hp} : ∀ {ts : List T} {vs : List Value}, RDs h σ (ts.map tD) vs → Things h ts vs
  | [], vs, r => by simp only [List.map_nil, RDs] at r; subst r; exact ⟨rfl, fun i t e => by simp at e⟩
  | x :: ts, vs, r => by
    rw [List.map_cons, RDs] at r
    obtain ⟨v, rr, rfl, h1, h2⟩ := r
    have ih := rds_things h2
    refine ⟨by simp [ih.1], fun i t e => ?_⟩
    cases i with
    | zero =>
      simp at e; subst e
      obtain ⟨b, ws, n, t1, t2, rfl, e1, rfl⟩ := pair_at h1
      exact ⟨b, n, t1, t2, rfl, e1⟩
    | succ i =>
      obtain ⟨b, n, t1, t2, q1, q2⟩ := ih.2 i t (by simpa using e)
      exact ⟨b, n, t1, t2, by simpa using q1, q2⟩
section
variable {F : Fx} {k : Nat} {m : Lo} {Q : V → Hp → Prop} {X : Value → Hp → Shared → Prop} {σ : Hp}
theorem bc_sorted {a : V} {ts : List T} (ok : F.Ok (k + 1)) (ha : asL σ a = some (ts.map tD)) (hn : ts.Nodup) (h64 : ts.length < 64) (q : ∀ a, σ a = none → Q (.ref a) (σ.set a ((srt ts).map tD))) : BC F m (.builtin "sorted") [a] Q X σ := fun s vs st r => by
  obtain ⟨v, rfl, r1⟩ := r.one
  obtain ⟨b, vs, n, rfl, e1, e2⟩ := asL_at st.gs r1 ha
  have ht := rds_things e2
  have hlen := e2.length
  refine sorted_pairs (ts := ts) (by show F.A.units + 1 + 1 < _; exact ok.deep (n := 2) (by lia  )) ⟨_, e1, rfl, n, rfl⟩ ht hn (by rw [hlen, List.length_map]; exact h64) fun p hp hs => ?_
  obtain ⟨e, he⟩ := sortedAll_at s.heap vs (List.toArray (p.toList.map fun i => vs.getD i Value.none))
  have hperm : (p.toList.map fun i => ts.getD i (0, 0)) = srt ts := by
    refine srt_unique hn ?_ ?_
    · rw [List.pairwise_iff_getElem]
      intro i j hi hj hij
      rw [List.length_map, Array.length_toList] at hi hj
      have := hs i j hij (by rw [← hp.size]; exact hj)
      rw [att_eq hi, att_eq hj, tltB_iff] at this
      simpa using this
    · refine (hp.list.map _).trans ?_
      have : (List.range ts.length).map (fun i => ts.getD i (0, 0)) = ts := by
        refine List.ext_getElem? fun i => ?_
        simp only [List.getElem?_map, List.getElem?_range]
        by_cases hi : i < ts.length
        · simp [hi, List.getD_eq_getElem?_getD]
        · simp [hi]
      rw [this]
  have r2 : RDs s.heap σ ((srt ts).map tD) (p.toList.map fun i => vs.getD i Value.none) := by
    rw [← hperm, List.map_map]
    refine rds_of_get (by simp) fun i d v h1 h2 => ?_
    rw [List.getElem?_map] at h1 h2
    obtain ⟨j, hj, rfl⟩ := Option.map_eq_some_iff.mp h1
    rw [hj] at h2
    simp only [Option.map_some, Option.some.injEq] at h2
    subst h2
    have hj' : j < ts.length := List.mem_range.mp (hp.list.mem_iff.mp (List.mem_of_getElem? hj))
    obtain ⟨w, w1, w2⟩ := e2.get j (p := tD ts[j]) (by rw [List.getElem?_map, List.getElem?_eq_getElem hj']; rfl)
    have : vs.getD j Value.none = w := by rw [List.getD_eq_getElem?_getD, w1]; rfl
    rw [this]
    have : (tD ∘ fun i => ts.getD i (0, 0)) j = tD ts[j] := by
      show tD (ts.getD j (0, 0)) = _
      rw [List.getD_eq_getElem?_getD, List.getElem?_eq_getElem hj']; rfl
    rw [this]; exact w2
  have hnone : s.heap.get? (s.heap.objs.size + 1) = none := Heap.get?_none_of_le (Nat.le_succ _)
  obtain ⟨st', ev'⟩ := st.newAt (t := s.toks) (fun b o e => sortedAll_old e) hnone he r2
  exact ⟨.ref (s.heap.objs.size + 1), _, ev', st', vr_ref, q _ (st.gs.none_ge (Nat.le_succ _))⟩
end
theorem Hp.only_self {σ : Hp} : Hp.only σ σ = σ := by
  funext b
  unfold Hp.only
  cases hq : σ b <;> simp
/-- the lists of σ₀ are as they were -/
noncomputable def Ag (σ₀ σ : Hp) : Prop := ∀ b x, σ₀ b = some x → σ b = some x
theorem Ag.refl {σ : Hp} : Ag σ σ := fun _ _ h => h
theorem Ag.new {σ₀ σ : Hp} (h : Ag σ₀ σ) {a : Addr} (ha : σ a = none) : σ₀ a = none := by
  cases hq : σ₀ a with
  | none => rfl
  | some x => rw [h a x hq] at ha; cases ha
theorem Ag.set {σ₀ σ : Hp} (h : Ag σ₀ σ) {a : Addr} {ds : List D} (ha : σ₀ a = none) : Ag σ₀ (σ.set a ds) := fun b x hb =>
  (Hp.set_ne _ _ fun q => by rw [q, ha] at hb; cases hb).trans (h b x hb)
theorem Ag.only {σ₀ σ : Hp} (h : Ag σ₀ σ) : Hp.only σ₀ σ = σ₀ := by
  funext b
  unfold Hp.only
  cases hq : σ₀ b with
  | none => simp
  | some x => simp [h b x hq]
theorem Hp.set_comm {σ : Hp} {a b : Addr} {x y : List D} (h : a ≠ b) : (σ.set a x).set b y = (σ.set b y).set a x := by
  funext c
  unfold Hp.set
  by_cases h1 : c = a <;> by_cases h2 : c = b
  · exact absurd (h1.symm.trans h2) h
  all_goals simp [h1, h2]
  all_goals simp [h1, h2, h, Ne.symm h]
theorem Hp.set_under {σ : Hp} {a b : Addr} {x y z : List D} (h : a ≠ b) : ((σ.set a x).set b y).set a z = (σ.set a z).set b y := by
  rw [Hp.set_comm h, Hp.set_set, Hp.set_comm h.symm]
theorem asL_set {σ : Hp} {v : V} {ds es : List D} {a : Addr} (h : asL σ v = some ds) (ha : σ a = none) : asL (σ.set a es) v = some ds := by
  cases v with
  | ref b =>
    simp only [asL] at h ⊢
    rw [Hp.set_ne _ _ fun q => by rw [q, ha] at h; cases h]; exact h
  | d p =>
    cases p with
    | list es => exact h
    | _ => simp [asL] at h
  | tup l => simp [asL] at h
  | lst l => simp [asL] at h
  | rng a b => simp [asL] at h
  | obj v => simp [asL] at h
theorem asL_ag {σ₀ σ : Hp} {v : V} {ds : List D} (h : asL σ₀ v = some ds) (ha : Ag σ₀ σ) : asL σ v = some ds := by
  cases v with
  | ref b => exact ha b ds h
  | d p =>
    cases p with
    | list es => exact h
    | _ => simp [asL] at h
  | tup l => simp [asL] at h
  | lst l => simp [asL] at h
  | rng a b => simp [asL] at h
  | obj v => simp [asL] at h
theorem rdv_asL {σ : Hp} {v : V} {ds : List D} (h : asL σ v = some ds) : rdv σ v = some (.list ds) := by
  cases v with
  | ref b => simp only [asL] at h; simp only [rdv, h]
  | d p =>
    cases p with
    | list es => simp only [asL] at h; cases h; simp only [rdv]
    | _ => simp [asL] at h
  | tup l => simp [asL] at h
  | lst l => simp [asL] at h
  | rng a b => simp [asL] at h
  | obj v => simp [asL] at h
/-- items that <, > and == tell apart -/
structure CmpOk {α : Type} [DecidableEq α] (toD : α → D) (lt : α → α → Prop) [DecidableRel lt] : Prop where
  ltV : ∀ {F : Fx} {k : Nat} {m : Lo} {Q : V → Hp → Prop} {X : Value → Hp → Shared → Prop} {σ : Hp} {a b : α}, F.Ok (k + 1) → Q (.d (.bool (decide (lt a b)))) σ → CV F m .Lt (.d (toD a)) (.d (toD b)) Q X σ
  gtV : ∀ {F : Fx} {k : Nat} {m : Lo} {Q : V → Hp → Prop} {X : Value → Hp → Shared → Prop} {σ : Hp} {a b : α}, F.Ok (k + 1) → Q (.d (.bool (decide (lt b a)))) σ → CV F m .Gt (.d (toD a)) (.d (toD b)) Q X σ
  eqV : ∀ {F : Fx} {k : Nat} {m : Lo} {Q : V → Hp → Prop} {X : Value → Hp → Shared → Prop} {σ : Hp} {a b : α}, F.Ok (k + 1) → Q (.d (.bool (decide (a = b)))) σ → CV F m .Eq (.d (toD a)) (.d (toD b)) Q X σ
  trans : ∀ {a b c : α}, lt a b → lt b c → lt a c
  irrefl : ∀ a : α, ¬ lt a a
  total : ∀ {a b : α}, a ≠ b → lt a b ∨ lt b a
theorem tD_eqv (a b : T) : PyData.eqv (tD a) (tD b) = decide (a = b) := by
  obtain ⟨a1, a2⟩ := a
  obtain ⟨b1, b2⟩ := b
  simp only [PyData.eqv, PyData.eqvAll, Bool.and_true, Prod.mk.injEq]
  by_cases h1 : a1 = b1 <;> by_cases h2 : a2 = b2 <;> simp [h1, h2]
theorem cmpOk_things : CmpOk tD tlt where
  ltV ok q := cv_ltP ok q
  gtV ok q := cv_gtP ok q
  eqV ok q := cv_eqD ok rfl rfl rfl rfl (by simp only [tD, thing, PyData.depth, PyData.depthAll]; decide) (by rw [tD_eqv]; exact q)
  trans := tlt_trans
  irrefl := tlt_irrefl
  total := tlt_total
/-- the items of xs that are not in ys -/
noncomputable def dif {α : Type} [DecidableEq α] (xs ys : List α) : List α := xs.filter (fun x => decide (x ∉ ys))
section
variable {α : Type} [DecidableEq α] {lt : α → α → Prop}
/-- where sorted_list_difference stands -/
structure SlInv (lt : α → α → Prop) (xs ys : List α) (i j : Nat) (M U : List α) : Prop where
  i_le : i ≤ xs.length
  j_le : j ≤ ys.length
  miss : M = (xs.take i).filter (fun x => decide (x ∉ ys))
  unex : U = (ys.take j).filter (fun y => decide (y ∉ xs))
  lo : ∀ x ∈ xs.take i, ∀ y ∈ ys.drop j, lt x y
  hi : ∀ y ∈ ys.take j, ∀ x ∈ xs.drop i, lt y x
theorem SlInv.start {xs ys : List α} : SlInv lt xs ys 0 0 [] [] :=
  ⟨Nat.zero_le _, Nat.zero_le _, by simp, by simp, fun x h => by simp at h, fun x h => by simp at h⟩
theorem take_succ_of {xs : List α} {i : Nat} {e : α} (h : xs[i]? = some e) : xs.take (i + 1) = xs.take i ++ [e] := by
  rw [List.take_add_one, h]; rfl
theorem drop_of {xs : List α} {i : Nat} {e : α} (h : xs[i]? = some e) : xs.drop i = e :: xs.drop (i + 1) := by
  obtain ⟨h1, rfl⟩ := List.getElem?_eq_some_iff.mp h
  exact List.drop_eq_getElem_cons h1
theorem mem_split_at {xs : List α} (i : Nat) {x : α} : x ∈ xs ↔ x ∈ xs.take i ∨ x ∈ xs.drop i := by
  conv => lhs; rw [← List.take_append_drop i xs]
  rw [List.mem_append]
theorem SlInv.lt_step {xs ys : List α} {i j : Nat} {M U : List α} {e a : α} (irr : ∀ a, ¬ lt a a) (tr : ∀ {a b c}, lt a b → lt b c → lt a c) (hx : xs.Pairwise lt) (hy : ys.Pairwise lt)
    (v : SlInv lt xs ys i j M U) (he : xs[i]? = some e) (ha : ys[j]? = some a) (h : lt e a) : SlInv lt xs ys (i + 1) j (M ++ [e]) U := by
  have hlt : i < xs.length := (List.getElem?_eq_some_iff.mp he).1
  have hd := drop_of he
  have hdy := drop_of ha
  have below : ∀ y ∈ ys.drop j, lt e y := fun y hm => by
    rw [hdy] at hm
    rcases List.mem_cons.mp hm with rfl | hm
    · exact h
    · have hp := hy.drop (i := j)
      rw [hdy] at hp
      exact tr h ((List.pairwise_cons.mp hp).1 y hm)
  have hn : e ∉ ys := fun hm => by
    rcases (mem_split_at j).mp hm with q | q
    · exact irr e (v.hi e q e (by rw [hd]; exact List.mem_cons_self))
    · exact irr e (below e q)
  refine ⟨hlt, v.j_le, ?_, v.unex, fun x hm y hm' => ?_, fun y hm x hm' => v.hi y hm x (by rw [hd]; exact List.mem_cons_of_mem _ hm')⟩
  · rw [take_succ_of he, List.filter_append, ← v.miss]
    simp [hn]
  · rw [take_succ_of he] at hm
    rcases List.mem_append.mp hm with q | q
    · exact v.lo x q y hm'
    · obtain rfl := List.mem_singleton.mp q; exact below y hm'
theorem SlInv.gt_step {xs ys : List α} {i j : Nat} {M U : List α} {e a : α} (irr : ∀ a, ¬ lt a a) (tr : ∀ {a b c}, lt a b → lt b c → lt a c) (hx : xs.Pairwise lt) (hy : ys.Pairwise lt)
    (v : SlInv lt xs ys i j M U) (he : xs[i]? = some e) (ha : ys[j]? = some a) (h : lt a e) : SlInv lt xs ys i (j + 1) M (U ++ [a]) := by
  have w : SlInv lt ys xs j i U M := ⟨v.j_le, v.i_le, v.unex, v.miss, v.hi, v.lo⟩
  have := w.lt_step irr tr hy hx ha he h
  exact ⟨this.j_le, this.i_le, this.unex, this.miss, this.hi, this.lo⟩
theorem SlInv.eq_step {xs ys : List α} {i j : Nat} {M U : List α} {e : α} (hx : xs.Pairwise lt) (hy : ys.Pairwise lt)
    (v : SlInv lt xs ys i j M U) (he : xs[i]? = some e) (ha : ys[j]? = some e) : SlInv lt xs ys (i + 1) (j + 1) M U := by
  have hlt : i < xs.length := (List.getElem?_eq_some_iff.mp he).1
  have hlt' : j < ys.length := (List.getElem?_eq_some_iff.mp ha).1
  have hd := drop_of he
  have hdy := drop_of ha
  have m1 : e ∈ xs := List.mem_of_getElem? he
  have m2 : e ∈ ys := List.mem_of_getElem? ha
  refine ⟨hlt, hlt', ?_, ?_, fun x hm y hm' => ?_, fun y hm x hm' => ?_⟩
  · rw [take_succ_of he, List.filter_append, ← v.miss]; simp [m2]
  · rw [take_succ_of ha, List.filter_append, ← v.unex]; simp [m1]
  · rw [take_succ_of he] at hm
    rcases List.mem_append.mp hm with q | q
    · exact v.lo x q y (by rw [hdy]; exact List.mem_cons_of_mem _ hm')
    · obtain rfl := List.mem_singleton.mp q
      have hp := hy.drop (i := j)
      rw [hdy] at hp
      exact (List.pairwise_cons.mp hp).1 y hm'
  · rw [take_succ_of ha] at hm
    rcases List.mem_append.mp hm with q | q
    · exact v.hi y q x (by rw [hd]; exact List.mem_cons_of_mem _ hm')
    · obtain rfl := List.mem_singleton.mp q
      have hp := hx.drop (i := i)
      rw [hd] at hp
      exact (List.pairwise_cons.mp hp).1 x hm'
theorem SlInv.fin {xs ys : List α} {i j : Nat} {M U : List α} (irr : ∀ a, ¬ lt a a) (v : SlInv lt xs ys i j M U) (h : i = xs.length ∨ j = ys.length) :
    M ++ xs.drop i = xs.filter (fun x => decide (x ∉ ys)) ∧ U ++ ys.drop j = ys.filter (fun y => decide (y ∉ xs)) := by
  have e1 : ∀ {zs : List α} (n : Nat) (p : α → Bool), zs.filter p = (zs.take n).filter p ++ (zs.drop n).filter p := fun n p => by
    rw [← List.filter_append, List.take_append_drop]
  have all : ∀ {zs : List α} {p : α → Bool}, (∀ z ∈ zs, p z = true) → zs.filter p = zs := fun h => List.filter_eq_self.mpr h
  rcases h with rfl | rfl
  · refine ⟨by rw [v.miss]; simp, ?_⟩
    rw [e1 j, ← v.unex, all fun z hz => ?_]
    simp only [decide_eq_true_eq]
    intro hm
    exact irr z (v.lo z (by rw [List.take_length]; exact hm) z hz)
  · refine ⟨?_, by rw [v.unex]; simp⟩
    rw [e1 i, ← v.miss, all fun z hz => ?_]
    simp only [decide_eq_true_eq]
    intro hm
    exact irr z (v.hi z (by rw [List.take_length]; exact hm) z hz)
theorem next_ne {xs : List α} (irr : ∀ a, ¬ lt a a) (hx : xs.Pairwise lt) {i : Nat} {e e' : α} (h1 : xs[i]? = some e) (h2 : xs[i + 1]? = some e') : ¬ e' = e := by
  rintro rfl
  obtain ⟨a1, a2⟩ := List.getElem?_eq_some_iff.mp h1
  obtain ⟨b1, b2⟩ := List.getElem?_eq_some_iff.mp h2
  have := List.pairwise_iff_getElem.mp hx i (i + 1) a1 b1 (Nat.lt_succ_self _)
  rw [a2, b2] at this
  exact irr _ this
end
section
variable {F : Fx} {k : Nat} {m : Lo} {σ : Hp} {pos : Pos}
theorem sb_item {α : Type} {xs : List α} {toD : α → D} {value slice : Expr} {a : V} {i : Nat} {Q : V → Hp → Prop} {X : Value → Hp → Shared → Prop} (ha : asL σ a = some (xs.map toD)) (hz : xs.length < 2 ^ 20) (hi : i < 2 ^ 20) (hh : HOk F)
    (h1 : ∀ e, xs[i]? = some e → Q (.d (toD e)) σ) (h2 : xs.length ≤ i → ∀ e s, Xm F.base σ "list index out of range" (ctxOf F.A) e s → X e σ s) (hs : ∀ o i, subscripted slice false o i = operate [o, i] (getItem o i)) :
    SB F m value slice a (.d (.int (i : Int))) Q X σ := by
  cases he : xs[i]? with
  | some e => exact sb_list ha (by rw [List.length_map]; lia  ) (Int.natCast_nonneg i) (by rw [Int.toNat_natCast, List.getElem?_map, he]; rfl) (h1 e he) hs
  | none =>
    have hle : xs.length ≤ i := by simpa using he
    exact sb_out ha (by rw [List.length_map]; lia  ) (by rw [List.length_map]; lia  ) (by lia  ) hh (h2 hle) hs
/-- a while whose test is false, or raises -/
theorem ex_whileF (hcm : F.comp = false) {test : Expr} {body : List Stmt} {msg : Str} {c : Bool} {P : Lo → Hp → Prop} {Q : Fl → Lo → Hp → Prop} (ok : F.Ok k)
    (h : TS F test m (fun b σ' => b = false ∧ Q .next m σ') (fun e => XI F msg c P e m) σ) : EX F (.While test body [] pos) m Q (XI F msg c P) σ := by
  refine ex_whileX hcm ok (fun _ m' σ' => m' = m ∧ σ' = σ) 0 ⟨rfl, rfl⟩ ?_
  rintro n m' σ' ⟨rfl, rfl⟩
  intro s st
  refine wpAny_mono (h s st) (fun b s' ⟨σ₁, e1, st1, hb, q⟩ => ⟨σ₁, e1, st1, ?_⟩) fun _ _ x => x
  subst hb
  simp only [Bool.false_eq_true, if_false]
  exact ex_nil q
end
theorem sl_from {ds : List D} {i : Nat} (h : i ≤ ds.length) : sl ds (some (i : Int)) none = ds.drop i := by
  have hc : clipAt ds.length (i : Int) = i := by
    unfold clipAt
    repeat' split
    all_goals omega
  simp only [sl, Option.elim, hc]
  rw [List.take_of_length_le (by simp)]
theorem sl_to {ds : List D} {i : Nat} : sl ds none (some (i : Int)) = ds.take i := by
  have hc : clipAt ds.length (i : Int) = min i ds.length := by
    unfold clipAt
    repeat' split
    all_goals omega
  simp only [sl, Option.elim, hc, List.drop_zero, Nat.sub_zero]
  rw [List.take_eq_take_iff]
  simp
section
variable {F : Fx} {k : Nat} {m : Lo} {σ : Hp} {pos p : Pos}
theorem itx_genF {fn nm : Str} {es : List Expr} {fa : Addr} {ps : Arguments} {bd : List Stmt} {sc : Scope} {j : Nat} {target : Expr} {K : List V → Hp → Prop} (ok : F.Ok k) (hjk : j + 1 ≤ k) (hl : F.env.kindOf fn = some .globalImplicit) (hG : F.G fn = some (.ref fa)) (hf : Fn F.cc nm ps bd sc fa) (hd : (fn == ("__debug__" : Str)) = false)
    (hh : F.A.handled = none) (hst : starEach es F.env = es.map fun e => (false, eval e F.env))
    (h : EVL F es m (fun as σ₁ => ∃ us, GL F.cc j fa as us σ₁ ∧ K (us.map fun u => .d (uD u)) σ₁) (fun _ _ _ => False) σ) : ITX F (.Call (.Name fn p) es [] pos) target m K σ := by
  obtain ⟨o, pm, cd, doc, ho, hdat, _⟩ := hf.at_
  exact itx_gen ok hjk hl hG ho hdat hd hh hst h
theorem at_two {n1 n2 : Str} {p1 p2 : Pos} {a : V} {v1 v2 : V} {j : Nat} {K : Lo → Hp → Prop} (ok : F.Ok k) (hh : F.A.handled = none) (b1 : Bound F n1) (b2 : Bound F n2) (ha : asT a = some [v1, v2]) (h : K ((m.put n1 v1).put n2 v2) σ) : AT F (.Tuple [.Name n1 p1, .Name n2 p2] j pos) a m K σ :=
  at_tuple hh ha rfl rfl (at_name ok b1 (at_name ok b2 h))
end
noncomputable def mkS (l : List Nat) : Str := ⟨l.toArray⟩
theorem mkS_toList (l : List Nat) : (mkS l).cps.toList = l := by simp [mkS]
theorem mkS_of (y : Str) : mkS y.cps.toList = y := by cases y; simp [mkS]
theorem mkS_append (a b : List Nat) : mkS a ++ mkS b = mkS (a ++ b) := by
  show (⟨_⟩ : Str) = _
  simp [mkS]
theorem mkS_length (l : List Nat) : (mkS l).length = l.length := by
  show (List.toArray l).size = _; simp
theorem slice_mid {x : Str} {a b : Nat} (h1 : a ≤ b) (h2 : b ≤ x.cps.toList.length) : Txt.slice x (some (a : Int)) (some (b : Int)) = mkS ((x.cps.toList.drop a).take (b - a)) := by
  have := slice_closes (x := x) (i := a) (j := b) ⟨by lia  , by lia  , by lia  ⟩
  rw [eq_of_beq this]
  unfold mkS
  congr 3
  lia
theorem slice_from {x : Str} {a : Nat} (h1 : a ≤ x.cps.toList.length) : Txt.slice x (some (a : Int)) none = mkS (x.cps.toList.drop a) := by
  have := slice_closes_from (x := x) (i := a) ⟨by lia  , by lia  ⟩
  rw [eq_of_beq this]
  unfold mkS
  congr 1
  rw [Int.toNat_natCast, List.take_of_length_le]
  rw [List.length_drop]; lia
theorem join_empty (ls : List (List Nat)) : Txt.join "" (ls.map mkS) = mkS ls.flatten := by
  unfold Txt.join Builtin.Str.glued
  have key : ∀ (r : List (List Nat)) (acc : List Nat), (r.map mkS).foldl (fun (acc : Array Nat) (p : Str) => acc ++ (Str.ofString "").cps ++ p.cps) (List.toArray acc) = List.toArray (acc ++ r.flatten) := fun r => by
    induction r with
    | nil => intro acc; simp
    | cons x r ih =>
      intro acc
      rw [List.map_cons, List.foldl_cons]
      have e : List.toArray acc ++ (Str.ofString "").cps ++ (mkS x).cps = List.toArray (acc ++ x) := by
        have : (Str.ofString "").cps = #[] := rfl
        rw [this]; simp [mkS]
      rw [e, ih]; simp
  cases ls with
  | nil => rfl
  | cons x r =>
    have := key r x
    show (⟨_⟩ : Str) = _
    simp only [List.map_cons, List.drop_succ_cons, List.drop_zero, List.headD_cons]
    rw [show (mkS x).cps = List.toArray x from rfl, this]
    simp [mkS]
theorem escU_bd : ∀ (l : List Nat) (i : Nat) (b : Bool) (u : Int × Str), u ∈ escU l i b → (b = false → (i : Int) ≤ u.1) ∧ (i : Int) - 1 ≤ u.1 ∧ u.1 < (i : Int) + l.length
  | [], i, false, u, h => by simp [escU] at h
  | [], i, true, u, h => by
    simp only [escU, List.mem_singleton] at h; subst h
    exact ⟨(fun q => (nomatch q)), Int.le_refl _, by simp; lia  ⟩
  | c :: r, i, true, u, h => by
    simp only [escU, List.mem_cons] at h
    rcases h with rfl | h
    · exact ⟨(fun q => (nomatch q)), by simp; lia  , by simp; lia  ⟩
    · obtain ⟨h1, h2, h3⟩ := escU_bd r (i + 1) false u h
      have := h1 rfl
      exact ⟨(fun q => (nomatch q)), by lia  , by simp; lia  ⟩
  | c :: r, i, false, u, h => by
    simp only [escU] at h
    split at h
    · obtain ⟨h1, h2, h3⟩ := escU_bd r (i + 1) true u h
      exact ⟨fun _ => by lia  , by lia  , by simp; lia  ⟩
    · rcases List.mem_cons.mp h with rfl | h
      · exact ⟨fun _ => Int.le_refl _, by simp; lia  , by simp; lia  ⟩
      · obtain ⟨h1, h2, h3⟩ := escU_bd r (i + 1) false u h
        have := h1 rfl
        exact ⟨fun _ => by lia  , by lia  , by simp; lia  ⟩
theorem escU_lt : ∀ (l : List Nat) (i : Nat) (b : Bool), (escU l i b).Pairwise fun u v => u.1 < v.1
  | [], i, false => by simp [escU]
  | [], i, true => by simp [escU]
  | c :: r, i, true => by
    simp only [escU, List.pairwise_cons]
    exact ⟨fun u hu => by have := (escU_bd r (i + 1) false u hu).1 rfl; simp; omega, escU_lt r (i + 1) false⟩
  | c :: r, i, false => by
    simp only [escU]
    split
    · exact escU_lt r (i + 1) true
    · rw [List.pairwise_cons]
      exact ⟨fun u hu => by have := (escU_bd r (i + 1) false u hu).1 rfl; simp; omega, escU_lt r (i + 1) false⟩
theorem escU_len : ∀ (l : List Nat) (i : Nat) (b : Bool), (escU l i b).length ≤ l.length + (if b then 1 else 0)
  | [], i, false => by simp [escU]
  | [], i, true => by simp [escU]
  | c :: r, i, true => by
    have := escU_len r (i + 1) false
    simp [escU] at *; lia
  | c :: r, i, false => by
    simp only [escU]
    split
    · have := escU_len r (i + 1) true
      simp at *; omega
    · have := escU_len r (i + 1) false
      simp at *; omega
/-- the marks of quotes -/
noncomputable abbrev qS : Str := ⟨#[34]⟩
structure SqSt where
  start : Nat
  opn : Option Nat
  out : List (List Nat)
noncomputable def sqStep (y : List Nat) (st : SqSt) (u : Int × Str) : SqSt :=
  if u.2 = qS then match st.opn with
    | none => ⟨st.start, some u.1.toNat, st.out⟩
    | some o => ⟨u.1.toNat + 1, none, if st.start ≠ o then st.out ++ [(y.drop st.start).take (o - st.start)] else st.out⟩
  else st
noncomputable def sqFold (y : List Nat) (us : List (Int × Str)) : SqSt := us.foldl (sqStep y) ⟨0, none, []⟩
noncomputable def sqEnd (y : List Nat) (st : SqSt) : List Nat := (if st.start < y.length then st.out ++ [y.drop st.start] else st.out).flatten
noncomputable def stripQ (y : List Nat) : List Nat := sqEnd y (sqFold y (escU y 0 false))
structure SqOk (y : List Nat) (rest : List (Int × Str)) (n : Nat) (st : SqSt) : Prop where
  le : ∀ u ∈ rest, (st.start : Int) ≤ u.1
  top : st.start ≤ y.length
  op : ∀ o, st.opn = some o → st.start ≤ o ∧ o < y.length ∧ ∀ v ∈ rest, (o : Int) < v.1
  sz : st.out.length ≤ n
  tot : st.out.flatten.length ≤ st.start
theorem SqOk.start {y : List Nat} : SqOk y (escU y 0 false) 0 ⟨0, none, []⟩ :=
  ⟨fun u hu => by have := (escU_bd y 0 false u hu).1 rfl; simpa using this, Nat.zero_le _, fun o h => (nomatch h), Nat.zero_le _, Nat.zero_le _⟩
theorem SqOk.step {y : List Nat} {u : Int × Str} {rest : List (Int × Str)} {n : Nat} {st : SqSt} (h : SqOk y (u :: rest) n st) (hu : u.1 < y.length) (hp : ∀ v ∈ rest, u.1 < v.1) : SqOk y rest (n + 1) (sqStep y st u) := by
  have h0 := h.le u List.mem_cons_self
  have ht := h.top
  have hz := h.sz
  have htt := h.tot
  unfold sqStep
  split
  · cases ho : st.opn with
    | none =>
      refine ⟨fun v hv => h.le v (List.mem_cons_of_mem _ hv), h.top, fun o q => ?_, Nat.le_succ_of_le h.sz, h.tot⟩
      cases q
      exact ⟨by show st.start ≤ u.1.toNat; lia  , by lia  , fun v hv => by have := hp v hv; lia  ⟩
    | some o =>
      obtain ⟨h1, h2, h3⟩ := h.op o ho
      have h4 := h3 u List.mem_cons_self
      refine ⟨fun v hv => by have := hp v hv; show ((u.1.toNat + 1 : Nat) : Int) ≤ v.1; lia  , by show u.1.toNat + 1 ≤ _; lia  , fun o q => (nomatch q), ?_, ?_⟩
      · show (if st.start ≠ o then _ else _ : List (List Nat)).length ≤ _
        split
        · simp; omega
        · lia
      · show (if st.start ≠ o then _ else _ : List (List Nat)).flatten.length ≤ u.1.toNat + 1
        split
        · rw [List.flatten_append, List.length_append]
          simp only [List.flatten_cons, List.flatten_nil, List.append_nil, List.length_take, List.length_drop]
          lia
        · lia
  · exact ⟨fun v hv => h.le v (List.mem_cons_of_mem _ hv), h.top, fun o q => let ⟨a, b, c⟩ := h.op o q; ⟨a, b, fun v hv => c v (List.mem_cons_of_mem _ hv)⟩, Nat.le_succ_of_le h.sz, h.tot⟩
theorem SqOk.at_ {y : List Nat} : ∀ (n : Nat), n ≤ (escU y 0 false).length → SqOk y ((escU y 0 false).drop n) n (sqFold y ((escU y 0 false).take n))
  | 0, _ => by simpa [sqFold] using SqOk.start (y := y)
  | n + 1, h => by
    have ih := SqOk.at_ n (Nat.le_of_succ_le h)
    have hd := List.drop_eq_getElem_cons (i := n) h
    rw [hd] at ih
    have hm : (escU y 0 false)[n] ∈ escU y 0 false := List.getElem_mem h
    have hpw := (escU_lt y 0 false).drop (i := n)
    rw [hd, List.pairwise_cons] at hpw
    have := ih.step (by have := (escU_bd y 0 false _ hm).2.2; lia  ) hpw.1
    unfold sqFold at this ⊢
    rw [List.take_succ_eq_append_getElem h, List.foldl_append]
    exact this
theorem sqFold_succ {y : List Nat} {us : List (Int × Str)} {n : Nat} {u : Int × Str} (h : us[n]? = some u) : sqFold y (us.take (n + 1)) = sqStep y (sqFold y (us.take n)) u := by
  unfold sqFold
  rw [take_succ_of h, List.foldl_append]; rfl
theorem escU_noquote : ∀ (l : List Nat) (i : Nat) (b : Bool), 34 ∉ l → ∀ u ∈ escU l i b, u.2 ≠ qS
  | [], i, false, _, u, h => by simp [escU] at h
  | [], i, true, _, u, h => by
    simp only [escU, List.mem_singleton] at h; subst h
    show (⟨#[92]⟩ : Str) ≠ qS
    decide
  | c :: r, i, true, hn, u, h => by
    simp only [escU, List.mem_cons] at h
    rcases h with rfl | h
    · intro q
      have := congrArg (fun s : Str => s.cps.size) q
      simp at this
    · exact escU_noquote r (i + 1) false (fun q => hn (List.mem_cons_of_mem _ q)) u h
  | c :: r, i, false, hn, u, h => by
    simp only [escU] at h
    split at h
    · exact escU_noquote r (i + 1) true (fun q => hn (List.mem_cons_of_mem _ q)) u h
    · rcases List.mem_cons.mp h with rfl | h
      · intro q
        have : c = 34 := by simpa using congrArg Str.cps q
        exact hn (by rw [this]; exact List.mem_cons_self)
      · exact escU_noquote r (i + 1) false (fun q => hn (List.mem_cons_of_mem _ q)) u h
theorem stripQ_none {y : List Nat} (h : 34 ∉ y) : stripQ y = y := by
  have key : ∀ us : List (Int × Str), (∀ u ∈ us, u.2 ≠ qS) → ∀ st, us.foldl (sqStep y) st = st := fun us => by
    induction us with
    | nil => exact fun _ _ => rfl
    | cons u r ih =>
      intro hu st
      rw [List.foldl_cons]
      have : sqStep y st u = st := by unfold sqStep; rw [if_neg (hu u List.mem_cons_self)]
      rw [this]; exact ih (fun v hv => hu v (List.mem_cons_of_mem _ hv)) st
  unfold stripQ sqFold
  rw [key _ (escU_noquote y 0 false h)]
  unfold sqEnd
  cases y with
  | nil => rfl
  | cons c r => simp
noncomputable def opV : Option Nat → V
  | none => .d .none
  | some o => .d (.int (o : Int))
noncomputable def SqI (y : Str) (R : Addr) (σ : Hp) (st : SqSt) (m' : Lo) (σ' : Hp) : Prop :=
  m' "addr" = some (.d (.str y)) ∧ m' "start" = some (.d (.int (st.start : Int))) ∧ m' "open_pos" = some (opV st.opn) ∧ m' "result" = some (.ref R) ∧ σ' = σ.set R ((st.out.map mkS).map .str)
theorem mkS_strs (l : List (List Nat)) (x : List Nat) : (l.map mkS).map (PyData.str) ++ [.str (mkS x)] = ((l ++ [x]).map mkS).map .str := by simp
noncomputable def chk : List Str → Int → Bool
  | [], n => n == 0
  | u :: r, n => if u == Str.ofString "(" then chk r (n + 1) else if u == Str.ofString ")" then (if n - 1 < 0 then false else chk r (n - 1)) else chk r n
noncomputable def unitsOf (y : List Nat) : List (Int × Str) := escU (stripQ y) 0 false
theorem stripQ_len (y : List Nat) : (stripQ y).length ≤ y.length := by
  have so := SqOk.at_ (y := y) _ (Nat.le_refl _)
  rw [List.take_length] at so
  unfold stripQ
  generalize sqFold y (escU y 0 false) = st at *
  have h1 := so.tot
  have h2 := so.top
  unfold sqEnd
  split
  · simp only [List.flatten_append, List.length_append, List.flatten_cons, List.flatten_nil, List.append_nil, List.length_drop]; lia
  · lia
section
variable {F : Fx} {k : Nat} {m : Lo} {σ : Hp} {s : Shared} {x : Str}
/-- a name's list is to be changed no more -/
theorem exs_freeze {y : Str} {D : Addr} {ds : List PyData} {sts : List Stmt} {Q : Fl → Lo → Hp → Prop} {X : XE} (hm : m y = some (.ref D)) (hD : σ D = some ds) (h : EXs F sts (m.put y (.d (.list ds))) Q X (σ.drop D)) : EXs F sts m Q X σ := fun s st => by
  have kq := seqKept_drop σ D s.heap
  have st1 := st.drop D
  obtain ⟨_, vs, n, g1, g2⟩ := st.gs.lists D ds hD
  have new : ∀ v, VR s.heap σ (.ref D) v → VR s.heap (σ.drop D) (.d (.list ds)) v := fun v r => by
    obtain rfl := r.ref
    simp only [VR, RD]
    exact ⟨D, vs, n, rfl, g1, Hp.drop_same _ _, g2.mono kq⟩
  have st2 : St F (σ.drop D) (m.put y (.d (.list ds))) s := by
    refine ⟨st1.gs, ⟨?_, fun x ca hc => ?_, st1.lr.cellsAll⟩⟩
    · obtain ⟨mc, h1, h2⟩ := st.lr.ns
      refine ⟨mc, h1, fun x a hk hx => ?_⟩
      by_cases q : x = y
      · subst q; rw [Lo.put_same] at hx; cases hx
        obtain ⟨v, e1, e2⟩ := h2 x _ hk hm
        exact ⟨v, e1, new v e2⟩
      · rw [Lo.put_ne _ _ q] at hx
        obtain ⟨v, e1, e2⟩ := h2 x a hk hx
        exact ⟨v, e1, e2.mono kq⟩
    · obtain ⟨o, ov, h1, h2, h3⟩ := st.lr.cells x ca hc
      refine ⟨o, ov, h1, h2, fun a hx => ?_⟩
      by_cases q : x = y
      · subst q; rw [Lo.put_same] at hx; cases hx
        obtain ⟨v, e1, e2⟩ := h3 _ hm
        exact ⟨v, e1, new v e2⟩
      · rw [Lo.put_ne _ _ q] at hx
        obtain ⟨v, e1, e2⟩ := h3 a hx
        exact ⟨v, e1, e2.mono kq⟩
  exact (h s st2).lift (Ev.drop D)
end
theorem ev_step {F : Fx} {m : Lo} {σ : Hp} {e : Expr} {Q : V → Hp → Prop} {X : Value → Hp → Shared → Prop} (a₀ : V) (h1 : EV F e m (fun a σ' => a = a₀ ∧ σ' = σ) X σ) (h2 : Q a₀ σ) : EV F e m Q X σ :=
  h1.mono fun a σ' ⟨e1, e2⟩ => by subst e1 e2; exact h2
theorem ev_neg {F : Fx} {m : Lo} {σ : Hp} {e : Expr} {pos : Pos} {Q : V → Hp → Prop} {X : Value → Hp → Shared → Prop} (h : EV F e m (fun a σ' => ∃ i : Int, a = .d (.int i) ∧ Q (.d (.int (-i))) σ') X σ) : EV F (.UnaryOp .USub e pos) m Q X σ := fun s st =>
  wpAny_UnaryOp ((h s st).seq Ev.refl fun v a σ₁ s₁ _ e1 st1 r1 ⟨i, ha, q⟩ => by
    subst ha
    obtain ⟨t, rfl⟩ := r1.int
    exact PySem.P.neg_int ⟨_, σ₁, e1.trans (Ev.toks _), st1.toks _, vr_int, q⟩)
/-- the texts' pieces -/
structure Tx where
  text : List Nat
  seen : List Nat
  guests : List T
  wishes : List Int
noncomputable def brk (i : Int) : List Nat := if i = 0 then [40] else [41]
noncomputable def quo2 (i : Int) : List Nat := if i = 0 then [34, 40, 34] else if i = 1 then [34, 41, 34] else [34, 92, 34, 41, 34]
noncomputable def let2 (i : Int) : List Nat := if i = 0 then [97] else [92, 34]
noncomputable def tx2 (st : Tx) (x : Int) : Tx :=
  if x.fmod 8 = 5 then { st with text := st.text ++ (92 :: brk ((x.fdiv 8).fmod 2)) }
  else if x.fmod 8 = 6 then { st with text := st.text ++ quo2 ((x.fdiv 8).fmod 3) }
  else if x.fmod 8 = 7 then { st with text := st.text ++ let2 ((x.fdiv 8).fmod 2) }
  else if x.fmod 8 > 2 then { st with text := st.text ++ [41], seen := st.seen ++ [41] }
  else if st.guests.length < 8 then ⟨st.text ++ [40], st.seen ++ [40], st.guests ++ [(if x.fmod 8 = 0 then x.fdiv 8 else (x.fdiv 8).fmod 3, (st.guests.length : Int))], st.wishes ++ [(st.seen.length : Int) - st.wishes.length]⟩
  else st
noncomputable def txFold2 (row : List Int) : Tx := row.foldl tx2 ⟨[], [], [], []⟩
theorem txFold2_succ {row : List Int} {i : Nat} {x : Int} (h : row[i]? = some x) : txFold2 (row.take (i + 1)) = tx2 (txFold2 (row.take i)) x := by
  unfold txFold2
  rw [take_succ_of h, List.foldl_append]; rfl
theorem quo2_len (i : Int) : (quo2 i).length ≤ 5 := by unfold quo2; split <;> (try split) <;> simp
theorem let2_len (i : Int) : (let2 i).length ≤ 5 := by unfold let2; split <;> simp
theorem brk_len (i : Int) : (brk i).length = 1 := by unfold brk; split <;> rfl
structure TxOk (n : Nat) (st : Tx) : Prop where
  text : st.text.length ≤ 5 * n
  seen : st.seen.length ≤ n
  guests : st.guests.length ≤ 8
  wishes : st.wishes.length = st.guests.length
theorem tx2_ok {n : Nat} {st : Tx} (h : TxOk n st) (x : Int) : TxOk (n + 1) (tx2 st x) := by
  obtain ⟨h1, h2, h3, h4⟩ := h
  unfold tx2
  have q1 := brk_len ((x.fdiv 8).fmod 2)
  have q2 := quo2_len ((x.fdiv 8).fmod 3)
  have q3 := let2_len ((x.fdiv 8).fmod 2)
  repeat' split
  all_goals constructor
  all_goals (try simp only [List.length_append, List.length_cons, List.length_nil])
  all_goals lia
theorem txFold2_ok (row : List Int) : ∀ i, TxOk i (txFold2 (row.take i))
  | 0 => ⟨by simp [txFold2], by simp [txFold2], by simp [txFold2], by simp [txFold2]⟩
  | i + 1 => by
    cases h : row[i]? with
    | some x => rw [txFold2_succ h]; exact tx2_ok (txFold2_ok row i) x
    | none =>
      have hl : row.length ≤ i := by simpa using h
      have ih := txFold2_ok row i
      rw [List.take_of_length_le hl] at ih
      rw [List.take_of_length_le (by lia  )]
      exact ⟨by have := ih.text; lia  , by have := ih.seen; lia  , ih.guests, ih.wishes⟩
noncomputable def TxI (G W : Addr) (σ : Hp) (st : Tx) (m' : Lo) (σ' : Hp) : Prop :=
  m' "text" = some (.d (.str (mkS st.text))) ∧ m' "seen" = some (.d (.str (mkS st.seen))) ∧ m' "guests" = some (.ref G) ∧ m' "wishes" = some (.ref W) ∧ Ag σ σ' ∧
    σ' G = some (st.guests.map tD) ∧ σ' W = some (st.wishes.map .int)
theorem fm2 (r : Int) : r.fmod 2 = 0 ∨ r.fmod 2 = 1 := by
  have h1 := Int.fmod_nonneg_of_pos r (b := 2) (by decide)
  have h2 := Int.fmod_lt_of_pos r (b := 2) (by decide)
  lia
theorem fm3 (r : Int) : r.fmod 3 = 0 ∨ r.fmod 3 = 1 ∨ r.fmod 3 = 2 := by
  have h1 := Int.fmod_nonneg_of_pos r (b := 3) (by decide)
  have h2 := Int.fmod_lt_of_pos r (b := 3) (by decide)
  lia
theorem brk_at (r : Int) : (Str.ofString "()").cps[(r.fmod 2).toNat]? = some (if r.fmod 2 = 0 then 40 else 41) := by
  rcases fm2 r with h | h <;> rw [h] <;> rfl
structure Pl where
  free : List Nat
  wait : Nat
  steps : Nat
  rooms : Nat
noncomputable def plStep (s : Pl) (c : Nat) : Pl :=
  if c = 40 then { s with wait := s.wait + 1 } else ⟨if s.wait = 0 then s.free ++ [s.rooms] else s.free, s.wait - 1, s.steps + (s.wait - 1), s.rooms + 1⟩
noncomputable def plain (l : List Nat) : Pl := l.foldl plStep ⟨[], 0, 0, 0⟩
theorem plain_succ {l : List Nat} {i : Nat} {x : Nat} (h : l[i]? = some x) : plain (l.take (i + 1)) = plStep (plain (l.take i)) x := by
  unfold plain; rw [take_succ_of h, List.foldl_append]; rfl
theorem plain_ok (l : List Nat) : ∀ i, (plain (l.take i)).free.length ≤ i
  | 0 => by simp [plain]
  | i + 1 => by
    cases h : l[i]? with
    | some x =>
      rw [plain_succ h]
      have := plain_ok l i
      unfold plStep
      split
      · show (plain (l.take i)).free.length ≤ _; lia
      · show (if _ then _ else _ : List Nat).length ≤ _
        split
        · simp; omega
        · lia
    | none =>
      have hl : l.length ≤ i := by simpa using h
      have ih := plain_ok l i
      rw [List.take_of_length_le hl] at ih
      rw [List.take_of_length_le (by lia  )]; lia
noncomputable abbrev iD (n : Nat) : D := .int (n : Int)
noncomputable def PlI (G : Addr) (σ : Hp) (st : Pl) (m' : Lo) (σ' : Hp) : Prop :=
  m' "free" = some (.ref G) ∧ m' "wait" = some (.d (iD st.wait)) ∧ m' "steps" = some (.d (iD st.steps)) ∧ m' "rooms" = some (.d (iD st.rooms)) ∧ σ' = σ.set G (st.free.map iD)
/-- the walk along the signs -/
structure Wk where
  heap : List T
  rooms : List (Option T)
  came : Nat
noncomputable def wkStep (gs : List T) (s : Wk) (c : Nat) : Wk :=
  if c = 40 then ⟨up (s.heap ++ [gs.getD s.came (0, 0)]) (gs.getD s.came (0, 0)) s.heap.length, s.rooms, s.came + 1⟩
  else if s.heap = [] then { s with rooms := s.rooms ++ [none] } else ⟨popped s.heap, s.rooms ++ [some (s.heap.getD 0 (0, 0))], s.came⟩
noncomputable def walk (gs : List T) (l : List Nat) : Wk := l.foldl (wkStep gs) ⟨[], [], 0⟩
theorem walk_succ {gs : List T} {l : List Nat} {i : Nat} {x : Nat} (h : l[i]? = some x) : walk gs (l.take (i + 1)) = wkStep gs (walk gs (l.take i)) x := by
  unfold walk; rw [take_succ_of h, List.foldl_append]; rfl
noncomputable def oD : Option T → D
  | none => .none
  | some t => tD t
noncomputable def sD (c : Nat) : D := .str ⟨#[c]⟩
/-- one guest asks from place p on -/
noncomputable def goOnF (many : Nat) : Nat → List (Option T) → T → Nat → Nat → List (Option T) × T × Nat × Nat
  | 0, rooms, g, p, steps => (rooms, g, p, steps)
  | n + 1, rooms, g, p, steps =>
    if p < many then
      match rooms.getD p none with
      | none => (rooms, g, p, steps)
      | some r => if tlt g r then goOnF many n (rooms.set p (some g)) r (p + 1) (steps + 1) else goOnF many n rooms g (p + 1) (steps + 1)
    else (rooms, g, p, steps)
noncomputable def goOn (many : Nat) (rooms : List (Option T)) (g : T) (p steps : Nat) : List (Option T) × T × Nat × Nat := goOnF many (many - p) rooms g p steps
structure Ob where
  rooms : List (Option T)
  over : List T
  steps : Nat
noncomputable def obStep (gs : List T) (ws : List Nat) (many : Nat) (s : Ob) (label : Nat) : Ob :=
  match goOn many s.rooms (gs.getD label (0, 0)) (ws.getD label 0) s.steps with
  | (rooms, g, p, steps) => if p < many then ⟨rooms.set p (some g), s.over, steps⟩ else ⟨rooms, s.over ++ [g], steps⟩
noncomputable def oneByOne (gs : List T) (ws : List Nat) (many : Nat) (order : List Nat) : Ob := order.foldl (obStep gs ws many) ⟨List.replicate many none, [], 0⟩
theorem oneByOne_succ {gs : List T} {ws : List Nat} {many : Nat} {l : List Nat} {i : Nat} {x : Nat} (h : l[i]? = some x) : oneByOne gs ws many (l.take (i + 1)) = obStep gs ws many (oneByOne gs ws many (l.take i)) x := by
  unfold oneByOne; rw [take_succ_of h, List.foldl_append]; rfl
/-- an order of many, told by total -/
noncomputable def orderGo (total : Int) : Nat → List Nat → List Nat → List Nat
  | 0, _, order => order
  | f + 1, left, order =>
    if left = [] then order else
      orderGo total f (left.eraseIdx ((total.fdiv ((order.length : Int) + 1)).fmod left.length).toNat) (order ++ [left.getD ((total.fdiv ((order.length : Int) + 1)).fmod left.length).toNat 0])
noncomputable def orderOf (many : Nat) (total : Int) : List Nat := orderGo total many (List.range many) []
theorem up_length (ts : List T) (x : T) (p : Nat) : (up ts x p).length = ts.length := by
  induction ts, p using up_ind (x := x) with
  | case1 ts => rw [up_eq, dif_pos rfl, List.length_set]
  | case2 ts p h hlt ih => rw [up_eq, dif_neg h, if_pos hlt, ih, List.length_set]
  | case3 ts p h hlt => rw [up_eq, dif_neg h, if_neg hlt, List.length_set]
theorem dn_len (ts : List T) (p : Nat) : (dn ts p).1.length = ts.length := by
  induction ts, p using dn_ind with
  | case1 ts p h h2 ih => rw [dn_eq, dif_pos h, if_pos h2, ih, List.length_set]
  | case2 ts p h h2 ih => rw [dn_eq, dif_pos h, if_neg h2, ih, List.length_set]
  | case3 ts p h => rw [dn_eq, dif_neg h]
theorem popped_length (ts : List T) : (popped ts).length = ts.length - 1 := by
  unfold popped
  split
  · rename_i h; rw [h]; rfl
  · unfold sup
    rw [up_length, List.length_set, dn_len, List.length_set, List.length_dropLast]
theorem walk_ok (gs : List T) (l : List Nat) : ∀ i, i ≤ l.length → (walk gs (l.take i)).came = (l.take i).count 40 ∧ (walk gs (l.take i)).heap.length ≤ i ∧ (walk gs (l.take i)).rooms.length ≤ i
  | 0, _ => by simp [walk]
  | i + 1, hi => by
    have h : l[i]? = some l[i] := List.getElem?_eq_getElem hi
    obtain ⟨h1, h2, h3⟩ := walk_ok gs l i (Nat.le_of_succ_le hi)
    rw [walk_succ h, take_succ_of h, List.count_append, ← h1]
    unfold wkStep
    split
    · rename_i hc
      refine ⟨?_, ?_, Nat.le_succ_of_le h3⟩
      · rw [hc]; simp
      · show (up _ _ _).length ≤ _
        rw [up_length, List.length_append]; simpa using h2
    · rename_i hc
      have hc' : ([l[i]] : List Nat).count 40 = 0 := by
        rw [List.count_eq_zero]; simpa using fun q => hc q.symm
      rw [hc']
      split
      · exact ⟨rfl, Nat.le_succ_of_le h2, by rw [List.length_append]; simpa using h3⟩
      · refine ⟨rfl, ?_, by rw [List.length_append]; simpa using h3⟩
        show (popped _).length ≤ _
        rw [popped_length]; lia
noncomputable def WkI (H R : Addr) (gs : List T) (σ : Hp) (st : Wk) (m' : Lo) (σ' : Hp) : Prop :=
  m' "heap" = some (.ref H) ∧ m' "rooms" = some (.ref R) ∧ m' "came" = some (.d (iD st.came)) ∧ m' "guests" = some (.d (.list (gs.map tD))) ∧ Ag σ σ' ∧ σ' H = some (st.heap.map tD) ∧ σ' R = some (st.rooms.map oD)
theorem goOn_ge {many : Nat} {rooms : List (Option T)} {g : T} {p steps : Nat} (h : ¬ p < many) : goOn many rooms g p steps = (rooms, g, p, steps) := by
  unfold goOn
  rw [show many - p = 0 by omega]; rfl
theorem goOn_lt {many : Nat} {rooms : List (Option T)} {g : T} {p steps : Nat} (h : p < many) : goOn many rooms g p steps = match rooms.getD p none with
      | none => (rooms, g, p, steps)
      | some r => if tlt g r then goOn many (rooms.set p (some g)) r (p + 1) (steps + 1) else goOn many rooms g (p + 1) (steps + 1) := by
  unfold goOn
  rw [show many - p = many - (p + 1) + 1 by lia  , goOnF, if_pos h]
theorem goOn_none {many : Nat} {rooms : List (Option T)} {g : T} {p steps : Nat} (h : rooms.getD p none = none) : goOn many rooms g p steps = (rooms, g, p, steps) := by
  by_cases hp : p < many
  · rw [goOn_lt hp, h]
  · exact goOn_ge hp
theorem goOn_some {many : Nat} {rooms : List (Option T)} {g r : T} {p steps : Nat} (h : p < many) (hr : rooms.getD p none = some r) :
    goOn many rooms g p steps = if tlt g r then goOn many (rooms.set p (some g)) r (p + 1) (steps + 1) else goOn many rooms g (p + 1) (steps + 1) := by
  rw [goOn_lt h, hr]
theorem goOn_length (many : Nat) : ∀ (n p : Nat), many - p = n → ∀ (rooms : List (Option T)) (g : T) (steps : Nat), (goOn many rooms g p steps).1.length = rooms.length := fun n => by
  induction n with
  | zero =>
    intro p hn rooms g steps
    rw [goOn_ge (by omega)]
  | succ n ih =>
    intro p hn rooms g steps
    cases hr : rooms.getD p none with
    | none => rw [goOn_none hr]
    | some r =>
      rw [goOn_some (by omega) hr]
      split
      · rw [ih (p + 1) (by omega), List.length_set]
      · rw [ih (p + 1) (by omega)]
theorem obStep_length (gs : List T) (ws : List Nat) (many : Nat) (s : Ob) (l : Nat) : (obStep gs ws many s l).rooms.length = s.rooms.length ∧ (obStep gs ws many s l).over.length ≤ s.over.length + 1 := by
  unfold obStep
  have := goOn_length many _ (ws.getD l 0) rfl s.rooms (gs.getD l (0, 0)) s.steps
  generalize goOn many s.rooms (gs.getD l (0, 0)) (ws.getD l 0) s.steps = q at *
  obtain ⟨rooms, g, p, steps⟩ := q
  simp only at this ⊢
  split
  · exact ⟨by simpa using this, Nat.le_succ _⟩
  · exact ⟨this, by simp⟩
theorem ob_ok (gs : List T) (ws : List Nat) (many : Nat) (l : List Nat) : ∀ i, (oneByOne gs ws many (l.take i)).rooms.length = many ∧ (oneByOne gs ws many (l.take i)).over.length ≤ i
  | 0 => by simp [oneByOne]
  | i + 1 => by
    obtain ⟨h1, h2⟩ := ob_ok gs ws many l i
    cases h : l[i]? with
    | some x =>
      rw [oneByOne_succ h]
      obtain ⟨h3, h4⟩ := obStep_length gs ws many (oneByOne gs ws many (l.take i)) x
      exact ⟨h3.trans h1, by lia  ⟩
    | none =>
      have hl : l.length ≤ i := by simpa using h
      rw [List.take_of_length_le hl] at h1 h2
      rw [List.take_of_length_le (by lia  )]
      exact ⟨h1, by lia  ⟩
noncomputable def cmpOf (a b : T) : Int := b2i (tltB b a) - b2i (tltB a b)
theorem cmpOf_neg (a b : T) : (cmpOf a b == -1) = tltB a b := by
  unfold cmpOf
  cases h1 : tltB a b <;> cases h2 : tltB b a
  · rfl
  · rfl
  · rfl
  · rw [tltB_iff] at h1 h2; exact (tlt_asymm h1 h2).elim
/-- what stands while the guests are housed one by one -/
structure ObN (gs : List T) (ws : List Nat) (many : Nat) (R O : Addr) (σ : Hp) (m' : Lo) (σ' : Hp) (rooms : List (Option T)) (over : List T) : Prop where
  r : m' "rooms" = some (.ref R)
  o : m' "over" = some (.ref O)
  g : m' "guests" = some (.d (.list (gs.map tD)))
  w : m' "wishes" = some (.d (.list (ws.map iD)))
  m : m' "many" = some (.d (iD many))
  ag : Ag σ σ'
  s1 : σ' R = some (rooms.map oD)
  s2 : σ' O = some (over.map tD)
noncomputable def ObI (gs : List T) (ws : List Nat) (many : Nat) (R O : Addr) (σ : Hp) (st : Ob) (m' : Lo) (σ' : Hp) : Prop := ObN gs ws many R O σ m' σ' st.rooms st.over ∧ m' "steps" = some (.d (iD st.steps))
theorem oD_at {rooms : List (Option T)} {p : Nat} (h : p < rooms.length) : (rooms.map oD)[((p : Nat) : Int).toNat]? = some (oD (rooms.getD p none)) := by
  rw [Int.toNat_natCast, List.getElem?_map, List.getD_eq_getElem?_getD, List.getElem?_eq_getElem h]; rfl
theorem canLay_ints (l : List Int) : PyData.canLayAll0 (l.map .int) = true := by
  induction l with
  | nil => rfl
  | cons x r ih => rw [List.map_cons]; simp only [PyData.canLayAll0, PyData.canLay0, Bool.true_and]; exact ih
theorem iD_ints (l : List Nat) : l.map iD = (l.map fun n : Nat => (n : Int)).map .int := by rw [List.map_map]; rfl
theorem eqv_nil (xs : List D) : PyData.eqv (.list xs) (.list []) = xs.isEmpty := by
  cases xs <;> simp [PyData.eqv, PyData.eqvAll]
theorem upInts_iD (n : Nat) : upInts 0 n = (List.range n).map iD := by
  unfold upInts
  refine List.map_congr_left fun i _ => ?_
  show PyData.int (0 + (i : Int)) = PyData.int (i : Int)
  rw [Int.zero_add]
noncomputable def OrI (R O : Addr) (σ : Hp) (l o : List Nat) (total : Int) (m' : Lo) (σ' : Hp) : Prop :=
  m' "left" = some (.ref R) ∧ m' "order" = some (.ref O) ∧ m' "total" = some (.d (.int total)) ∧ Ag σ σ' ∧ σ' R = some (l.map iD) ∧ σ' O = some (o.map iD)
theorem map_erase {α β : Type} (f : α → β) : ∀ (l : List α) (i : Nat), (l.map f).eraseIdx i = (l.eraseIdx i).map f
  | [], _ => by simp
  | x :: r, 0 => by simp
  | x :: r, i + 1 => by simp [map_erase f r i]
section
variable {F : Fx} {k : Nat} {m : Lo} {Q : V → Hp → Prop} {X : Value → Hp → Shared → Prop} {σ σ' : Hp} {s s' : Shared} {pos p : Pos}
/-- a list display of anything; it is not to be changed -/
theorem ev_listV {es : List Expr} (h : EVL F es m (fun as σ' => as.length ≤ sizeLine ∧ Q (.lst as) σ') X σ) : EV F (.List es pos) m Q X σ := fun s st =>
  wpAny_List (wpAny_mono (h s pos st) (fun vs s₁ ⟨as, σ₁, e1, st1, r1, ⟨hz, q⟩⟩ => by
    refine ⟨by rw [r1.length]; exact hz, ?_⟩
    refine ⟨.lst as, σ₁, e1.trans (Ev.push (seqObj "list" (List.toArray vs) 0) s₁.toks), st1.push (seqObj "list" (List.toArray vs) 0) s₁.toks, ?_, q⟩
    simp only [VR]
    exact ⟨s₁.heap.objs.size, vs, 0, rfl, Heap.get?_push_size _ rfl, st1.gs.none_ge (Nat.le_refl _), r1.mono (seqKept_push σ₁ σ₁ _ _ fun _ _ e => e)⟩) fun _ _ x => x)
theorem iter_lst {target : Expr} {as : List V} (hh : F.A.handled = none) (ht : ∀ it v, letOwnedTupleGo target it v = pure ()) : ITER F target (.lst as) σ as := fun s v m st r => by
  have r' := r
  simp only [VR] at r
  obtain ⟨b, vs, n, rfl, e1, hσ, e2⟩ := r
  have hI : s.heap.get? s.heap.objs.size = none := Heap.get?_none_of_le (Nat.le_refl _)
  have hne : b ≠ s.heap.objs.size := Nat.ne_of_lt (Heap.lt_size e1)
  have W := fun (F' : Fx) (hh' : F'.A.handled = none) => Walks.list (prog := F'.prog) (w := F'.w) hh' s.heap.objs.size b hne (List.toArray vs)
  refine wpAny_pyIter_list ⟨_, e1, rfl, n, rfl⟩ ⟨Ev.push _ s.toks, Ev.push _ s.toks, st.push _ s.toks, fun env' outer' comp' L => ⟨_, fun s₄ σ₄ gr hσ₄ => walks_start (W F hh) gr hσ₄ ?_ ⟨_, Heap.get?_push_size _ rfl⟩, ItOk.of_walks (F := F.re env' outer' comp') (W F hh) (by simp [e2.length]) hI (st.gs.base_ge (Nat.le_refl _)) (fun i h ht => ?_) (fun i v d σ' s' m' st' ev' ht hd hv => ?_) (fun i s' v _ => by rw [ht]; exact wpAny_pure rfl)⟩⟩
  · refine ⟨Nat.zero_le _, ⟨⟨_, Heap.get?_push_size _ rfl, rfl, rfl⟩, ⟨_, Heap.get?_push_of_some _ e1, rfl, n, rfl⟩⟩, fun c hc hcn => ?_⟩
    rcases List.mem_cons.mp hc with q | q
    · exact absurd q hcn
    · obtain rfl := List.mem_singleton.mp q
      exact ⟨hσ, _, Heap.get?_push_of_some _ e1, imm_seq⟩
  · obtain ⟨⟨o, ho, hc, hd⟩, _⟩ := ht
    exact ⟨o, _, ho, hd, by rw [hc]; decide, notX_cls hc (by decide) (by decide)⟩
  · have kq := (L.mono (h := s.heap) fun b o e => ⟨o, Heap.get?_push_of_some _ e⟩).seqKept st ev'
    have r2 := r'.mono kq
    simp only [VR] at r2
    obtain ⟨b', vs', n', hb', e1', _, e2'⟩ := r2
    cases hb'
    have : s'.heap.get? b = some (seqObj "list" (List.toArray vs) n) := (kq b _ e1 imm_seq hσ).2
    rw [this] at e1'; cases e1'
    obtain ⟨w, h1, h2⟩ := e2'.get i hd
    have hv' : vs[i]? = some v := by simpa using hv
    rw [hv'] at h1; cases h1
    exact h2
end
theorem range_pick {α β : Type} (us : List α) (g : Nat → Option β) (f : α → Option β) (h : ∀ i x, us[i]? = some x → g i = f x) : (List.range us.length).filterMap g = us.filterMap f := by
  have key : ∀ (vs : List α) (n : Nat), (∀ i x, vs[i]? = some x → g (n + i) = f x) → (List.range' n vs.length).filterMap g = vs.filterMap f := fun vs => by
    induction vs with
    | nil => intro n _; rfl
    | cons v r ih =>
      intro n hv
      have h0 := hv 0 v rfl
      rw [Nat.add_zero] at h0
      rw [List.length_cons, List.range'_succ, List.filterMap_cons, List.filterMap_cons, h0, ih (n + 1) fun i x hx => by rw [Nat.add_assoc, Nat.add_comm 1 i]; exact hv (i + 1) x (by simpa using hx)]
  rw [List.range_eq_range']
  exact key us 0 fun i x hx => by rw [Nat.zero_add]; exact h i x hx
theorem nat_lt (a b : Nat) : decide (((a : Nat) : Int) < (b : Int)) = decide (a < b) := by simp
theorem nat_eq (a b : Nat) : (((a : Nat) : Int) == (b : Int)) = decide (a = b) := by
  by_cases h : a = b
  · subst h; simp
  · have : ((a : Nat) : Int) ≠ (b : Int) := by lia
    simp [h, this]
theorem cmpOk_nats : CmpOk iD (fun a b : Nat => a < b) where
  ltV {F k m Q X σ a b} ok q := cv_lt (by rw [nat_lt]; exact q)
  gtV {F k m Q X σ a b} ok q := cv_gt (by show Q (.d (.bool (decide ((b : Int) < (a : Int))))) σ; rw [nat_lt]; exact q)
  eqV {F k m Q X σ a b} ok q := cv_eq (by rw [nat_eq]; exact q)
  trans := Nat.lt_trans
  irrefl := Nat.lt_irrefl
  total h := by lia
theorem filterMap_if {α β : Type} (p : α → Bool) (f : α → β) : ∀ l : List α, l.filterMap (fun i => if p i = true then some (f i) else none) = (l.filter p).map f
  | [] => rfl
  | x :: r => by
    rw [List.filterMap_cons, List.filter_cons]
    cases h : p x
    · simp only [Bool.false_eq_true, if_false]; exact filterMap_if p f r
    · simp only [if_true, List.map_cons]; rw [filterMap_if p f r]
theorem flat_ones : ∀ l : List Nat, (l.map fun c => [c]).flatten = l
  | [] => rfl
  | x :: r => by rw [List.map_cons, List.flatten_cons, flat_ones r]; rfl
-- the second law's parts, told by the row
section
variable (row : List Int)
noncomputable def n2Of : Nat := if row.sum.fmod 2 = 0 then (plain (txFold2 row).seen).wait else 0
noncomputable def beh2 : List Nat := List.replicate (n2Of row) 41
noncomputable def full2 : List Nat := (txFold2 row).seen ++ beh2 row
noncomputable def yy2 : List Nat := (txFold2 row).text ++ beh2 row
noncomputable def ws2 : List Nat := (txFold2 row).wishes.map Int.toNat
noncomputable def taken2 : List Nat := (List.range (walk (txFold2 row).guests (full2 row)).rooms.length).filter fun i => ((walk (txFold2 row).guests (full2 row)).rooms.getD i none).isSome
noncomputable def housed2 : List T := (taken2 row).filterMap fun i => (walk (txFold2 row).guests (full2 row)).rooms.getD i none
noncomputable def isP (u : Str) : Bool := u == Str.ofString "(" || u == Str.ofString ")"
structure LawMath2 : Prop where
  uok : ∀ u ∈ unitsOf (yy2 row), PyData.strOk u.2 = true
  signs : ((unitsOf (yy2 row)).map (·.2)).filter isP = (full2 row).map fun c => (⟨#[c]⟩ : Str)
  wish : ∀ w ∈ (txFold2 row).wishes, 0 ≤ w
  cnt : (full2 row).count 40 ≤ (txFold2 row).guests.length
  nodH : (walk (txFold2 row).guests (full2 row)).heap.Nodup
  nodG : (txFold2 row).guests.Nodup
  one : ∀ os, os = List.range (txFold2 row).guests.length ∨ os = orderOf (txFold2 row).guests.length row.sum →
    (oneByOne (txFold2 row).guests (ws2 row) (walk (txFold2 row).guests (full2 row)).rooms.length os).rooms = (walk (txFold2 row).guests (full2 row)).rooms ∧ (oneByOne (txFold2 row).guests (ws2 row) (walk (txFold2 row).guests (full2 row)).rooms.length os).over.Nodup ∧
      srt (oneByOne (txFold2 row).guests (ws2 row) (walk (txFold2 row).guests (full2 row)).rooms.length os).over = srt (walk (txFold2 row).guests (full2 row)).heap ∧ (oneByOne (txFold2 row).guests (ws2 row) (walk (txFold2 row).guests (full2 row)).rooms.length os).steps = (plain (full2 row)).steps
  ord : ∀ l ∈ orderOf (txFold2 row).guests.length row.sum, l < (txFold2 row).guests.length
  ordz : (orderOf (txFold2 row).guests.length row.sum).length < 60
  free : dif (List.range (walk (txFold2 row).guests (full2 row)).rooms.length) (taken2 row) = (plain (full2 row)).free
  nodU : (housed2 row).Nodup
  hous : dif (srt (txFold2 row).guests) (srt (housed2 row)) = srt (walk (txFold2 row).guests (full2 row)).heap
  hous' : ∀ x ∈ housed2 row, x ∈ (txFold2 row).guests
  wait : (walk (txFold2 row).guests (full2 row)).heap.length = (plain (full2 row)).wait
  chk : chk ((unitsOf (yy2 row)).map (·.2)) 0 = (decide ((plain (full2 row)).free = []) && decide ((plain (full2 row)).wait = 0))
end
theorem lk_put {m : Lo} {x y : Str} {v a : V} (h : y ≠ x) (hm : m y = some a) : m.put x v y = some a := (Lo.put_ne _ _ h).trans hm
theorem lk_del {m : Lo} {x y : Str} {a : V} (h : y ≠ x) (hm : m y = some a) : m.del x y = some a := (Lo.del_ne _ h).trans hm
theorem lm_of {α β : Type} {f : α → β} {l : List α} {m n : Nat} (h : l.length ≤ m) (h2 : m < n) : (l.map f).length < n := by rw [List.length_map]; exact Nat.lt_of_le_of_lt h h2
theorem lm_to {α β : Type} {f : α → β} {l : List α} {n : Nat} (h : l.length < n) : (l.map f).length < n := by rw [List.length_map]; exact h
theorem lm_le {α β : Type} {f : α → β} {l : List α} {n : Nat} (h : n ≤ l.length) : n ≤ (l.map f).length := by rw [List.length_map]; exact h
theorem lk_same {m : Lo} {x : Str} {v : V} : m.put x v x = some v := Lo.put_same m x v
noncomputable abbrev pp : Program := PySem.Challenge.pw_op0068_02
noncomputable abbrev FnI (c : Cc) (i : Nat) (f : Addr) : Prop := Fn c (fname (stmtAt pp i)) (fargs (stmtAt pp i)) (fbody (stmtAt pp i)) (fscope (stmtAt pp i)) f
local macro_rules | `(tactic| walk_at "lk") => `(tactic| first | assumption | (with_reducible exact lk_same) | ((with_reducible refine' lk_put ?_ ?_); decide; walk_at "lk") | ((with_reducible refine' lk_del ?_ ?_); decide; walk_at "lk") | exact rfl)
local macro_rules | `(tactic| walk_at "lm") => `(tactic| first | exact lm_of (by assumption) (by decide) | exact lm_to (by omega) | exact lm_le (by omega))
local macro_rules | `(tactic| walk_at "b") => `(tactic| first | exact Bound.loc rfl rfl | exact Bound.cell _ rfl rfl rfl)
local macro_rules | `(tactic| walk_at "seq") => `(tactic| (walk_at "end"; refine' ex_seq ?_; intros))
local macro_rules | `(tactic| walk_at "slot") => `(tactic| with_reducible first | exact PySem.F.slot_list_append | exact PySem.F.slot_list_pop | exact PySem.F.slot_list_extend | exact PySem.F.slot_list_index | exact PySem.F.slot_str_join | exact PySem.F.plainAttrs_list | exact PySem.F.plainAttrs_str | exact PySem.F.type_list_append | exact PySem.F.type_list_pop | exact PySem.F.type_list_extend | exact PySem.F.type_list_index | exact PySem.F.type_str_join)
local macro_rules | `(tactic| walk_at "end") => `(tactic| repeat (with_reducible first | refine' then_next ?_ | refine' then_ret ?_ | refine' then_brk ?_ | refine' then_cont ?_ | refine' ex_nil ?_ | refine seal_go (by assumption) ?_ | refine if_t rfl ?_ | refine if_f rfl ?_))
local macro_rules | `(tactic| walk_at "call") => `(tactic| focus first
  | (with_reducible refine' ev_callB ?_ ?_ ?_ ?_ ?_ ?_); rotate_left 2; assumption; exact rfl; assumption; decide; exact rfl
  | (with_reducible refine' ev_callT ?_ ?_ ?_ ?_ ?_ ?_); rotate_left 2; assumption; exact rfl; assumption; decide; exact rfl
  | (with_reducible refine' ev_callF ?_ ?_ ?_ ?_ ?_ ?_ ?_ ?_); rotate_left 6; assumption; exact rfl; assumption; assumption; decide; assumption; exact rfl)
local macro_rules | `(tactic| walk_at "go") => `(tactic| repeat (focus first
  | (with_reducible refine' ev_bound ?_ ?_ ?_ ?_ ?_); rotate_left 2; assumption; walk_at "b"; walk_at "lk"; rotate_left; decide
  | (with_reducible first | refine' ev_int ?_ | refine' ev_str ?_ | refine' ev_none ?_ | refine' ev_bool ?_ | refine' ev_BinOp ?_ | refine' ev_sub ?_ | refine' ev_tuple ?_ | refine' ev_ifexp ?_ | refine' bv_add ?_ | refine' bv_sub ?_ | refine' bv_addS ?_ ?_ | refine' bv_subB ?_ | refine' cv_eq ?_ | refine' cv_ne ?_ | refine' cv_lt ?_ | refine' cv_gt ?_ | refine' cv_ge ?_ | refine' cv_le ?_ | refine' cv_eqS ?_ | refine' cv_neS ?_ | refine cv_ltP (by assumption) ?_ | refine cv_gtP (by assumption) ?_ | refine' iv_add ?_ | refine' iv_sub ?_ | refine' iv_addS ?_ ?_ | refine' trv_bool ?_ | refine' cv_isB ?_ | refine' cv_isNotB ?_ | refine' ts_not ?_ | refine' ts_and2 ?_ | refine' ts_or2 ?_ | refine' then_next ?_ | refine' then_ret ?_ | refine' then_brk ?_ | refine' then_cont ?_ | (refine' ex_seq ?_; intros) | refine' ex_if ?_ | refine' ex_return ?_ | refine' ex_break ?_ | refine' ex_continue ?_ | refine seal_go (by assumption) ?_ | refine' evl_nil ?_)
  | (with_reducible first | refine' ev_Compare ?_ ?_ | refine' ts_cmp ?_ ?_ | refine' ex_setitem ?_ ?_ | refine' evl_cons ?_ ?_); rotate_left; exact rfl
  | (with_reducible refine' ts_val ?_ ?_); exact rfl
  | (with_reducible first | refine' cv_isNone ?_ ?_ | refine' cv_isNotNone ?_ ?_); rotate_left; exact rfl
  | (with_reducible refine' bv_mod ?_ ?_); decide
  | (with_reducible refine' bv_div ?_ ?_ ?_); decide; decide
  | (with_reducible refine' ex_assign ?_ ?_ ?_ ?_); rotate_left; assumption; walk_at "b"; rotate_left; exact rfl
  | (with_reducible refine' ex_aug ?_ ?_ ?_ ?_); rotate_left 2; assumption; walk_at "b"; walk_at "lk"
  | (with_reducible refine' ex_expr ?_ ?_ ?_); rotate_left; assumption; rotate_left; exact rfl
  | (with_reducible refine' ev_meth ?_ ?_ ?_ ?_ ?_ ?_ ?_ ?_); rotate_left 2; (iterate 4 exact rfl); rotate_left; walk_at "slot"; walk_at "slot"; rotate_left; walk_at "slot"
  | (with_reducible refine' ev_callB ?_ ?_ ?_ ?_ ?_ ?_); rotate_left 2; assumption; exact rfl; assumption; decide; exact rfl
  | (with_reducible refine' ev_callT ?_ ?_ ?_ ?_ ?_ ?_); rotate_left 2; assumption; exact rfl; assumption; decide; exact rfl
  | (with_reducible refine' ev_callF ?_ ?_ ?_ ?_ ?_ ?_ ?_ ?_); rotate_left 6; assumption; exact rfl; assumption; assumption; decide; assumption; exact rfl))
set_option maxHeartbeats 1000000 in
theorem siftdown_ok {c : Cc} {f h : Addr} {σ : Hp} {ts : List T} {p : Nat} {x : T} (k : Nat) (hf : FnI c 7 f) (bs : Bs c.base c.G) (hh : σ h = some (ts.map tD)) (hz : ts.length < 2 ^ 20) (hp : ts[p]? = some x) :
    CL c (k + 1) f [.ref h, .d (.int 0), .d (.int p)] (fun d σ' => d = .none ∧ σ' = σ.set h ((up ts x p).map tD)) (fun _ _ _ _ => False) σ := by
  refine cl_fn hf bs ["heap", "startpos", "pos"] ?_ rfl rfl (by decide) (by decide) rfl rfl rfl ?_
  · intro pm cd doc vs hvs
    obtain ⟨a, b, c, rfl⟩ := len3 hvs; rfl
  · intro A outer L cd hA ok
    walk_at "seq"
    walk_at "go"
    refine sb_list (ds := ts.map tD) (d := tD x) ?ha ?hz ?hn ?hi ?_ ?hs
    case ha => exact hh
    case hz => rw [List.length_map]; lia
    case hn => exact Int.natCast_nonneg p
    case hi => rw [Int.toNat_natCast, List.getElem?_map, hp]; rfl
    case hs => exact fun _ _ => rfl
    walk_at "go"
    refine ex_while (fun n m' σ' => ∃ (ts' : List T) (p' : Nat), n = p' ∧ m' "heap" = some (.ref h) ∧ m' "startpos" = some (.d (.int 0)) ∧ m' "pos" = some (.d (.int p')) ∧ m' "newitem" = some (.d (tD x)) ∧ σ' = σ.set h (ts'.map tD) ∧ ts'.length = ts.length ∧ p' < ts.length ∧ up ts' x p' = up ts x p) p ?start ?turn
    case start => exact ⟨ts, p, rfl, rfl, rfl, rfl, Lo.put_same _ _ _, (Hp.set_self hh).symm, rfl, (List.getElem?_eq_some_iff.mp hp).1, rfl⟩
    case turn =>
      rintro n m' σ' ⟨ts', p', rfl, m1, m2, m3, m4, rfl, hl, hp', hup⟩
      walk_at "go"
      have hq : (n - 1) / 2 < ts'.length := by lia
      by_cases h0 : n = 0
      · subst h0
        simp only [Int.natCast_zero, gt_iff_lt, Int.lt_irrefl, decide_false, Bool.false_eq_true, if_false]
        walk_at "end"
        walk_at "go"
        refine ⟨_, _, _, _, rfl, rfl, rfl, Hp.set_same _ _ _, Int.le_refl _, ?_, ?_, ?_⟩
        · simp; omega
        · simp; lia
        · walk_at "go"
          (walk_at "end"; refine ⟨.none, rfl, rfl, ?_⟩)
          rw [Hp.set_set, Hp.only_set hh, ← hup, up_eq, dif_pos rfl]
          simp
      · have hpos : decide ((n : Int) > 0) = true := by simp; lia
        refine if_t (hpos) ?_
        walk_at "go"
        refine bv_shr (by decide) ?_
        have e2 : ((n : Int) - 1).fdiv (2 ^ (1 : Int).toNat) = (((n - 1) / 2 : Nat) : Int) := by
          rw [show (2 : Int) ^ (1 : Int).toNat = 2 from rfl, Int.fdiv_eq_ediv_of_nonneg _ (by decide)]; lia
        rw [e2]
        walk_at "go"
        refine sb_list (ds := ts'.map tD) (d := tD (ts'.getD ((n - 1) / 2) (0, 0))) ?ha ?hz ?hn ?hi ?_ ?hs
        case ha => exact Hp.set_same _ _ _
        case hz => rw [List.length_map]; lia
        case hn => exact Int.natCast_nonneg _
        case hi => rw [Int.toNat_natCast, List.getElem?_map, List.getD_eq_getElem?_getD, List.getElem?_eq_getElem hq]; rfl
        case hs => exact fun _ _ => rfl
        walk_at "go"
        by_cases hlt : tlt x (ts'.getD ((n - 1) / 2) (0, 0))
        · have hd : decide (x.1 < (ts'.getD ((n - 1) / 2) (0, 0)).1 ∨ x.1 = (ts'.getD ((n - 1) / 2) (0, 0)).1 ∧ x.2 < (ts'.getD ((n - 1) / 2) (0, 0)).2) = true := decide_eq_true hlt
          refine if_t (hd) ?_
          walk_at "go"
          refine ⟨_, _, _, _, rfl, rfl, rfl, Hp.set_same _ _ _, Int.natCast_nonneg _, ?_, ?_, ?_⟩
          · simp; lia
          · simp; lia
          · walk_at "go"
            refine ⟨(n - 1) / 2, by lia  , ts'.set n (ts'.getD ((n - 1) / 2) (0, 0)), (n - 1) / 2, rfl, by walk_at "lk", by walk_at "lk", by walk_at "lk", by walk_at "lk", ?_, by simpa using hl, by omega, ?_⟩
            · rw [Hp.set_set, Int.toNat_natCast, List.map_set]
            · rw [← hup]; conv => rhs; rw [up_eq]
              rw [dif_neg h0, if_pos hlt]
        · have hd : decide (x.1 < (ts'.getD ((n - 1) / 2) (0, 0)).1 ∨ x.1 = (ts'.getD ((n - 1) / 2) (0, 0)).1 ∧ x.2 < (ts'.getD ((n - 1) / 2) (0, 0)).2) = false := decide_eq_false hlt
          refine if_f (hd) ?_
          walk_at "end"
          walk_at "go"
          refine ⟨_, _, _, _, rfl, rfl, rfl, Hp.set_same _ _ _, Int.natCast_nonneg _, ?_, ?_, ?_⟩
          · simp; lia
          · simp; lia
          · walk_at "go"
            (walk_at "end"; refine ⟨.none, rfl, rfl, ?_⟩)
            rw [Hp.set_set, Hp.only_set hh, ← hup, up_eq, dif_neg h0, if_neg hlt, Int.toNat_natCast, List.map_set]
set_option maxHeartbeats 1000000 in
theorem heappush_ok {c : Cc} {f fd h : Addr} {σ : Hp} {ts : List T} {x : T} (k : Nat) (hf : FnI c 5 f) (hfd : FnI c 7 fd) (gd : c.G "_siftdown" = some (.ref fd)) (gl : c.G "len" = some (.builtin "len")) (bs : Bs c.base c.G) (hh : σ h = some (ts.map tD)) (hz : ts.length < 2 ^ 19) :
    CL c (k + 2) f [.ref h, .d (tD x)] (fun d σ' => d = .none ∧ σ' = σ.set h ((up (ts ++ [x]) x ts.length).map tD)) (fun _ _ _ _ => False) σ := by
  refine cl_fn hf bs ["heap", "item"] ?_ rfl rfl (by decide) (by decide) rfl rfl rfl ?_
  · intro pm cd doc vs hvs
    obtain ⟨a, b, rfl⟩ := len2 hvs; rfl
  · intro A outer L cd hA ok
    walk_at "seq"
    walk_at "go"
    refine ⟨list_typed (ds := ts.map tD) hh, ?_⟩
    walk_at "go"
    refine bc_append hh (by walk_at "lm") ?_
    have hb : σ.set h (ts.map tD ++ [tD x]) h = some ((ts ++ [x]).map tD) := by rw [Hp.set_same, List.map_append]; rfl
    walk_at "go"
    refine bc_lenL (ds := (ts ++ [x]).map tD) ?ha ?hz ?_
    case ha => exact hb
    case hz => simp; lia
    walk_at "go"
    have e1 : (((ts ++ [x]).map tD).length : Int) - 1 = (ts.length : Nat) := by simp
    rw [e1]
    refine CL.use1 (siftdown_ok (ts := ts ++ [x]) (x := x) (p := ts.length) k hfd bs hb (by simp; lia  ) (by simp)) (Nat.le_refl _) ?_
    walk_at "go"
    (walk_at "end"; refine ⟨.none, rfl, rfl, ?_⟩)
    rw [Hp.set_set, Hp.only_set hh]
set_option maxHeartbeats 1000000 in
theorem siftup_ok {c : Cc} {f fd h : Addr} {σ : Hp} {ts : List T} (k : Nat) (hf : FnI c 8 f) (hfd : FnI c 7 fd) (gd : c.G "_siftdown" = some (.ref fd)) (gl : c.G "len" = some (.builtin "len")) (bs : Bs c.base c.G) (hh : σ h = some (ts.map tD)) (hz : ts.length < 2 ^ 20) (hp : 0 < ts.length) :
    CL c (k + 2) f [.ref h, .d (.int 0)] (fun d σ' => d = .none ∧ σ' = σ.set h ((sup ts).map tD)) (fun _ _ _ _ => False) σ := by
  refine cl_fn hf bs ["heap", "pos"] ?_ rfl rfl (by decide) (by decide) rfl rfl rfl ?_
  · intro pm cd doc vs hvs
    obtain ⟨a, b, rfl⟩ := len2 hvs; rfl
  · intro A outer L cd hA ok
    have hget : ∀ (us : List T) (i : Nat), i < us.length → (us.map tD)[i]? = some (tD (us.getD i (0, 0))) := fun us i hi => by
      rw [List.getElem?_map, List.getD_eq_getElem?_getD, List.getElem?_eq_getElem hi]; rfl
    walk_at "seq"
    walk_at "go"
    refine bc_lenL (ds := ts.map tD) ?ha ?hz ?_
    case ha => exact hh
    case hz => rw [List.length_map]; lia
    rw [List.length_map]
    walk_at "go"
    refine sb_list (ds := ts.map tD) (d := tD (ts.getD 0 (0, 0))) ?ha ?hz ?hn ?hi ?_ ?hs
    case ha => exact hh
    case hz => rw [List.length_map]; lia
    case hn => decide
    case hi => exact hget ts 0 hp
    case hs => exact fun _ _ => rfl
    walk_at "go"
    refine bv_mul (IntMulOk.of_left (by decide)) ?_
    walk_at "go"
    refine ex_while (fun n m' σ' => ∃ (ts' : List T) (p' : Nat), n = ts.length - p' ∧ m' "heap" = some (.ref h) ∧ m' "endpos" = some (.d (.int (ts.length : Int))) ∧ m' "startpos" = some (.d (.int 0)) ∧ m' "pos" = some (.d (.int p')) ∧ m' "newitem" = some (.d (tD (ts.getD 0 (0, 0)))) ∧ m' "childpos" = some (.d (.int (2 * p' + 1))) ∧ σ' = σ.set h (ts'.map tD) ∧ ts'.length = ts.length ∧ p' < ts.length ∧ dn ts' p' = dn ts 0) ts.length ?start ?turn
    case start => exact ⟨ts, 0, rfl, by walk_at "lk", by walk_at "lk", by walk_at "lk", by walk_at "lk", by walk_at "lk", by walk_at "lk", (Hp.set_self hh).symm, rfl, hp, rfl⟩
    case turn =>
      rintro n m' σ' ⟨ts', p', rfl, m1, m2, m3, m4, m5, m6, rfl, hl, hp', hup⟩
      walk_at "go"
      by_cases h0 : 2 * p' + 1 < ts.length
      · have hd : decide ((2 * (p' : Int) + 1) < (ts.length : Int)) = true := decide_eq_true (by lia  )
        refine if_t (hd) ?_
        walk_at "go"
        have turn : ∀ (cc : Nat), cc < ts.length → p' < cc → (dn ts' p' = dn (ts'.set p' (ts'.getD cc (0, 0))) cc) → ∀ (m₁ : Lo), m₁ "heap" = some (.ref h) → m₁ "endpos" = some (.d (.int (ts.length : Int))) → m₁ "startpos" = some (.d (.int 0)) → m₁ "pos" = some (.d (.int p')) → m₁ "newitem" = some (.d (tD (ts.getD 0 (0, 0)))) → m₁ "childpos" = some (.d (.int (cc : Int))) →
            EXs (frameOf' c A outer (fname (stmtAt pp 8)) (fscope (stmtAt pp 8)) L f cd) (match (fbody (stmtAt pp 8)).getD 4 (.Pass ⟨0, 0, 0, 0⟩) with | .While _ b _ _ => b.drop 2 | _ => []) m₁ (fun fl m' σ'' => match fl with
              | .next | .cont => ∃ j, j < ts.length - p' ∧ (fun n m' σ' => ∃ (ts' : List T) (p' : Nat), n = ts.length - p' ∧ m' "heap" = some (.ref h) ∧ m' "endpos" = some (.d (.int (ts.length : Int))) ∧ m' "startpos" = some (.d (.int 0)) ∧ m' "pos" = some (.d (.int p')) ∧ m' "newitem" = some (.d (tD (ts.getD 0 (0, 0)))) ∧ m' "childpos" = some (.d (.int (2 * p' + 1))) ∧ σ' = σ.set h (ts'.map tD) ∧ ts'.length = ts.length ∧ p' < ts.length ∧ dn ts' p' = dn ts 0) j m' σ''
              | _ => False) NoX (σ.set h (ts'.map tD)) := by
          intro cc hcc hpc hdn m₁ n1 n2 n3 n4 n5 n6
          walk_at "seq"
          walk_at "go"
          refine sb_list (ds := ts'.map tD) (d := tD (ts'.getD cc (0, 0))) ?ha ?hz ?hn ?hi ?_ ?hs
          case ha => exact Hp.set_same _ _ _
          case hz => rw [List.length_map]; lia
          case hn => exact Int.natCast_nonneg _
          case hi => rw [Int.toNat_natCast]; exact hget ts' cc (by lia  )
          case hs => exact fun _ _ => rfl
          walk_at "go"
          refine ⟨_, _, _, _, rfl, rfl, rfl, Hp.set_same _ _ _, Int.natCast_nonneg _, ?_, ?_, ?_⟩
          · simp; omega
          · simp; lia
          · walk_at "go"
            refine bv_mul (IntMulOk.of_left (by decide)) ?_
            walk_at "go"
            (walk_at "end"; refine ⟨ts.length - cc, by omega, ts'.set p' (ts'.getD cc (0, 0)), cc, rfl, by walk_at "lk", by walk_at "lk", by walk_at "lk", by walk_at "lk", by walk_at "lk", by walk_at "lk", ?_, by simpa using hl, hcc, by rw [← hdn, hup]⟩)
            rw [Hp.set_set, Int.toNat_natCast, List.map_set]
        by_cases h2 : 2 * p' + 2 < ts.length
        · have hd2 : decide ((2 * (p' : Int) + 1 + 1) < (ts.length : Int)) = true := decide_eq_true (by lia  )
          refine if_t (hd2) ?_
          walk_at "go"
          refine sb_list (ds := ts'.map tD) (d := tD (ts'.getD (2 * p' + 1) (0, 0))) ?ha ?hz ?hn ?hi ?_ ?hs
          case ha => exact Hp.set_same _ _ _
          case hz => rw [List.length_map]; lia
          case hn => lia
          case hi => rw [show (2 * (p' : Int) + 1).toNat = 2 * p' + 1 by lia  ]; exact hget ts' _ (by lia  )
          case hs => exact fun _ _ => rfl
          walk_at "go"
          refine sb_list (ds := ts'.map tD) (d := tD (ts'.getD (2 * p' + 2) (0, 0))) ?ha ?hz ?hn ?hi ?_ ?hs
          case ha => exact Hp.set_same _ _ _
          case hz => rw [List.length_map]; lia
          case hn => lia
          case hi => rw [show (2 * (p' : Int) + 1 + 1).toNat = 2 * p' + 2 by lia  ]; exact hget ts' _ (by lia  )
          case hs => exact fun _ _ => rfl
          walk_at "go"
          by_cases hlt : tlt (ts'.getD (2 * p' + 1) (0, 0)) (ts'.getD (2 * p' + 2) (0, 0))
          · rw [decide_eq_true (p := _ ∨ _) hlt]
            simp only [Bool.not_true, Bool.false_eq_true, if_false]
            walk_at "end"
            walk_at "end"
            refine EXs.mono (turn (2 * p' + 1) (by omega) (by lia  ) ?_ _ ?_ ?_ ?_ ?_ ?_ ?_) (fun fl m' σ' hq => ?_)
            · conv => lhs; rw [dn_eq]
              rw [dif_pos (by lia  ), if_neg (fun q => q.2 hlt)]
            all_goals first | (walk_at "lk"; done) | skip
            cases fl <;> first | exact hq | exact hq.elim
          · rw [decide_eq_false (p := _ ∨ _) hlt]
            simp only [Bool.not_false, if_true]
            walk_at "go"
            walk_at "end"
            walk_at "end"
            refine EXs.mono (turn (2 * p' + 2) (by omega) (by lia  ) ?_ _ ?_ ?_ ?_ ?_ ?_ ?_) (fun fl m' σ' hq => ?_)
            · conv => lhs; rw [dn_eq]
              rw [dif_pos (by lia  ), if_pos ⟨by lia  , hlt⟩]
            all_goals first | (walk_at "lk"; done) | skip
            cases fl <;> first | exact hq | exact hq.elim
        · have hd2 : decide ((2 * (p' : Int) + 1 + 1) < (ts.length : Int)) = false := decide_eq_false (by lia  )
          refine if_f (hd2) ?_
          walk_at "end"
          walk_at "end"
          refine EXs.mono (turn (2 * p' + 1) (by omega) (by lia  ) ?_ _ ?_ ?_ ?_ ?_ ?_ ?_) (fun fl m' σ' hq => ?_)
          · conv => lhs; rw [dn_eq]
            rw [dif_pos (by lia  ), if_neg (fun q => by lia  )]
          all_goals first | (walk_at "lk"; done) | skip
          cases fl <;> first | exact hq | exact hq.elim
      · have hd : decide ((2 * (p' : Int) + 1) < (ts.length : Int)) = false := decide_eq_false (by lia  )
        refine if_f (hd) ?_
        walk_at "end"
        have he : dn ts 0 = (ts', p') := by rw [← hup, dn_eq, dif_neg (by lia  )]
        walk_at "go"
        refine ⟨_, _, _, _, rfl, rfl, rfl, Hp.set_same _ _ _, Int.natCast_nonneg _, ?_, ?_, ?_⟩
        · simp; lia
        · simp; lia
        · walk_at "go"
          have hb : (σ.set h (ts'.map tD)).set h ((ts'.map tD).set (p' : Int).toNat (tD (ts.getD 0 (0, 0)))) h = some ((ts'.set p' (ts.getD 0 (0, 0))).map tD) := by rw [Hp.set_same, Int.toNat_natCast, List.map_set]
          refine CL.use1 (siftdown_ok (ts := ts'.set p' (ts.getD 0 (0, 0))) (x := ts.getD 0 (0, 0)) (p := p') k hfd bs hb (by simp; lia  ) (by rw [List.getElem?_set_self (by lia  )])) (Nat.le_refl _) ?_
          walk_at "go"
          (walk_at "end"; refine ⟨.none, rfl, rfl, ?_⟩)
          rw [Hp.set_set, Hp.set_set, Hp.only_set hh, sup, he]
set_option maxHeartbeats 1000000 in
theorem heappop_ok {c : Cc} {f fu fd h : Addr} {σ : Hp} {ts : List T} (k : Nat) (hf : FnI c 6 f) (hfu : FnI c 8 fu) (hfd : FnI c 7 fd) (gu : c.G "_siftup" = some (.ref fu)) (gd : c.G "_siftdown" = some (.ref fd)) (gl : c.G "len" = some (.builtin "len")) (bs : Bs c.base c.G) (hh : σ h = some (ts.map tD)) (hz : ts.length < 2 ^ 20) :
    CL c (k + 3) f [.ref h] (fun d σ' => ts ≠ [] ∧ d = tD (ts.getD 0 (0, 0)) ∧ σ' = σ.set h ((popped ts).map tD)) (fun _ e σ' s' => (ts = [] ∧ σ' = σ) ∧ ∃ a2, (true = true → a2 = .none) ∧ Xm c.base σ' "pop from empty list" a2 e s') σ := by
  refine cl_fnX (P := fun _ σ' => ts = [] ∧ σ' = σ) hf bs ["heap"] ?_ rfl rfl (by decide) (by decide) rfl rfl rfl ?_ ?_
  · intro pm cd doc vs hvs
    obtain ⟨a, rfl⟩ := len1 hvs; rfl
  · intro A outer L cd hA ok
    walk_at "seq"
    walk_at "go"
    refine ⟨list_typed (ds := ts.map tD) hh, ?_⟩
    walk_at "go"
    rcases List.eq_nil_or_concat ts with rfl | ⟨us, x, rfl⟩
    · refine bc_popEmpty hh (.inl hA) fun e s x => ⟨⟨rfl, rfl⟩, _, fun _ => ?_, x⟩
      show ctxOf (A.deeper _) = _
      unfold ctxOf
      rw [show (A.deeper (envOfC (fname (stmtAt pp 6)) (fscope (stmtAt pp 6)) L f cd)).handled = A.handled from rfl, hA]; rfl
    · rw [List.concat_eq_append] at *
      refine bc_pop (ds := us.map tD) (d := tD x) ?ha ?hz ?_
      case ha => rw [hh]; simp
      case hz => simp at hz ⊢; lia
      walk_at "go"
      refine trv_list (ds := us.map tD) ?ha ?hz ?_
      case ha => exact Hp.set_same _ _ _
      case hz => simp at hz ⊢; lia
      cases us with
      | nil =>
        simp only [List.map_nil, List.isEmpty_nil, Bool.not_true, Bool.false_eq_true, if_false]
        walk_at "end"
        walk_at "go"
        refine ⟨tD x, rfl, by simp, rfl, ?_⟩
        rw [Hp.only_set hh]
        rfl
      | cons y us =>
        simp only [List.map_cons, List.isEmpty_cons, Bool.not_false, if_true]
        walk_at "go"
        refine sb_list (ds := (y :: us).map tD) (d := tD y) ?ha ?hz ?hn ?hi ?_ ?hs
        case ha => exact Hp.set_same _ _ _
        case hz => simp at hz ⊢; lia
        case hn => decide
        case hi => rfl
        case hs => exact fun _ _ => rfl
        walk_at "go"
        refine ⟨_, _, _, _, rfl, rfl, rfl, Hp.set_same _ _ _, by decide, ?_, ?_, ?_⟩
        · simp
        · simp at hz ⊢; lia
        · walk_at "go"
          have hb : (σ.set h (tD y :: us.map tD)).set h ((tD y :: us.map tD).set (0 : Int).toNat (tD x)) h = some ((x :: us).map tD) := by rw [Hp.set_same]; rfl
          refine CL.use (siftup_ok (ts := x :: us) k hfu hfd gd gl bs hb (by simp at hz ⊢; lia  ) (by simp)) (Nat.le_refl _) (fun d σ' ⟨q1, q2⟩ => ?_) fun _ _ _ _ x => x.elim
          subst q1 q2
          walk_at "go"
          refine ⟨tD y, rfl, by simp, rfl, ?_⟩
          rw [Hp.set_set, Hp.set_set, Hp.only_set hh, popped, if_neg (by simp)]
          congr 3
          rw [show (y :: us ++ [x]).dropLast = y :: us from List.dropLast_concat, show (y :: us ++ [x]).getLastD (0, 0) = x by rw [List.getLastD_eq_getLast?, show y :: us ++ [x] = (y :: us) ++ [x] from rfl, List.getLast?_append]; rfl]
          rfl
  · rintro m' σ' ⟨h1, rfl⟩
    refine ⟨h1, ?_⟩
    funext b
    unfold Hp.only
    cases hq : σ' b <;> simp
noncomputable abbrev gS : Stmt := stmtAt pp 1
noncomputable abbrev gEnv (L f : Addr) (cd : Value) : Env := envOfC (fname gS) (fscope gS) L f cd
noncomputable def gFor : Stmt := (fbody gS).getD 2 (.Pass ⟨0, 0, 0, 0⟩)
noncomputable def gTarget : Expr := match gFor with
  | .For t _ _ _ _ => t
  | _ => .Constant .none 0 ⟨0, 0, 0, 0⟩
noncomputable def gBody : List Stmt := match gFor with
  | .For _ _ b _ _ => b
  | _ => []
theorem St.reA {c : Cc} {A A' : Around} {outer : List Env} {env : Env} {σ : Hp} {m : Lo} {s : Shared} (st : St (gF c A outer env) σ m s) : St (gF c A' outer env) σ m s := ⟨st.gs, st.lr⟩
/-- some records of the interpreter's own have been changed -/
theorem St.chgs {F : Fx} {σ : Hp} {m : Lo} {s : Shared} (st : St F σ m s) (l : List Addr) (hl : ∀ b ∈ l, F.base.get? b = none ∧ ∀ o, s.heap.get? b = some o → (∃ vs, o.data = .fields vs) ∧ o.cls ≠ .type "range") {h' : Heap} {t : Nat}
    (hk : ∀ b o, b ∉ l → s.heap.get? b = some o → h'.get? b = some o) : St F σ m { s with heap := h', toks := t } := by
  have ni : ∀ b o, s.heap.get? b = some o → (∀ vs, o.data ≠ .fields vs) → b ∉ l := fun b o e hd hm => by
    obtain ⟨⟨vs, q⟩, _⟩ := (hl b hm).2 o e
    exact hd vs q
  have kq : SeqKept σ σ s.heap h' := fun b ob e hi hs => ⟨hs, hk b ob (fun hm => by
    obtain ⟨⟨vs, q⟩, q2⟩ := (hl b hm).2 ob e
    rcases hi with ⟨ws, n, q3⟩ | ⟨ws, _, q3⟩
    · rw [q] at q3; cases q3
    · exact q2 q3) e⟩
  refine ⟨⟨fun b ob e => hk b ob (fun hm => by rw [(hl b hm).1] at e; cases e) (st.gs.keep b ob e), ?_, fun a ds ha => ?_, st.gs.bare⟩, st.lr.keeps kq fun b ob e h1 h2 => ⟨ob, hk b ob (ni b ob e h2) e, rfl⟩⟩
  · exact st.gs.frames.of fun b ob es ep e hd' => ⟨ob, es, ep, hk b ob (ni b ob e fun vs q => by rw [hd'] at q; cases q) e, hd'⟩
  · obtain ⟨h1, ws, n, h2, h3⟩ := st.gs.lists a ds ha
    exact ⟨h1, ws, n, hk a _ (ni a _ h2 fun vs q => by cases q) h2, h3.mono kq⟩
theorem EvG.pv {fr : List Addr} {pv : List Addr} {s₀ s : Shared} (ev : EvG fr pv s₀ s) {h' : Heap} {t : Nat} (hk : ∀ b o, b ∉ pv → s.heap.get? b = some o → h'.get? b = some o) : EvG fr pv s₀ { s with heap := h', toks := t } where
  keep b o e h2 h3 h4 := hk b o h2 (ev.keep b o e h2 h3 h4)
  keepD b o e h2 h4 := let ⟨o', e', c', d'⟩ := ev.keepD b o e h2 h4; ⟨o', hk b o' h2 e', c', d'⟩
  own b o e q := let ⟨o', e'⟩ := ev.own b o e q; ⟨o', hk b o' q e'⟩
  os := ev.os
  gens := ev.gens
/-- what does not change while the generator lives -/
structure GFix (c : Cc) (L e it : Addr) (lo : Addr → Prop) : Prop where
  loL : lo L
  loE : lo e
  loI : lo it
  ne1 : L ≠ e
  ne2 : L ≠ it
  ne3 : e ≠ it
  bL : c.base.get? L = none
  bE : c.base.get? e = none
  bI : c.base.get? it = none
structure GInv (c : Cc) (L f e it : Addr) (cd : Value) (y : Str) (t : Tok) (outer : List Env) (i : Nat) (q : Int) (b : Bool) (s₀ s : Shared) : Prop where
  st : ∀ A, St (gF c A outer (gEnv L f cd)) noHp (gm q b) s
  pos : b = true → q = (i : Int) - 1
  le : i ≤ y.cps.size
  enum : ∃ old, IsEnum s.heap e it i old
  iter : s.heap.IsStrIter it (strIterType y) y t i
  ev : EvG (frAddrs outer) [L, e, it] s₀ s
  old : ∀ b ∈ [L, e, it], ∀ o, s₀.heap.get? b = some o → ¬ Imm o ∧ ¬ Genish o
theorem gOk {c : Cc} {A : Around} {outer : List Env} {L f : Addr} {cd : Value} {k : Nat} {cc : Code} {fs : List Frame} (hA : (A.over cc fs).frames = some (gEnv L f cd :: outer)) (hd : (A.over cc fs).depth + k < recursionLimit) (hu : (A.over cc fs).units + 20 * k < cLine) (hb : c.base.get? L = none) (bs : Bs c.base c.G) : (gF c (A.over cc fs) outer (gEnv L f cd)).Ok k :=
  ⟨hA, fun _ => rfl, rfl, rfl, rfl, hd, hu, List.Pairwise.nil, fun p hp => (nomatch hp), rfl, fun b hb' => (by
    rcases hb' with rfl | hb'
    · exact hb
    · cases hb'.2), bs⟩
theorem strIterType_ne (y : Str) : strIterType y ≠ "range" ∧ strIterType y ≠ "IndexError" ∧ strIterType y ≠ "traceback" ∧ strIterType y ≠ "generator" := by
  unfold strIterType; split <;> decide
theorem gOwn {c : Cc} {L f e it : Addr} {cd : Value} {y : Str} {t : Tok} {outer : List Env} {i : Nat} {m : Lo} {s : Shared} {A : Around} (st : St (gF c A outer (gEnv L f cd)) noHp m s) (he : ∃ old, IsEnum s.heap e it i old) (hi : s.heap.IsStrIter it (strIterType y) y t i) :
    ∀ b ∈ [L, e, it], ∃ o, s.heap.get? b = some o ∧ (¬ Imm o ∧ ¬ Xish o) ∧ ¬ Genish o := fun b hb => by
  simp only [List.mem_cons, List.not_mem_nil, or_false] at hb
  rcases hb with rfl | rfl | rfl
  · obtain ⟨mc, ⟨o, es, ep, h1, h2, _⟩, _⟩ := st.lr.ns
    refine ⟨o, h1, ⟨?_, notX_data fun vs q => by rw [h2] at q; cases q⟩, fun ⟨⟨vs, q⟩, _⟩ => by rw [h2] at q; cases q⟩
    rintro (⟨ws, n, q⟩ | ⟨ws, q, _⟩) <;> rw [h2] at q <;> cases q
  · obtain ⟨old, h1⟩ := he
    refine ⟨_, h1, ⟨?_, notX_cls rfl (by decide) (by decide)⟩, fun ⟨_, q⟩ => absurd (Value.type.inj q) (by decide)⟩
    rintro (⟨ws, n, q⟩ | ⟨ws, _, q⟩)
    · cases q
    · exact absurd (Value.type.inj q) (by decide)
  · obtain ⟨o, h1, h2, h3⟩ := hi
    obtain ⟨n1, n2, n3, n4⟩ := strIterType_ne y
    refine ⟨o, h1, ⟨?_, notX_cls h2 n2 n3⟩, fun ⟨_, q⟩ => by rw [h2] at q; exact n4 (Value.type.inj q)⟩
    rintro (⟨ws, n, q⟩ | ⟨ws, _, q⟩)
    · rw [h3] at q; cases q
    · rw [h2] at q; exact n1 (Value.type.inj q)
noncomputable def noA : Around := ⟨none, 0, none, none, 0⟩
/-- a yield's word to the consumer -/
theorem gYield {c : Cc} {L f e it : Addr} {cd : Value} {y : Str} {t : Tok} {outer : List Env} {j n : Nat} {lo : Addr → Prop} {us : List (Int × Str)} {u : Int × Str} {rest : List (Int × Str)} {i : Nat} {q : Int} {b : Bool} {s₀ s : Shared} {v : Value} {kap : Resume → Shared → Prop}
    (fx : GFix c L e it lo) (hj : us.drop j = u :: rest) (hn : n = rest.length) (hv : VR s.heap noHp (.tup [.d (.int u.1), .d (.str u.2)]) v) (inv : GInv c L f e it cd y t outer i q b s₀ s)
    (h : ∀ s'', GInv c L f e it cd y t outer i q b s'' s'' → kap (.send .none) s'') : GY c.base outer lo us n s₀ v s kap := by
  have own := gOwn (inv.st noA) inv.enum inv.iter
  have hjl : j < us.length := by
    rcases Nat.lt_or_ge j us.length with h | h
    · exact h
    · rw [List.drop_eq_nil_of_le h] at hj; cases hj
  refine ⟨j, u, [L, e, it], [L, e, it], ?_, ?_, vr_tupD hv, ⟨inv.ev, ?_, fun b hb => ?_, inv.old⟩, fun b hb => hb, fun b hb => let ⟨o, h1, h2, _⟩ := own b hb; ⟨o, h1, h2.1, h2.2⟩, fun s'' g hk => h s'' ⟨fun A => ?_, inv.pos, inv.le, ?_, ?_, EvG.refl, fun b hb o e => ?_⟩⟩
  · have := congrArg List.length hj
    rw [List.length_drop, List.length_cons] at this
    lia
  · have := List.getElem?_drop (xs := us) (i := j) (j := 0)
    rw [hj] at this
    simpa using this.symm
  · exact ⟨(inv.st noA).gs.keep, (inv.st noA).gs.frames.2.2, fun a ds ha => (nomatch ha), (inv.st noA).gs.bare⟩
  · simp only [List.mem_cons, List.not_mem_nil, or_false] at hb
    rcases hb with rfl | rfl | rfl
    · exact fx.loL
    · exact fx.loE
    · exact fx.loI
  · exact St.resume (F := gF c A outer (gEnv L f cd)) rfl rfl rfl (show (fscope gS).kind ≠ .module by decide) fx.bL (inv.st A) gm_scalar g (hk L (by simp))
  · obtain ⟨old, h1⟩ := inv.enum
    exact ⟨old, (hk e (by simp)).trans h1⟩
  · obtain ⟨o, h1, h2⟩ := inv.iter
    exact ⟨o, (hk it (by simp)).trans h1, h2⟩
  · obtain ⟨o', h1, h2, h3⟩ := own b hb
    rw [hk b hb, h1] at e; cases e
    exact ⟨h2.1, h3⟩
/-- behind the loop -/
structure GEnd (c : Cc) (L f : Addr) (cd : Value) (outer : List Env) (lo : Addr → Prop) (pv : List Addr) (q : Int) (b : Bool) (s₀ s : Shared) : Prop where
  st : ∀ A, St (gF c A outer (gEnv L f cd)) noHp (gm q b) s
  ev : EvG (frAddrs outer) pv s₀ s
  old : ∀ b ∈ pv, ∀ o, s₀.heap.get? b = some o → ¬ Imm o ∧ ¬ Genish o
  new : ∀ b ∈ pv, lo b
  here : L ∈ pv
theorem GEnd.step {c : Cc} {L f : Addr} {cd : Value} {outer : List Env} {lo : Addr → Prop} {pv : List Addr} {q : Int} {b : Bool} {s₀ s : Shared} (inv : GEnd c L f cd outer lo pv q b s₀ s) : StepG c.base outer lo pv s₀ s :=
  ⟨inv.ev, ⟨(inv.st noA).gs.keep, (inv.st noA).gs.frames.2.2, fun a ds ha => (nomatch ha), (inv.st noA).gs.bare⟩, inv.new, inv.old⟩
/-- the last yield's word -/
theorem gYieldEnd {c : Cc} {L f : Addr} {cd : Value} {outer : List Env} {j : Nat} {lo : Addr → Prop} {pv : List Addr} {us : List (Int × Str)} {u : Int × Str} {q : Int} {b : Bool} {s₀ s : Shared} {v : Value} {kap : Resume → Shared → Prop}
    (hb : c.base.get? L = none) (hj : us.drop j = [u]) (hv : VR s.heap noHp (.tup [.d (.int u.1), .d (.str u.2)]) v) (inv : GEnd c L f cd outer lo pv q b s₀ s)
    (h : ∀ s'', GEnd c L f cd outer lo [L] q b s'' s'' → kap (.send .none) s'') : GY c.base outer lo us 0 s₀ v s kap := by
  have hjl : j < us.length := by
    rcases Nat.lt_or_ge j us.length with h | h
    · exact h
    · rw [List.drop_eq_nil_of_le h] at hj; cases hj
  obtain ⟨mc, ⟨o, es, ep, h1, h2, _⟩, _⟩ := (inv.st noA).lr.ns
  have hL : ¬ Imm o ∧ ¬ Xish o ∧ ¬ Genish o := by
    refine ⟨?_, (notX_data fun vs q => by rw [h2] at q; cases q), fun ⟨⟨vs, q⟩, _⟩ => by rw [h2] at q; cases q⟩
    rintro (⟨ws, n, q⟩ | ⟨ws, q, _⟩) <;> rw [h2] at q <;> cases q
  refine ⟨j, u, pv, [L], ?_, ?_, vr_tupD hv, inv.step, fun b hb => ?_, fun b hb => ?_, fun s'' g hk => h s'' ⟨fun A => ?_, EvG.refl, fun b hb o' e' => ?_, fun b hb => ?_, by simp⟩⟩
  · have := congrArg List.length hj
    rw [List.length_drop] at this
    simp at this
    lia
  · have := List.getElem?_drop (xs := us) (i := j) (j := 0)
    rw [hj] at this
    simpa using this.symm
  · obtain rfl := List.mem_singleton.mp hb; exact inv.here
  · obtain rfl := List.mem_singleton.mp hb; exact ⟨o, h1, hL.1, hL.2.1⟩
  · exact St.resume (F := gF c A outer (gEnv L f cd)) rfl rfl rfl (show (fscope gS).kind ≠ .module by decide) hb (inv.st A) gm_scalar g (hk L (by simp))
  · obtain rfl := List.mem_singleton.mp hb
    rw [hk b (by simp), show s.heap.get? b = some o from h1] at e'
    cases e'
    exact ⟨hL.1, hL.2.2⟩
  · obtain rfl := List.mem_singleton.mp hb; exact inv.new _ inv.here
theorem sign_eq (a b : Nat) : ((⟨#[a]⟩ : Str) == (⟨#[b]⟩ : Str)) = decide (a = b) := by
  by_cases h : a = b
  · subst h; simp
  · have : (⟨#[a]⟩ : Str) ≠ ⟨#[b]⟩ := fun q => h (by simpa using congrArg Str.cps q)
    simp [h, this]
theorem drawsY {prog : Program} {w : World} {A : Around} (hh : A.handled = none) (it : Addr) (y : Str) (t : Tok) :
    Draws prog w A it [it] y.cps.size (fun i v => ∃ c u, y.cps[i]? = some c ∧ v = .str ⟨#[c]⟩ u) (fun i h => h.IsStrIter it (strIterType y) y t i) := by
  unfold strIterType; split
  · exact Draws.strAscii hh it y t
  · exact Draws.strWide hh it y t
set_option maxHeartbeats 1000000 in
theorem gen_loop {c : Cc} {L f e it : Addr} {cd : Value} {y : Str} {t : Tok} {A : Around} {outer : List Env} {k : Nat} {lo : Addr → Prop} {us : List (Int × Str)} {kont : Result → Sem Fin} {p : Pos}
    (hA : A.frames = some outer) (hd : A.depth + (k + 1) < recursionLimit) (hu : A.units + 20 * (k + 1) < cLine) (hh : A.handled = none) (bs : Bs c.base c.G) (hy : y.length < 2 ^ 20) (fx : GFix c L e it lo)
    (fin : ∀ q b i j s₀ s, us.drop j = escU [] i b → (b = true → q = (i : Int) - 1) → GEnd c L f cd outer lo [L, e, it] q b s₀ s →
      Seg (model c.prog c.w) A (GR c.base outer lo) (GY c.base outer lo us) (escU [] i b).length s₀ (.func (fbody gS) (gEnv L f cd)) (kont (.ok .next)) [] s) :
    ∀ (rem : List Nat) (i j : Nat) (q : Int) (b : Bool) (s₀ s : Shared), y.cps.toList.drop i = rem → us.drop j = escU rem i b → GInv c L f e it cd y t outer i q b s₀ s →
      Seg (model c.prog c.w) A (GR c.base outer lo) (GY c.base outer lo us) (escU rem i b).length s₀ (.forLoop gTarget (.ref e) gBody [] (gEnv L f cd)) ((model c.prog c.w).den (.forLoop gTarget (.ref e) gBody [] (gEnv L f cd))) [.ret kont none false [] (.func (fbody gS) (gEnv L f cd)) p []] s := by
  intro rem
  have ok : (gF c (A.over (.forLoop gTarget (.ref e) gBody [] (gEnv L f cd)) [.ret kont none false [] (.func (fbody gS) (gEnv L f cd)) p []]) outer (gEnv L f cd)).Ok k := by
    refine gOk ?_ ?_ ?_ fx.bL bs
    · show pushEnvs [] (pushEnvs [gEnv L f cd] A.frames) = _
      rw [hA]; rfl
    · show A.depth + 1 + 0 + k < _; lia
    · show A.units + 3 + 0 + 20 * k < _; lia
  have D := drawsY (prog := c.prog) (w := c.w) (A := (A.over (.forLoop gTarget (.ref e) gBody [] (gEnv L f cd)) [.ret kont none false [] (.func (fbody gS) (gEnv L f cd)) p []]).in1) hh it y t
  have recs : ∀ (i : Nat) (s : Shared), (∃ old, IsEnum s.heap e it i old) → s.heap.IsStrIter it (strIterType y) y t i → ∀ b ∈ [e, it], c.base.get? b = none ∧ ∀ o, s.heap.get? b = some o → (∃ vs, o.data = .fields vs) ∧ o.cls ≠ .type "range" := fun i s he hi b hb => by
    simp only [List.mem_cons, List.not_mem_nil, or_false] at hb
    rcases hb with rfl | rfl
    · obtain ⟨old, h1⟩ := he
      refine ⟨fx.bE, fun o h2 => ?_⟩
      rw [h1] at h2; cases h2
      exact ⟨⟨_, rfl⟩, fun q => absurd (Value.type.inj q) (by decide)⟩
    · obtain ⟨o, h1, h2, h3⟩ := hi
      refine ⟨fx.bI, fun o' h4 => ?_⟩
      rw [h1] at h4; cases h4
      exact ⟨⟨_, h3⟩, fun q => by rw [h2] at q; exact (strIterType_ne y).1 (Value.type.inj q)⟩
  have news : ∀ b ∈ [L, e, it], lo b := fun b hb => by
    simp only [List.mem_cons, List.not_mem_nil, or_false] at hb
    rcases hb with rfl | rfl | rfl
    · exact fx.loL
    · exact fx.loE
    · exact fx.loI
  induction rem with
  | nil =>
    intro i j q b s₀ s hr hj inv
    obtain ⟨old, he⟩ := inv.enum
    have hi : i = y.cps.size := Nat.le_antisymm inv.le (by simpa using hr)
    have hit := inv.iter
    rw [hi] at hit
    refine seg_forLoop ?_
    refine wpAny_pyNext_enum_endD D he hit fun h' hx => ?_
    refine seg_block_nil (fin q b i j s₀ _ hj inv.pos ⟨fun A' => ?_, inv.ev.pv (t := s.toks) (fun b o hb e' => hx b o (fun q => hb (by simp [q])) e'), inv.old, news, by simp⟩)
    exact (inv.st A').chgs (t := s.toks) [e, it] (recs i s inv.enum inv.iter) (fun b o hb e' => hx b o (fun q => hb (by simp [q])) e')
  | cons ch r ih =>
    intro i j q b s₀ s hr hj inv
    obtain ⟨old, he⟩ := inv.enum
    have hlt : i < y.cps.size := by
      rcases Nat.lt_or_ge i y.cps.size with h | h
      · exact h
      · rw [List.drop_eq_nil_of_le (by simpa using h)] at hr; cases hr
    have hch : y.cps[i]? = some ch := by
      have := List.getElem?_drop (xs := y.cps.toList) (i := i) (j := 0)
      rw [hr] at this
      simpa using this.symm
    have hr' : y.cps.toList.drop (i + 1) = r := by
      rw [← List.drop_drop, hr]; rfl
    refine seg_forLoop ?_
    refine wpAny_pyNext_enum_itemD D he inv.iter hlt fx.ne3 (by simpa using fx.ne3) fun x h₁ tk hx ho hit₁ hT hsz hk₁ => ?_
    obtain ⟨ch', u, hc', rfl⟩ := hx
    rw [hch] at hc'; cases hc'
    refine wpAny_letOwnedTupleGo_enum ho fun h₂ he₂ hs₂ => ?_
    have keep₂ : ∀ b o, b ∉ [e, it] → s.heap.get? b = some o → h₂.get? b = some o := fun b o hb e' => by
      have h1 : b ≠ e := fun q => hb (by simp [q])
      have h2 : b ≠ it := fun q => hb (by simp [q])
      exact (hs₂.2 b h1).trans (hk₁ b o h1 h2 e')
    have st₂ := (inv.st (A.over (.forLoop gTarget (.ref e) gBody [] (gEnv L f cd)) [.ret kont none false [] (.func (fbody gS) (gEnv L f cd)) p []])).chgs (t := tk + 1) [e, it] (recs i s inv.enum inv.iter) (h' := h₂) keep₂
    have ev₂ := inv.ev.pv (t := tk + 1) (h' := h₂) (fun b o hb e' => keep₂ b o (fun hm => hb (List.mem_cons_of_mem _ hm)) e')
    have hit₂ : h₂.IsStrIter it (strIterType y) y t (i + 1) := by
      obtain ⟨o, q1, q2⟩ := hit₁
      exact ⟨o, (hs₂.2 it (Ne.symm fx.ne3)).trans q1, q2⟩
    have hTe : s.heap.objs.size ≠ e := Nat.ne_of_gt (Heap.lt_size he)
    have hv : VR h₂ noHp (.d (.tuple [.int (i : Int), .str ⟨#[ch]⟩])) (.ref s.heap.objs.size) := by
      simp only [VR]
      rw [RD]
      refine ⟨_, [.int i tk, .str ⟨#[ch]⟩ u], 0, rfl, (hs₂.2 _ hTe).trans hT, rfl, RDs.cons (by simp only [RD]; exact ⟨_, rfl⟩) (RDs.cons (by simp only [RD]; exact ⟨_, rfl⟩) RDs.nil)⟩
    have at₂ : AT (gF c (A.over (.forLoop gTarget (.ref e) gBody [] (gEnv L f cd)) [.ret kont none false [] (.func (fbody gS) (gEnv L f cd)) p []]) outer (gEnv L f cd)) gTarget (.d (.tuple [.int (i : Int), .str ⟨#[ch]⟩])) (gm q b) (fun m' σ' => m' = ((gm q b).put "pos" (.d (.int (i : Int)))).put "ch" (.d (.str ⟨#[ch]⟩)) ∧ σ' = noHp) noHp := by
      refine at_tuple hh rfl rfl rfl ?_
      exact at_name ok (.loc rfl rfl) (at_name ok (.loc rfl rfl) ⟨rfl, rfl⟩)
    refine wpAny_mono (at₂ _ _ st₂ hv) (fun _ s₃ ⟨m₃, σ₃, ev₃, st₃, q1, q2⟩ => ?_) fun _ _ x => x
    subst q1 q2
    have evg : ∀ {s s' : Shared}, Ev (gF c (A.over (.forLoop gTarget (.ref e) gBody [] (gEnv L f cd)) [.ret kont none false [] (.func (fbody gS) (gEnv L f cd)) p []]) outer (gEnv L f cd)).fr (gF c (A.over (.forLoop gTarget (.ref e) gBody [] (gEnv L f cd)) [.ret kont none false [] (.func (fbody gS) (gEnv L f cd)) p []]) outer (gEnv L f cd)).wr noHp noHp s s' → EvG (frAddrs outer) [L, e, it] s s' := fun x => x.g fun b hb => by
      rcases hb with rfl | hb
      · exact List.mem_cons_self
      · cases hb.2
    have keepEI : ∀ {s s' : Shared} {j : Nat} {m : Lo}, Ev (gF c (A.over (.forLoop gTarget (.ref e) gBody [] (gEnv L f cd)) [.ret kont none false [] (.func (fbody gS) (gEnv L f cd)) p []]) outer (gEnv L f cd)).fr (gF c (A.over (.forLoop gTarget (.ref e) gBody [] (gEnv L f cd)) [.ret kont none false [] (.func (fbody gS) (gEnv L f cd)) p []]) outer (gEnv L f cd)).wr noHp noHp s s' → St (gF c (A.over (.forLoop gTarget (.ref e) gBody [] (gEnv L f cd)) [.ret kont none false [] (.func (fbody gS) (gEnv L f cd)) p []]) outer (gEnv L f cd)) noHp m s →
        (∃ old, IsEnum s.heap e it j old) → s.heap.IsStrIter it (strIterType y) y t j → (∃ old, IsEnum s'.heap e it j old) ∧ s'.heap.IsStrIter it (strIterType y) y t j := fun {s s' j m} x st he hi => by
      have nf : ∀ b o vs, s.heap.get? b = some o → o.data = .fields vs → b ∉ frAddrs outer := fun b o vs h1 h2 hm => by
        obtain ⟨o', es, ep, q1, q2⟩ := st.gs.frames.2.2.mem hm
        rw [h1] at q1; cases q1; rw [h2] at q2; cases q2
      have nw : ∀ b, b ≠ L → ¬ (gF c (A.over (.forLoop gTarget (.ref e) gBody [] (gEnv L f cd)) [.ret kont none false [] (.func (fbody gS) (gEnv L f cd)) p []]) outer (gEnv L f cd)).wr b := fun b h1 h2 => by
        rcases h2 with h2 | h2
        · exact h1 h2
        · cases h2.2
      obtain ⟨old, h1⟩ := he
      obtain ⟨o, h2, h3, h4⟩ := hi
      obtain ⟨_, n2, n3, _⟩ := strIterType_ne y
      exact ⟨⟨old, x.keep e _ h1 rfl (nw e (Ne.symm fx.ne1)) (nf e _ _ h1 rfl) (notX_cls rfl (by decide) (by decide))⟩, ⟨o, x.keep it o h2 rfl (nw it (Ne.symm fx.ne2)) (nf it o _ h2 h4) (notX_cls h3 n2 n3), h3, h4⟩⟩
    have ei₃ := keepEI ev₃ st₂ ⟨_, by simpa using he₂⟩ hit₂
    refine seg_execs_cons ?_
    refine seg_if (F := gF c (A.over (.forLoop gTarget (.ref e) gBody [] (gEnv L f cd)) [.ret kont none false [] (.func (fbody gS) (gEnv L f cd)) p []]) outer (gEnv L f cd)) (b := b) rfl st₃ ?_ ?_
    · walk_at "go"
      exact ⟨rfl, rfl⟩
    intro s₄ ev₄ st₄
    have ei₄ := keepEI ev₄ st₃ ei₃.1 ei₃.2
    have eg₄ := ev₂.trans ((evg ev₃).trans (evg ev₄))
    cases b with
    | true =>
      simp only [if_true]
      refine seg_execs_cons ?_
      rw [escU] at hj ⊢
      rw [List.length_cons]
      refine seg_yieldE (F := gF c (A.over (.forLoop gTarget (.ref e) gBody [] (gEnv L f cd)) [.ret kont none false [] (.func (fbody gS) (gEnv L f cd)) p []]) outer (gEnv L f cd)) (a := .tup [.d (.int (i : Int)), .d (.str ⟨#[92, ch]⟩)]) rfl st₄ rfl rfl rfl ?_ ?_ rfl rfl
      · walk_at "go"
        · have := sizeLine_big; show 2 ≤ sizeLine; lia
        · walk_at "go"
          exact ⟨by have := sizeLine_big; show 2 ≤ sizeLine; lia  , rfl, rfl⟩
      intro v s₅ ev₅ st₅ hv₅ kap hkap
      have ei₅ := keepEI ev₅ st₄ ei₄.1 ei₄.2
      refine gYield (j := j) (i := i + 1) (q := (i : Int)) (b := true) (u := ((i : Int), ⟨#[92, ch]⟩)) fx hj rfl hv₅ ⟨fun A' => (St.reA st₅).sub (gm_sub (by walk_at "lk") (by walk_at "lk")), fun _ => by lia  , hlt, ei₅.1, ei₅.2, eg₄.trans (evg ev₅), inv.old⟩ ?_
      intro s'' inv''
      refine hkap s'' ?_
      refine seg_execs_cons ?_
      refine seg_ex (F := gF c (A.over (.forLoop gTarget (.ref e) gBody [] (gEnv L f cd)) [.ret kont none false [] (.func (fbody gS) (gEnv L f cd)) p []]) outer (gEnv L f cd)) (P := fun m' => m' "pos" = some (.d (.int (i : Int))) ∧ m' "escape" = some (.d (.bool false))) rfl (inv''.st _) ?_ ?_
      · walk_at "go"
        exact ⟨rfl, rfl, by walk_at "lk", by walk_at "lk"⟩
      intro m₆ s₆ ev₆ st₆ hm₆
      have ei₆ := keepEI ev₆ (inv''.st _) inv''.enum inv''.iter
      refine seg_again rfl ?_
      exact ih (i + 1) (j + 1) (i : Int) false s'' s₆ hr' (by rw [← List.drop_drop, hj]; rfl) ⟨fun A' => (St.reA st₆).sub (gm_sub hm₆.1 hm₆.2), (fun q => (nomatch q)), hlt, ei₆.1, ei₆.2, evg ev₆, inv''.old⟩
    | false => 
      simp only [Bool.false_eq_true, if_false]
      refine seg_execs_cons ?_
      refine seg_if (F := gF c (A.over (.forLoop gTarget (.ref e) gBody [] (gEnv L f cd)) [.ret kont none false [] (.func (fbody gS) (gEnv L f cd)) p []]) outer (gEnv L f cd)) (b := decide (ch = 92)) rfl st₄ ?_ ?_
      · walk_at "go"
        exact ⟨sign_eq ch 92, rfl⟩
      intro s₅ ev₅ st₅
      have ei₅ := keepEI ev₅ st₄ ei₄.1 ei₄.2
      rw [escU] at hj ⊢
      by_cases hc : ch = 92
      · simp only [hc, decide_true, if_true] at hj ⊢
        refine seg_execs_cons ?_
        refine seg_ex (F := gF c (A.over (.forLoop gTarget (.ref e) gBody [] (gEnv L f cd)) [.ret kont none false [] (.func (fbody gS) (gEnv L f cd)) p []]) outer (gEnv L f cd)) (P := fun m' => m' "pos" = some (.d (.int (i : Int))) ∧ m' "escape" = some (.d (.bool true))) rfl st₅ ?_ ?_
        · walk_at "go"
          exact ⟨rfl, rfl, by walk_at "lk", by walk_at "lk"⟩
        intro m₆ s₆ ev₆ st₆ hm₆
        have ei₆ := keepEI ev₆ st₅ ei₅.1 ei₅.2
        refine seg_again rfl ?_
        exact ih (i + 1) j (i : Int) true s₀ s₆ hr' hj ⟨fun A' => (St.reA st₆).sub (gm_sub hm₆.1 hm₆.2), fun _ => by lia  , hlt, ei₆.1, ei₆.2, eg₄.trans ((evg ev₅).trans (evg ev₆)), inv.old⟩
      · simp only [hc, decide_false, Bool.false_eq_true, if_false] at hj ⊢
        refine seg_execs_cons ?_
        rw [List.length_cons]
        refine seg_yieldE (F := gF c (A.over (.forLoop gTarget (.ref e) gBody [] (gEnv L f cd)) [.ret kont none false [] (.func (fbody gS) (gEnv L f cd)) p []]) outer (gEnv L f cd)) (a := .tup [.d (.int (i : Int)), .d (.str ⟨#[ch]⟩)]) rfl st₅ rfl rfl rfl ?_ ?_ rfl rfl
        · walk_at "go"
          exact ⟨by have := sizeLine_big; show 2 ≤ sizeLine; lia  , rfl, rfl⟩
        intro v s₆ ev₆ st₆ hv₆ kap hkap
        have ei₆ := keepEI ev₆ st₅ ei₅.1 ei₅.2
        refine gYield (j := j) (i := i + 1) (q := (i : Int)) (b := false) (u := ((i : Int), ⟨#[ch]⟩)) fx hj rfl hv₆ ⟨fun A' => (St.reA st₆).sub (gm_sub (by walk_at "lk") (by walk_at "lk")), (fun q => (nomatch q)), hlt, ei₆.1, ei₆.2, eg₄.trans ((evg ev₅).trans (evg ev₆)), inv.old⟩ ?_
        intro s'' inv''
        refine hkap s'' ?_
        refine seg_again rfl ?_
        exact ih (i + 1) (j + 1) (i : Int) false s'' s'' hr' (by rw [← List.drop_drop, hj]; rfl) inv''
theorem eval_enum {F : Fx} {k : Nat} {m : Lo} {s : Shared} {y : Str} {p q pos : Pos} {Z : Value → Shared → Prop} (ok : F.Ok k) (st : St F noHp m s) (hg : F.env.kindOf "enumerate" = some .globalImplicit) (ge : F.G "enumerate" = some (.type "enumerate")) (hb : Bound F "addr") (hm : m "addr" = some (.d (.str y))) (hst : starEach [.Name "addr" q] F.env = [.Name "addr" q].map fun e => (false, eval e F.env))
    (h : ∀ t it s', Ev F.fr F.wr noHp noHp s s' → St F noHp m s' → IsEnum s'.heap (it + 1) it 0 .none → s'.heap.IsStrIter it (strIterType y) y t 0 → F.env.locals < it → F.base.get? it = none → F.base.get? (it + 1) = none → (∀ b, s.heap.get? b ≠ none → b ≠ it ∧ b ≠ it + 1) → Z (.ref (it + 1)) s') :
    wpAny F.M F.A (eval (.Call (.Name "enumerate" p) [.Name "addr" q] [] pos) F.env) Z (VExc F m noHp s fun _ _ _ => False) s := by
  refine wpAny_Call_NameR ((ev_global (pos := p) (X := fun _ _ _ => False) (Q := fun a σ₁ => a = .obj (.type "enumerate") ∧ σ₁ = noHp) ok hg ge ⟨rfl, rfl⟩ (by decide) s st).seq Ev.refl fun v a σ₁ s₁ _ e1 st1 r1 ⟨q1, q2⟩ => ?_)
  subst q1 q2
  obtain rfl := r1.obj
  refine PyProof.Rows.callWith_type (any_star hst) (evalArgs_evl (QL := fun as σ₂ => as = [.d (.str y)] ∧ σ₂ = noHp) hst (evl_cons (ev_bound ok hb hm (evl_nil ⟨rfl, rfl⟩) (by decide)) rfl) st1 e1 fun vs as σ₂ s₂ _ e2 st2 r2 ⟨q1, q2⟩ => ?_)
  subst q1 q2
  obtain ⟨v, rfl, r3⟩ := r2.one
  obtain ⟨t, rfl⟩ := r3.str
  refine call_enumerate_str fun h' he hi hsz hk => ?_
  obtain ⟨st3, ev3⟩ := st2.ext (t := s₂.toks) hk
  refine h t s₂.heap.objs.size _ (e2.trans ev3) st3 he hi ?_ (st2.gs.base_ge (Nat.le_refl _)) (st2.gs.base_ge (Nat.le_succ _)) fun b hb => ?_
  · obtain ⟨o, ho⟩ := st2.wr_there (.inl rfl)
    exact Heap.lt_size ho
  · cases hq : s.heap.get? b with
    | none => exact absurd hq hb
    | some o =>
      obtain ⟨o', ho'⟩ := e2.own b o hq
      have := Heap.lt_size ho'
      exact ⟨Nat.ne_of_lt this, Nat.ne_of_lt (Nat.lt_succ_of_lt this)⟩
set_option maxHeartbeats 1000000 in
theorem iter_ok {c : Cc} {f : Addr} {σ : Hp} {y : Str} (k : Nat) (hf : FnI c 1 f) (ge : c.G "enumerate" = some (.type "enumerate")) (bs : Bs c.base c.G) (hy : y.length < 2 ^ 20) :
    GL c (k + 1) f [.d (.str y)] (escU y.cps.toList 0 false) σ := by
  intro A outer s vs hA hd hu hh g r
  obtain ⟨o, pm, cd, doc, ho, hdat, hcd⟩ := hf.at_
  obtain ⟨v, rfl, r1⟩ := r.one
  obtain ⟨t, rfl⟩ := r1.str
  have hLn : c.base.get? s.heap.objs.size = none := g.base_ge (Nat.le_refl _)
  refine codeAny_call_generator (body := fbody gS) (Nat.lt_of_le_of_lt (Nat.le_add_right _ _) hd) (g.keep _ _ ho) hdat rfl rfl rfl (hcd.keeps g.keep) ?_
  rw [show bindArgs (Calls.docDef (fname gS) (fargs gS) (fbody gS) (fscope gS) pm cd doc) ⟨[.str y t], []⟩ = (pure [(("addr" : Str), Value.str y t)] : Sem (List (Str × Value))) from rfl]
  refine wpAny_pure ?_
  refine wpAny_newFunctionEnv_cells rfl ?_ fun env henv s' X => ?_
  · intro x hx
    obtain rfl := List.mem_singleton.mp hx
    exact .inl rfl
  obtain ⟨h₁, tk, rfl, _⟩ := X.done
  have henv' : env = gEnv s.heap.objs.size f cd := henv
  subst henv'
  have ns := X.toInCall.ns
  have keep := X.toInCall.keep
  obtain ⟨oL, es, ep, hL1, hL2, hL3⟩ := ns
  refine ⟨(bs.nolimit.keeps g.keep).keeps keep, ?_⟩
  have kg : ∀ b o, s.heap.get? b = some o → (h₁.push { cls := .type "generator", data := .fields #[.int s.gens.size 0, .str (fname gS) tk, .str (fname gS) (tk + 1)] }).get? b = some o := fun b o e => Heap.get?_push_of_some _ (keep b o e)
  have hlo : s.heap.objs.size < h₁.objs.size := Heap.lt_size hL1
  have kq : SeqKept σ σ s.heap (h₁.push { cls := .type "generator", data := .fields #[.int s.gens.size 0, .str (fname gS) tk, .str (fname gS) (tk + 1)] }) := fun b o e _ hσ => ⟨hσ, kg b o e⟩
  have hLI : ¬ Imm oL ∧ ¬ Xish oL := by
    refine ⟨?_, notX_data fun vs q => by rw [hL2] at q; cases q⟩
    rintro (⟨ws, n, q⟩ | ⟨ws, q, _⟩) <;> rw [hL2] at q <;> cases q
  refine ⟨h₁.objs.size, s.gens.size, .fresh (.func (fbody gS) (gEnv s.heap.objs.size f cd)), [s.heap.objs.size], rfl, ?_, ?_, ⟨_, _, _, Heap.get?_push_size _ rfl, rfl, rfl, rfl⟩, Heap.get?_none_of_le (Nat.le_of_lt hlo), Nat.le_refl _, by simp, ?_, ?_, ?_, ?_⟩
  · exact ⟨fun b o e _ _ _ _ => kg b o e, fun b o e _ _ _ => ⟨o, kg b o e, rfl, rfl⟩, fun _ e => .inl e, fun b o e => ⟨o, kg b o e⟩, rfl, fun g' x e => by
      have := (Array.getElem?_eq_some_iff.mp e).1
      show (s.gens.push _)[g']? = _
      rw [Array.getElem?_push_lt this]; exact e.symm ▸ (Array.getElem?_eq_getElem this).symm ▸ rfl⟩
  · refine ⟨fun b o e => kg b o (g.keep b o e), g.frames.of fun b o es ep e hd => ⟨o, es, ep, kg b o e, hd⟩, fun a ds ha => ?_, g.bare.push rfl⟩
    obtain ⟨h1, ws, n, h2, h3⟩ := g.lists a ds ha
    exact ⟨h1, ws, n, kg _ _ h2, h3.mono kq⟩
  · intro b hb; obtain rfl := List.mem_singleton.mp hb; exact Nat.le_refl _
  · intro hb; exact absurd (List.mem_singleton.mp hb) (Nat.ne_of_gt hlo)
  · intro b hb; obtain rfl := List.mem_singleton.mp hb
    exact ⟨oL, Heap.get?_push_of_some _ hL1, hLI.1, hLI.2⟩
  · intro A' outer' s'' al hal1 hal2 hA' hd' hu' hh' g' hk'
    refine ⟨rfl, ?_⟩
    have ok : (gF c (A'.over (.func (fbody gS) (gEnv s.heap.objs.size f cd)) []) outer' (gEnv s.heap.objs.size f cd)).Ok k := by
      refine gOk ?_ ?_ ?_ hLn bs
      · show pushEnvs [gEnv s.heap.objs.size f cd] (pushEnvs [] A'.frames) = _
        rw [hA']; rfl
      · show A'.depth + 0 + 1 + k < _; lia
      · show A'.units + 0 + 3 + 20 * k < _; lia
    have hL'' : s''.heap.get? s.heap.objs.size = some oL := (hk' _ (by simp)).trans (Heap.get?_push_of_some _ hL1)
    have st0 : St (gF c (A'.over (.func (fbody gS) (gEnv s.heap.objs.size f cd)) []) outer' (gEnv s.heap.objs.size f cd)) noHp (Lo.put (fun _ => none) "addr" (.d (.str y))) s'' := by
      refine ⟨⟨g'.keep, ⟨show (fscope gS).kind ≠ .module by decide, ⟨_, oL, es, ep, rfl, hLn, hL'', hL2⟩, g'.frames⟩, fun a ds ha => (nomatch ha), g'.bare⟩, ⟨⟨_, ⟨oL, es, ep, hL'', hL2, hL3⟩, fun x a hx hm => ?_⟩, fun x ca hc => (by cases hc), fun p hp => (by cases hp)⟩⟩
      unfold Lo.put at hm
      split at hm
      · rename_i e; subst e; cases hm
        exact ⟨.str y t, rfl, vr_str⟩
      · cases hm
    have evg : ∀ {e it : Addr} {s s₁ : Shared} {A : Around} {L : Addr}, Ev (gF c A outer' (gEnv L f cd)).fr (gF c A outer' (gEnv L f cd)).wr noHp noHp s s₁ → EvG (frAddrs outer') [L, e, it] s s₁ := fun x => x.g fun b hb => by
      rcases hb with rfl | hb
      · exact List.mem_cons_self
      · cases hb.2
    refine seg_func ?_
    refine seg_execs_cons ?_
    refine seg_ex (F := gF c (A'.over (.func (fbody gS) (gEnv s.heap.objs.size f cd)) []) outer' (gEnv s.heap.objs.size f cd)) (P := fun m' => m' = (Lo.put (fun _ => none) "addr" (.d (.str y))).put "pos" (.d (.int 0))) rfl st0 ?_ ?_
    · walk_at "go"
      exact ⟨rfl, rfl, rfl⟩
    intro m₁ s₁ ev₁ st₁ hm₁
    subst hm₁
    refine seg_execs_cons ?_
    refine seg_ex (F := gF c (A'.over (.func (fbody gS) (gEnv s.heap.objs.size f cd)) []) outer' (gEnv s.heap.objs.size f cd)) (P := fun m' => m' = ((Lo.put (fun _ => none) "addr" (.d (.str y))).put "pos" (.d (.int 0))).put "escape" (.d (.bool false))) rfl st₁ ?_ ?_
    · walk_at "go"
      exact ⟨rfl, rfl, rfl⟩
    intro m₂ s₂ ev₂ st₂ hm₂
    subst hm₂
    refine seg_execs_cons ?_
    refine seg_For (fun _ => rfl) ?_
    refine wpAny_mono (eval_enum ok st₂ rfl ge (.loc rfl rfl) (by walk_at "lk") rfl ?_) (fun _ _ x => x) (fun _ _ ⟨_, _, _, x⟩ => x.elim)
    intro t' it s₃ ev₃ st₃ he hi hLi hbi hbe hfresh
    refine wpAny_pyIter_enum he ?_
    intro p
    have nos : ∀ b, (b = it ∨ b = it + 1) → s''.heap.get? b = none := fun b hb => by
      cases hq : s''.heap.get? b with
      | none => rfl
      | some o' =>
        obtain ⟨o1, q1⟩ := ev₁.own b o' hq
        obtain ⟨o2, q2⟩ := ev₂.own b o1 q1
        have := hfresh b (by rw [q2]; exact fun z => nomatch z)
        rcases hb with rfl | rfl
        · exact absurd rfl this.1
        · exact absurd rfl this.2
    have fx : GFix c s.heap.objs.size (it + 1) it al := ⟨hal1 _ (by simp), hal2 _ (Nat.lt_succ_of_lt hLi) (nos _ (.inr rfl)), hal2 _ hLi (nos _ (.inl rfl)), Nat.ne_of_lt (Nat.lt_succ_of_lt hLi), Nat.ne_of_lt hLi, Nat.succ_ne_self it, hLn, hbe, hbi⟩
    refine gen_loop (k := k) hA' hd' hu' hh' bs hy fx ?_ _ 0 0 0 false s'' s₃ rfl rfl ⟨fun A₃ => (St.reA st₃).sub (gm_sub (by walk_at "lk") (by walk_at "lk")), (fun q => (nomatch q)), Nat.zero_le _, ⟨_, he⟩, hi, (evg ev₁).trans ((evg ev₂).trans (evg ev₃)), ?_⟩
    · intro q b i j s₀ s₄ hj hq ge
      show Seg _ _ _ _ _ _ _ ((execs _ _).wrap _ _ _ _) [] _
      refine seg_execs_cons ?_
      refine seg_if (F := gF c (A'.over (.func (fbody gS) (gEnv s.heap.objs.size f cd)) []) outer' (gEnv s.heap.objs.size f cd)) (b := b) rfl (ge.st _) ?_ ?_
      · walk_at "go"
        exact ⟨rfl, rfl⟩
      intro s₅ ev₅ st₅
      have ge₅ : GEnd c s.heap.objs.size f cd outer' al [s.heap.objs.size, it + 1, it] q b s₀ s₅ := ⟨fun A₅ => St.reA st₅, ge.ev.trans (evg ev₅), ge.old, ge.new, ge.here⟩
      cases b with
      | false =>
        rw [escU]
        exact seg_end (.ok (.ret .none)) ⟨rfl, rfl, _, ge₅.step⟩
      | true =>
        simp only [if_true]
        rw [escU] at hj ⊢
        refine seg_execs_cons ?_
        refine seg_yieldE (n := 0) (F := gF c (A'.over (.func (fbody gS) (gEnv s.heap.objs.size f cd)) []) outer' (gEnv s.heap.objs.size f cd)) (a := .tup [.d (.int q), .d (.str ⟨#[92]⟩)]) rfl st₅ rfl rfl rfl ?_ ?_ rfl rfl
        · walk_at "go"
          exact ⟨by have := sizeLine_big; show 2 ≤ sizeLine; lia  , rfl, rfl⟩
        intro v s₆ ev₆ st₆ hv₆ kap hkap
        rw [hq rfl] at hv₆
        refine gYieldEnd hLn hj hv₆ ⟨fun A₆ => St.reA st₆, ge₅.ev.trans (evg ev₆), ge.old, ge.new, ge.here⟩ fun s₇ ge₇ => hkap s₇ ?_
        exact seg_end (.ok (.ret .none)) ⟨rfl, rfl, _, ge₇.step⟩
    · intro b hb o' e'
      have there : b ≠ it ∧ b ≠ it + 1 := hfresh b fun q => by
        obtain ⟨o1, q1⟩ := ev₁.own b o' e'
        obtain ⟨o2, q2⟩ := ev₂.own b o1 q1
        rw [q] at q2; cases q2
      simp only [List.mem_cons, List.not_mem_nil, or_false] at hb
      rcases hb with rfl | rfl | rfl
      · rw [hL''] at e'; cases e'
        exact ⟨hLI.1, fun ⟨⟨vs, q⟩, _⟩ => by rw [hL2] at q; cases q⟩
      · exact absurd rfl there.2
      · exact absurd rfl there.1
noncomputable def cmp3 (a b : T) : Int := b2i (tltB b a) - b2i (tltB a b)
set_option maxHeartbeats 1000000 in
theorem cmp3_ok {c : Cc} {f : Addr} {σ : Hp} {a b : T} (k : Nat) (hf : FnI c 11 f) (bs : Bs c.base c.G) :
    CL c (k + 1) f [.d (tD a), .d (tD b)] (fun d σ' => d = .int (cmp3 a b) ∧ σ' = σ) (fun _ _ _ _ => False) σ := by
  refine cl_fn hf bs ["x", "y"] ?_ rfl rfl (by decide) (by decide) rfl rfl rfl ?_
  · intro pm cd doc vs hvs
    obtain ⟨a, b, rfl⟩ := len2 hvs; rfl
  · intro A outer L cd hA ok
    walk_at "seq"
    walk_at "go"
    exact ⟨.int (cmp3 a b), rfl, rfl, Hp.only_self⟩
set_option maxHeartbeats 0 in
theorem sld_ok {α : Type} [DecidableEq α] {toD : α → D} {lt : α → α → Prop} [DecidableRel lt] {c : Cc} {f : Addr} {σ : Hp} {ax ay : V} {xs ys : List α} (k : Nat) (C : CmpOk toD lt) (hf : FnI c 10 f) (gi : c.G "IndexError" = some (.type "IndexError")) (bs : Bs c.base c.G)
    (hax : asL σ ax = some (xs.map toD)) (hay : asL σ ay = some (ys.map toD)) (hx : xs.Pairwise lt) (hy : ys.Pairwise lt) (hxz : xs.length < 2 ^ 10) (hyz : ys.length < 2 ^ 10) :
    CL c (k + 2) f [ax, ay] (fun d σ' => d = .tuple [.list ((dif xs ys).map toD), .list ((dif ys xs).map toD)] ∧ σ' = σ) (fun _ _ _ _ => False) σ := by
  refine cl_fn hf bs ["expected", "actual"] ?_ rfl rfl (by decide) (by decide) rfl rfl rfl ?_
  · intro pm cd doc vs hvs
    obtain ⟨a, b, rfl⟩ := len2 hvs; rfl
  · intro A outer L cd hA ok
    walk_at "seq"
    refine ex_assign2 ok (.loc rfl rfl) (.loc rfl rfl) (ev_int ?_) rfl
    walk_at "go"
    refine ev_list (evl_nil ⟨[], rfl, by decide, fun M hM => ?_⟩)
    walk_at "go"
    refine ev_list (evl_nil ⟨[], rfl, by decide, fun U hU => ?_⟩)
    walk_at "go"
    have hUM : U ≠ M := fun q => by rw [q, Hp.set_same] at hU; cases hU
    have hU0 : σ U = none := by rw [Hp.set_ne _ _ hUM] at hU; exact hU
    let I : Nat → Nat → List α → List α → Lo → Hp → Prop := fun i j Ml Ul m' σ' => SlInv lt xs ys i j Ml Ul ∧ m' "expected" = some ax ∧ m' "actual" = some ay ∧ m' "i" = some (.d (.int (i : Int))) ∧ m' "j" = some (.d (.int (j : Int))) ∧ m' "missing" = some (.ref M) ∧ m' "unexpected" = some (.ref U) ∧ σ' = (σ.set M (Ml.map toD)).set U (Ul.map toD)
    have hok : HOk (frameOf' c A outer (fname (stmtAt pp 10)) (fscope (stmtAt pp 10)) L f cd) := .inl hA
    have hctx : ctxOf (frameOf' c A outer (fname (stmtAt pp 10)) (fscope (stmtAt pp 10)) L f cd).A = .none := by
      unfold ctxOf
      rw [show (frameOf' c A outer (fname (stmtAt pp 10)) (fscope (stmtAt pp 10)) L f cd).A.handled = A.handled from rfl, hA]; rfl
    have hgx : ∀ Ml Ul : List α, asL ((σ.set M (Ml.map toD)).set U (Ul.map toD)) ax = some (xs.map toD) := fun Ml Ul => asL_set (asL_set hax hM) (by rw [Hp.set_ne _ _ hUM]; exact hU0)
    have hgy : ∀ Ml Ul : List α, asL ((σ.set M (Ml.map toD)).set U (Ul.map toD)) ay = some (ys.map toD) := fun Ml Ul => asL_set (asL_set hay hM) (by rw [Hp.set_ne _ _ hUM]; exact hU0)
    refine ex_while (fun n m' σ' => ∃ i j Ml Ul, n = (xs.length - i) + (ys.length - j) ∧ I i j Ml Ul m' σ') (xs.length + ys.length) ⟨0, 0, [], [], rfl, SlInv.start, by walk_at "lk", by walk_at "lk", by walk_at "lk", by walk_at "lk", by walk_at "lk", by walk_at "lk", rfl⟩ ?_
    rintro n m' σ' ⟨i, j, Ml, Ul, rfl, inv, m1, m2, m3, m4, m5, m6, rfl⟩
    refine ts_val rfl (ev_bool (trv_bool ?_))
    simp only [if_true]
    walk_at "seq"
    have hi := inv.i_le
    have hj := inv.j_le
    refine ex_try (msg := "list index out of range") (c := false) (P := fun m' σ' => ∃ i j Ml Ul, (i = xs.length ∨ j = ys.length) ∧ I i j Ml Ul m' σ') rfl ok rfl gi ?body ?hand
    case hand =>
      rintro e base' m₁ σ₁ ok' ⟨i₁, j₁, Ml₁, Ul₁, hor, inv₁, n1, n2, n3, n4, n5, n6, rfl⟩
      have fin := inv₁.fin C.irrefl hor
      have sM : (σ.set M (Ml₁.map toD)).set U (Ul₁.map toD) M = some (Ml₁.map toD) := by rw [Hp.set_ne _ _ (Ne.symm hUM), Hp.set_same]
      have z1 := inv₁.i_le
      have z2 := inv₁.j_le
      have zM : Ml₁.length ≤ xs.length := by rw [inv₁.miss]; exact Nat.le_trans (List.length_filter_le _ _) (by simp; lia  )
      have zU : Ul₁.length ≤ ys.length := by rw [inv₁.unex]; exact Nat.le_trans (List.length_filter_le _ _) (by simp; lia  )
      walk_at "seq"
      walk_at "go"
      refine ⟨list_typed (ds := Ml₁.map toD) sM, ?_⟩
      refine evl_cons (ev_sliceL ?_ (fun _ _ => rfl)) rfl
      refine ev_bound ok' (.loc rfl rfl) n1 ?_ (by decide)
      refine ev_bound ok' (.loc rfl rfl) n3 ⟨_, rfl, ?_⟩ (by decide)
      refine ⟨_, hgx Ml₁ Ul₁, hgx Ml₁ Ul₁, by rw [List.length_map]; lia  , fun r hr => ?_⟩
      rw [sl_from (by walk_at "lm"), ← List.map_drop]
      have hrM : r ≠ M := fun q => by rw [q, sM] at hr; cases hr
      have hrU : r ≠ U := fun q => by rw [q, Hp.set_same] at hr; cases hr
      refine evl_nil ?_
      refine bc_extend (b := M) (ds := Ml₁.map toD) (es := (xs.drop i₁).map toD) (by rw [Hp.set_ne _ _ hrM.symm]; exact sM) (Hp.set_same _ _ _) (by simp only [List.length_map, List.length_drop]; lia  ) ?_
      walk_at "end"
      walk_at "seq"
      walk_at "go"
      refine ⟨list_typed (ds := Ul₁.map toD) (by show Hp.set _ _ _ _ = _; rw [Hp.set_ne _ _ hUM, Hp.set_ne _ _ hrU.symm, Hp.set_same]), ?_⟩
      refine evl_cons (ev_sliceL ?_ (fun _ _ => rfl)) rfl
      have ag₁ : Ag σ (((( σ.set M (Ml₁.map toD)).set U (Ul₁.map toD)).set r ((xs.drop i₁).map toD)).set M (Ml₁.map toD ++ (xs.drop i₁).map toD)) := by
        have hr0 : σ r = none := by rw [Hp.set_ne _ _ hrU, Hp.set_ne _ _ hrM] at hr; exact hr
        exact (((Ag.refl.set hM).set hU0).set hr0).set hM
      refine ev_bound ok' (.loc rfl rfl) n2 ?_ (by decide)
      refine ev_bound ok' (.loc rfl rfl) n4 ⟨_, rfl, ?_⟩ (by decide)
      refine ⟨_, asL_ag hay ag₁, asL_ag hay ag₁, by rw [List.length_map]; lia  , fun r' hr' => ?_⟩
      rw [sl_from (by walk_at "lm"), ← List.map_drop]
      have hrU' : r' ≠ U := fun q => by rw [q, Hp.set_ne _ _ hUM, Hp.set_ne _ _ hrU.symm, Hp.set_same] at hr'; cases hr'
      have hrM' : r' ≠ M := fun q => by rw [q, Hp.set_same] at hr'; cases hr'
      refine evl_nil ?_
      refine bc_extend (b := U) (ds := Ul₁.map toD) (es := (ys.drop j₁).map toD) (by rw [Hp.set_ne _ _ hrU'.symm, Hp.set_ne _ _ hUM, Hp.set_ne _ _ hrU.symm, Hp.set_same]) (Hp.set_same _ _ _) (by simp only [List.length_map, List.length_drop]; lia  ) ?_
      have ag₂ := (ag₁.set (ds := (ys.drop j₁).map toD) (ag₁.new hr')).set (ds := Ul₁.map toD ++ (ys.drop j₁).map toD) hU0
      walk_at "end"
      walk_at "seq"
      refine ex_break ?_
      walk_at "end"
      walk_at "seq"
      walk_at "go"
      refine ⟨(szl (n := 2) (by decide)), ?_⟩
      (walk_at "end"; refine ⟨.tuple [.list ((Ml₁ ++ xs.drop i₁).map toD), .list ((Ul₁ ++ ys.drop j₁).map toD)], ?_, ?_, ag₂.only⟩)
      · simp only [fz, fzs, hM, hU0]
        rw [Hp.set_ne _ _ hUM.symm, Hp.set_ne _ _ hrM'.symm, Hp.set_same, Hp.set_same, List.map_append, List.map_append]
      · rw [fin.1, fin.2]; rfl
    case body =>
      walk_at "seq"
      walk_at "go"
      refine sb_item (hgx _ _) (by lia  ) (by lia  ) hok (fun e he => ?_) (fun hle e s x => ⟨⟨i, j, Ml, Ul, .inl (Nat.le_antisymm hi hle), inv, m1, m2, m3, m4, m5, m6, rfl⟩, _, (fun q => (nomatch q)), x⟩) (fun _ _ => rfl)
      have hil : i < xs.length := (List.getElem?_eq_some_iff.mp he).1
      walk_at "go"
      refine sb_item (hgy _ _) (by lia  ) (by lia  ) hok (fun a ha => ?_) (fun hle e' s x => ⟨⟨i, j, Ml, Ul, .inr (Nat.le_antisymm hj hle), inv, by walk_at "lk", by walk_at "lk", by walk_at "lk", by walk_at "lk", by walk_at "lk", by walk_at "lk", rfl⟩, _, (fun q => (nomatch q)), x⟩) (fun _ _ => rfl)
      have hjl : j < ys.length := (List.getElem?_eq_some_iff.mp ha).1
      walk_at "go"
      refine C.ltV ok (trv_bool ?_)
      have zM : Ml.length ≤ xs.length := by rw [inv.miss]; exact Nat.le_trans (List.length_filter_le _ _) (by simp; lia  )
      have zU : Ul.length ≤ ys.length := by rw [inv.unex]; exact Nat.le_trans (List.length_filter_le _ _) (by simp; lia  )
      have sM : (σ.set M (Ml.map toD)).set U (Ul.map toD) M = some (Ml.map toD) := by rw [Hp.set_ne _ _ (Ne.symm hUM), Hp.set_same]
      by_cases hlt : lt e a
      · refine if_t (decide_eq_true hlt) ?_
        have inv' := inv.lt_step C.irrefl C.trans hx hy he ha hlt
        walk_at "seq"
        walk_at "go"
        refine ⟨list_typed (ds := Ml.map toD) sM, ?_⟩
        walk_at "go"
        refine bc_append sM (by walk_at "lm") ?_
        rw [Hp.set_under (Ne.symm hUM), show Ml.map toD ++ [toD e] = (Ml ++ [e]).map toD by simp]
        walk_at "go"
        refine ex_whileF rfl ok ?_
        walk_at "go"
        refine sb_item (i := i + 1) (hgx _ _) (by lia  ) (by lia  ) hok (fun e' he' => ?_) (fun hle e₂ s x => ⟨⟨i + 1, j, Ml ++ [e], Ul, .inl (Nat.le_antisymm inv'.i_le hle), inv', by walk_at "lk", by walk_at "lk", by walk_at "lk", by walk_at "lk", by walk_at "lk", by walk_at "lk", rfl⟩, _, (fun q => (nomatch q)), x⟩) (fun _ _ => rfl)
        walk_at "go"
        refine C.eqV ok (trv_bool ⟨decide_eq_false (next_ne C.irrefl hx he he'), ?_⟩)
        walk_at "end"
        have hil' : i + 1 < xs.length := (List.getElem?_eq_some_iff.mp he').1
        refine ⟨(xs.length - (i + 1)) + (ys.length - j), ?_, i + 1, j, Ml ++ [e], Ul, rfl, inv', ?_, ?_, ?_, ?_, ?_, ?_, rfl⟩
        · lia
        all_goals walk_at "lk"
      · refine if_f (decide_eq_false hlt) ?_
        walk_at "seq"
        refine ex_if ?_
        walk_at "go"
        refine C.gtV ok (trv_bool ?_)
        have sU : (σ.set M (Ml.map toD)).set U (Ul.map toD) U = some (Ul.map toD) := Hp.set_same _ _ _
        by_cases hgt : lt a e
        · refine if_t (decide_eq_true hgt) ?_
          have inv' := inv.gt_step C.irrefl C.trans hx hy he ha hgt
          walk_at "seq"
          walk_at "go"
          refine ⟨list_typed (ds := Ul.map toD) sU, ?_⟩
          walk_at "go"
          refine bc_append sU (by walk_at "lm") ?_
          rw [Hp.set_set, show Ul.map toD ++ [toD a] = (Ul ++ [a]).map toD by simp]
          walk_at "go"
          refine ex_whileF rfl ok ?_
          walk_at "go"
          refine sb_item (i := j + 1) (hgy _ _) (by lia  ) (by lia  ) hok (fun e' he' => ?_) (fun hle e₂ s x => ⟨⟨i, j + 1, Ml, Ul ++ [a], .inr (Nat.le_antisymm inv'.j_le hle), inv', by walk_at "lk", by walk_at "lk", by walk_at "lk", by walk_at "lk", by walk_at "lk", by walk_at "lk", rfl⟩, _, (fun q => (nomatch q)), x⟩) (fun _ _ => rfl)
          walk_at "go"
          refine C.eqV ok (trv_bool ⟨decide_eq_false (next_ne C.irrefl hy ha he'), ?_⟩)
          walk_at "end"
          have hjl' : j + 1 < ys.length := (List.getElem?_eq_some_iff.mp he').1
          refine ⟨(xs.length - i) + (ys.length - (j + 1)), ?_, i, j + 1, Ml, Ul ++ [a], rfl, inv', ?_, ?_, ?_, ?_, ?_, ?_, rfl⟩
          · lia
          all_goals walk_at "lk"
        · refine if_f (decide_eq_false hgt) ?_
          have hea : e = a := by
            by_cases q : e = a
            · exact q
            · exact ((C.total q).elim hlt hgt).elim
          subst hea
          have inv' := inv.eq_step hx hy he ha
          walk_at "seq"
          walk_at "go"
          refine ex_fin (msg := "list index out of range") (P := fun m' σ' => ∃ i j Ml Ul, (i = xs.length ∨ j = ys.length) ∧ I i j Ml Ul m' σ')
            (P₁ := fun m' σ' => i + 1 = xs.length ∧ m' "expected" = some ax ∧ m' "actual" = some ay ∧ m' "i" = some (.d (.int ((i : Int) + 1))) ∧ m' "j" = some (.d (.int (j : Int))) ∧ m' "missing" = some (.ref M) ∧ m' "unexpected" = some (.ref U) ∧ m' "a" = some (.d (toD e)) ∧ σ' = (σ.set M (Ml.map toD)).set U (Ul.map toD)) rfl ok ?inner ?final
          case inner =>
            walk_at "seq"
            refine ex_whileF rfl ok ?_
            walk_at "go"
            refine sb_item (i := i + 1) (hgx _ _) (by lia  ) (by lia  ) hok (fun e' he' => ?_) (fun hle e₂ s x => ⟨⟨Nat.le_antisymm inv'.i_le hle, by walk_at "lk", by walk_at "lk", by walk_at "lk", by walk_at "lk", by walk_at "lk", by walk_at "lk", by walk_at "lk", rfl⟩, _, (fun _ => hctx), x⟩) (fun _ _ => rfl)
            walk_at "go"
            refine C.eqV ok (trv_bool ⟨decide_eq_false (next_ne C.irrefl hx he he'), ?_⟩)
            walk_at "end"
            refine ⟨rfl, ?_⟩
            have hil' : i + 1 < xs.length := (List.getElem?_eq_some_iff.mp he').1
            walk_at "seq"
            walk_at "go"
            refine ex_whileF rfl ok ?_
            walk_at "go"
            refine sb_item (i := j + 1) (hgy _ _) (by lia  ) (by lia  ) hok (fun a' ha' => ?_) (fun hle e₂ s x => ⟨⟨i + 1, j + 1, Ml, Ul, .inr (Nat.le_antisymm inv'.j_le hle), inv', by walk_at "lk", by walk_at "lk", by walk_at "lk", by walk_at "lk", by walk_at "lk", by walk_at "lk", rfl⟩, _, (fun q => (nomatch q)), x⟩) (fun _ _ => rfl)
            walk_at "go"
            refine C.eqV ok (trv_bool ⟨decide_eq_false (next_ne C.irrefl hy ha ha'), ?_⟩)
            walk_at "end"
            have hjl' : j + 1 < ys.length := (List.getElem?_eq_some_iff.mp ha').1
            refine ⟨(xs.length - (i + 1)) + (ys.length - (j + 1)), ?_, i + 1, j + 1, Ml, Ul, rfl, inv', ?_, ?_, ?_, ?_, ?_, ?_, rfl⟩
            · lia
            all_goals walk_at "lk"
          case final =>
            rintro e₃ base' m₁ σ₁ ok' hok' ⟨hxe, n1, n2, n3, n4, n5, n6, n7, rfl⟩
            walk_at "seq"
            walk_at "go"
            refine ex_whileF rfl ok' ?_
            walk_at "go"
            refine sb_item (i := j + 1) (hgy _ _) (by lia  ) (by lia  ) hok' (fun a' ha' => ?_) (fun hle e₂ s x => ⟨⟨i + 1, j + 1, Ml, Ul, .inl hxe, inv', by walk_at "lk", by walk_at "lk", by walk_at "lk", by walk_at "lk", by walk_at "lk", by walk_at "lk", rfl⟩, _, (fun q => (nomatch q)), x⟩) (fun _ _ => rfl)
            walk_at "go"
            refine C.eqV ok' (trv_bool ⟨decide_eq_false (next_ne C.irrefl hy ha ha'), ?_⟩)
            walk_at "end"
            refine ⟨rfl, i + 1, j + 1, Ml, Ul, .inl hxe, inv', by walk_at "lk", by walk_at "lk", by walk_at "lk", by walk_at "lk", by walk_at "lk", by walk_at "lk", rfl⟩
set_option maxHeartbeats 4000000 in
theorem sqr_ok {c : Cc} {f fi : Addr} {σ : Hp} {y : Str} (k : Nat) (hf : FnI c 2 f) (hfi : FnI c 1 fi) (gi : c.G "_iter_escaped_chars" = some (.ref fi)) (ge : c.G "enumerate" = some (.type "enumerate")) (gl : c.G "len" = some (.builtin "len")) (bs : Bs c.base c.G) (hy : y.length < 2 ^ 20) :
    CL c (k + 3) f [.d (.str y)] (fun d σ' => d = .str (mkS (stripQ y.cps.toList)) ∧ σ' = σ) (fun _ _ _ _ => False) σ := by
  have hyl : y.cps.toList.length = y.length := by show _ = y.cps.size; simp
  refine cl_fn hf bs ["addr"] ?_ rfl rfl (by decide) (by decide) rfl rfl rfl ?_
  · intro pm cd doc vs hvs
    obtain ⟨a, rfl⟩ := len1 hvs; rfl
  · intro A outer L cd hA ok
    walk_at "seq"
    walk_at "go"
    refine cv_ninS ?_
    rw [show (Builtin.Str.occurrences y (Str.ofString "\"") 0 y.length 1).isEmpty = !decide (34 ∈ y.cps.toList) from empty_one y 34]
    walk_at "go"
    by_cases hq : 34 ∈ y.cps.toList
    · rw [decide_eq_true hq]
      simp only [Bool.not_true, Bool.false_eq_true, if_false]
      walk_at "end"
      walk_at "go"
      refine ev_list (evl_nil ⟨[], rfl, by decide, fun R hR => ?_⟩)
      walk_at "go"
      refine ex_forX (itx_genF ok (j := k + 1) (Nat.le_refl _) rfl gi hfi (by decide) hA rfl ?_) (fun _ => rfl)
      walk_at "go"
      refine ⟨_, iter_ok k hfi ge bs hy, ?_⟩
      have hsl := escU_len y.cps.toList 0 false
      simp only [Bool.false_eq_true, if_false, Nat.add_zero] at hsl
      refine ⟨fun i m' σ' => SqI y R σ (sqFold y.cps.toList ((escU y.cps.toList 0 false).take i)) m' σ', ⟨by walk_at "lk", by walk_at "lk", by walk_at "lk", by walk_at "lk", rfl⟩, ?_, ?_⟩
      · rintro i d m' σ' hd ⟨m1, m2, m3, m4, rfl⟩
        rw [List.getElem?_map] at hd
        obtain ⟨u, hu, rfl⟩ := Option.map_eq_some_iff.mp hd
        have hlt : i < (escU y.cps.toList 0 false).length := (List.getElem?_eq_some_iff.mp hu).1
        have so := SqOk.at_ (y := y.cps.toList) i (Nat.le_of_lt hlt)
        rw [drop_of hu] at so
        have hsu := sqFold_succ (y := y.cps.toList) hu
        obtain ⟨st, hst⟩ : ∃ st, st = sqFold y.cps.toList ((escU y.cps.toList 0 false).take i) := ⟨_, rfl⟩
        rw [← hst] at so hsu m2 m3 ⊢
        have hub := (escU_bd y.cps.toList 0 false u (List.mem_of_getElem? hu)).2.2
        have huz := (escU_bd y.cps.toList 0 false u (List.mem_of_getElem? hu)).1 rfl
        have htop := so.top
        have hszo := so.sz
        refine at_two ok hA (.loc rfl rfl) (.loc rfl rfl) rfl ?_
        walk_at "seq"
        walk_at "go"
        by_cases hqu : u.2 = qS
        · refine if_t (show (u.2 == Str.ofString "\"") = true from by rw [hqu]; rfl) ?_
          walk_at "seq"
          unfold sqStep at hsu
          rw [if_pos hqu] at hsu
          cases ho : st.opn with
          | none =>
            rw [ho] at m3 hsu
            walk_at "go"
            simp only [if_true]
            walk_at "go"
            walk_at "end"
            show SqI _ _ _ _ _ _
            rw [hsu]
            exact ⟨by walk_at "lk", by walk_at "lk", by rw [Lo.put_same]; simp only [opV]; congr 3; lia  , by walk_at "lk", rfl⟩
          | some o =>
            rw [ho] at m3 hsu
            obtain ⟨o1, o2, o3⟩ := so.op o ho
            replace m3 : m' "open_pos" = some (.d (.int (o : Int))) := m3
            walk_at "go"
            simp only [Bool.false_eq_true, if_false]
            walk_at "seq"
            walk_at "go"
            have hne : (((st.start : Int)) != (o : Int)) = decide (st.start ≠ o) := by
              by_cases q : st.start = o
              · simp [q]
              · have : ((st.start : Int)) ≠ (o : Int) := by lia
                simp [q, this]
            rw [hne]
            have fin : ∀ (m₁ : Lo) (out : List (List Nat)), m₁ "addr" = some (.d (.str y)) → m₁ "result" = some (.ref R) → m₁ "pos" = some (.d (.int u.1)) → out = (if st.start ≠ o then st.out ++ [(y.cps.toList.drop st.start).take (o - st.start)] else st.out) →
                SqI y R σ (sqFold y.cps.toList ((escU y.cps.toList 0 false).take (i + 1))) ((m₁.put "start" (.d (.int (u.1 + 1)))).put "open_pos" (.d .none)) (σ.set R ((out.map mkS).map .str)) := fun m₁ out n1 n2 n3 hout => by
              rw [hsu, hout]
              refine ⟨by walk_at "lk", ?_, by walk_at "lk", by walk_at "lk", rfl⟩
              rw [Lo.put_ne _ _ (by decide), Lo.put_same]
              congr 3
              show u.1 + 1 = ((u.1.toNat + 1 : Nat) : Int)
              lia
            by_cases hso : st.start = o
            · refine if_f (decide_eq_false (by simpa using hso)) ?_
              walk_at "end"
              walk_at "go"
              walk_at "end"
              exact fin _ st.out (by walk_at "lk") (by walk_at "lk") (by walk_at "lk") (by rw [if_neg (by simpa using hso)])
            · refine if_t (decide_eq_true (by simpa using hso)) ?_
              walk_at "seq"
              walk_at "go"
              refine ⟨list_typed (ds := (st.out.map mkS).map .str) (Hp.set_same _ _ _), ?_⟩
              refine evl_cons (ev_sliceS ?_ (fun _ _ => rfl)) rfl
              refine ev_bound ok (.loc rfl rfl) (by walk_at "lk") ?_ (by decide)
              refine ev_bound ok (.loc rfl rfl) (by walk_at "lk") ⟨_, rfl, ?_⟩ (by decide)
              refine ev_bound ok (.loc rfl rfl) (by walk_at "lk") ⟨_, rfl, ?_⟩ (by decide)
              refine ⟨y, rfl, by lia  , ?_⟩
              rw [slice_mid o1 (by lia  )]
              refine evl_nil ?_
              refine bc_append (Hp.set_same _ _ _) (by simp only [List.length_map]; lia  ) ?_
              rw [mkS_strs, Hp.set_set]
              walk_at "go"
              walk_at "end"
              walk_at "go"
              walk_at "end"
              exact fin _ _ (by walk_at "lk") (by walk_at "lk") (by walk_at "lk") (by rw [if_pos (by simpa using hso)])
        · refine if_f (show (u.2 == Str.ofString "\"") = false from (by show (u.2 == qS) = false; simpa using hqu)) ?_
          walk_at "end"
          show SqI _ _ _ _ _ _
          rw [hsu]
          unfold sqStep
          rw [if_neg hqu]
          exact ⟨by walk_at "lk", by walk_at "lk", by walk_at "lk", by walk_at "lk", rfl⟩
      · rintro m' σ' ⟨m1, m2, m3, m4, rfl⟩
        have hlen : ((escU y.cps.toList 0 false).map fun u => V.d (uD u)).length = (escU y.cps.toList 0 false).length := by rw [List.length_map]
        rw [hlen, List.take_length] at m2
        rw [hlen, List.take_length]
        have so := SqOk.at_ (y := y.cps.toList) _ (Nat.le_refl _)
        rw [List.take_length] at so
        have hstr : stripQ y.cps.toList = sqEnd y.cps.toList (sqFold y.cps.toList (escU y.cps.toList 0 false)) := rfl
        walk_at "end"
        rw [hstr]
        generalize sqFold y.cps.toList (escU y.cps.toList 0 false) = st at *
        have htop := so.top
        have hszo := so.sz
        have htot := so.tot
        have joinz : ∀ out : List (List Nat), out.flatten.length ≤ y.length → ((out.map mkS).map (·.length)).sum + (out.map mkS).length * (Str.ofString "").length ≤ 16777216 := fun out h => by
          have e1 : ((out.map mkS).map (·.length)).sum = out.flatten.length := by
            rw [List.map_map, List.length_flatten]
            congr 1
          have e2 : (Str.ofString "").length = 0 := rfl
          rw [e1, e2]; lia
        have fin : ∀ (m₁ : Lo) (out : List (List Nat)), m₁ "result" = some (.ref R) → out.flatten.length ≤ y.length → out.flatten = sqEnd y.cps.toList st →
            EXs (frameOf' c A outer (fname (stmtAt pp 2)) (fscope (stmtAt pp 2)) L f cd) ((fbody (stmtAt pp 2)).drop 6) m₁ (fun fl m' σ' => ∃ d, (match fl with | .ret a => fz σ σ' a | .next => some .none | _ => none) = some d ∧ d = .str (mkS (sqEnd y.cps.toList st)) ∧ Hp.only σ σ' = σ) NoX (σ.set R ((out.map mkS).map .str)) := fun m₁ out n1 hz hout => by
          walk_at "seq"
          walk_at "go"
          refine ⟨str_typed, ?_⟩
          walk_at "go"
          refine bc_join (Hp.set_same _ _ _) (joinz out hz) ?_
          rw [join_empty, hout]
          (walk_at "end"; refine ⟨_, rfl, rfl, (Ag.refl.set hR).only⟩)
        walk_at "end"
        walk_at "seq"
        walk_at "go"
        refine bc_lenS (by lia  ) ?_
        walk_at "go"
        by_cases hlt : st.start < y.cps.toList.length
        · refine if_t (decide_eq_true (by lia  )) ?_
          walk_at "seq"
          walk_at "go"
          refine ⟨list_typed (ds := (st.out.map mkS).map .str) (Hp.set_same _ _ _), ?_⟩
          refine evl_cons (ev_sliceS ?_ (fun _ _ => rfl)) rfl
          refine ev_bound ok (.loc rfl rfl) (by walk_at "lk") ?_ (by decide)
          refine ev_bound ok (.loc rfl rfl) (by walk_at "lk") ⟨_, rfl, ?_⟩ (by decide)
          refine ⟨y, rfl, by lia  , ?_⟩
          rw [slice_from (by omega)]
          refine evl_nil ?_
          refine bc_append (Hp.set_same _ _ _) (by simp only [List.length_map]; lia  ) ?_
          rw [mkS_strs, Hp.set_set]
          walk_at "end"
          refine fin _ _ (by walk_at "lk") ?_ ?_
          · simp only [List.flatten_append, List.length_append, List.flatten_cons, List.flatten_nil, List.append_nil, List.length_drop]; lia
          · unfold sqEnd; rw [if_pos hlt]
        · refine if_f (decide_eq_false (by lia  )) ?_
          walk_at "end"
          refine fin _ _ (by walk_at "lk") (by lia  ) ?_
          unfold sqEnd; rw [if_neg hlt]
    · rw [decide_eq_false hq]
      simp only [Bool.not_false, if_true]
      walk_at "seq"
      walk_at "go"
      exact ⟨.str y, rfl, by rw [stripQ_none hq, mkS_of], Hp.only_self⟩
set_option maxHeartbeats 4000000 in
theorem chk_ok {c : Cc} {f fq fi : Addr} {σ : Hp} {y : Str} (k : Nat) (hf : FnI c 3 f) (hfq : FnI c 2 fq) (hfi : FnI c 1 fi) (gq : c.G "_strip_quoted_realnames" = some (.ref fq)) (gi : c.G "_iter_escaped_chars" = some (.ref fi)) (ge : c.G "enumerate" = some (.type "enumerate")) (gl : c.G "len" = some (.builtin "len")) (bs : Bs c.base c.G) (hy : y.length < 2 ^ 20) :
    CL c (k + 4) f [.d (.str y)] (fun d σ' => d = .bool (chk ((unitsOf y.cps.toList).map (·.2)) 0) ∧ σ' = σ) (fun _ _ _ _ => False) σ := by
  have hyl : y.cps.toList.length = y.length := by show _ = y.cps.size; simp
  refine cl_fn hf bs ["addr"] ?_ rfl rfl (by decide) (by decide) rfl rfl rfl ?_
  · intro pm cd doc vs hvs
    obtain ⟨a, rfl⟩ := len1 hvs; rfl
  · intro A outer L cd hA ok
    walk_at "seq"
    walk_at "go"
    refine CL.use1 (sqr_ok k hfq hfi gi ge gl bs hy) (Nat.le_refl _) ?_
    walk_at "go"
    have hsl := stripQ_len y.cps.toList
    refine ex_forX (itx_genF ok (j := k + 1) (by lia  ) rfl gi hfi (by decide) hA rfl ?_) (fun _ => rfl)
    walk_at "go"
    refine ⟨_, iter_ok k hfi ge bs (by rw [mkS_length]; lia  ), ?_⟩
    rw [mkS_toList]
    refine ⟨fun i m' σ₁ => ∃ n : Int, m' "opens" = some (.d (.int n)) ∧ chk ((unitsOf y.cps.toList).map (·.2)) 0 = chk (((unitsOf y.cps.toList).drop i).map (·.2)) n ∧ σ₁ = σ, ⟨0, by walk_at "lk", rfl, rfl⟩, ?_, ?_⟩
    · rintro i d m' σ₁ hd ⟨n, m1, hc, rfl⟩
      rw [List.getElem?_map] at hd
      obtain ⟨u, hu, rfl⟩ := Option.map_eq_some_iff.mp hd
      replace hu : (unitsOf y.cps.toList)[i]? = some u := hu
      rw [drop_of hu, List.map_cons, chk] at hc
      refine at_two ok hA (.loc rfl rfl) (.loc rfl rfl) rfl ?_
      walk_at "seq"
      walk_at "go"
      cases h1 : (u.2 == Str.ofString "(") with
      | true =>
        rw [h1] at hc
        simp only [if_true] at hc ⊢
        walk_at "seq"
        walk_at "go"
        (walk_at "end"; exact ⟨n + 1, by walk_at "lk", hc, rfl⟩)
      | false =>
        rw [h1] at hc
        simp only [Bool.false_eq_true, if_false] at hc ⊢
        walk_at "seq"
        walk_at "go"
        cases h2 : (u.2 == Str.ofString ")") with
        | true =>
          rw [h2] at hc
          simp only [if_true] at hc ⊢
          walk_at "seq"
          walk_at "go"
          by_cases h3 : n - 1 < 0
          · rw [decide_eq_true h3]
            rw [if_pos h3] at hc
            simp only [if_true]
            walk_at "seq"
            walk_at "go"
            exact ⟨_, rfl, by rw [hc], Hp.only_self⟩
          · rw [decide_eq_false h3]
            rw [if_neg h3] at hc
            simp only [Bool.false_eq_true, if_false]
            (walk_at "end"; exact ⟨n - 1, by walk_at "lk", hc, rfl⟩)
        | false =>
          rw [h2] at hc
          simp only [Bool.false_eq_true, if_false] at hc ⊢
          (walk_at "end"; exact ⟨n, by walk_at "lk", hc, rfl⟩)
    · rintro m' σ₁ ⟨n, m1, hc, rfl⟩
      rw [List.length_map, show (escU (stripQ y.cps.toList) 0 false) = unitsOf y.cps.toList from rfl, List.drop_length] at hc
      walk_at "go"
      refine ⟨_, rfl, ?_, Hp.only_self⟩
      rw [hc]; rfl
set_option maxHeartbeats 4000000 in
theorem text_ok {c : Cc} {f : Addr} {σ : Hp} {row : List Int} (k : Nat) (hf : FnI c 13 f) (gl : c.G "len" = some (.builtin "len")) (bs : Bs c.base c.G) (hr : row.length < 1000) :
    CL c (k + 2) f [.d (.list (row.map .int))] (fun d σ' => d = .tuple [.str (mkS (txFold2 row).text), .str (mkS (txFold2 row).seen), .list ((txFold2 row).guests.map tD), .list ((txFold2 row).wishes.map .int)] ∧ σ' = σ) (fun _ _ _ _ => False) σ := by
  refine cl_fn hf bs ["row"] ?_ rfl rfl (by decide) (by decide) rfl rfl rfl ?_
  · intro pm cd doc vs hvs
    obtain ⟨a, rfl⟩ := len1 hvs; rfl
  · intro A outer L cd hA ok
    walk_at "seq"
    refine ex_assignT ?_ rfl rfl
    walk_at "go"
    refine ev_list (evl_nil ⟨[], rfl, by decide, fun G hG => ?_⟩)
    walk_at "go"
    refine ev_list (evl_nil ⟨[], rfl, by decide, fun W hW => ?_⟩)
    walk_at "go"
    refine ⟨szl (n := 4) (by decide), ?_⟩
    have hWG : W ≠ G := fun q => by rw [q, Hp.set_same] at hW; cases hW
    have hW0 : σ W = none := by rw [Hp.set_ne _ _ hWG] at hW; exact hW
    refine at_tuple hA rfl rfl rfl (at_name ok (.loc rfl rfl) (at_name ok (.loc rfl rfl) (at_name ok (.loc rfl rfl) (at_name ok (.loc rfl rfl) ?_))))
    refine ats_nil ?_
    walk_at "end"
    walk_at "seq"
    refine ex_forX (itx_val (ev_bound ok (.loc rfl rfl) (by walk_at "lk") ⟨_, iter_listD (ds := row.map .int) hA (fun _ _ => rfl), ?_⟩ (by decide))) (fun _ => rfl)
    refine ⟨fun i m' σ' => TxI G W σ (txFold2 (row.take i)) m' σ', ⟨by walk_at "lk", by walk_at "lk", by walk_at "lk", by walk_at "lk", (Ag.refl.set hG).set hW0, by rw [Hp.set_ne _ _ hWG.symm, Hp.set_same]; rfl, by rw [Hp.set_same]; rfl⟩, ?_, ?_⟩
    · rintro i d m' σ' hd ⟨m1, m2, m3, m4, ag, s1, s2⟩
      rw [List.map_map, List.getElem?_map] at hd
      obtain ⟨x, hx, rfl⟩ := Option.map_eq_some_iff.mp hd
      have hi : i < row.length := (List.getElem?_eq_some_iff.mp hx).1
      have so := txFold2_ok row i
      have hsu := txFold2_succ hx
      obtain ⟨st, hst⟩ : ∃ st, st = txFold2 (row.take i) := ⟨_, rfl⟩
      rw [← hst] at so hsu m1 m2 s1 s2
      have z1 := so.text
      have z2 := so.seen
      have z3 := so.guests
      have z4 := so.wishes
      have big := sizeLine_big
      have ml := mkS_length st.text
      have mls := mkS_length st.seen
      show AT _ _ (.d (.int x)) _ _ _
      refine at_name ok (.loc rfl rfl) ?_
      walk_at "seq"
      walk_at "go"
      by_cases h5 : x.fmod 8 = 5
      · refine if_t (show (x.fmod 8 == 5) = true from beq_iff_eq.mpr h5) ?_
        walk_at "seq"
        walk_at "go"
        refine sb_str (y := Str.ofString "()") (Int.fmod_nonneg_of_pos _ (by decide)) (by decide) (brk_at _) ?_ (fun _ _ => rfl)
        walk_at "go"
        · show 1 + 1 ≤ sizeLine; omega
        walk_at "go"
        · show (mkS st.text).length + 2 ≤ sizeLine; omega
        walk_at "end"
        show TxI G W σ (txFold2 (row.take (i + 1))) _ _
        rw [hsu]; unfold tx2; rw [if_pos h5]
        refine ⟨?_, by walk_at "lk", by walk_at "lk", by walk_at "lk", ag, s1, s2⟩
        rw [Lo.put_same]
        congr 3
        show mkS st.text ++ (mkS [92] ++ mkS [_]) = _
        rw [mkS_append, mkS_append]
        unfold brk
        split <;> rfl
      · refine if_f (show (x.fmod 8 == 5) = false from beq_eq_false_iff_ne.mpr h5) ?_
        walk_at "seq"
        walk_at "go"
        by_cases h6 : x.fmod 8 = 6
        · refine if_t (show (x.fmod 8 == 6) = true from beq_iff_eq.mpr h6) ?_
          walk_at "seq"
          walk_at "go"
          refine ev_list ?_
          walk_at "go"
          refine ⟨_, rfl, (szl (n := 3) (by decide)), fun a ha => ?_⟩
          have haG : a ≠ G := fun q => by rw [q, s1] at ha; cases ha
          have haW : a ≠ W := fun q => by rw [q, s2] at ha; cases ha
          have hql := quo2_len ((x.fdiv 8).fmod 3)
          have hqm := mkS_length (quo2 ((x.fdiv 8).fmod 3))
          walk_at "go"
          refine sb_list (d := .str (mkS (quo2 ((x.fdiv 8).fmod 3)))) (Hp.set_same _ _ _) (by decide) (Int.fmod_nonneg_of_pos _ (by decide)) (by rcases fm3 (x.fdiv 8) with h | h | h <;> rw [h] <;> rfl) ?_ (fun _ _ => rfl)
          walk_at "go"
          · omega
          walk_at "end"
          show TxI G W σ (txFold2 (row.take (i + 1))) _ _
          rw [hsu]; unfold tx2; rw [if_neg h5, if_pos h6]
          refine ⟨?_, by walk_at "lk", by walk_at "lk", by walk_at "lk", ag.set (ag.new ha), by rw [Hp.set_ne _ _ haG.symm]; exact s1, by rw [Hp.set_ne _ _ haW.symm]; exact s2⟩
          rw [Lo.put_same, mkS_append]
        · refine if_f (show (x.fmod 8 == 6) = false from beq_eq_false_iff_ne.mpr h6) ?_
          walk_at "seq"
          walk_at "go"
          by_cases h7 : x.fmod 8 = 7
          · refine if_t (show (x.fmod 8 == 7) = true from beq_iff_eq.mpr h7) ?_
            walk_at "seq"
            walk_at "go"
            refine ev_list ?_
            walk_at "go"
            refine ⟨_, rfl, (szl (n := 2) (by decide)), fun a ha => ?_⟩
            have haG : a ≠ G := fun q => by rw [q, s1] at ha; cases ha
            have haW : a ≠ W := fun q => by rw [q, s2] at ha; cases ha
            have hql := let2_len ((x.fdiv 8).fmod 2)
            have hqm := mkS_length (let2 ((x.fdiv 8).fmod 2))
            walk_at "go"
            refine sb_list (d := .str (mkS (let2 ((x.fdiv 8).fmod 2)))) (Hp.set_same _ _ _) (by decide) (Int.fmod_nonneg_of_pos _ (by decide)) (by rcases fm2 (x.fdiv 8) with h | h <;> rw [h] <;> rfl) ?_ (fun _ _ => rfl)
            walk_at "go"
            · omega
            walk_at "end"
            show TxI G W σ (txFold2 (row.take (i + 1))) _ _
            rw [hsu]; unfold tx2; rw [if_neg h5, if_neg h6, if_pos h7]
            refine ⟨?_, by walk_at "lk", by walk_at "lk", by walk_at "lk", ag.set (ag.new ha), by rw [Hp.set_ne _ _ haG.symm]; exact s1, by rw [Hp.set_ne _ _ haW.symm]; exact s2⟩
            rw [Lo.put_same, mkS_append]
          · refine if_f (show (x.fmod 8 == 7) = false from beq_eq_false_iff_ne.mpr h7) ?_
            walk_at "seq"
            walk_at "go"
            by_cases h2 : x.fmod 8 > 2
            · refine if_t (decide_eq_true h2) ?_
              walk_at "seq"
              walk_at "go"
              · show (mkS st.text).length + 1 ≤ sizeLine; omega
              walk_at "go"
              · show (mkS st.seen).length + 1 ≤ sizeLine; omega
              walk_at "end"
              show TxI G W σ (txFold2 (row.take (i + 1))) _ _
              rw [hsu]; unfold tx2; rw [if_neg h5, if_neg h6, if_neg h7, if_pos h2]
              refine ⟨?_, ?_, by walk_at "lk", by walk_at "lk", ag, s1, s2⟩
              · rw [Lo.put_ne _ _ (by decide), Lo.put_same]
                congr 3
                exact mkS_append _ _
              · rw [Lo.put_same]
                congr 3
                exact mkS_append _ _
            · refine if_f (decide_eq_false h2) ?_
              walk_at "seq"
              walk_at "go"
              refine bc_lenL s1 (by walk_at "lm") ?_
              walk_at "go"
              rw [List.length_map]
              by_cases h8 : st.guests.length < 8
              · refine if_t (decide_eq_true (by omega)) ?_
                walk_at "seq"
                walk_at "go"
                refine ⟨list_typed s1, ?_⟩
                refine evl_cons (ev_freeze ?_) rfl
                refine ev_list ?_
                refine evl_cons (ev_step (.d (.int (if x.fmod 8 = 0 then x.fdiv 8 else (x.fdiv 8).fmod 3))) ?_ ?_) rfl
                · walk_at "go"
                  by_cases h0 : x.fmod 8 = 0
                  · rw [show (x.fmod 8 == 0) = true from beq_iff_eq.mpr h0, if_pos h0]
                    simp only [if_true]
                    walk_at "go"
                    exact ⟨rfl, rfl⟩
                  · rw [show (x.fmod 8 == 0) = false from beq_eq_false_iff_ne.mpr h0, if_neg h0]
                    simp only [Bool.false_eq_true, if_false]
                    walk_at "go"
                    exact ⟨rfl, rfl⟩
                generalize hv : (if x.fmod 8 = 0 then x.fdiv 8 else (x.fdiv 8).fmod 3) = v
                walk_at "go"
                refine bc_lenL s1 (by walk_at "lm") ?_
                rw [List.length_map]
                walk_at "go"
                refine ⟨[.int v, .int st.guests.length], rfl, (szl (n := 2) (by decide)), fun a ha => ⟨a, _, rfl, Hp.set_same _ _ _, ?_⟩⟩
                rw [Hp.drop_set _ _ _ ha]
                walk_at "go"
                refine bc_append s1 (by walk_at "lm") ?_
                rw [show st.guests.map tD ++ [.list [.int v, .int (st.guests.length : Int)]] = (st.guests ++ [(v, (st.guests.length : Int))]).map tD by simp [tD, thing]]
                have s2' : (σ'.set G ((st.guests ++ [(v, (st.guests.length : Int))]).map tD)) W = some (st.wishes.map .int) := by rw [Hp.set_ne _ _ hWG]; exact s2
                walk_at "go"
                refine ⟨list_typed s2', ?_⟩
                walk_at "go"
                refine bc_lenS (by omega) ?_
                rw [mls]
                walk_at "go"
                refine bc_lenL s2' (by walk_at "lm") ?_
                rw [List.length_map]
                walk_at "go"
                refine bc_append s2' (by walk_at "lm") ?_
                rw [show st.wishes.map PyData.int ++ [.int ((st.seen.length : Int) - st.wishes.length)] = (st.wishes ++ [(st.seen.length : Int) - st.wishes.length]).map .int by simp]
                walk_at "go"
                · show (mkS st.text).length + 1 ≤ sizeLine; omega
                walk_at "go"
                · show (mkS st.seen).length + 1 ≤ sizeLine; omega
                walk_at "end"
                show TxI G W σ (txFold2 (row.take (i + 1))) _ _
                rw [hsu]; unfold tx2; rw [if_neg h5, if_neg h6, if_neg h7, if_neg h2, if_pos h8, hv]
                refine ⟨?_, ?_, by walk_at "lk", by walk_at "lk", (ag.set hG).set hW0, by rw [Hp.set_ne _ _ hWG.symm, Hp.set_same], by rw [Hp.set_same]⟩
                · rw [Lo.put_ne _ _ (by decide), Lo.put_same]
                  congr 3
                  exact mkS_append _ _
                · rw [Lo.put_same]
                  congr 3
                  exact mkS_append _ _
              · refine if_f (decide_eq_false (by omega)) ?_
                walk_at "end"
                show TxI G W σ (txFold2 (row.take (i + 1))) _ _
                rw [hsu]; unfold tx2; rw [if_neg h5, if_neg h6, if_neg h7, if_neg h2, if_neg h8]
                exact ⟨by walk_at "lk", by walk_at "lk", by walk_at "lk", by walk_at "lk", ag, s1, s2⟩
    · rintro m' σ' ⟨m1, m2, m3, m4, ag, s1, s2⟩
      have hlen : ((row.map PyData.int).map V.d).length = row.length := by simp
      rw [hlen, List.take_length] at m1 m2 s1 s2
      walk_at "go"
      refine ⟨szl (n := 4) (by decide), ?_⟩
      walk_at "end"
      refine ⟨_, ?_, rfl, ag.only⟩
      have e1 : σ G = none := hG
      simp only [fz, fzs, e1, hW0, s1, s2]
set_option maxHeartbeats 4000000 in
theorem plain_cl {c : Cc} {f : Addr} {σ : Hp} {y : Str} (k : Nat) (hf : FnI c 14 f) (gm : c.G "max" = some (.builtin "max")) (bs : Bs c.base c.G) (hr : y.length < 1000) :
    CL c (k + 2) f [.d (.str y)] (fun d σ' => d = .tuple [.list ((plain y.cps.toList).free.map iD), iD (plain y.cps.toList).wait, iD (plain y.cps.toList).steps] ∧ σ' = σ) (fun _ _ _ _ => False) σ := by
  have hyl : y.cps.toList.length = y.length := by show _ = y.cps.size; simp
  refine cl_fn hf bs ["signs"] ?_ rfl rfl (by decide) (by decide) rfl rfl rfl ?_
  · intro pm cd doc vs hvs
    obtain ⟨a, rfl⟩ := len1 hvs; rfl
  · intro A outer L cd hA ok
    walk_at "seq"
    refine ex_assignT ?_ rfl rfl
    walk_at "go"
    refine ev_list (evl_nil ⟨[], rfl, by decide, fun G hG => ?_⟩)
    walk_at "go"
    refine ⟨szl (n := 4) (by decide), ?_⟩
    refine at_tuple hA rfl rfl rfl (at_name ok (.loc rfl rfl) (at_name ok (.loc rfl rfl) (at_name ok (.loc rfl rfl) (at_name ok (.loc rfl rfl) ?_))))
    refine ats_nil ?_
    walk_at "end"
    walk_at "seq"
    refine ex_forX (itx_val (ev_bound ok (.loc rfl rfl) (by walk_at "lk") ⟨_, iter_str hA (fun _ _ => rfl), ?_⟩ (by decide))) (fun _ => rfl)
    refine ⟨fun i m' σ' => PlI G σ (plain (y.cps.toList.take i)) m' σ', ⟨by walk_at "lk", by walk_at "lk", by walk_at "lk", by walk_at "lk", rfl⟩, ?_, ?_⟩
    · rintro i d m' σ' hd ⟨m1, m2, m3, m4, rfl⟩
      unfold signs at hd
      rw [List.map_map, List.getElem?_map] at hd
      obtain ⟨x, hx, rfl⟩ := Option.map_eq_some_iff.mp hd
      have hi : i < y.cps.toList.length := (List.getElem?_eq_some_iff.mp hx).1
      have so := plain_ok y.cps.toList i
      have hsu := plain_succ hx
      obtain ⟨st, hst⟩ : ∃ st, st = plain (y.cps.toList.take i) := ⟨_, rfl⟩
      rw [← hst] at so hsu m2 m3 m4 ⊢
      show AT _ _ (.d (.str ⟨#[x]⟩)) _ _ _
      refine at_name ok (.loc rfl rfl) ?_
      walk_at "seq"
      walk_at "go"
      by_cases h1 : x = 40
      · subst h1
        rw [show ((⟨#[40]⟩ : Str) == Str.ofString "(") = true from rfl]
        simp only [if_true]
        walk_at "seq"
        walk_at "go"
        walk_at "end"
        show PlI G σ (plain (y.cps.toList.take (i + 1))) _ _
        rw [hsu]; unfold plStep; rw [if_pos rfl]
        exact ⟨by walk_at "lk", by walk_at "lk", by walk_at "lk", by walk_at "lk", rfl⟩
      · rw [show ((⟨#[x]⟩ : Str) == Str.ofString "(") = false from by (show ((⟨#[x]⟩ : Str) == (⟨#[40]⟩ : Str)) = false); rw [sign_eq]; exact decide_eq_false h1]
        simp only [Bool.false_eq_true, if_false]
        walk_at "seq"
        walk_at "go"
        have rest : ∀ (m₁ : Lo) (fr : List Nat), m₁ "free" = some (.ref G) → m₁ "wait" = some (.d (iD st.wait)) → m₁ "steps" = some (.d (iD st.steps)) → m₁ "rooms" = some (.d (iD st.rooms)) → fr = (if st.wait = 0 then st.free ++ [st.rooms] else st.free) →
            EXs (frameOf' c A outer (fname (stmtAt pp 14)) (fscope (stmtAt pp 14)) L f cd) (match (fbody (stmtAt pp 14)).getD 1 (.Pass ⟨0, 0, 0, 0⟩) with | .For _ _ (.If _ _ b _ :: _) _ _ => b.drop 1 | _ => []) m₁ (fun fl m' σ' => fl = .next ∧ PlI G σ (plain (y.cps.toList.take (i + 1))) m' σ') NoX (σ.set G (fr.map iD)) := by
          intro m₁ fr n1 n2 n3 n4 hfr
          walk_at "seq"
          walk_at "go"
          refine bc_max2 hA ?_
          rw [show max ((st.wait : Int) - 1) 0 = ((st.wait - 1 : Nat) : Int) by omega]
          walk_at "go"
          (walk_at "end"; refine ⟨rfl, ?_⟩)
          rw [hsu]; unfold plStep; rw [if_neg h1]
          exact ⟨by walk_at "lk", by walk_at "lk", by walk_at "lk", by walk_at "lk", by rw [hfr]⟩
        have close : ∀ (m₁ : Lo) (fr : List Nat), m₁ "free" = some (.ref G) → m₁ "wait" = some (.d (iD st.wait)) → m₁ "steps" = some (.d (iD st.steps)) → m₁ "rooms" = some (.d (iD st.rooms)) → fr = (if st.wait = 0 then st.free ++ [st.rooms] else st.free) → _ := rest
        by_cases h2 : st.wait = 0
        · refine if_t (show (((st.wait : Int)) == 0) = true from by rw [h2]; rfl) ?_
          walk_at "seq"
          walk_at "go"
          refine ⟨list_typed (ds := st.free.map iD) (Hp.set_same _ _ _), ?_⟩
          walk_at "go"
          refine bc_append (Hp.set_same _ _ _) (by walk_at "lm") ?_
          rw [Hp.set_set, show st.free.map iD ++ [.int (st.rooms : Int)] = (st.free ++ [st.rooms]).map iD by simp]
          walk_at "end"
          refine EXs.mono (rest _ _ (by walk_at "lk") (by walk_at "lk") (by walk_at "lk") (by walk_at "lk") (by rw [if_pos h2])) ?_
          rintro fl m'' σ'' ⟨rfl, h⟩
          (walk_at "end"; exact h)
        · refine if_f (show (((st.wait : Int)) == 0) = false from beq_eq_false_iff_ne.mpr (by omega)) ?_
          walk_at "end"
          refine EXs.mono (rest _ _ (by walk_at "lk") (by walk_at "lk") (by walk_at "lk") (by walk_at "lk") (by rw [if_neg h2])) ?_
          rintro fl m'' σ'' ⟨rfl, h⟩
          (walk_at "end"; exact h)
    · rintro m' σ' ⟨m1, m2, m3, m4, rfl⟩
      have hlen : ((Mine.signs y).map V.d).length = y.cps.toList.length := by simp [Mine.signs]
      rw [hlen, List.take_length] at m2 m3 m4 ⊢
      walk_at "go"
      refine ⟨szl (n := 3) (by decide), ?_⟩
      walk_at "end"
      refine ⟨_, ?_, rfl, (Ag.refl.set hG).only⟩
      simp only [fz, fzs, hG, Hp.set_same]
set_option maxHeartbeats 4000000 in
theorem walk_cl {c : Cc} {f fh fp fd fu : Addr} {σ : Hp} {cs : List Nat} {gs : List T} (k : Nat) (hf : FnI c 15 f) (hfh : FnI c 5 fh) (hfp : FnI c 6 fp) (hfu : FnI c 8 fu) (hfd : FnI c 7 fd)
    (gh : c.G "heappush" = some (.ref fh)) (gp : c.G "heappop" = some (.ref fp)) (gu : c.G "_siftup" = some (.ref fu)) (gd : c.G "_siftdown" = some (.ref fd)) (gl : c.G "len" = some (.builtin "len")) (gs' : c.G "sorted" = some (.builtin "sorted")) (gst : c.G "str" = some (.type "str")) (gi : c.G "IndexError" = some (.type "IndexError")) (bs : Bs c.base c.G)
    (hr : cs.length < 1000) (hcs : cs.count 40 ≤ gs.length) (hgz : gs.length < 60) (hn : (walk gs cs).heap.Nodup) (hz : (walk gs cs).heap.length < 60) :
    CL c (k + 4) f [.d (.list (cs.map sD)), .d (.list (gs.map tD))] (fun d σ' => d = .tuple [.list ((walk gs cs).rooms.map oD), .list ((srt (walk gs cs).heap).map tD)] ∧ σ' = σ) (fun _ _ _ _ => False) σ := by
  refine cl_fn hf bs ["signs", "guests"] ?_ rfl rfl (by decide) (by decide) rfl rfl rfl ?_
  · intro pm cd doc vs hvs
    obtain ⟨a, b, rfl⟩ := len2 hvs; rfl
  · intro A outer L cd hA ok
    walk_at "seq"
    refine ex_assignS (names := ["heap", "rooms", "came"]) ok hA ?_ ?_ rfl rfl
    · intro n hnm
      simp only [List.reverse_cons, List.reverse_nil, List.nil_append, List.singleton_append, List.cons_append, List.mem_cons, List.not_mem_nil, or_false] at hnm
      rcases hnm with rfl | rfl | rfl <;> exact .loc rfl rfl
    walk_at "go"
    refine ev_list (evl_nil ⟨[], rfl, by decide, fun H hH => ?_⟩)
    walk_at "go"
    refine ev_list (evl_nil ⟨[], rfl, by decide, fun R hR => ?_⟩)
    walk_at "go"
    refine ⟨szl (n := 3) (by decide), ?_⟩
    have hRH : R ≠ H := fun q => by rw [q, Hp.set_same] at hR; cases hR
    have hR0 : σ R = none := by rw [Hp.set_ne _ _ hRH] at hR; exact hR
    refine ⟨_, rfl, rfl, ?_⟩
    show (_ : Fl → Lo → Hp → Prop) _ (Lo.put (Lo.put (Lo.put _ "came" _) "rooms" _) "heap" _) _
    walk_at "end"
    walk_at "seq"
    refine ex_forX (itx_val (ev_bound ok (.loc rfl rfl) (by walk_at "lk") ⟨_, iter_listD (ds := cs.map sD) hA (fun _ _ => rfl), ?_⟩ (by decide))) (fun _ => rfl)
    refine ⟨fun i m' σ' => WkI H R gs σ (walk gs (cs.take i)) m' σ', ⟨by walk_at "lk", by walk_at "lk", by walk_at "lk", by walk_at "lk", (Ag.refl.set hH).set hR0, by rw [Hp.set_ne _ _ hRH.symm, Hp.set_same]; rfl, by rw [Hp.set_same]; rfl⟩, ?_, ?_⟩
    · rintro i d m' σ' hd ⟨m1, m2, m3, m4, ag, s1, s2⟩
      rw [List.map_map, List.getElem?_map] at hd
      obtain ⟨x, hx, rfl⟩ := Option.map_eq_some_iff.mp hd
      have hi : i < cs.length := (List.getElem?_eq_some_iff.mp hx).1
      have so := walk_ok gs cs i (Nat.le_of_lt hi)
      have hsu := walk_succ (gs := gs) hx
      have hcnt : x = 40 → (walk gs (cs.take i)).came < gs.length := fun q => by
        have := List.Sublist.count_le 40 (List.take_sublist (i + 1) cs)
        rw [take_succ_of hx, List.count_append, q] at this
        rw [so.1]
        simp at this; omega
      obtain ⟨st, hst⟩ : ∃ st, st = walk gs (cs.take i) := ⟨_, rfl⟩
      rw [← hst] at so hsu hcnt m3 s1 s2
      show AT _ _ (.d (.str ⟨#[x]⟩)) _ _ _
      refine at_name ok (.loc rfl rfl) ?_
      walk_at "seq"
      walk_at "go"
      by_cases h1 : x = 40
      · subst h1
        rw [show ((⟨#[40]⟩ : Str) == Str.ofString "(") = true from rfl]
        simp only [if_true]
        have hcl := hcnt rfl
        walk_at "seq"
        walk_at "go"
        refine sb_list (ds := gs.map tD) (d := tD (gs.getD st.came (0, 0))) rfl (by walk_at "lm") (Int.natCast_nonneg _) (by rw [Int.toNat_natCast, List.getElem?_map, List.getD_eq_getElem?_getD, List.getElem?_eq_getElem hcl]; rfl) ?_ (fun _ _ => rfl)
        walk_at "go"
        refine CL.use1 (heappush_ok k hfh hfd gd gl bs s1 (by omega)) (Nat.add_le_add_left (by decide) k) ?_
        walk_at "go"
        walk_at "end"
        show WkI H R gs σ (walk gs (cs.take (i + 1))) _ _
        rw [hsu]; unfold wkStep; rw [if_pos rfl]
        exact ⟨by walk_at "lk", by walk_at "lk", by walk_at "lk", by walk_at "lk", ag.set hH, by rw [Hp.set_same], by rw [Hp.set_ne _ _ hRH]; exact s2⟩
      · rw [show ((⟨#[x]⟩ : Str) == Str.ofString "(") = false from by (show ((⟨#[x]⟩ : Str) == (⟨#[40]⟩ : Str)) = false); rw [sign_eq]; exact decide_eq_false h1]
        simp only [Bool.false_eq_true, if_false]
        walk_at "seq"
        refine ex_tryAs (msg := "pop from empty list") (c := true) (P := fun m₁ σ₁ => m₁ = m'.put "sign" (.d (.str ⟨#[x]⟩)) ∧ σ₁ = σ' ∧ st.heap = []) rfl ok rfl gi rfl rfl ?body ?hand
        case body =>
          walk_at "seq"
          walk_at "go"
          refine ⟨list_typed (ds := st.rooms.map oD) s2, ?_⟩
          walk_at "go"
          refine CL.use (heappop_ok k hfp hfu hfd gu gd gl bs s1 (by omega)) (Nat.le_refl _) (fun d σ₂ ⟨q0, q1, q2⟩ => ?_) (fun o e σ₂ s₂ ⟨⟨q1, q2⟩, q3⟩ => ⟨⟨rfl, q2, q1⟩, q3⟩)
          subst q1 q2
          walk_at "go"
          refine bc_append (by rw [Hp.set_ne _ _ hRH]; exact s2) (by walk_at "lm") ?_
          walk_at "end"
          show WkI H R gs σ (walk gs (cs.take (i + 1))) _ _
          rw [hsu]; unfold wkStep; rw [if_neg h1, if_neg q0]
          exact ⟨by walk_at "lk", by walk_at "lk", by walk_at "lk", by walk_at "lk", (ag.set hH).set hR0, by rw [Hp.set_ne _ _ hRH.symm, Hp.set_same], by rw [Hp.set_same, List.map_append]; rfl⟩
        case hand =>
          rintro ea base' ta t m₁ σ₁ ok' ⟨rfl, rfl, hnil⟩ x1 x2
          walk_at "seq"
          walk_at "go"
          refine ⟨list_typed (ds := st.rooms.map oD) s2, ?_⟩
          refine evl_cons (ev_step (.d .none) ?_ ?_) rfl
          · walk_at "go"
            refine bc_strExc ok' (by omega) x1 x2 ?_
            walk_at "go"
            refine if_t (show ((Str.ofString "pop from empty list") == (Str.ofString "pop from empty list")) = true from beq_self_eq_true _) ?_
            walk_at "go"
            exact ⟨rfl, rfl⟩
          walk_at "go"
          refine bc_append s2 (by walk_at "lm") ?_
          walk_at "end"
          show WkI H R gs σ (walk gs (cs.take (i + 1))) _ _
          rw [hsu]; unfold wkStep; rw [if_neg h1, if_pos hnil]
          exact ⟨by walk_at "lk", by walk_at "lk", by walk_at "lk", by walk_at "lk", ag.set hR0, by rw [Hp.set_ne _ _ hRH.symm]; exact s1, by rw [Hp.set_same, List.map_append]; rfl⟩
    · rintro m' σ' ⟨m1, m2, m3, m4, ag, s1, s2⟩
      have hlen : ((cs.map sD).map V.d).length = cs.length := by simp
      rw [hlen, List.take_length] at m3 s1 s2
      walk_at "go"
      refine bc_sorted ok (ts := (walk gs cs).heap) s1 hn (by omega) (fun a ha => ?_)
      walk_at "go"
      have haR : a ≠ R := fun q => by rw [q, s2] at ha; cases ha
      refine ⟨szl (n := 2) (by decide), ?_⟩
      walk_at "end"
      refine ⟨_, ?_, rfl, (ag.set (ag.new ha)).only⟩
      simp only [fz, fzs, hR0, ag.new ha, Hp.set_same, Hp.set_ne _ _ haR.symm, s2]
set_option maxHeartbeats 4000000 in
theorem obo_cl {c : Cc} {f ft : Addr} {σ : Hp} {o : V} {os ws : List Nat} {gs : List T} {many : Nat} (k : Nat) (hf : FnI c 16 f) (hft : FnI c 11 ft)
    (gt : c.G "three_way_cmp" = some (.ref ft)) (gs' : c.G "sorted" = some (.builtin "sorted")) (bs : Bs c.base c.G)
    (ho : (o = .rng 0 os.length ∧ os = List.range os.length) ∨ o = .d (.list (os.map iD))) (hos : ∀ l ∈ os, l < gs.length) (hws : ws.length = gs.length) (hgz : gs.length < 60) (hoz : os.length < 60) (hmz : many < 1000) (hn : (oneByOne gs ws many os).over.Nodup) :
    CL c (k + 3) f [.d (.list (gs.map tD)), .d (.list (ws.map iD)), o, .d (iD many)] (fun d σ' => d = .tuple [.list ((oneByOne gs ws many os).rooms.map oD), .list ((srt (oneByOne gs ws many os).over).map tD), iD (oneByOne gs ws many os).steps] ∧ σ' = σ) (fun _ _ _ _ => False) σ := by
  refine cl_fn hf bs ["guests", "wishes", "order", "many"] ?_ rfl rfl (by decide) (by decide) rfl rfl rfl ?_
  · intro pm cd doc vs hvs
    obtain ⟨a, b, c, d, rfl⟩ := len4 hvs; rfl
  · intro A outer L cd hA ok
    walk_at "seq"
    refine ex_assignS (names := ["rooms", "over", "steps"]) ok hA ?_ ?_ rfl rfl
    · intro n hnm
      simp only [List.reverse_cons, List.reverse_nil, List.nil_append, List.singleton_append, List.cons_append, List.mem_cons, List.not_mem_nil, or_false] at hnm
      rcases hnm with rfl | rfl | rfl <;> exact .loc rfl rfl
    walk_at "go"
    refine ev_list ?_
    walk_at "go"
    refine ⟨_, rfl, szl (n := 1) (by decide), fun Z hZ => ?_⟩
    walk_at "go"
    refine bv_mulL (d := .none) (Hp.set_same _ _ _) (by omega) (by omega) (fun R hR => ?_)
    rw [Int.toNat_natCast]
    walk_at "go"
    refine ev_list (evl_nil ⟨[], rfl, by decide, fun O hO => ?_⟩)
    walk_at "go"
    refine ⟨szl (n := 3) (by decide), ?_⟩
    have ag0 : Ag σ (σ.set Z [.none]) := Ag.refl.set hZ
    have ag1 := ag0.set (ds := List.replicate many .none) (ag0.new hR)
    have ag2 := ag1.set (ds := []) (ag1.new hO)
    have hR0 : σ R = none := ag0.new hR
    have hO0 : σ O = none := ag1.new hO
    have hOR : O ≠ R := fun q => by rw [q, Hp.set_same] at hO; cases hO
    refine ⟨_, rfl, rfl, ?_⟩
    show (_ : Fl → Lo → Hp → Prop) _ (Lo.put (Lo.put (Lo.put _ "steps" _) "over" _) "rooms" _) _
    walk_at "end"
    walk_at "seq"
    have hit : ∀ (F : Fx) (target : Expr) (σ : Hp), F.A.handled = none → (∀ it v, letOwnedTupleGo target it v = pure ()) → ITER F target o σ (os.map fun n => .d (iD n)) := fun F target σ h1 h2 => by
      rcases ho with ⟨rfl, hos'⟩ | rfl
      · have := iter_rng (F := F) (σ := σ) (target := target) (a := 0) (b := (os.length : Int)) h1 h2 (by omega) (by omega) (by omega) (by omega)
        have e : (upInts 0 ((os.length : Int) - 0).toNat).map V.d = os.map fun n => .d (iD n) := by
          rw [show ((os.length : Int) - 0).toNat = os.length by omega]
          unfold upInts
          rw [List.map_map]
          conv => rhs; rw [hos']
          refine List.map_congr_left fun n _ => ?_
          show V.d (.int (0 + (n : Int))) = V.d (.int (n : Int))
          rw [Int.zero_add]
        rw [← e]; exact this
      · have := iter_listD (F := F) (σ := σ) (target := target) (ds := os.map iD) h1 h2
        rw [List.map_map] at this
        exact this
    refine ex_forX (itx_val (ev_bound ok (.loc rfl rfl) (by walk_at "lk") ⟨_, hit _ _ _ hA (fun _ _ => rfl), ?_⟩ (by decide))) (fun _ => rfl)
    refine ⟨fun i m' σ' => ObI gs ws many R O σ (oneByOne gs ws many (os.take i)) m' σ', ⟨⟨by walk_at "lk", by walk_at "lk", by walk_at "lk", by walk_at "lk", by walk_at "lk", ag2, ?_, by rw [Hp.set_same]; rfl⟩, by walk_at "lk"⟩, ?_, ?_⟩
    · rw [Hp.set_ne _ _ hOR.symm, Hp.set_same]
      show _ = some ((List.replicate many none).map oD)
      rw [List.map_replicate]; rfl
    · rintro i d m' σ' hd ⟨N, mst⟩
      rw [List.getElem?_map] at hd
      obtain ⟨x, hx, rfl⟩ := Option.map_eq_some_iff.mp hd
      have hi : i < os.length := (List.getElem?_eq_some_iff.mp hx).1
      have hxl : x < gs.length := hos x (List.mem_of_getElem? hx)
      have so := ob_ok gs ws many os i
      have hsu := oneByOne_succ (gs := gs) (ws := ws) (many := many) hx
      obtain ⟨st, hst⟩ : ∃ st, st = oneByOne gs ws many (os.take i) := ⟨_, rfl⟩
      rw [← hst] at so hsu N mst
      obtain ⟨m1, m2, m3, m4, m5, ag, s1, s2⟩ := N
      refine at_name ok (.loc rfl rfl) ?_
      walk_at "seq"
      refine ex_assignS (names := ["guest", "place"]) ok hA ?_ ?_ rfl rfl
      · intro n hnm
        simp only [List.reverse_cons, List.reverse_nil, List.nil_append, List.singleton_append, List.cons_append, List.mem_cons, List.not_mem_nil, or_false] at hnm
        rcases hnm with rfl | rfl <;> exact .loc rfl rfl
      walk_at "go"
      refine sb_list (ds := gs.map tD) (d := tD (gs.getD x (0, 0))) rfl (by walk_at "lm") (Int.natCast_nonneg _) (by rw [Int.toNat_natCast, List.getElem?_map, List.getD_eq_getElem?_getD, List.getElem?_eq_getElem hxl]; rfl) ?_ (fun _ _ => rfl)
      walk_at "go"
      refine sb_list (ds := ws.map iD) (d := iD (ws.getD x 0)) rfl (by walk_at "lm") (Int.natCast_nonneg _) (by rw [Int.toNat_natCast, List.getElem?_map, List.getD_eq_getElem?_getD, List.getElem?_eq_getElem (by omega)]; rfl) ?_ (fun _ _ => rfl)
      walk_at "go"
      refine ⟨szl (n := 2) (by decide), ?_⟩
      refine ⟨_, rfl, rfl, ?_⟩
      show (_ : Fl → Lo → Hp → Prop) _ (Lo.put (Lo.put _ "place" _) "guest" _) _
      walk_at "end"
      unfold obStep at hsu
      obtain ⟨fin, hfin⟩ : ∃ fin, fin = goOn many st.rooms (gs.getD x (0, 0)) (ws.getD x 0) st.steps := ⟨_, rfl⟩
      rw [← hfin] at hsu
      walk_at "seq"
      refine ex_while (fun n m₁ σ₁ => ∃ rooms g p steps, n = many - p ∧ ObN gs ws many R O σ m₁ σ₁ rooms st.over ∧ rooms.length = many ∧ m₁ "guest" = some (.d (tD g)) ∧ m₁ "place" = some (.d (iD p)) ∧ m₁ "steps" = some (.d (iD steps)) ∧ goOn many rooms g p steps = fin) (many - ws.getD x 0)
        ⟨st.rooms, gs.getD x (0, 0), ws.getD x 0, st.steps, rfl, ⟨by walk_at "lk", by walk_at "lk", by walk_at "lk", by walk_at "lk", by walk_at "lk", ag, s1, s2⟩, so.1, by walk_at "lk", by walk_at "lk", by walk_at "lk", hfin.symm⟩ ?_
      rintro n m₁ σ₁ ⟨rooms, g, p, steps, rfl, N, hrl, n1, n2, n3, hgo⟩
      obtain ⟨l1, l2, l3, l4, l5, ag', t1, t2⟩ := N
      have hfl : fin.1.length = many := by rw [← hgo, goOn_length many _ _ rfl, hrl]
      have after : ∀ (m₂ : Lo), fin = (rooms, g, p, steps) → m₂ = m₁ → EXs (frameOf' c A outer (fname (stmtAt pp 16)) (fscope (stmtAt pp 16)) L f cd) (match (fbody (stmtAt pp 16)).getD 1 (.Pass ⟨0, 0, 0, 0⟩) with | .For _ _ b _ _ => b.drop 2 | _ => []) m₂ (fun fl m' σ' => fl = .next ∧ ObI gs ws many R O σ (oneByOne gs ws many (os.take (i + 1))) m' σ') NoX σ₁ := by
        rintro m₂ hf' rfl
        rw [hsu, hf']
        walk_at "seq"
        walk_at "go"
        by_cases hp : p < many
        · refine if_t (decide_eq_true (by omega)) ?_
          walk_at "seq"
          walk_at "go"
          refine ⟨R, _, p, tD g, rfl, rfl, rfl, t1, Int.natCast_nonneg _, by rw [List.length_map]; omega, by rw [List.length_map]; omega, ?_⟩
          (walk_at "end"; dsimp only; rw [if_pos hp]; refine ⟨rfl, ⟨by walk_at "lk", by walk_at "lk", by walk_at "lk", by walk_at "lk", by walk_at "lk", ag'.set hR0, ?_, by rw [Hp.set_ne _ _ hOR]; exact t2⟩, by walk_at "lk"⟩)
          rw [Hp.set_same, Int.toNat_natCast, List.map_set]; rfl
        · refine if_f (decide_eq_false (by omega)) ?_
          walk_at "seq"
          walk_at "go"
          refine ⟨list_typed t2, ?_⟩
          walk_at "go"
          refine bc_append t2 (by walk_at "lm") ?_
          (walk_at "end"; dsimp only; rw [if_neg hp]; refine ⟨rfl, ⟨by walk_at "lk", by walk_at "lk", by walk_at "lk", by walk_at "lk", by walk_at "lk", ag'.set hO0, by rw [Hp.set_ne _ _ hOR.symm]; exact t1, ?_⟩, by walk_at "lk"⟩)
          rw [Hp.set_same, List.map_append]; rfl
      refine ts_and2 ?_
      walk_at "go"
      by_cases hp : p < many
      · refine if_t (decide_eq_true (by omega)) ?_
        walk_at "go"
        refine sb_list (d := oD (rooms.getD p none)) t1 (by walk_at "lm") (Int.natCast_nonneg _) (oD_at (by omega)) ?_ (fun _ _ => rfl)
        cases hr : rooms.getD p none with
        | none =>
          rw [goOn_none hr] at hgo
          walk_at "go"
          simp only [Bool.not_true, Bool.false_eq_true, if_false]
          walk_at "end"
          refine EXs.mono (after _ hgo.symm rfl) ?_
          rintro fl m₃ σ₃ ⟨rfl, h⟩
          exact h
        | some r =>
          rw [goOn_some hp hr] at hgo
          walk_at "go"
          simp only [Bool.not_false, if_true]
          walk_at "seq"
          walk_at "go"
          refine sb_list (d := tD r) t1 (by walk_at "lm") (Int.natCast_nonneg _) (by rw [oD_at (by omega), hr]; rfl) ?_ (fun _ _ => rfl)
          walk_at "go"
          refine CL.use1 (cmp3_ok k hft bs) (Nat.add_le_add_left (by decide) k) ?_
          walk_at "go"
          refine ev_neg (ev_int ⟨1, rfl, ?_⟩)
          walk_at "go"
          rw [show (cmp3 g r == -(1 : Int)) = tltB g r from cmpOf_neg g r]
          have rest : ∀ (m₂ : Lo) (σ₂ : Hp) (rooms₂ : List (Option T)) (g₂ : T), ObN gs ws many R O σ m₂ σ₂ rooms₂ st.over → rooms₂.length = many → m₂ "guest" = some (.d (tD g₂)) → m₂ "place" = some (.d (iD p)) → m₂ "steps" = some (.d (iD steps)) → goOn many rooms₂ g₂ (p + 1) (steps + 1) = fin →
              EXs (frameOf' c A outer (fname (stmtAt pp 16)) (fscope (stmtAt pp 16)) L f cd) (match (fbody (stmtAt pp 16)).getD 1 (.Pass ⟨0, 0, 0, 0⟩) with | .For _ _ (_ :: .While _ b _ _ :: _) _ _ => b.drop 1 | _ => []) m₂ (fun fl m' σ' => fl = .next ∧ ∃ rooms g p' steps, p' = p + 1 ∧ ObN gs ws many R O σ m' σ' rooms st.over ∧ rooms.length = many ∧ m' "guest" = some (.d (tD g)) ∧ m' "place" = some (.d (iD p')) ∧ m' "steps" = some (.d (iD steps)) ∧ goOn many rooms g p' steps = fin) NoX σ₂ := by
            rintro m₂ σ₂ rooms₂ g₂ ⟨k1, k2, k3, k4, k5, k6, k7, k8⟩ hl₂ p1 p2 p3 hg₂
            walk_at "seq"
            walk_at "go"
            (walk_at "end"; refine ⟨rfl, rooms₂, g₂, p + 1, steps + 1, rfl, ⟨by walk_at "lk", by walk_at "lk", by walk_at "lk", by walk_at "lk", by walk_at "lk", k6, k7, k8⟩, hl₂, by walk_at "lk", by walk_at "lk", by walk_at "lk", hg₂⟩)
          cases hlt : tltB g r with
          | true =>
            rw [if_pos (tltB_iff.mp hlt)] at hgo
            simp only [if_true]
            walk_at "seq"
            refine ex_assignT ?_ rfl rfl
            walk_at "go"
            refine sb_list (d := tD r) t1 (by walk_at "lm") (Int.natCast_nonneg _) (by rw [oD_at (by omega), hr]; rfl) ?_ (fun _ _ => rfl)
            walk_at "go"
            refine ⟨szl (n := 2) (by decide), ?_⟩
            refine at_tuple hA rfl rfl rfl (at_name ok (.loc rfl rfl) (at_setitem ?_))
            walk_at "go"
            refine ⟨R, _, p, rfl, rfl, t1, Int.natCast_nonneg _, by rw [List.length_map]; omega, by rw [List.length_map]; omega, ?_⟩
            refine ats_nil ?_
            walk_at "end"
            refine EXs.mono (rest _ _ (rooms.set p (some g)) r ⟨by walk_at "lk", by walk_at "lk", by walk_at "lk", by walk_at "lk", by walk_at "lk", ag'.set hR0, ?_, by rw [Hp.set_ne _ _ hOR]; exact t2⟩ (by rw [List.length_set]; exact hrl) (by walk_at "lk") (by walk_at "lk") (by walk_at "lk") hgo) ?_
            · rw [Hp.set_same, Int.toNat_natCast, List.map_set]; rfl
            rintro fl m₃ σ₃ ⟨rfl, rooms₃, g₃, p₃, steps₃, rfl, h⟩
            exact ⟨many - (p + 1), by omega, rooms₃, g₃, p + 1, steps₃, rfl, h⟩
          | false =>
            have hnlt : ¬ tlt g r := fun q => by rw [tltB_iff.mpr q] at hlt; cases hlt
            rw [if_neg hnlt] at hgo
            simp only [Bool.false_eq_true, if_false]
            walk_at "end"
            refine EXs.mono (rest _ _ rooms g ⟨l1, l2, l3, l4, l5, ag', t1, t2⟩ hrl (by walk_at "lk") (by walk_at "lk") (by walk_at "lk") hgo) ?_
            rintro fl m₃ σ₃ ⟨rfl, rooms₃, g₃, p₃, steps₃, rfl, h⟩
            exact ⟨many - (p + 1), by omega, rooms₃, g₃, p + 1, steps₃, rfl, h⟩
      · refine if_f (decide_eq_false (by omega)) ?_
        rw [goOn_ge hp] at hgo
        walk_at "end"
        refine EXs.mono (after _ hgo.symm rfl) ?_
        rintro fl m₃ σ₃ ⟨rfl, h⟩
        exact h
    · rintro m' σ' ⟨N, mst⟩
      have hlen : (os.map fun n => V.d (iD n)).length = os.length := by simp
      rw [hlen, List.take_length] at N mst
      obtain ⟨m1, m2, m3, m4, m5, ag, s1, s2⟩ := N
      have so := ob_ok gs ws many os os.length
      rw [List.take_length] at so
      walk_at "go"
      refine bc_sorted ok (ts := (oneByOne gs ws many os).over) s2 hn (by omega) (fun a ha => ?_)
      walk_at "go"
      have haR : a ≠ R := fun q => by rw [q, s1] at ha; cases ha
      refine ⟨szl (n := 3) (by decide), ?_⟩
      walk_at "end"
      refine ⟨_, ?_, rfl, (ag.set (ag.new ha)).only⟩
      simp only [fz, fzs, hR0, ag.new ha, Hp.set_same, Hp.set_ne _ _ haR.symm, s1]
set_option maxHeartbeats 4000000 in
theorem order_cl {c : Cc} {f : Addr} {σ : Hp} {total : Int} {many : Nat} (k : Nat) (hf : FnI c 17 f)
    (gl : c.G "len" = some (.builtin "len")) (gli : c.G "list" = some (.type "list")) (gr : c.G "range" = some (.type "range")) (bs : Bs c.base c.G) (hmz : many < 1000) :
    CL c (k + 2) f [.d (iD many), .d (.int total)] (fun d σ' => d = .list ((orderOf many total).map iD) ∧ σ' = σ) (fun _ _ _ _ => False) σ := by
  refine cl_fn hf bs ["many", "total"] ?_ rfl rfl (by decide) (by decide) rfl rfl rfl ?_
  · intro pm cd doc vs hvs
    obtain ⟨a, b, rfl⟩ := len2 hvs; rfl
  · intro A outer L cd hA ok
    walk_at "seq"
    refine ex_assignS (names := ["left", "order"]) ok hA ?_ ?_ rfl rfl
    · intro n hnm
      simp only [List.reverse_cons, List.reverse_nil, List.nil_append, List.singleton_append, List.cons_append, List.mem_cons, List.not_mem_nil, or_false] at hnm
      rcases hnm with rfl | rfl <;> exact .loc rfl rfl
    walk_at "go"
    refine bc_range1 ?_
    walk_at "go"
    refine bc_listRange hA (by omega) (fun R hR => ?_)
    rw [upInts_iD]
    walk_at "go"
    refine ev_list (evl_nil ⟨[], rfl, by decide, fun O hO => ?_⟩)
    walk_at "go"
    refine ⟨szl (n := 2) (by decide), ?_⟩
    have ag0 : Ag σ (σ.set R ((List.range many).map iD)) := Ag.refl.set hR
    have ag1 := ag0.set (ds := []) (ag0.new hO)
    have hO0 : σ O = none := ag0.new hO
    have hOR : O ≠ R := fun q => by rw [q, Hp.set_same] at hO; cases hO
    refine ⟨_, rfl, rfl, ?_⟩
    show (_ : Fl → Lo → Hp → Prop) _ (Lo.put (Lo.put _ "order" _) "left" _) _
    walk_at "end"
    walk_at "seq"
    refine ex_while (fun n m₁ σ₁ => ∃ l o, n = l.length ∧ OrI R O σ l o total m₁ σ₁ ∧ l.length + o.length = many ∧ orderGo total l.length l o = orderOf many total) many ⟨List.range many, [], by simp, ⟨by walk_at "lk", by walk_at "lk", by walk_at "lk", ag1, by rw [Hp.set_ne _ _ hOR.symm, Hp.set_same], by rw [Hp.set_same]; rfl⟩, by simp, by unfold orderOf; rw [List.length_range]⟩ ?_
    rintro n m₁ σ₁ ⟨l, o, rfl, ⟨m1, m2, m3, ag, s1, s2⟩, hlo, hgo⟩
    walk_at "go"
    refine ev_list (evl_nil ⟨[], rfl, by decide, fun Z hZ => ?_⟩)
    have hZR : Z ≠ R := fun q => by rw [q, s1] at hZ; cases hZ
    have hZO : Z ≠ O := fun q => by rw [q, s2] at hZ; cases hZ
    have s1' : (σ₁.set Z []) R = some (l.map iD) := by rw [Hp.set_ne _ _ hZR.symm]; exact s1
    have s2' : (σ₁.set Z []) O = some (o.map iD) := by rw [Hp.set_ne _ _ hZO.symm]; exact s2
    have ag' := ag.set (ds := []) (ag.new hZ)
    refine cv_neD ok (rdv_asL (v := .ref R) s1') (rdv_asL (v := .ref Z) (Hp.set_same _ _ _)) (by simp only [PyData.canLay0]; rw [iD_ints]; exact canLay_ints _) rfl (by simp only [PyData.depth, PyData.depthAll]; omega) ?_
    rw [eqv_nil]
    walk_at "go"
    cases l with
    | nil =>
      simp only [List.map_nil, List.isEmpty_nil, Bool.not_true, Bool.false_eq_true, if_false]
      walk_at "end"
      walk_at "go"
      have hfin : o = orderOf many total := by rw [← hgo]; rfl
      refine ⟨.list ((orderOf many total).map iD), ?_, rfl, ag'.only⟩
      simp only [fz, hO0, s2', hfin]
    | cons x r =>
      rw [show ((x :: r).map iD).isEmpty = false from rfl]
      simp only [Bool.not_false, if_true]
      have hpos : (0 : Int) < ((x :: r : List Nat).length : Int) := by simp
      have hL : (x :: r).length < 1000 := by omega
      have i0 := Int.fmod_nonneg_of_pos (total.fdiv ((o.length : Int) + 1)) hpos
      have i1 := Int.fmod_lt_of_pos (total.fdiv ((o.length : Int) + 1)) hpos
      walk_at "seq"
      walk_at "go"
      refine ⟨list_typed s2', ?_⟩
      walk_at "go"
      refine ⟨list_typed s1', ?_⟩
      walk_at "go"
      refine bc_lenL s2' (by walk_at "lm") ?_
      rw [List.length_map]
      walk_at "go"
      refine bv_div (by omega) (by omega) ?_
      walk_at "go"
      refine bc_lenL s1' (by walk_at "lm") ?_
      rw [List.length_map]
      walk_at "go"
      refine bv_mod (by omega) ?_
      generalize hix : (total.fdiv ((o.length : Int) + 1)).fmod ((x :: r : List Nat).length : Int) = ix at *
      have hlt : ix.toNat < (x :: r).length := by omega
      walk_at "go"
      refine bc_popAt (d := iD ((x :: r).getD ix.toNat 0)) s1' (by walk_at "lm") i0 (by rw [List.getElem?_map, List.getD_eq_getElem?_getD, List.getElem?_eq_getElem hlt]; rfl) ?_
      walk_at "go"
      refine bc_append (by rw [Hp.set_ne _ _ hOR]; exact s2') (by walk_at "lm") ?_
      walk_at "end"
      refine ⟨((x :: r).eraseIdx ix.toNat).length, by rw [List.length_eraseIdx_of_lt hlt]; omega, (x :: r).eraseIdx ix.toNat, o ++ [(x :: r).getD ix.toNat 0], rfl, ⟨by walk_at "lk", by walk_at "lk", by walk_at "lk", (ag'.set hR).set hO0, ?_, ?_⟩, ?_, ?_⟩
      · rw [Hp.set_ne _ _ hOR.symm, Hp.set_same, map_erase]
      · rw [Hp.set_same, List.map_append]; rfl
      · rw [List.length_eraseIdx_of_lt hlt, List.length_append, List.length_singleton]; omega
      · rw [← hgo, List.length_eraseIdx_of_lt hlt]
        conv => rhs; rw [show (x :: r).length = r.length + 1 from rfl, orderGo, if_neg (by simp), hix]
        rfl
theorem natsOf {l : List Int} (h : ∀ w ∈ l, 0 ≤ w) : l.map PyData.int = (l.map Int.toNat).map iD := by
  rw [List.map_map]
  refine List.map_congr_left fun w hw => ?_
  show PyData.int w = PyData.int ((w.toNat : Nat) : Int)
  rw [Int.toNat_of_nonneg (h w hw)]
theorem canLay_oD : ∀ l : List (Option T), PyData.canLayAll0 (l.map oD) = true
  | [] => rfl
  | none :: r => by rw [List.map_cons]; simp only [oD, PyData.canLayAll0, PyData.canLay0, Bool.true_and]; exact canLay_oD r
  | some t :: r => by rw [List.map_cons]; simp only [oD, tD, thing, PyData.canLayAll0, PyData.canLay0, Bool.true_and]; exact canLay_oD r
theorem canLay_tD (l : List T) : PyData.canLayAll0 (l.map tD) = true := by
  have := canLay_oD (l.map some)
  rw [List.map_map] at this; exact this
theorem canLay_iD (l : List Nat) : PyData.canLayAll0 (l.map iD) = true := by rw [iD_ints]; exact canLay_ints _
theorem depth_oD : ∀ l : List (Option T), PyData.depthAll (l.map oD) ≤ 2
  | [] => by simp [PyData.depthAll]
  | none :: r => by have := depth_oD r; rw [List.map_cons]; simp only [oD, PyData.depthAll, PyData.depth]; omega
  | some t :: r => by have := depth_oD r; rw [List.map_cons]; simp only [oD, tD, thing, PyData.depthAll, PyData.depth]; omega
theorem depth_tD (l : List T) : PyData.depthAll (l.map tD) ≤ 2 := by
  have := depth_oD (l.map some)
  rw [List.map_map] at this; exact this
theorem depth_iD : ∀ l : List Nat, PyData.depthAll (l.map iD) ≤ 2
  | [] => by simp [PyData.depthAll]
  | x :: r => by have := depth_iD r; rw [List.map_cons]; simp only [PyData.depthAll, PyData.depth]; omega
set_option maxHeartbeats 4000000 in
theorem law2_cl {c : Cc} {f f1 f2 f3 f4 f5 f6 f7 f8 f9 f10 f11 f12 f13 f14 f15 : Addr} {σ : Hp} {script : List Int} (k : Nat)
    (hf : FnI c 18 f) (hfi : FnI c 1 f1) (hfq : FnI c 2 f2) (hfk : FnI c 3 f3) (hfh : FnI c 5 f4) (hfp : FnI c 6 f5) (hfd : FnI c 7 f6) (hfu : FnI c 8 f7) (hfs : FnI c 10 f8) (hft : FnI c 11 f9) (hftx : FnI c 13 f10) (hfpl : FnI c 14 f11) (hfw : FnI c 15 f12) (hfo : FnI c 16 f13) (hfor : FnI c 17 f14)
    (gi : c.G "_iter_escaped_chars" = some (.ref f1)) (gq : c.G "_strip_quoted_realnames" = some (.ref f2)) (gk : c.G "_check_parenthesis" = some (.ref f3)) (gh : c.G "heappush" = some (.ref f4)) (gp : c.G "heappop" = some (.ref f5)) (gd : c.G "_siftdown" = some (.ref f6)) (gu : c.G "_siftup" = some (.ref f7)) (gsl : c.G "sorted_list_difference" = some (.ref f8)) (gt : c.G "three_way_cmp" = some (.ref f9)) (gtx : c.G "_law_text" = some (.ref f10)) (gpl : c.G "_law_plain" = some (.ref f11)) (gw : c.G "_law_walk" = some (.ref f12)) (go : c.G "_law_one_by_one" = some (.ref f13)) (gor : c.G "_law_order" = some (.ref f14))
    (ge : c.G "enumerate" = some (.type "enumerate")) (gl : c.G "len" = some (.builtin "len")) (gm : c.G "max" = some (.builtin "max")) (gsm : c.G "sum" = some (.builtin "sum")) (gs' : c.G "sorted" = some (.builtin "sorted")) (gst : c.G "str" = some (.type "str")) (gli : c.G "list" = some (.type "list")) (gr : c.G "range" = some (.type "range")) (gie : c.G "IndexError" = some (.type "IndexError")) (bs : Bs c.base c.G)
    (hsl : script.length < 100) (M : LawMath2 ([8, 16, 3, 0, 6, 3, 5, 3] ++ script.take 11)) :
    CL c (k + 6) f [.d (.list (script.map .int))] (fun d σ' => d = .bool true ∧ σ' = σ) (fun _ _ _ _ => False) σ := by
  have big := sizeLine_big
  obtain ⟨row, hrow⟩ : ∃ row, row = [8, 16, 3, 0, 6, 3, 5, 3] ++ script.take 11 := ⟨_, rfl⟩
  rw [← hrow] at M
  have hrl : row.length ≤ 19 := by rw [hrow]; simp; omega
  have to := txFold2_ok row row.length
  rw [List.take_length] at to
  refine cl_fn hf bs ["script"] ?_ rfl rfl (by decide) (by decide) rfl rfl rfl ?_
  · intro pm cd doc vs hvs
    obtain ⟨a, rfl⟩ := len1 hvs; rfl
  · intro A outer L cd hA ok
    walk_at "seq"
    refine ex_assign ok (.loc rfl rfl) (ev_freeze ?_) rfl
    refine ev_BinOp ?_
    refine ev_list ?_
    walk_at "go"
    refine ⟨_, rfl, (szl (n := 8) (by decide)), fun Z hZ => ?_⟩
    walk_at "call"
    refine evl_cons (ev_sliceL ?_ (fun _ _ => rfl)) rfl
    refine ev_bound ok (.loc rfl rfl) (by walk_at "lk") ?_ (by decide)
    refine ev_int ⟨11, rfl, ?_⟩
    refine ⟨script.map .int, rfl, rfl, by rw [List.length_map]; omega, fun r hr => ?_⟩
    rw [show sl (script.map PyData.int) none (some 11) = (script.take 11).map .int from (sl_to (i := 11)).trans (List.map_take).symm]
    refine evl_nil ?_
    refine bc_listCopy (ds := (script.take 11).map .int) (Hp.set_same _ _ _) (by rw [List.length_map, List.length_take]; omega) (fun a ha => ?_)
    have ag1 : Ag σ (((σ.set Z [PyData.int 8, PyData.int 16, PyData.int 3, PyData.int 0, PyData.int 6, PyData.int 3, PyData.int 5, PyData.int 3]).set r ((script.take 11).map .int)).set a ((script.take 11).map .int)) := by
      have q1 : Ag σ (σ.set Z [PyData.int 8, PyData.int 16, PyData.int 3, PyData.int 0, PyData.int 6, PyData.int 3, PyData.int 5, PyData.int 3]) := Ag.refl.set hZ
      have q2 := q1.set (ds := (script.take 11).map .int) (q1.new hr)
      exact q2.set (q2.new ha)
    refine bv_addL (ds := [8, 16, 3, 0, 6, 3, 5, 3].map .int) (es := (script.take 11).map .int) ?_ (Hp.set_same _ _ _) (by simp only [List.length_map, List.length_take, List.length_cons, List.length_nil]; omega) (fun b hb => ?_)
    · have hra : Z ≠ r := fun q => by rw [← q, Hp.set_same] at hr; cases hr
      have haZ : Z ≠ a := fun q => by rw [← q, Hp.set_ne _ _ hra, Hp.set_same] at ha; cases ha
      show (Hp.set _ _ _) Z = _
      rw [Hp.set_ne _ _ haZ, Hp.set_ne _ _ hra, Hp.set_same]; rfl
    refine ⟨b, _, rfl, Hp.set_same _ _ _, ?_⟩
    rw [Hp.drop_set _ _ _ hb, ← List.map_append, ← hrow]
    generalize (((σ.set Z [PyData.int 8, PyData.int 16, PyData.int 3, PyData.int 0, PyData.int 6, PyData.int 3, PyData.int 5, PyData.int 3]).set r ((script.take 11).map .int)).set a ((script.take 11).map .int)) = σ₁ at ag1
    walk_at "go"
    refine bc_sum (ns := row) hA rfl ?_
    walk_at "go"
    have ml := mkS_length (txFold2 row).text
    have mls := mkS_length (txFold2 row).seen
    have z1 := to.text
    have z2 := to.seen
    have z3 := to.guests
    have z4 := to.wishes
    -- text, seen, guests, wishes
    refine ex_assignT ?_ rfl rfl
    walk_at "go"
    refine CL.use1 (text_ok k hftx gl bs (by omega)) (Nat.add_le_add_left (by decide) k) ?_
    refine at_tuple hA rfl rfl rfl (at_name ok (.loc rfl rfl) (at_name ok (.loc rfl rfl) (at_name ok (.loc rfl rfl) (at_name ok (.loc rfl rfl) ?_))))
    refine ats_nil ?_
    walk_at "end"
    rw [natsOf M.wish]
    -- behind
    have hpw : ∀ l : List Nat, (plain l).wait ≤ l.length := fun l => by
      have : ∀ (l : List Nat) (s : Pl), (l.foldl plStep s).wait ≤ s.wait + l.length := fun l => by
        induction l with
        | nil => intro s; simp
        | cons x r ih =>
          intro s
          rw [List.foldl_cons]
          have h1 := ih (plStep s x)
          have h2 : (plStep s x).wait ≤ s.wait + 1 := by unfold plStep; split <;> simp; omega
          rw [List.length_cons]; omega
      have := this l ⟨[], 0, 0, 0⟩
      simpa [plain] using this
    have hn2 : n2Of row ≤ 19 := by
      unfold n2Of
      split
      · have := hpw (txFold2 row).seen; omega
      · omega
    walk_at "seq"
    refine ex_assign ok (.loc rfl rfl) (ev_BinOp (ev_str (ev_step (.d (iD (n2Of row))) ?_ ?_))) rfl
    · walk_at "go"
      unfold n2Of
      by_cases he : row.sum.fmod 2 = 0
      · rw [show (row.sum.fmod 2 == 0) = true from beq_iff_eq.mpr he, if_pos he]
        simp only [if_true]
        walk_at "go"
        refine CL.use1 (plain_cl k hfpl gm bs (by rw [mls]; omega)) (Nat.add_le_add_left (by decide) k) ?_
        rw [mkS_toList]
        walk_at "go"
        exact sb_tup (d := .d (iD (plain (txFold2 row).seen).wait)) rfl (by show 3 < 2 ^ 23; decide) (by decide) rfl ⟨rfl, rfl⟩ (fun _ _ => rfl)
      · rw [show (row.sum.fmod 2 == 0) = false from beq_eq_false_iff_ne.mpr he, if_neg he]
        simp only [Bool.false_eq_true, if_false]
        walk_at "go"
        exact ⟨rfl, rfl⟩
    show BV _ _ .Mult (.d (.str ⟨#[41]⟩)) _ _ _ _
    refine bv_mulS (by omega) (by omega) ?_
    rw [Int.toNat_natCast, show rep 41 (n2Of row) = mkS (beh2 row) from rfl]
    have hbl : (beh2 row).length = n2Of row := by unfold beh2; rw [List.length_replicate]
    have hyl : (yy2 row).length ≤ 200 := by unfold yy2; rw [List.length_append]; omega
    have hfl : (full2 row).length ≤ 40 := by unfold full2; rw [List.length_append]; omega
    have mlb := mkS_length (beh2 row)
    have mly := mkS_length (yy2 row)
    have mlf := mkS_length (full2 row)
    have hys : (mkS (yy2 row)).length < 2 ^ 20 := by rw [mly]; exact Nat.lt_of_le_of_lt hyl (by decide)
    have hfsz : (mkS (full2 row)).length < 1000 := by rw [mlf]; exact Nat.lt_of_le_of_lt hfl (by decide)
    have hyy : mkS (txFold2 row).text ++ mkS (beh2 row) = mkS (yy2 row) := mkS_append _ _
    have hff : mkS (txFold2 row).seen ++ mkS (beh2 row) = mkS (full2 row) := mkS_append _ _
    walk_at "end"
    -- units
    walk_at "seq"
    refine ex_assignComp (cl := []) [] ok rfl (.loc rfl rfl) rfl (by decide) rfl (by decide) (fun p hp => (nomatch hp)) (by decide) (by decide) (fun p hp => (nomatch hp)) (fun _ => rfl) ?_
    refine itx_genF ok (j := k + 1) (by omega) rfl gi hfi (by decide) hA rfl ?_
    walk_at "go"
    · show (mkS (txFold2 row).text).length + (mkS (beh2 row)).length ≤ sizeLine; omega
    rw [hyy]
    walk_at "go"
    refine CL.use1 (sqr_ok (y := mkS (yy2 row)) k hfq hfi gi ge gl bs hys) (Nat.add_le_add_left (by decide) k) ?_
    rw [mkS_toList]
    walk_at "go"
    have hsl2 := stripQ_len (yy2 row)
    refine ⟨unitsOf (yy2 row), ?_, ?_⟩
    · have key := fun σ => iter_ok (c := c) (σ := σ) (y := mkS (stripQ (yy2 row))) k hfi ge bs (by rw [mkS_length]; omega)
      simp only [mkS_toList] at key; exact key _
    have hul : (unitsOf (yy2 row)).length ≤ 200 := by
      have := escU_len (stripQ (yy2 row)) 0 false
      simp only [Bool.false_eq_true, if_false, Nat.add_zero] at this
      unfold unitsOf; omega
    refine ⟨fun i => (unitsOf (yy2 row))[i]?.map fun u => .str u.2, ?_, by rw [List.length_map]; omega, fun D hD => ?_⟩
    · intro i d D C hd hD okc
      rw [List.getElem?_map] at hd
      obtain ⟨u, hu, rfl⟩ := Option.map_eq_some_iff.mp hd
      refine at_two okc hA (.loc rfl rfl) (.loc rfl rfl) rfl ⟨fun p hp => (nomatch hp), ?_⟩
      show EV _ _ _ _ _ _
      refine ev_bound okc (.loc rfl rfl) (Lo.put_same _ _ _) ⟨rfl, _, rfl, ?_⟩ (by decide)
      show Option.map _ _ = _
      rw [hu]; rfl
    walk_at "end"
    rw [List.length_map, range_pick (unitsOf (yy2 row)) _ (fun u => some (.str u.2)) fun i x hx => by rw [hx]; rfl]
    rw [show (unitsOf (yy2 row)).filterMap (fun u => some (PyData.str u.2)) = ((unitsOf (yy2 row)).map (·.2)).map .str by rw [List.map_map]; exact congrFun List.filterMap_eq_map' _]
    refine exs_freeze (y := "units") (by walk_at "lk") (Hp.set_same _ _ _) ?_
    rw [Hp.drop_set _ _ _ hD]
    -- signs
    walk_at "seq"
    refine ex_assignComp (cl := []) [] ok rfl (.loc rfl rfl) rfl (by decide) rfl (by decide) (fun p hp => (nomatch hp)) (by decide) (by decide) (fun p hp => (nomatch hp)) (fun _ => rfl) ?_
    refine itx_val (ev_bound ok (.loc rfl rfl) (by walk_at "lk") ⟨_, iter_listD hA (fun _ _ => rfl), ?_⟩ (by decide))
    refine ⟨fun i => ((unitsOf (yy2 row)).map (·.2))[i]?.bind fun u => if isP u then some (.str u) else none, ?_, by simp only [List.length_map]; omega, fun D hD => ?_⟩
    · intro i d D C hd hD okc
      rw [List.map_map, List.map_map, List.getElem?_map] at hd
      obtain ⟨u, hu, rfl⟩ := Option.map_eq_some_iff.mp hd
      show AT _ _ (.d (.str u.2)) _ _ _
      refine at_name okc (.loc rfl rfl) ⟨fun p hp => (nomatch hp), ?_⟩
      show TS _ _ _ _ _ _
      refine ts_cmp ?_ rfl
      refine ev_bound okc (.loc rfl rfl) (Lo.put_same _ _ _) ?_ (by decide)
      walk_at "go"
      refine ⟨szl (n := 2) (by decide), ?_⟩
      refine cv_inT okc (da := .str u.2) (ds := [.str (Str.ofString "("), .str (Str.ofString ")")]) rfl rfl (by simp only [PyData.canLay0]; exact M.uok u (List.mem_of_getElem? hu)) (by simp only [PyData.canLayAll0, PyData.canLay0]; decide +kernel) (by simp only [PyData.depthAll, PyData.depth]; omega) ?_
      walk_at "go"
      have hany : ([PyData.str (Str.ofString "("), .str (Str.ofString ")")].any fun y => PyData.eqv y (.str u.2)) = isP u.2 := by
        unfold isP
        simp only [List.any_cons, List.any_nil, PyData.eqv, Bool.or_false]
        rw [Bool.beq_comm (a := Str.ofString "("), Bool.beq_comm (a := Str.ofString ")")]
      rw [hany]
      have hgi : ((((unitsOf (yy2 row)).map (·.2))[i]?).bind fun u => if isP u then some (PyData.str u) else none) = if isP u.2 then some (.str u.2) else none := by
        rw [List.getElem?_map, hu]; rfl
      cases hp : isP u.2 with
      | true =>
        refine ev_bound okc (.loc rfl rfl) (Lo.put_same _ _ _) ⟨rfl, _, rfl, ?_⟩ (by decide)
        refine hgi.trans ?_
        rw [hp]; rfl
      | false =>
        refine ⟨?_, rfl⟩
        refine hgi.trans ?_
        rw [hp]; rfl
    walk_at "end"
    have hsig : (List.range (List.map V.d (List.map PyData.str ((unitsOf (yy2 row)).map (·.2)))).length).filterMap (fun i => ((unitsOf (yy2 row)).map (·.2))[i]?.bind fun u => if isP u then some (PyData.str u) else none) = (full2 row).map sD := by
      rw [List.length_map, List.length_map, range_pick ((unitsOf (yy2 row)).map (·.2)) _ (fun u => if isP u then some (.str u) else none) fun i x hx => by rw [hx]; rfl]
      have : ((unitsOf (yy2 row)).map (·.2)).filterMap (fun u => if isP u then some (PyData.str u) else none) = (((unitsOf (yy2 row)).map (·.2)).filter isP).map .str := by
        induction (unitsOf (yy2 row)).map (·.2) with
        | nil => rfl
        | cons u r ih => rw [List.filterMap_cons, List.filter_cons]; cases isP u <;> simp [ih]
      rw [this, M.signs, List.map_map]; rfl
    rw [hsig]
    refine exs_freeze (y := "signs") (by walk_at "lk") (Hp.set_same _ _ _) ?_
    rw [Hp.drop_set _ _ _ hD]
    -- if ''.join(signs) != seen + behind
    walk_at "seq"
    walk_at "go"
    refine ⟨str_typed, ?_⟩
    walk_at "go"
    have hjoin : (full2 row).map sD = (((full2 row).map fun c => [c]).map mkS).map .str := by simp only [List.map_map]; rfl
    refine bc_join (ys := ((full2 row).map fun c => [c]).map mkS) (by show some _ = some _; rw [hjoin]) ?_ ?_
    · have e1 : ((((full2 row).map fun c => [c]).map mkS).map (·.length)).sum = (full2 row).length := by
        rw [List.map_map, List.map_map]
        have : ∀ l : List Nat, (l.map ((fun x : Str => x.length) ∘ mkS ∘ fun c => [c])).sum = l.length := fun l => by
          induction l with
          | nil => rfl
          | cons x r ih => rw [List.map_cons, List.sum_cons, ih, List.length_cons]; show (mkS [x]).length + _ = _; rw [mkS_length]; simp; omega
        exact this _
      have e2 : (Str.ofString "").length = 0 := rfl
      rw [e1, e2]; omega
    rw [join_empty, show ((full2 row).map fun c => [c]).flatten = full2 row from flat_ones _]
    walk_at "go"
    · show (mkS (txFold2 row).seen).length + (mkS (beh2 row)).length ≤ sizeLine; omega
    rw [hff]
    walk_at "go"
    refine if_f (show (mkS (full2 row) != mkS (full2 row)) = false by simp) ?_
    walk_at "end"
    -- free, wait, steps
    walk_at "seq"
    refine ex_assignT ?_ rfl rfl
    walk_at "go"
    · show (mkS (txFold2 row).seen).length + (mkS (beh2 row)).length ≤ sizeLine; omega
    rw [hff]
    walk_at "go"
    refine CL.use1 (plain_cl (y := mkS (full2 row)) k hfpl gm bs hfsz) (Nat.add_le_add_left (by decide) k) ?_
    rw [mkS_toList]
    refine at_tuple hA rfl rfl rfl (at_name ok (.loc rfl rfl) (at_name ok (.loc rfl rfl) (at_name ok (.loc rfl rfl) ?_)))
    refine ats_nil ?_
    walk_at "end"
    -- rooms, over
    have wz := walk_ok (txFold2 row).guests (full2 row) _ (Nat.le_refl _)
    rw [List.take_length] at wz
    walk_at "seq"
    refine ex_assignT ?_ rfl rfl
    walk_at "go"
    refine CL.use1 (walk_cl (cs := full2 row) (gs := (txFold2 row).guests) k hfw hfh hfp hfu hfd gh gp gu gd gl gs' gst gie bs (by omega) M.cnt (by omega) M.nodH (by omega)) (Nat.add_le_add_left (by decide) k) ?_
    refine at_tuple hA rfl rfl rfl (at_name ok (.cell _ rfl rfl rfl) (at_name ok (.loc rfl rfl) ?_))
    refine ats_nil ?_
    walk_at "end"
    have hRz : (walk (txFold2 row).guests (full2 row)).rooms.length ≤ 40 := by have := wz.2.2; omega
    generalize hm₀ : Lo.put _ (Str.ofString "over") _ = m₀
    have n1 : m₀ "text" = some (.d (.str (mkS (txFold2 row).text))) := by rw [← hm₀]; walk_at "lk"
    have n2 : m₀ "behind" = some (.d (.str (mkS (beh2 row)))) := by rw [← hm₀]; walk_at "lk"
    have n3 : m₀ "guests" = some (.d (.list ((txFold2 row).guests.map tD))) := by rw [← hm₀]; walk_at "lk"
    have n4 : m₀ "wishes" = some (.d (.list ((ws2 row).map iD))) := by rw [← hm₀]; walk_at "lk"
    have n5 : m₀ "rooms" = some (.d (.list ((walk (txFold2 row).guests (full2 row)).rooms.map oD))) := by rw [← hm₀]; walk_at "lk"
    have n6 : m₀ "over" = some (.d (.list ((srt (walk (txFold2 row).guests (full2 row)).heap).map tD))) := by rw [← hm₀]; walk_at "lk"
    have n7 : m₀ "steps" = some (.d (iD (plain (full2 row)).steps)) := by rw [← hm₀]; walk_at "lk"
    have n8 : m₀ "free" = some (.d (.list ((plain (full2 row)).free.map iD))) := by rw [← hm₀]; walk_at "lk"
    have n9 : m₀ "wait" = some (.d (iD (plain (full2 row)).wait)) := by rw [← hm₀]; walk_at "lk"
    have n10 : m₀ "total" = some (.d (.int row.sum)) := by rw [← hm₀]; walk_at "lk"
    clear hm₀
    -- for order in [...]
    have hgl : (txFold2 row).guests.length ≤ 8 := by omega
    have hwl : (ws2 row).length = (txFold2 row).guests.length := by unfold ws2; rw [List.length_map]; exact z4
    walk_at "seq"
    refine ex_forX (itx_val (ev_listV ?_)) (fun _ => rfl)
    walk_at "go"
    refine bc_lenL (ds := (txFold2 row).guests.map tD) rfl (by walk_at "lm") ?_
    rw [List.length_map]
    walk_at "go"
    refine bc_range1 ?_
    walk_at "go"
    refine bc_lenL (ds := (txFold2 row).guests.map tD) rfl (by walk_at "lm") ?_
    rw [List.length_map]
    walk_at "go"
    refine CL.use1 (order_cl (many := (txFold2 row).guests.length) k hfor gl gli gr bs (by omega)) (Nat.add_le_add_left (by decide) k) ?_
    walk_at "go"
    refine ⟨szl (n := 2) (by decide), _, iter_lst hA (fun _ _ => rfl), ?_⟩
    refine ⟨fun i m' σ' => σ' = σ₁ ∧ ∀ x, x ≠ Str.ofString "order" → m' x = m₀ x, ⟨rfl, fun _ _ => rfl⟩, ?_, ?_⟩
    · rintro i d m' σ' hd ⟨rfl, hm'⟩
      have hcase : ∃ os, (os = List.range (txFold2 row).guests.length ∨ os = orderOf (txFold2 row).guests.length row.sum) ∧ ((d = .rng 0 os.length ∧ os = List.range os.length) ∨ d = .d (.list (os.map iD))) := by
        match i, hd with
        | 0, hd => cases hd; exact ⟨List.range (txFold2 row).guests.length, .inl rfl, .inl ⟨by rw [List.length_range], by rw [List.length_range]⟩⟩
        | 1, hd => cases hd; exact ⟨_, .inr rfl, .inr rfl⟩
      obtain ⟨os, hos, hdo⟩ := hcase
      obtain ⟨o1, o2, o3, o4⟩ := M.one os hos
      have hol : ∀ l ∈ os, l < (txFold2 row).guests.length := by
        rcases hos with rfl | rfl
        · exact fun l hl => List.mem_range.mp hl
        · exact M.ord
      have hoz : os.length < 60 := by
        rcases hos with rfl | rfl
        · rw [List.length_range]; omega
        · exact M.ordz
      refine at_name ok (.loc rfl rfl) ?_
      have k3 := (hm' "guests" (by decide)).trans n3
      have k4 := (hm' "wishes" (by decide)).trans n4
      have k5 := (hm' "rooms" (by decide)).trans n5
      have k6 := (hm' "over" (by decide)).trans n6
      have k7 := (hm' "steps" (by decide)).trans n7
      walk_at "seq"
      walk_at "go"
      refine bc_lenL (ds := (walk (txFold2 row).guests (full2 row)).rooms.map oD) rfl (by walk_at "lm") ?_
      rw [List.length_map]
      walk_at "go"
      refine CL.use1 (obo_cl (many := (walk (txFold2 row).guests (full2 row)).rooms.length) (os := os) k hfo hft gt gs' bs hdo hol hwl (by omega) hoz (by omega) o2) (Nat.add_le_add_left (by decide) k) ?_
      rw [o1, o3, o4]
      walk_at "go"
      refine ⟨szl (n := 3) (by decide), ?_⟩
      have lay : PyData.canLay0 (.tuple [.list ((walk (txFold2 row).guests (full2 row)).rooms.map oD), .list ((srt (walk (txFold2 row).guests (full2 row)).heap).map tD), iD (plain (full2 row)).steps]) = true := by
        simp only [PyData.canLay0, PyData.canLayAll0, canLay_oD, canLay_tD, Bool.and_self]
      refine cv_neD ok (da := .tuple [.list ((walk (txFold2 row).guests (full2 row)).rooms.map oD), .list ((srt (walk (txFold2 row).guests (full2 row)).heap).map tD), iD (plain (full2 row)).steps]) (db := .tuple [.list ((walk (txFold2 row).guests (full2 row)).rooms.map oD), .list ((srt (walk (txFold2 row).guests (full2 row)).heap).map tD), iD (plain (full2 row)).steps]) rfl rfl lay lay ?_ ?_
      · have d1 := depth_oD (walk (txFold2 row).guests (full2 row)).rooms
        have d2 := depth_tD (srt (walk (txFold2 row).guests (full2 row)).heap)
        refine min_ok ?_
        simp only [PyData.depth, PyData.depthAll]; omega
      rw [SeqAt.eqv_refl _ lay]
      walk_at "go"
      simp only [Bool.not_true, Bool.false_eq_true, if_false]
      (walk_at "end"; refine ⟨rfl, fun x hx => ?_⟩)
      rw [Lo.put_ne _ _ hx]; exact hm' x hx
    rintro m₁ σ' ⟨rfl, hm₁⟩
    walk_at "end"
    replace n1 := (hm₁ "text" (by decide)).trans n1
    replace n2 := (hm₁ "behind" (by decide)).trans n2
    replace n3 := (hm₁ "guests" (by decide)).trans n3
    replace n5 := (hm₁ "rooms" (by decide)).trans n5
    replace n6 := (hm₁ "over" (by decide)).trans n6
    replace n8 := (hm₁ "free" (by decide)).trans n8
    replace n9 := (hm₁ "wait" (by decide)).trans n9
    clear n4 n7 n10 hm₁
    -- taken
    walk_at "seq"
    refine ex_assignComp (cl := [(Str.ofString "rooms", _)]) [(Str.ofString "rooms", .d (.list ((walk (txFold2 row).guests (full2 row)).rooms.map oD)))] ok rfl (.loc rfl rfl) rfl (by decide) rfl (by decide) (fun p hp => by obtain rfl := List.mem_singleton.mp hp; rfl) (by simp) (by simp) (fun p hp => by obtain rfl := List.mem_singleton.mp hp; exact ⟨n5, fun h => nomatch (show some NameKind.cell = some NameKind.local from h)⟩) (fun _ => rfl) ?_
    refine itx_val ?_
    walk_at "go"
    refine bc_lenL (ds := (walk (txFold2 row).guests (full2 row)).rooms.map oD) rfl (by walk_at "lm") ?_
    rw [List.length_map]
    walk_at "go"
    refine bc_range1 ?_
    refine ⟨_, iter_rngN hA (fun _ _ => rfl) (Nat.lt_of_le_of_lt hRz (by decide)), ?_⟩
    rw [show (((walk (txFold2 row).guests (full2 row)).rooms.length : Int) - 0).toNat = (walk (txFold2 row).guests (full2 row)).rooms.length by omega, upInts_iD]
    refine ⟨fun i => if ((walk (txFold2 row).guests (full2 row)).rooms.getD i none).isSome then some (iD i) else none, ?_, by simp only [List.length_map, List.length_range]; omega, fun D hD => ?_⟩
    · intro i d D C hd hD okc
      rw [List.map_map, List.getElem?_map] at hd
      obtain ⟨j, hj, rfl⟩ := Option.map_eq_some_iff.mp hd
      obtain ⟨hj1, hj2⟩ := List.getElem?_eq_some_iff.mp hj
      have hji : j = i := by simpa using hj2.symm
      subst hji
      have hjl : j < (walk (txFold2 row).guests (full2 row)).rooms.length := by simpa using hj1
      show AT _ _ (.d (iD j)) _ _ _
      refine at_name okc (.loc rfl rfl) ⟨fun p hp => by obtain rfl := List.mem_singleton.mp hp; rfl, ?_⟩
      show TS _ _ _ _ _ _
      refine ts_cmp ?_ rfl
      refine ev_sub ?_
      refine ev_cell okc rfl rfl (show Lo.put _ _ _ _ = some (.d (.list ((walk (txFold2 row).guests (full2 row)).rooms.map oD))) from (Lo.put_ne _ _ (by decide)).trans rfl) ?_ (by decide)
      refine ev_bound okc (.loc rfl rfl) (Lo.put_same _ _ _) ?_ (by decide)
      refine sb_list (d := oD ((walk (txFold2 row).guests (full2 row)).rooms.getD j none)) rfl (by walk_at "lm") (Int.natCast_nonneg _) (oD_at hjl) ?_ (fun _ _ => rfl)
      cases hr : (walk (txFold2 row).guests (full2 row)).rooms.getD j none with
      | none =>
        walk_at "go"
        exact ⟨by show (if _ then _ else _) = _; rw [hr]; rfl, rfl⟩
      | some t =>
        walk_at "go"
        show EV _ _ _ _ _ _
        refine ev_bound okc (.loc rfl rfl) (Lo.put_same _ _ _) ⟨rfl, _, rfl, ?_⟩ (by decide)
        show (if _ then _ else _) = _
        rw [hr]; rfl
    walk_at "end"
    have htk : (List.range (((List.range (walk (txFold2 row).guests (full2 row)).rooms.length).map iD).map V.d).length).filterMap (fun i => if ((walk (txFold2 row).guests (full2 row)).rooms.getD i none).isSome then some (iD i) else none) = (taken2 row).map iD := by
      rw [List.length_map, List.length_map, List.length_range]
      unfold taken2
      exact filterMap_if (fun i => ((walk (txFold2 row).guests (full2 row)).rooms.getD i none).isSome) iD _
    rw [htk]
    refine exs_freeze (y := "taken") (by walk_at "lk") (Hp.set_same _ _ _) ?_
    rw [Hp.drop_set _ _ _ hD]
    have htz : (taken2 row).length ≤ 40 := by
      unfold taken2
      have := List.length_filter_le (fun i => ((walk (txFold2 row).guests (full2 row)).rooms.getD i none).isSome) (List.range (walk (txFold2 row).guests (full2 row)).rooms.length)
      rw [List.length_range] at this; omega
    have hrp : (List.range (walk (txFold2 row).guests (full2 row)).rooms.length).Pairwise (fun a b : Nat => a < b) := List.pairwise_lt_range
    have htp : (taken2 row).Pairwise (fun a b : Nat => a < b) := hrp.filter _
    -- the free rooms
    walk_at "seq"
    walk_at "go"
    refine bc_lenL (ds := (walk (txFold2 row).guests (full2 row)).rooms.map oD) rfl (by walk_at "lm") ?_
    rw [List.length_map]
    walk_at "go"
    refine bc_range1 ?_
    walk_at "go"
    refine bc_listRange hA (by omega) (fun R hR => ?_)
    rw [upInts_iD]
    walk_at "go"
    refine CL.use1 (sld_ok (xs := List.range (walk (txFold2 row).guests (full2 row)).rooms.length) (ys := taken2 row) k cmpOk_nats hfs gie bs (Hp.set_same _ _ _) rfl hrp htp (by rw [List.length_range]; omega) (by omega)) (Nat.add_le_add_left (by decide) k) ?_
    rw [M.free]
    have htn : dif (taken2 row) (List.range (walk (txFold2 row).guests (full2 row)).rooms.length) = [] := by
      unfold dif
      rw [List.filter_eq_nil_iff]
      intro a ha
      unfold taken2 at ha
      have := (List.mem_filter.mp ha).1
      simp [this]
    rw [htn]
    walk_at "go"
    refine ev_list (evl_nil ⟨[], rfl, szl (n := 0) (by decide), fun Z2 hZ2 => ?_⟩)
    walk_at "go"
    refine ⟨szl (n := 2) (by decide), ?_⟩
    have lay2 : PyData.canLay0 (.tuple [.list ((plain (full2 row)).free.map iD), .list []]) = true := by
      simp only [PyData.canLay0, PyData.canLayAll0, canLay_iD, Bool.and_self]
    refine cv_neD ok (da := .tuple [.list ((plain (full2 row)).free.map iD), .list (([] : List Nat).map iD)]) (db := .tuple [.list ((plain (full2 row)).free.map iD), .list []]) rfl (by simp only [rdv, rdvs, Hp.set_same]) lay2 lay2 ?_ ?_
    · have d1 := depth_iD (plain (full2 row)).free
      refine min_ok' ?_
      simp only [PyData.depth, PyData.depthAll]; omega
    rw [show PyData.eqv (.tuple [.list ((plain (full2 row)).free.map iD), .list (([] : List Nat).map iD)]) (.tuple [.list ((plain (full2 row)).free.map iD), .list []]) = true from SeqAt.eqv_refl _ lay2]
    walk_at "go"
    simp only [Bool.not_true, Bool.false_eq_true, if_false]
    walk_at "end"
    -- housed
    walk_at "seq"
    refine ex_assign ok (.loc rfl rfl) (ev_freeze ?_) rfl
    walk_at "call"
    refine evl_cons ?_ rfl
    refine ev_listComp (cl := [(Str.ofString "rooms", _)]) [(Str.ofString "rooms", .d (.list ((walk (txFold2 row).guests (full2 row)).rooms.map oD)))] ok rfl (by decide) rfl (by decide) (fun p hp => by obtain rfl := List.mem_singleton.mp hp; rfl) (by simp) (by simp) (fun p hp => by obtain rfl := List.mem_singleton.mp hp; exact ⟨by walk_at "lk", fun h => nomatch (show some NameKind.cell = some NameKind.local from h)⟩) (fun _ => rfl) ?_
    refine itx_val (ev_bound ok (.loc rfl rfl) (by walk_at "lk") ⟨_, iter_listD hA (fun _ _ => rfl), ?_⟩ (by decide))
    have htl : ∀ j ∈ taken2 row, ∃ t, (walk (txFold2 row).guests (full2 row)).rooms.getD j none = some t ∧ j < (walk (txFold2 row).guests (full2 row)).rooms.length := fun j hj => by
      unfold taken2 at hj
      obtain ⟨h1, h2⟩ := List.mem_filter.mp hj
      obtain ⟨t, ht⟩ := Option.isSome_iff_exists.mp h2
      exact ⟨t, ht, List.mem_range.mp h1⟩
    refine ⟨fun i => (taken2 row)[i]?.bind fun j => ((walk (txFold2 row).guests (full2 row)).rooms.getD j none).map tD, ?_, by simp only [List.length_map]; omega, fun D2 hD2 => ?_⟩
    · intro i d D C hd hD okc
      rw [List.map_map, List.getElem?_map] at hd
      obtain ⟨j, hj, rfl⟩ := Option.map_eq_some_iff.mp hd
      obtain ⟨t, ht, hjl⟩ := htl j (List.mem_of_getElem? hj)
      show AT _ _ (.d (iD j)) _ _ _
      refine at_name okc (.loc rfl rfl) ⟨fun p hp => by obtain rfl := List.mem_singleton.mp hp; rfl, ?_⟩
      show EV _ _ _ _ _ _
      refine ev_sub ?_
      refine ev_cell okc rfl rfl (show Lo.put _ _ _ _ = some (.d (.list ((walk (txFold2 row).guests (full2 row)).rooms.map oD))) from (Lo.put_ne _ _ (by decide)).trans rfl) ?_ (by decide)
      refine ev_bound okc (.loc rfl rfl) (Lo.put_same _ _ _) ?_ (by decide)
      refine sb_list (d := tD t) rfl (by walk_at "lm") (Int.natCast_nonneg _) ((oD_at hjl).trans (by rw [ht]; rfl)) ⟨rfl, _, rfl, ?_⟩ (fun _ _ => rfl)
      show Option.bind _ _ = _
      rw [hj]
      show Option.map tD ((walk (txFold2 row).guests (full2 row)).rooms.getD j none) = _
      rw [ht]; rfl
    have hhs : (List.range (((taken2 row).map iD).map V.d).length).filterMap (fun i => (taken2 row)[i]?.bind fun j => ((walk (txFold2 row).guests (full2 row)).rooms.getD j none).map tD) = (housed2 row).map tD := by
      rw [List.length_map, List.length_map, range_pick (taken2 row) _ (fun j => ((walk (txFold2 row).guests (full2 row)).rooms.getD j none).map tD) fun i x hx => by rw [hx]; rfl]
      unfold housed2
      rw [List.map_filterMap]
    rw [hhs]
    have hhz : (housed2 row).length ≤ 40 := by
      unfold housed2
      have := List.length_filterMap_le (fun i => (walk (txFold2 row).guests (full2 row)).rooms.getD i none) (taken2 row)
      omega
    refine evl_nil ?_
    refine bc_sorted ok (ts := housed2 row) (Hp.set_same _ _ _) M.nodU (by omega) (fun a2 ha2 => ?_)
    refine ⟨a2, _, rfl, Hp.set_same _ _ _, ?_⟩
    rw [Hp.drop_set _ _ _ ha2]
    walk_at "end"
    -- the guests left over
    have hsg : (srt (txFold2 row).guests).length ≤ 8 := by rw [(srt_perm _).length_eq]; omega
    have hsh : (srt (housed2 row)).length ≤ 40 := by rw [(srt_perm _).length_eq]; omega
    walk_at "seq"
    refine ex_if (ts_or2 ?_)
    walk_at "go"
    refine bc_sorted ok (ts := (txFold2 row).guests) rfl M.nodG (by omega) (fun a3 ha3 => ?_)
    walk_at "go"
    refine CL.use1 (sld_ok (xs := srt (txFold2 row).guests) (ys := srt (housed2 row)) k cmpOk_things hfs gie bs (Hp.set_same _ _ _) rfl (srt_sorted M.nodG) (srt_sorted M.nodU) (by omega) (by omega)) (Nat.add_le_add_left (by decide) k) ?_
    rw [M.hous]
    have hhn : dif (srt (housed2 row)) (srt (txFold2 row).guests) = [] := by
      unfold dif
      rw [List.filter_eq_nil_iff]
      intro a ha
      have := (srt_perm _).mem_iff.mpr (M.hous' a ((srt_perm _).mem_iff.mp ha))
      simp [this]
    rw [hhn]
    walk_at "go"
    refine ev_list (evl_nil ⟨[], rfl, szl (n := 0) (by decide), fun Z3 hZ3 => ?_⟩)
    walk_at "go"
    refine ⟨szl (n := 2) (by decide), ?_⟩
    have lay3 : PyData.canLay0 (.tuple [.list ((srt (walk (txFold2 row).guests (full2 row)).heap).map tD), .list []]) = true := by
      simp only [PyData.canLay0, PyData.canLayAll0, canLay_tD, Bool.and_self]
    refine cv_neD ok (da := .tuple [.list ((srt (walk (txFold2 row).guests (full2 row)).heap).map tD), .list (([] : List T).map tD)]) (db := .tuple [.list ((srt (walk (txFold2 row).guests (full2 row)).heap).map tD), .list []]) rfl (by simp only [rdv, rdvs, Hp.set_same]) lay3 lay3 ?_ ?_
    · have d1 := depth_tD (srt (walk (txFold2 row).guests (full2 row)).heap)
      refine min_ok' ?_
      simp only [PyData.depth, PyData.depthAll]; omega
    rw [show PyData.eqv (.tuple [.list ((srt (walk (txFold2 row).guests (full2 row)).heap).map tD), .list (([] : List T).map tD)]) (.tuple [.list ((srt (walk (txFold2 row).guests (full2 row)).heap).map tD), .list []]) = true from SeqAt.eqv_refl _ lay3]
    walk_at "go"
    simp only [Bool.not_true, Bool.false_eq_true, if_false]
    walk_at "go"
    refine bc_lenL (ds := (srt (walk (txFold2 row).guests (full2 row)).heap).map tD) rfl (by rw [List.length_map, (srt_perm _).length_eq]; omega) ?_
    rw [List.length_map, (srt_perm _).length_eq, M.wait]
    walk_at "go"
    refine if_f (show (((plain (full2 row)).wait : Int) != ((plain (full2 row)).wait : Int)) = false by simp) ?_
    walk_at "end"
    -- the last row
    walk_at "seq"
    walk_at "go"
    · show (mkS (txFold2 row).text).length + (mkS (beh2 row)).length ≤ sizeLine; omega
    rw [hyy]
    walk_at "go"
    refine CL.use1 (chk_ok (y := mkS (yy2 row)) k hfk hfq hfi gq gi ge gl bs hys) (Nat.add_le_add_left (by decide) k) ?_
    rw [mkS_toList, M.chk]
    refine ev_and2 ?_
    walk_at "go"
    refine ev_list (evl_nil ⟨[], rfl, szl (n := 0) (by decide), fun Z4 hZ4 => ?_⟩)
    refine cv_eqD ok (da := .list ((plain (full2 row)).free.map iD)) (db := .list []) rfl (by simp only [rdv, Hp.set_same]) (by simp only [PyData.canLay0, canLay_iD]) (by simp only [PyData.canLay0, PyData.canLayAll0]) (by simp only [PyData.depth, PyData.depthAll]; omega) ?_
    rw [eqv_nil]
    walk_at "go"
    have q1 := ag1.set (ds := (List.range (walk (txFold2 row).guests (full2 row)).rooms.length).map iD) (ag1.new hR)
    have q2 := q1.set (ds := []) (q1.new hZ2)
    have q3 := q2.set (ds := (housed2 row).map tD) (q2.new hD2)
    have q4 := q3.set (ds := (srt (txFold2 row).guests).map tD) (q3.new ha3)
    have q5 := q4.set (ds := []) (q4.new hZ3)
    have q6 := q5.set (ds := []) (q5.new hZ4)
    have hw0 : (((plain (full2 row)).wait : Int) == 0) = decide ((plain (full2 row)).wait = 0) := nat_eq _ 0
    cases hfe : (plain (full2 row)).free with
    | nil =>
      simp only [List.map_nil, List.isEmpty_nil, if_true]
      walk_at "go"
      refine ⟨.bool true, ?_, rfl, q6.only⟩
      show some (PyData.bool _) = some (.bool true)
      rw [hw0]
      cases decide ((plain (full2 row)).wait = 0) <;> rfl
    | cons x r =>
      refine if_f (show ((x :: r).map iD).isEmpty = false from rfl) ?_
      walk_at "go"
      refine ⟨.bool true, ?_, rfl, q6.only⟩
      show some (PyData.bool _) = some (.bool true)
      cases decide ((plain (full2 row)).wait = 0) <;> rfl
theorem idx_nodup {gs : List T} (h : ∀ (i : Nat) (g : T), gs[i]? = some g → g.2 = (i : Int)) : gs.Nodup := by
  refine List.pairwise_iff_getElem.mpr fun i j hi hj hij q => ?_
  have h1 := h i gs[i] (List.getElem?_eq_getElem hi)
  have h2 := h j gs[j] (List.getElem?_eq_getElem hj)
  rw [q, h2] at h1; lia
/-- brackets, checked and walked -/
theorem chk_plain : ∀ (l : List Nat) (free : List Nat) (wait steps rooms : Nat), (∀ c ∈ l, c = 40 ∨ c = 41) →
    chk (l.map fun c => (⟨#[c]⟩ : Str)) (wait : Int) = (decide ((l.foldl plStep ⟨free, wait, steps, rooms⟩).free = free) && decide ((l.foldl plStep ⟨free, wait, steps, rooms⟩).wait = 0)) ∧
      free.length ≤ (l.foldl plStep ⟨free, wait, steps, rooms⟩).free.length
  | [], free, wait, steps, rooms, _ => by
    refine ⟨?_, Nat.le_refl _⟩
    show ((wait : Int) == 0) = _
    rw [show ((wait : Int) == 0) = decide (wait = 0) from nat_eq _ 0]
    show _ = (decide (free = free) && decide (wait = 0))
    rw [show decide (free = free) = true from decide_eq_true rfl, Bool.true_and]
  | c :: l, free, wait, steps, rooms, h => by
    have hl : ∀ c ∈ l, c = 40 ∨ c = 41 := fun c hc => h c (List.mem_cons_of_mem _ hc)
    rw [List.map_cons, List.foldl_cons, chk]
    rcases h c List.mem_cons_self with rfl | rfl
    · rw [if_pos (by decide)]
      exact chk_plain l free (wait + 1) steps rooms hl
    · rw [if_neg (by decide), if_pos (by decide)]
      show _ ∧ free.length ≤ (l.foldl plStep ⟨if wait = 0 then free ++ [rooms] else free, wait - 1, steps + (wait - 1), rooms + 1⟩).free.length
      rw [show plStep ⟨free, wait, steps, rooms⟩ 41 = ⟨if wait = 0 then free ++ [rooms] else free, wait - 1, steps + (wait - 1), rooms + 1⟩ from rfl]
      by_cases hw : wait = 0
      · subst hw
        rw [if_pos (by decide), if_pos rfl]
        obtain ⟨_, h2⟩ := chk_plain l (free ++ [rooms]) (0 - 1) (steps + (0 - 1)) (rooms + 1) hl
        rw [List.length_append, List.length_singleton] at h2
        refine ⟨?_, by lia  ⟩
        rw [decide_eq_false]
        · rfl
        · intro q; rw [q] at h2; lia
      · rw [if_neg (by lia  ), if_neg hw]
        have := chk_plain l free (wait - 1) (steps + (wait - 1)) (rooms + 1) hl
        rw [show ((wait - 1 : Nat) : Int) = (wait : Int) - 1 by lia  ] at this
        exact this
theorem chk_filter : ∀ (us : List Str) (n : Int), chk us n = chk (us.filter isP) n
  | [], n => rfl
  | u :: r, n => by
    cases h1 : u == Str.ofString "(" with
    | true =>
      have hp : isP u = true := by unfold isP; rw [h1]; rfl
      rw [List.filter_cons, if_pos hp]
      conv => lhs; rw [chk]
      conv => rhs; rw [chk]
      simp only [h1, if_true]
      exact chk_filter r _
    | false =>
      cases h2 : u == Str.ofString ")" with
      | true =>
        have hp : isP u = true := by unfold isP; rw [h1, h2]; rfl
        rw [List.filter_cons, if_pos hp]
        conv => lhs; rw [chk]
        conv => rhs; rw [chk]
        simp only [h1, h2, if_true, Bool.false_eq_true, if_false]
        split
        · rfl
        · exact chk_filter r _
      | false =>
        have hp : ¬ isP u = true := by unfold isP; rw [h1, h2]; decide
        rw [List.filter_cons, if_neg hp]
        conv => lhs; rw [chk]
        simp only [h1, h2, Bool.false_eq_true, if_false]
        exact chk_filter r n
noncomputable abbrev tx (l : List (Int × Str)) : List Str := l.map (·.2)
/-- a closed piece, its units us -/
noncomputable def Cl (x : List Nat) (us : List Str) : Prop := ∀ (r : List Nat) (i : Nat), tx (escU (x ++ r) i false) = us ++ tx (escU r (i + x.length) false)
theorem Cl.nil : Cl [] [] := fun r i => by simp
theorem Cl.append {x p : List Nat} {us vs : List Str} (h : Cl x us) (k : Cl p vs) : Cl (x ++ p) (us ++ vs) := fun r i => by
  rw [List.append_assoc, h, k, List.append_assoc, List.length_append, Nat.add_assoc]
/-- a piece that strips to itself -/
noncomputable def Neut (p : List Nat) : Prop := ∀ (r : List Nat) (i : Nat) (y : List Nat) (st : SqSt), (escU (p ++ r) i false).foldl (sqStep y) st = (escU r (i + p.length) false).foldl (sqStep y) st
noncomputable def Quo (p : List Nat) : Prop := ∀ (r : List Nat) (i : Nat) (y : List Nat) (st : SqSt), st.opn = none → (escU (p ++ r) i false).foldl (sqStep y) st = (escU r (i + p.length) false).foldl (sqStep y) ⟨i + p.length, none, if st.start ≠ i then st.out ++ [(y.drop st.start).take (i - st.start)] else st.out⟩
noncomputable def StripI (x K : List Nat) : Prop := ∀ r : List Nat, ∃ st : SqSt, (escU (x ++ r) 0 false).foldl (sqStep (x ++ r)) ⟨0, none, []⟩ = (escU r x.length false).foldl (sqStep (x ++ r)) st ∧ st.opn = none ∧ st.start ≤ x.length ∧ st.out.flatten ++ x.drop st.start = K
theorem StripI.nil : StripI [] [] := fun r => ⟨⟨0, none, []⟩, rfl, rfl, Nat.le_refl _, rfl⟩
theorem StripI.neut {x K p : List Nat} (h : StripI x K) (k : Neut p) : StripI (x ++ p) (K ++ p) := fun r => by
  obtain ⟨st, h1, h2, h3, h4⟩ := h (p ++ r)
  refine ⟨st, ?_, h2, by rw [List.length_append]; lia  , ?_⟩
  · rw [List.append_assoc, h1, k, List.length_append]
  · rw [List.drop_append_of_le_length h3, ← List.append_assoc, h4]
theorem StripI.quo {x K p : List Nat} (h : StripI x K) (k : Quo p) : StripI (x ++ p) K := fun r => by
  obtain ⟨st, h1, h2, h3, h4⟩ := h (p ++ r)
  refine ⟨⟨x.length + p.length, none, if st.start ≠ x.length then st.out ++ [((x ++ (p ++ r)).drop st.start).take (x.length - st.start)] else st.out⟩, ?_, rfl, ?_, ?_⟩
  · rw [List.append_assoc, h1, k _ _ _ _ h2, List.length_append]
  · rw [List.length_append]; exact Nat.le_refl _
  · show (if _ then _ else _ : List (List Nat)).flatten ++ (x ++ p).drop (x.length + p.length) = K
    rw [show (x ++ p).drop (x.length + p.length) = [] from List.drop_eq_nil_of_le (by rw [List.length_append]; exact Nat.le_refl _), List.append_nil]
    by_cases q : st.start = x.length
    · rw [if_neg (by simpa using q)]
      rw [q, List.drop_length, List.append_nil] at h4; exact h4
    · rw [if_pos q, List.flatten_append, ← h4]
      congr 1
      simp only [List.flatten_cons, List.flatten_nil, List.append_nil]
      rw [List.drop_append_of_le_length h3, List.take_append_of_le_length (by rw [List.length_drop]; exact Nat.le_refl _), List.take_of_length_le (by rw [List.length_drop]; exact Nat.le_refl _)]
/-- the end: what keeps the fold -/
theorem StripI.fin {x K t : List Nat} (h : StripI x K) (k : ∀ (i : Nat) (y : List Nat) (st : SqSt), st.opn = none → ((escU t i false).foldl (sqStep y) st).start = st.start ∧ ((escU t i false).foldl (sqStep y) st).out = st.out) : stripQ (x ++ t) = K ++ t := by
  obtain ⟨st, h1, h2, h3, h4⟩ := h t
  unfold stripQ sqFold
  rw [h1]
  obtain ⟨k1, k2⟩ := k x.length (x ++ t) st h2
  unfold sqEnd
  rw [k1, k2, ← h4]
  split
  · rw [List.flatten_append]
    simp only [List.flatten_cons, List.flatten_nil, List.append_nil]
    rw [List.drop_append_of_le_length h3, List.append_assoc]
  · rename_i hn
    have hx : x.drop st.start = [] := List.drop_eq_nil_of_le (by rw [List.length_append] at hn; lia  )
    have ht : t = [] := List.length_eq_zero_iff.mp (by rw [List.length_append] at hn; lia  )
    rw [hx, ht]; simp
theorem esc1 {c : Nat} (h : c ≠ 92) (r : List Nat) (i : Nat) : escU ([c] ++ r) i false = ((i : Int), ⟨#[c]⟩) :: escU r (i + 1) false := by
  show escU (c :: r) i false = _
  rw [escU, if_neg h]
theorem esc2 (c : Nat) (r : List Nat) (i : Nat) : escU ([92, c] ++ r) i false = (((i + 1 : Nat) : Int), ⟨#[92, c]⟩) :: escU r (i + 2) false := by
  show escU (92 :: c :: r) i false = _
  rw [escU, if_pos rfl, escU]
theorem cl1 {c : Nat} (h : c ≠ 92) : Cl [c] [⟨#[c]⟩] := fun r i => by rw [esc1 h]; rfl
theorem cl2 (c : Nat) : Cl [92, c] [⟨#[92, c]⟩] := fun r i => by rw [esc2]; rfl
theorem neut1 {c : Nat} (h : c ≠ 92) (h2 : c ≠ 34) : Neut [c] := fun r i y st => by
  rw [esc1 h, List.foldl_cons]
  have : sqStep y st ((i : Int), ⟨#[c]⟩) = st := by
    unfold sqStep
    rw [if_neg]
    intro q
    exact h2 (by simpa using congrArg Str.cps q)
  rw [this]; rfl
theorem neut2 (c : Nat) : Neut [92, c] := fun r i y st => by
  rw [esc2, List.foldl_cons]
  have : sqStep y st (((i + 1 : Nat) : Int), ⟨#[92, c]⟩) = st := by
    unfold sqStep
    rw [if_neg]
    intro q
    have := congrArg (fun s : Str => s.cps.size) q
    simp at this
  rw [this]; rfl
theorem sq_open {y : List Nat} {st : SqSt} {i : Nat} (h : st.opn = none) : sqStep y st ((i : Int), ⟨#[34]⟩) = ⟨st.start, some i, st.out⟩ := by
  unfold sqStep
  rw [if_pos rfl, h]; rfl
theorem sq_close {y : List Nat} {a i o : Nat} {out : List (List Nat)} : sqStep y ⟨a, some o, out⟩ ((i : Int), ⟨#[34]⟩) = ⟨i + 1, none, if a ≠ o then out ++ [(y.drop a).take (o - a)] else out⟩ := by
  unfold sqStep
  rw [if_pos rfl]; rfl
theorem quo_of {m : List Nat} (hm : Neut m) (hl : ∀ r i, escU (m ++ r) i false = escU (m ++ r) i false) : Quo (34 :: (m ++ [34])) := fun r i y st h => by
  have e0 : 34 :: (m ++ [34]) ++ r = [34] ++ (m ++ ([34] ++ r)) := by simp
  rw [e0, esc1 (by decide), List.foldl_cons, sq_open h, hm, esc1 (by decide), List.foldl_cons]
  rw [show ((i + 1 + m.length : Nat) : Int) = ((i + 1 + m.length : Nat) : Int) from rfl, sq_close]
  have e1 : i + 1 + m.length + 1 = i + (34 :: (m ++ [34])).length := by simp; lia
  rw [e1]
theorem Neut.append {p q : List Nat} (h : Neut p) (k : Neut q) : Neut (p ++ q) := fun r i y st => by
  rw [List.append_assoc, h, k, List.length_append, Nat.add_assoc]
/-- the text's pieces, stripped and read -/
structure TxS (text seen : List Nat) : Prop where
  ex : ∃ K us, StripI text K ∧ Cl K us ∧ us.filter isP = (seen.map fun c => (⟨#[c]⟩ : Str)) ∧ ∀ u ∈ us, PyData.strOk u = true
theorem TxS.nil : TxS [] [] := ⟨[], [], StripI.nil, Cl.nil, rfl, fun u h => by simp at h⟩
theorem TxS.neut {t s p : List Nat} {us : List Str} (h : TxS t s) (hn : Neut p) (hc : Cl p us) (s' : List Nat) (hp : us.filter isP = s'.map fun c => (⟨#[c]⟩ : Str)) (ho : ∀ u ∈ us, PyData.strOk u = true) : TxS (t ++ p) (s ++ s') := by
  obtain ⟨K, vs, h1, h2, h3, h4⟩ := h.ex
  refine ⟨K ++ p, vs ++ us, h1.neut hn, h2.append hc, ?_, fun u hu => ?_⟩
  · rw [List.filter_append, h3, hp, List.map_append]
  · rcases List.mem_append.mp hu with q | q
    · exact h4 u q
    · exact ho u q
theorem TxS.quo {t s p : List Nat} (h : TxS t s) (hq : Quo p) : TxS (t ++ p) s := by
  obtain ⟨K, vs, h1, h2, h3, h4⟩ := h.ex
  exact ⟨K, vs, h1.quo hq, h2, h3, h4⟩
theorem quoB (c : Nat) (h : c ≠ 92) (h2 : c ≠ 34) : Quo [34, c, 34] := quo_of (m := [c]) (neut1 h h2) fun _ _ => rfl
theorem quoE : Quo [34, 92, 34, 41, 34] := quo_of (m := [92, 34, 41]) ((neut2 34).append (q := [41]) (neut1 (by decide) (by decide))) fun _ _ => rfl
theorem TxS.esc {t s : List Nat} (h : TxS t s) (c : Nat) (hc : c < 1000) : TxS (t ++ [92, c]) s := by
  have := h.neut (neut2 c) (cl2 c) [] (by
    rw [List.filter_cons, if_neg]
    · rfl
    · unfold isP
      have h1 : ((⟨#[92, c]⟩ : Str) == Str.ofString "(") = false := by
        show ((⟨#[92, c]⟩ : Str) == (⟨#[40]⟩ : Str)) = false
        rw [beq_eq_false_iff_ne]; intro q
        have := congrArg (fun s : Str => s.cps.size) q; simp at this
      have h2 : ((⟨#[92, c]⟩ : Str) == Str.ofString ")") = false := by
        show ((⟨#[92, c]⟩ : Str) == (⟨#[41]⟩ : Str)) = false
        rw [beq_eq_false_iff_ne]; intro q
        have := congrArg (fun s : Str => s.cps.size) q; simp at this
      rw [h1, h2]; decide) (fun u hu => by
        obtain rfl := List.mem_singleton.mp hu
        show (#[92, c].all fun x => decide (x < 0x110000)) = true
        simp; lia  )
  rw [List.append_nil] at this; exact this
theorem TxS.let_ {t s : List Nat} (h : TxS t s) : TxS (t ++ [97]) s := by
  have := h.neut (p := [97]) (neut1 (by decide) (by decide)) (cl1 (by decide)) [] (by decide +kernel) (fun u hu => by
    obtain rfl := List.mem_singleton.mp hu; decide +kernel)
  rw [List.append_nil] at this; exact this
theorem TxS.opn {t s : List Nat} (h : TxS t s) : TxS (t ++ [40]) (s ++ [40]) :=
  h.neut (p := [40]) (neut1 (by decide) (by decide)) (cl1 (by decide)) [40] (by decide +kernel) (fun u hu => by
    obtain rfl := List.mem_singleton.mp hu; decide +kernel)
theorem TxS.cls {t s : List Nat} (h : TxS t s) : TxS (t ++ [41]) (s ++ [41]) :=
  h.neut (p := [41]) (neut1 (by decide) (by decide)) (cl1 (by decide)) [41] (by decide +kernel) (fun u hu => by
    obtain rfl := List.mem_singleton.mp hu; decide +kernel)
theorem TxS.many {t s : List Nat} (h : TxS t s) : ∀ k : Nat, TxS (t ++ List.replicate k 41) (s ++ List.replicate k 41)
  | 0 => by simpa using h
  | k + 1 => by
    have := (TxS.many h k).cls
    rw [List.append_assoc, List.append_assoc] at this
    rw [List.replicate_succ']; exact this
theorem TxS.read {t s : List Nat} (h : TxS t s) : ((unitsOf t).map (·.2)).filter isP = (s.map fun c => (⟨#[c]⟩ : Str)) ∧ ∀ u ∈ unitsOf t, PyData.strOk u.2 = true := by
  obtain ⟨K, us, h1, h2, h3, h4⟩ := h.ex
  have hs : stripQ t = K := by
    have := h1.fin (t := []) (fun i y st _ => ⟨rfl, rfl⟩)
    simpa using this
  have hu : (unitsOf t).map (·.2) = us := by
    unfold unitsOf
    rw [hs]
    have := h2 [] 0
    rw [List.append_nil] at this
    rw [show (escU K 0 false).map (·.2) = tx (escU K 0 false) from rfl, this]
    simp [escU]
  refine ⟨by rw [hu]; exact h3, fun u hu' => h4 _ ?_⟩
  rw [← hu]; exact List.mem_map.mpr ⟨u, hu', rfl⟩
/-- a ≤ b -/
noncomputable def tle (a b : T) : Prop := ¬ tlt b a
theorem tle_refl (a : T) : tle a a := tlt_irrefl a
theorem tle_trans {a b c : T} (h1 : tle a b) (h2 : tle b c) : tle a c := by unfold tle tlt at *; omega
theorem tle_of_lt {a b : T} (h : tlt a b) : tle a b := by unfold tle tlt at *; lia
noncomputable abbrev ga (l : List T) (i : Nat) : T := l.getD i (0, 0)
theorem ga_set {l : List T} {i j : Nat} {x : T} (hi : i < l.length) : ga (l.set i x) j = if i = j then x else ga l j := by
  unfold ga
  rw [List.getD_eq_getElem?_getD, List.getD_eq_getElem?_getD, List.getElem?_set]
  by_cases h : i = j
  · subst h; simp [hi]
  · simp [h]
theorem ga_eq {l : List T} {i : Nat} (h : i < l.length) : ga l i = l[i] := by
  unfold ga; rw [List.getD_eq_getElem?_getD, List.getElem?_eq_getElem h]; rfl
noncomputable def IsHeap (l : List T) : Prop := ∀ i, 0 < i → i < l.length → tle (ga l ((i - 1) / 2)) (ga l i)
/-- a heap but for the hole at p -/
structure Hole (l : List T) (p : Nat) : Prop where
  lt : p < l.length
  h1 : ∀ i, 0 < i → i < l.length → i ≠ p → (i - 1) / 2 ≠ p → tle (ga l ((i - 1) / 2)) (ga l i)
  h3 : 0 < p → ∀ c, 0 < c → c < l.length → (c - 1) / 2 = p → tle (ga l ((p - 1) / 2)) (ga l c)
theorem up_heap {x : T} : ∀ (n p : Nat), p ≤ n → ∀ l : List T, Hole l p → (∀ c, 0 < c → c < l.length → (c - 1) / 2 = p → tle x (ga l c)) → IsHeap (up l x p) ∧ (up l x p).Perm (l.set p x) := fun n => by
  induction n with
  | zero =>
    intro p hp l H h2
    have : p = 0 := by lia
    subst this
    rw [up_eq, dif_pos rfl]
    refine ⟨fun i hi hl => ?_, List.Perm.refl _⟩
    rw [List.length_set] at hl
    rw [ga_set H.lt, ga_set H.lt, if_neg (show ¬ 0 = i by lia  )]
    by_cases h : 0 = (i - 1) / 2
    · rw [if_pos h]; exact h2 i hi hl h.symm
    · rw [if_neg h]; exact H.h1 i hi hl (by lia  ) (fun q => h q.symm)
  | succ n ih =>
    intro p hp l H h2
    by_cases hp0 : p = 0
    · exact ih p (by lia  ) l H h2
    have hlt := H.lt
    have hq : (p - 1) / 2 < l.length := by omega
    rw [up_eq, dif_neg hp0]
    by_cases hx : tlt x (ga l ((p - 1) / 2))
    · rw [if_pos hx]
      have hset : ∀ j, ga (l.set p (ga l ((p - 1) / 2))) j = if p = j then ga l ((p - 1) / 2) else ga l j := fun j => ga_set hlt
      have H' : Hole (l.set p (ga l ((p - 1) / 2))) ((p - 1) / 2) := by
        refine ⟨by rw [List.length_set]; exact hq, fun i hi hl hne hne' => ?_, fun hq0 c hc hl hpc => ?_⟩
        · rw [List.length_set] at hl
          rw [hset, hset]
          by_cases hip : p = i
          · subst hip; exact absurd rfl hne'
          · rw [if_neg hip]
            by_cases hpp : p = (i - 1) / 2
            · rw [if_pos hpp]; exact H.h3 (by lia  ) i hi hl hpp.symm
            · rw [if_neg hpp]; exact H.h1 i hi hl (fun q => hip q.symm) (fun q => hpp q.symm)
        · rw [List.length_set] at hl
          rw [hset, hset, if_neg (by lia  )]
          have top : tle (ga l (((p - 1) / 2 - 1) / 2)) (ga l ((p - 1) / 2)) := H.h1 _ hq0 hq (by lia  ) (by lia  )
          by_cases hcp : p = c
          · rw [if_pos hcp]; exact top
          · rw [if_neg hcp]
            have := H.h1 c hc hl (fun q => hcp q.symm) (by lia  )
            rw [hpc] at this
            exact tle_trans top this
      obtain ⟨r1, r2⟩ := ih ((p - 1) / 2) (by lia  ) _ H' (fun c hc hl hpc => by
        rw [List.length_set] at hl
        rw [hset]
        by_cases hcp : p = c
        · rw [if_pos hcp]; exact tle_of_lt hx
        · rw [if_neg hcp]
          have := H.h1 c hc hl (fun q => hcp q.symm) (by lia  )
          rw [hpc] at this
          exact tle_trans (tle_of_lt hx) this)
      refine ⟨r1, r2.trans ?_⟩
      have hl' : p < (l.set p x).length := by rw [List.length_set]; exact hlt
      have hq' : (p - 1) / 2 < (l.set p x).length := by rw [List.length_set]; exact hq
      have := List.set_set_perm (as := l.set p x) hl' hq'
      rw [List.set_set] at this
      have e1 : (l.set p x)[(p - 1) / 2] = ga l ((p - 1) / 2) := by
        rw [List.getElem_set_ne (by lia  ), ga_eq hq]
      have e2 : (l.set p x)[p] = x := by simp
      rw [e1, e2] at this
      exact this
    · rw [if_neg hx]
      refine ⟨fun i hi hl => ?_, List.Perm.refl _⟩
      rw [List.length_set] at hl
      rw [ga_set hlt, ga_set hlt]
      by_cases hip : p = i
      · subst hip
        rw [if_neg (by lia  ), if_pos rfl]; exact hx
      · rw [if_neg hip]
        by_cases hpp : p = (i - 1) / 2
        · rw [if_pos hpp]; exact h2 i hi hl hpp.symm
        · rw [if_neg hpp]; exact H.h1 i hi hl (fun q => hip q.symm) (fun q => hpp q.symm)
theorem dn_hole (x : T) : ∀ (n p : Nat) (l : List T), l.length - p ≤ n → Hole l p → Hole (dn l p).1 (dn l p).2 ∧ (dn l p).1.length = l.length ∧ l.length ≤ 2 * (dn l p).2 + 1 ∧ ((dn l p).1.set (dn l p).2 x).Perm (l.set p x) := fun n => by
  induction n with
  | zero => intro p l hn H; have := H.lt; omega
  | succ n ih =>
    intro p l hn H
    have hlt := H.lt
    by_cases hc : 2 * p + 1 < l.length
    · have step : ∀ cc, cc < l.length → (cc - 1) / 2 = p → p < cc → (∀ c, 0 < c → c < l.length → (c - 1) / 2 = p → tle (ga l cc) (ga l c)) → dn l p = dn (l.set p (ga l cc)) cc →
          Hole (dn l p).1 (dn l p).2 ∧ (dn l p).1.length = l.length ∧ l.length ≤ 2 * (dn l p).2 + 1 ∧ ((dn l p).1.set (dn l p).2 x).Perm (l.set p x) := by
        intro cc hcc hpc hpcc hmin hdn
        have hset : ∀ j, ga (l.set p (ga l cc)) j = if p = j then ga l cc else ga l j := fun j => ga_set hlt
        have H' : Hole (l.set p (ga l cc)) cc := by
          refine ⟨by rw [List.length_set]; exact hcc, fun i hi hl hne hne' => ?_, fun _ c hc0 hl hpc' => ?_⟩
          · rw [List.length_set] at hl
            rw [hset, hset]
            by_cases hpp : p = (i - 1) / 2
            · rw [if_pos hpp, if_neg (by lia  )]; exact hmin i hi hl hpp.symm
            · rw [if_neg hpp]
              by_cases hip : p = i
              · rw [if_pos hip, ← hip]; exact H.h3 (by lia  ) cc (by lia  ) hcc hpc
              · rw [if_neg hip]; exact H.h1 i hi hl (fun q => hip q.symm) (fun q => hpp q.symm)
          · rw [List.length_set] at hl
            rw [hset, hset, hpc, if_pos rfl, if_neg (by omega)]
            have := H.h1 c hc0 hl (by lia  ) (by lia  )
            rw [hpc'] at this; exact this
        obtain ⟨r1, r2, r3, r4⟩ := ih cc (l.set p (ga l cc)) (by rw [List.length_set]; lia  ) H'
        rw [List.length_set] at r2 r3
        rw [hdn]
        refine ⟨r1, r2, r3, r4.trans ?_⟩
        have hl' : p < (l.set p x).length := by rw [List.length_set]; exact hlt
        have hq' : cc < (l.set p x).length := by rw [List.length_set]; exact hcc
        have := List.set_set_perm (as := l.set p x) hl' hq'
        rw [List.set_set] at this
        have e1 : (l.set p x)[cc] = ga l cc := by rw [List.getElem_set_ne (by lia  ), ga_eq hcc]
        have e2 : (l.set p x)[p] = x := by simp
        rw [e1, e2] at this
        exact this
      by_cases h2 : 2 * p + 2 < l.length ∧ ¬ tlt (ga l (2 * p + 1)) (ga l (2 * p + 2))
      · refine step (2 * p + 2) h2.1 (by lia  ) (by lia  ) (fun c hc0 hcl hpc => ?_) (by conv => lhs; rw [dn_eq]
                                                                                         rw [dif_pos hc, if_pos h2])
        have : c = 2 * p + 1 ∨ c = 2 * p + 2 := by lia
        rcases this with rfl | rfl
        · exact h2.2
        · exact tle_refl _
      · refine step (2 * p + 1) hc (by lia  ) (by lia  ) (fun c hc0 hcl hpc => ?_) (by conv => lhs; rw [dn_eq]
                                                                                       rw [dif_pos hc, if_neg h2])
        have : c = 2 * p + 1 ∨ c = 2 * p + 2 := by lia
        rcases this with rfl | rfl
        · exact tle_refl _
        · by_cases q : tlt (ga l (2 * p + 1)) (ga l (2 * p + 2))
          · exact tle_of_lt q
          · exact absurd ⟨hcl, q⟩ h2
    · rw [dn_eq, dif_neg hc]
      exact ⟨H, rfl, by lia  , List.Perm.refl _⟩
theorem sup_heap {l : List T} (h : Hole l 0) : IsHeap (sup l) ∧ (sup l).Perm l := by
  obtain ⟨r1, r2, r3, r4⟩ := dn_hole (ga l 0) _ 0 l (Nat.le_refl _) h
  unfold sup
  have H : Hole ((dn l 0).1.set (dn l 0).2 (ga l 0)) (dn l 0).2 := by
    refine ⟨by rw [List.length_set]; exact r1.lt, fun i hi hl hne hne' => ?_, fun hp c hc hl hpc => ?_⟩
    · rw [List.length_set] at hl
      rw [ga_set r1.lt, ga_set r1.lt, if_neg (fun q => hne' q.symm), if_neg (fun q => hne q.symm)]
      exact r1.h1 i hi hl hne hne'
    · rw [List.length_set, r2] at hl; lia
  obtain ⟨u1, u2⟩ := up_heap (x := ga l 0) _ _ (Nat.le_refl _) _ H (fun c hc hl hpc => by rw [List.length_set, r2] at hl; lia  )
  refine ⟨u1, u2.trans ?_⟩
  rw [List.set_set]
  refine r4.trans ?_
  have : l.set 0 (ga l 0) = l := by
    cases l with
    | nil => rfl
    | cons x r => rfl
  rw [this]
theorem heap_min {l : List T} (h : IsHeap l) : ∀ (n i : Nat), i ≤ n → i < l.length → tle (ga l 0) (ga l i) := fun n => by
  induction n with
  | zero => intro i hi hl; have : i = 0 := by lia
            subst this; exact tle_refl _
  | succ n ih =>
    intro i hi hl
    by_cases h0 : i = 0
    · subst h0; exact tle_refl _
    · exact tle_trans (ih ((i - 1) / 2) (by lia  ) (by omega)) (h i (by lia  ) hl)
theorem push_heap {l : List T} {x : T} (h : IsHeap l) : IsHeap (up (l ++ [x]) x l.length) ∧ (up (l ++ [x]) x l.length).Perm (l ++ [x]) := by
  have hg : ∀ i, i < l.length → ga (l ++ [x]) i = ga l i := fun i hi => by
    unfold ga; rw [List.getD_eq_getElem?_getD, List.getD_eq_getElem?_getD, List.getElem?_append_left hi]
  have H : Hole (l ++ [x]) l.length := by
    refine ⟨by simp, fun i hi hl hne hne' => ?_, fun hp c hc hl hpc => ?_⟩
    · rw [List.length_append, List.length_singleton] at hl
      rw [hg _ (by lia  ), hg _ (by lia  )]
      exact h i hi (by lia  )
    · rw [List.length_append, List.length_singleton] at hl; lia
  obtain ⟨r1, r2⟩ := up_heap (x := x) _ _ (Nat.le_refl _) _ H (fun c hc hl hpc => by rw [List.length_append, List.length_singleton] at hl; lia  )
  refine ⟨r1, r2.trans ?_⟩
  have : (l ++ [x]).set l.length x = l ++ [x] := by simp
  rw [this]
theorem pop_heap {l : List T} (h : IsHeap l) (hne : l ≠ []) : IsHeap (popped l) ∧ (ga l 0 :: popped l).Perm l ∧ ∀ y ∈ l, tle (ga l 0) y := by
  have hmin : ∀ y ∈ l, tle (ga l 0) y := fun y hy => by
    obtain ⟨i, hi, rfl⟩ := List.mem_iff_getElem.mp hy
    rw [← ga_eq hi]; exact heap_min h i i (Nat.le_refl _) hi
  rcases List.eq_nil_or_concat l with rfl | ⟨us, x, rfl⟩
  · exact absurd rfl hne
  rw [List.concat_eq_append] at *
  unfold popped
  cases us with
  | nil =>
    rw [if_pos (by simp)]
    exact ⟨fun i hi hl => by simp at hl, by simp [ga], hmin⟩
  | cons y us =>
    rw [if_neg (by simp)]
    have e1 : (y :: us ++ [x]).dropLast = y :: us := List.dropLast_concat
    have e2 : (y :: us ++ [x]).getLastD (0, 0) = x := by rw [List.getLastD_eq_getLast?, show y :: us ++ [x] = (y :: us) ++ [x] from rfl, List.getLast?_append]; rfl
    rw [e1, e2]
    have hg : ∀ i, i < (y :: us).length → ga (y :: us ++ [x]) i = ga (y :: us) i := fun i hi => by
      unfold ga; rw [List.getD_eq_getElem?_getD, List.getD_eq_getElem?_getD, List.getElem?_append_left hi]
    have H : Hole ((y :: us).set 0 x) 0 := by
      refine ⟨by simp, fun i hi hl hne hne' => ?_, fun hp => absurd hp (Nat.lt_irrefl 0)⟩
      rw [List.length_set] at hl
      rw [ga_set (by simp), ga_set (by simp), if_neg (fun q => hne' q.symm), if_neg (fun q => hne q.symm), ← hg _ hl, ← hg _ (by omega)]
      exact h i hi (by simp at hl ⊢; lia  )
    obtain ⟨r1, r2⟩ := sup_heap H
    refine ⟨r1, ?_, hmin⟩
    have : ga (y :: us ++ [x]) 0 = y := rfl
    rw [this]
    have e3 : (y :: us).set 0 x = x :: us := rfl
    rw [e3] at r2 ⊢
    refine (r2.cons y).trans ?_
    exact ((List.perm_append_comm (l₁ := [x]) (l₂ := us)).cons y)
theorem srt_congr {l l' : List T} (hn : l.Nodup) (h : l.Perm l') : srt l = srt l' :=
  (srt_unique hn (srt_sorted (h.nodup_iff.mp hn)) ((srt_perm l').trans h.symm)).symm
structure Sw where
  rooms : List (Option T)
  over : List T
  steps : Nat
noncomputable def atP (P : List (Nat × T)) (p : Nat) : List T := (P.filter fun q => decide (q.1 = p)).map (·.2)
noncomputable def late (P : List (Nat × T)) (p : Nat) : List T := (P.filter fun q => decide (p ≤ q.1)).map (·.2)
/-- the sweep along n rooms from room p on; W wait -/
noncomputable def sw (P : List (Nat × T)) : Nat → Nat → List T → Sw
  | 0, p, W => ⟨[], srt (W ++ late P p), 0⟩
  | n + 1, p, W => match srt (W ++ atP P p) with
    | [] => ⟨none :: (sw P n (p + 1) []).rooms, (sw P n (p + 1) []).over, (sw P n (p + 1) []).steps⟩
    | x :: t => ⟨some x :: (sw P n (p + 1) t).rooms, (sw P n (p + 1) t).over, t.length + (sw P n (p + 1) t).steps⟩
noncomputable def carry : List (Option T) → T → List (Option T) × Option T × Nat
  | [], g => ([], some g, 0)
  | none :: r, g => (some g :: r, none, 0)
  | some x :: r, g => if tlt g x then (some g :: (carry r x).1, (carry r x).2.1, (carry r x).2.2 + 1) else (some x :: (carry r g).1, (carry r g).2.1, (carry r g).2.2 + 1)
noncomputable def putOver : Option T → List T → List T
  | none, l => l
  | some h, l => ins h l
theorem late_split (P : List (Nat × T)) (p : Nat) : (late P p).Perm (atP P p ++ late P (p + 1)) := by
  induction P with
  | nil => exact List.Perm.refl _
  | cons q P ih =>
    unfold late atP at *
    simp only [List.filter_cons]
    by_cases h1 : q.1 = p
    · rw [if_pos (by simp; omega), if_pos (by simpa using h1), if_neg (by simp; omega)]
      simpa using ih.cons q.2
    · by_cases h2 : p ≤ q.1
      · rw [if_pos (by simpa using h2), if_neg (by simpa using h1), if_pos (by simp; omega)]
        simp only [List.map_cons]
        exact (ih.cons q.2).trans List.perm_middle.symm
      · rw [if_neg (by simpa using h2), if_neg (by simpa using h1), if_neg (by simp; omega)]
        exact ih
theorem nd_at {P : List (Nat × T)} {p : Nat} {W : List T} (h : (W ++ late P p).Nodup) : (W ++ atP P p).Nodup := by
  have := ((late_split P p).append_left W).nodup_iff.mp h
  rw [← List.append_assoc] at this
  exact (List.nodup_append.mp this).1
theorem nd_next {P : List (Nat × T)} {p : Nat} {W V : List T} (h : (W ++ late P p).Nodup) (hv : V.Perm (W ++ atP P p)) : (V ++ late P (p + 1)).Nodup := by
  have := ((late_split P p).append_left W).nodup_iff.mp h
  rw [← List.append_assoc] at this
  exact (hv.append_right _).nodup_iff.mpr this
theorem sw_perm {P : List (Nat × T)} {n p : Nat} {W V : List T} (h : (W ++ late P p).Nodup) (hv : W.Perm V) : sw P n p W = sw P n p V := by
  cases n with
  | zero => rw [sw, sw, srt_congr h (hv.append_right _)]
  | succ n => rw [sw, sw, srt_congr (nd_at h) (hv.append_right _)]
theorem sw_cons : ∀ (n p : Nat) (P : List (Nat × T)) (W : List T) (g : T), ((g :: W) ++ late P p).Nodup →
    sw P n p (g :: W) = ⟨(carry (sw P n p W).rooms g).1, putOver (carry (sw P n p W).rooms g).2.1 (sw P n p W).over, (sw P n p W).steps + (carry (sw P n p W).rooms g).2.2⟩
  | 0, p, P, W, g, h => rfl
  | n + 1, p, P, W, g, h => by
    have h0 : (W ++ late P p).Nodup := (List.nodup_cons.mp h).2
    have hS : (srt (W ++ atP P p)).Perm (W ++ atP P p) := srt_perm _
    have hgS : ((g :: srt (W ++ atP P p)) ++ late P (p + 1)).Nodup := nd_next h (hS.cons g)
    rw [sw, sw]
    show (match ins g (srt (W ++ atP P p)) with | [] => _ | x :: t => _) = _
    cases hs : srt (W ++ atP P p) with
    | nil => simp only [ins, carry, putOver, List.length_nil]; simp
    | cons x t =>
      rw [hs] at hgS
      have hx : ((x :: t) ++ late P (p + 1)).Nodup := (List.nodup_cons.mp hgS).2
      have hg : ((g :: t) ++ late P (p + 1)).Nodup := by
        have : ((x :: g :: t) ++ late P (p + 1)).Nodup := ((List.Perm.swap x g t).append_right _).nodup_iff.mp hgS
        exact (List.nodup_cons.mp this).2
      unfold ins
      by_cases hlt : tlt g x
      · rw [if_pos hlt]
        simp only [carry, if_pos hlt]
        rw [sw_cons n (p + 1) P t x hx]
        simp only [List.length_cons, Sw.mk.injEq, true_and]
        omega
      · rw [if_neg hlt]
        simp only [carry, if_neg hlt]
        have e : sw P n (p + 1) (ins g t) = sw P n (p + 1) (g :: t) := sw_perm (((ins_perm g t).append_right _).nodup_iff.mpr hg) (ins_perm g t)
        rw [e, sw_cons n (p + 1) P t g hg, (ins_perm g t).length_eq]
        simp only [List.length_cons, Sw.mk.injEq, true_and]
        omega
theorem at_other {P : List (Nat × T)} {w p : Nat} {g : T} (h : w ≠ p) : atP ((w, g) :: P) p = atP P p := by
  unfold atP; rw [List.filter_cons, if_neg (by simpa using h)]
theorem at_same {P : List (Nat × T)} {p : Nat} {g : T} : atP ((p, g) :: P) p = g :: atP P p := by
  unfold atP; rw [List.filter_cons, if_pos (by simp)]; rfl
theorem late_in {P : List (Nat × T)} {w p : Nat} {g : T} (h : p ≤ w) : late ((w, g) :: P) p = g :: late P p := by
  unfold late; rw [List.filter_cons, if_pos (by simpa using h)]; rfl
theorem late_out {P : List (Nat × T)} {w p : Nat} {g : T} (h : w < p) : late ((w, g) :: P) p = late P p := by
  unfold late; rw [List.filter_cons, if_neg (by simp; omega)]
theorem sw_early {P : List (Nat × T)} {w : Nat} {g : T} : ∀ (n p : Nat) (W : List T), w < p → sw ((w, g) :: P) n p W = sw P n p W
  | 0, p, W, h => by rw [sw, sw, late_out h]
  | n + 1, p, W, h => by
    rw [sw, sw, at_other (by omega)]
    cases srt (W ++ atP P p) with
    | nil => simp only [sw_early n (p + 1) _ (Nat.lt_succ_of_lt h)]
    | cons x t => simp only [sw_early n (p + 1) _ (Nat.lt_succ_of_lt h)]
/-- one who comes at this very room -/
theorem sw_now {P : List (Nat × T)} {p n : Nat} {g : T} {W : List T} (h : ((g :: W) ++ late P p).Nodup) : sw ((p, g) :: P) n p W = sw P n p (g :: W) := by
  cases n with
  | zero =>
    rw [sw, sw, late_in (Nat.le_refl p)]
    rw [srt_congr (l' := (g :: W) ++ late P p) (List.perm_middle.nodup_iff.mpr h) List.perm_middle]
  | succ n =>
    rw [sw, sw, at_same]
    have hn := nd_at h
    rw [srt_congr (l' := (g :: W) ++ atP P p) (List.perm_middle.nodup_iff.mpr hn) List.perm_middle]
    cases srt ((g :: W) ++ atP P p) with
    | nil => simp only [sw_early n (p + 1) _ (Nat.lt_succ_self p)]
    | cons x t => simp only [sw_early n (p + 1) _ (Nat.lt_succ_self p)]
theorem sw_rooms_length (P : List (Nat × T)) : ∀ (n p : Nat) (W : List T), (sw P n p W).rooms.length = n
  | 0, p, W => rfl
  | n + 1, p, W => by
    rw [sw]
    cases srt (W ++ atP P p) with
    | nil => simp [sw_rooms_length P n (p + 1)]
    | cons x t => simp [sw_rooms_length P n (p + 1)]
/-- one more who comes at room p + d -/
theorem sw_add {P : List (Nat × T)} {g : T} : ∀ (d n p : Nat) (W : List T), d ≤ n → ((g :: W) ++ late P p).Nodup →
    sw ((p + d, g) :: P) n p W = ⟨(sw P n p W).rooms.take d ++ (carry ((sw P n p W).rooms.drop d) g).1, putOver (carry ((sw P n p W).rooms.drop d) g).2.1 (sw P n p W).over, (sw P n p W).steps + (carry ((sw P n p W).rooms.drop d) g).2.2⟩
  | 0, n, p, W, hd, h => by
    rw [Nat.add_zero, sw_now h, sw_cons n p P W g h]; rfl
  | d + 1, 0, p, W, hd, h => by omega
  | d + 1, n + 1, p, W, hd, h => by
    have h0 : (W ++ late P p).Nodup := (List.nodup_cons.mp h).2
    have hgS : ((g :: srt (W ++ atP P p)) ++ late P (p + 1)).Nodup := nd_next h ((srt_perm _).cons g)
    rw [sw, sw, at_other (by omega)]
    have e : p + (d + 1) = p + 1 + d := by omega
    cases hs : srt (W ++ atP P p) with
    | nil =>
      rw [hs] at hgS
      simp only [e, sw_add d n (p + 1) [] (by omega) hgS, List.take_succ_cons, List.drop_succ_cons, List.cons_append]
    | cons x t =>
      rw [hs] at hgS
      have hg : ((g :: t) ++ late P (p + 1)).Nodup := by
        have : ((x :: g :: t) ++ late P (p + 1)).Nodup := ((List.Perm.swap x g t).append_right _).nodup_iff.mp hgS
        exact (List.nodup_cons.mp this).2
      simp only [e, sw_add d n (p + 1) t (by omega) hg, List.take_succ_cons, List.drop_succ_cons, List.cons_append]
      rw [Nat.add_assoc]
theorem late_perm {P P' : List (Nat × T)} (h : P.Perm P') (p : Nat) : (late P p).Perm (late P' p) := (h.filter _).map _
theorem at_perm {P P' : List (Nat × T)} (h : P.Perm P') (p : Nat) : (atP P p).Perm (atP P' p) := (h.filter _).map _
theorem sw_permP {P P' : List (Nat × T)} (hp : P.Perm P') : ∀ (n p : Nat) (W : List T), (W ++ late P p).Nodup → sw P n p W = sw P' n p W
  | 0, p, W, h => by rw [sw, sw, srt_congr h ((late_perm hp p).append_left W)]
  | n + 1, p, W, h => by
    rw [sw, sw, ← srt_congr (nd_at h) ((at_perm hp p).append_left W)]
    have hS := nd_next h (srt_perm (W ++ atP P p))
    cases hs : srt (W ++ atP P p) with
    | nil => rw [hs] at hS; simp only [sw_permP hp n (p + 1) [] hS]
    | cons x t => rw [hs] at hS; simp only [sw_permP hp n (p + 1) t (List.nodup_cons.mp hS).2]
theorem drop_getD {l : List (Option T)} {p : Nat} (h : p < l.length) : l.drop p = l.getD p none :: l.drop (p + 1) := by
  rw [List.drop_eq_getElem_cons h, List.getD_eq_getElem?_getD, List.getElem?_eq_getElem h]; rfl
theorem set_split {l : List (Option T)} {p : Nat} (x : Option T) (h : p < l.length) : l.set p x = l.take p ++ x :: l.drop (p + 1) := by
  rw [List.set_eq_take_append_cons_drop, if_pos h]
/-- goOn by carry -/
theorem goOn_carry (many : Nat) : ∀ (n p : Nat), many - p = n → p ≤ many → ∀ (rooms : List (Option T)) (g : T) (steps : Nat), rooms.length = many →
    (if (goOn many rooms g p steps).2.2.1 < many then (goOn many rooms g p steps).1.set (goOn many rooms g p steps).2.2.1 (some (goOn many rooms g p steps).2.1) else (goOn many rooms g p steps).1) = rooms.take p ++ (carry (rooms.drop p) g).1 ∧
    (carry (rooms.drop p) g).2.1 = (if (goOn many rooms g p steps).2.2.1 < many then none else some (goOn many rooms g p steps).2.1) ∧ (goOn many rooms g p steps).2.2.2 = steps + (carry (rooms.drop p) g).2.2 := fun n => by
  induction n with
  | zero =>
    intro p hn hp rooms g steps hl
    have : ¬ p < many := by omega
    rw [goOn_ge this]
    simp only [if_neg this]
    rw [List.drop_eq_nil_of_le (by omega), List.take_of_length_le (by omega)]
    simp [carry]
  | succ n ih =>
    intro p hn hp rooms g steps hl
    have hlt : p < many := by omega
    have hd := drop_getD (l := rooms) (p := p) (by omega)
    cases hr : rooms.getD p none with
    | none =>
      rw [hr] at hd
      rw [goOn_none hr, hd]
      simp only [if_pos hlt, carry]
      refine ⟨set_split _ (by omega), ?_, ?_⟩ <;> first | trivial | rfl
    | some r =>
      rw [hr] at hd
      rw [goOn_some hlt hr, hd]
      simp only [carry]
      by_cases h : tlt g r
      · simp only [if_pos h]
        have := ih (p + 1) (by omega) (by omega) (rooms.set p (some g)) r (steps + 1) (by rw [List.length_set]; exact hl)
        have e1 : (rooms.set p (some g)).drop (p + 1) = rooms.drop (p + 1) := by rw [List.drop_set_of_lt (Nat.lt_succ_self p)]
        have e2 : (rooms.set p (some g)).take (p + 1) = rooms.take p ++ [some g] := by
          rw [List.take_succ_eq_append_getElem (by rw [List.length_set]; omega), List.take_set_of_le (Nat.le_refl p)]
          simp
        rw [e1, e2] at this
        refine ⟨this.1.trans (by simp), this.2.1, this.2.2.trans (by omega)⟩
      · simp only [if_neg h]
        have := ih (p + 1) (by omega) (by omega) rooms g (steps + 1) hl
        have e2 : rooms.take (p + 1) = rooms.take p ++ [some r] := by
          have hg : rooms[p]? = some (some r) := by
            rw [List.getD_eq_getElem?_getD] at hr
            cases hq : rooms[p]? with
            | none => rw [hq] at hr; cases hr
            | some y => rw [hq] at hr; simp at hr; rw [hr]
          exact take_succ_of hg
        rw [e2] at this
        refine ⟨this.1.trans (by simp), this.2.1, this.2.2.trans (by omega)⟩
/-- the guests of some labels, by their wishes -/
noncomputable def prL (gs : List T) (ws : List Nat) (ls : List Nat) : List (Nat × T) := ls.map fun l => (ws.getD l 0, gs.getD l (0, 0))
theorem late0 (P : List (Nat × T)) : late P 0 = P.map (·.2) := by
  unfold late
  rw [List.filter_eq_self.mpr (fun a _ => by simp)]
theorem sw_nil : ∀ n p, sw [] n p [] = ⟨List.replicate n none, [], 0⟩
  | 0, p => rfl
  | n + 1, p => by
    rw [sw]
    have e : srt ([] ++ atP [] p) = [] := rfl
    rw [e]
    simp only [sw_nil n (p + 1), List.replicate_succ]
theorem over_nodup {P : List (Nat × T)} : ∀ (n p : Nat) (W : List T), (W ++ late P p).Nodup → (sw P n p W).over.Pairwise tlt
  | 0, p, W, h => srt_sorted h
  | n + 1, p, W, h => by
    rw [sw]
    have hS := nd_next h (srt_perm (W ++ atP P p))
    cases hs : srt (W ++ atP P p) with
    | nil => rw [hs] at hS; exact over_nodup n (p + 1) [] hS
    | cons x t => rw [hs] at hS; exact over_nodup n (p + 1) t (List.nodup_cons.mp hS).2
theorem ob_sw {gs : List T} {ws : List Nat} {many : Nat} (hw : ∀ l, ws.getD l 0 ≤ many) : ∀ (ls : List Nat), ((prL gs ws ls).map (·.2)).Nodup →
    (oneByOne gs ws many ls.reverse).rooms = (sw (prL gs ws ls) many 0 []).rooms ∧ srt (oneByOne gs ws many ls.reverse).over = (sw (prL gs ws ls) many 0 []).over ∧
      (oneByOne gs ws many ls.reverse).over.Nodup ∧ (oneByOne gs ws many ls.reverse).steps = (sw (prL gs ws ls) many 0 []).steps
  | [], _ => by
    show (List.replicate many none = _) ∧ _
    rw [show prL gs ws [] = [] from rfl, sw_nil]
    exact ⟨rfl, rfl, List.nodup_nil, rfl⟩
  | l :: ls, h => by
    have hc : prL gs ws (l :: ls) = (ws.getD l 0, gs.getD l (0, 0)) :: prL gs ws ls := rfl
    rw [hc, List.map_cons, ← late0] at h
    have hn : (late (prL gs ws ls) 0).Nodup := (List.nodup_cons.mp h).2
    obtain ⟨i1, i2, i3, i4⟩ := ob_sw hw ls (by rw [← late0]; exact hn)
    have step : oneByOne gs ws many (l :: ls).reverse = obStep gs ws many (oneByOne gs ws many ls.reverse) l := by
      unfold oneByOne; rw [List.reverse_cons, List.foldl_append]; rfl
    have hadd := sw_add (P := prL gs ws ls) (g := gs.getD l (0, 0)) (ws.getD l 0) many 0 [] (hw l) h
    rw [Nat.zero_add] at hadd
    rw [step, hc, hadd]
    have hlen : (oneByOne gs ws many ls.reverse).rooms.length = many := by rw [i1, sw_rooms_length]
    obtain ⟨c1, c2, c3⟩ := goOn_carry many _ (ws.getD l 0) rfl (hw l) (oneByOne gs ws many ls.reverse).rooms (gs.getD l (0, 0)) (oneByOne gs ws many ls.reverse).steps hlen
    rw [← i1, ← i2, ← i4]
    have onod : (sw ((ws.getD l 0, gs.getD l (0, 0)) :: prL gs ws ls) many 0 []).over.Pairwise tlt := over_nodup many 0 [] (by rw [List.nil_append, late_in (Nat.zero_le _)]; exact h)
    rw [hadd, ← i1, ← i2] at onod
    unfold obStep
    generalize goOn many (oneByOne gs ws many ls.reverse).rooms (gs.getD l (0, 0)) (ws.getD l 0) (oneByOne gs ws many ls.reverse).steps = q at *
    obtain ⟨R', g', p', s'⟩ := q
    simp only at c1 c2 c3 ⊢
    by_cases hp : p' < many
    · simp only [if_pos hp] at c1 c2 ⊢
      rw [c2]
      exact ⟨c1, rfl, i3, c3⟩
    · simp only [if_neg hp] at c1 c2 ⊢
      rw [c2] at onod ⊢
      have hperm : (ins g' (srt (oneByOne gs ws many ls.reverse).over)).Perm ((oneByOne gs ws many ls.reverse).over ++ [g']) :=
        (ins_perm _ _).trans (((srt_perm _).cons g').trans (List.perm_append_comm (l₁ := [g'])))
      have hnd := hperm.nodup_iff.mp (tlt_nodup onod)
      exact ⟨c1, (srt_unique hnd onod hperm).symm, hnd, c3⟩
/-- the guests with their wishes, told by the signs -/
noncomputable def prs (gs : List T) : List Nat → Nat → Nat → List (Nat × T)
  | [], _, _ => []
  | c :: l, i, p => if c = 40 then (p, gs.getD i (0, 0)) :: prs gs l (i + 1) p else prs gs l i (p + 1)
noncomputable def nR : List Nat → Nat
  | [] => 0
  | c :: l => if c = 40 then nR l else nR l + 1
theorem prs_ge (gs : List T) : ∀ (l : List Nat) (i p : Nat) (q : Nat × T), q ∈ prs gs l i p → p ≤ q.1
  | [], _, _, q, h => by simp [prs] at h
  | c :: l, i, p, q, h => by
    unfold prs at h
    split at h
    · rcases List.mem_cons.mp h with rfl | h
      · exact Nat.le_refl _
      · exact prs_ge gs l _ p q h
    · exact Nat.le_of_succ_le (prs_ge gs l i (p + 1) q h)
theorem at_none {gs : List T} {l : List Nat} {i p : Nat} : atP (prs gs l i (p + 1)) p = [] := by
  unfold atP
  rw [List.filter_eq_nil_iff.mpr fun q hq => by have := prs_ge gs l i (p + 1) q hq; simp; omega]; rfl
noncomputable def noneAt : List (Option T) → Nat → List Nat
  | [], _ => []
  | none :: r, p => p :: noneAt r (p + 1)
  | some _ :: r, p => noneAt r (p + 1)
theorem srt_heap {h : List T} (hh : IsHeap h) (hne : h ≠ []) (hn : h.Nodup) : srt h = ga h 0 :: srt (popped h) := by
  obtain ⟨p1, p2, p3⟩ := pop_heap hh hne
  have hn2 := p2.nodup_iff.mpr hn
  refine (srt_unique hn ?_ (((srt_perm _).cons _).trans p2)).symm
  refine List.pairwise_cons.mpr ⟨fun y hy => ?_, srt_sorted (List.nodup_cons.mp hn2).2⟩
  have hy' := (srt_perm _).mem_iff.mp hy
  have hne' : ga h 0 ≠ y := fun q => (List.nodup_cons.mp hn2).1 (q ▸ hy')
  exact (tlt_total hne').resolve_right (p3 y (p2.mem_iff.mp (List.mem_cons_of_mem _ hy')))
theorem walk_sw {gs : List T} : ∀ (l : List Nat) (i p : Nat) (h : List T) (rooms : List (Option T)) (free : List Nat) (steps : Nat), IsHeap h → (h ++ late (prs gs l i p) p).Nodup →
    (l.foldl (wkStep gs) ⟨h, rooms, i⟩).rooms = rooms ++ (sw (prs gs l i p) (nR l) p h).rooms ∧ srt (l.foldl (wkStep gs) ⟨h, rooms, i⟩).heap = (sw (prs gs l i p) (nR l) p h).over ∧
    (l.foldl (wkStep gs) ⟨h, rooms, i⟩).heap.Nodup ∧
    (l.foldl plStep ⟨free, h.length, steps, p⟩).free = free ++ noneAt (sw (prs gs l i p) (nR l) p h).rooms p ∧ (l.foldl plStep ⟨free, h.length, steps, p⟩).wait = (l.foldl (wkStep gs) ⟨h, rooms, i⟩).heap.length ∧
    (l.foldl plStep ⟨free, h.length, steps, p⟩).steps = steps + (sw (prs gs l i p) (nR l) p h).steps
  | [], i, p, h, rooms, free, steps, hh, hn => by
    have : late (prs gs [] i p) p = [] := rfl
    rw [this, List.append_nil] at hn
    refine ⟨by simp [nR, sw], ?_, hn, by simp [nR, sw, noneAt], rfl, rfl⟩
    simp only [nR, sw, List.foldl_nil, this, List.append_nil]
  | c :: l, i, p, h, rooms, free, steps, hh, hn => by
    rw [List.foldl_cons, List.foldl_cons]
    unfold prs nR
    by_cases hc : c = 40
    · rw [if_pos hc, if_pos hc]
      unfold prs at hn
      rw [if_pos hc, late_in (Nat.le_refl p)] at hn
      obtain ⟨u1, u2⟩ := push_heap (x := gs.getD i (0, 0)) hh
      have hperm : (up (h ++ [gs.getD i (0, 0)]) (gs.getD i (0, 0)) h.length).Perm (gs.getD i (0, 0) :: h) := u2.trans List.perm_append_comm
      have hn2 : ((gs.getD i (0, 0) :: h) ++ late (prs gs l (i + 1) p) p).Nodup := List.perm_middle.nodup_iff.mp hn
      have hn3 : (up (h ++ [gs.getD i (0, 0)]) (gs.getD i (0, 0)) h.length ++ late (prs gs l (i + 1) p) p).Nodup := (hperm.append_right _).nodup_iff.mpr hn2
      rw [sw_now hn2, ← sw_perm hn3 hperm]
      have ih := walk_sw l (i + 1) p _ rooms free steps u1 hn3
      have e1 : wkStep gs ⟨h, rooms, i⟩ c = ⟨up (h ++ [gs.getD i (0, 0)]) (gs.getD i (0, 0)) h.length, rooms, i + 1⟩ := by unfold wkStep; rw [if_pos hc]
      have e2 : plStep ⟨free, h.length, steps, p⟩ c = ⟨free, (up (h ++ [gs.getD i (0, 0)]) (gs.getD i (0, 0)) h.length).length, steps, p⟩ := by
        unfold plStep; rw [if_pos hc, hperm.length_eq]; rfl
      rw [e1, e2]; exact ih
    · rw [if_neg hc, if_neg hc]
      unfold prs at hn
      rw [if_neg hc] at hn
      have hnext : late (prs gs l i (p + 1)) p = late (prs gs l i (p + 1)) (p + 1) := by
        unfold late
        congr 1
        refine List.filter_congr fun q hq => ?_
        have := prs_ge gs l i (p + 1) q hq
        simp; omega
      rw [hnext] at hn
      rw [sw, at_none, List.append_nil]
      by_cases hnil : h = []
      · subst hnil
        have ih := walk_sw l i (p + 1) [] (rooms ++ [none]) (free ++ [p]) steps hh hn
        have e1 : wkStep gs ⟨[], rooms, i⟩ c = ⟨[], rooms ++ [none], i⟩ := by unfold wkStep; rw [if_neg hc, if_pos rfl]
        have e2 : plStep ⟨free, ([] : List T).length, steps, p⟩ c = ⟨free ++ [p], ([] : List T).length, steps, p + 1⟩ := by unfold plStep; rw [if_neg hc]; rfl
        rw [e1, e2]
        simp only [srt, noneAt]
        obtain ⟨a1, a2, a3, a4, a5, a6⟩ := ih
        exact ⟨by rw [a1]; simp, a2, a3, by rw [a4]; simp, a5, a6⟩
      · have hnh : h.Nodup := (List.nodup_append.mp hn).1
        obtain ⟨p1, p2, p3⟩ := pop_heap hh hnil
        rw [srt_heap hh hnil hnh]
        have hn2 : (popped h ++ late (prs gs l i (p + 1)) (p + 1)).Nodup := by
          have := (p2.append_right (late (prs gs l i (p + 1)) (p + 1))).nodup_iff.mpr hn
          exact (List.nodup_cons.mp this).2
        have ih := walk_sw l i (p + 1) (popped h) (rooms ++ [some (ga h 0)]) free (steps + (h.length - 1)) p1 hn2
        have e1 : wkStep gs ⟨h, rooms, i⟩ c = ⟨popped h, rooms ++ [some (ga h 0)], i⟩ := by unfold wkStep; rw [if_neg hc, if_neg hnil]
        have hlz : h.length ≠ 0 := fun q => hnil (List.length_eq_zero_iff.mp q)
        have e2 : plStep ⟨free, h.length, steps, p⟩ c = ⟨free, (popped h).length, steps + (h.length - 1), p + 1⟩ := by
          unfold plStep; rw [if_neg hc, popped_length]; simp only [if_neg hlz]
        rw [e1, e2]
        obtain ⟨a1, a2, a3, a4, a5, a6⟩ := ih
        have e3 : sw (prs gs l i (p + 1)) (nR l) (p + 1) (srt (popped h)) = sw (prs gs l i (p + 1)) (nR l) (p + 1) (popped h) :=
          (sw_perm hn2 (srt_perm _).symm).symm
        simp only [e3, noneAt]
        refine ⟨by rw [a1]; simp, a2, a3, a4, a5, ?_⟩
        rw [a6, (srt_perm _).length_eq, popped_length]; omega
theorem prs_append (gs : List T) : ∀ (a b : List Nat) (i p : Nat), prs gs (a ++ b) i p = prs gs a i p ++ prs gs b (i + a.count 40) (p + nR a)
  | [], b, i, p => by simp [prs, nR]
  | c :: a, b, i, p => by
    rw [List.cons_append, prs, prs, nR, List.count_cons]
    by_cases h : c = 40
    · rw [if_pos h, if_pos h, if_pos h, if_pos (by simpa using h), prs_append gs a b (i + 1) p, List.cons_append, show i + 1 + a.count 40 = i + (a.count 40 + 1) by omega]
    · rw [if_neg h, if_neg h, if_neg h, if_neg (by simpa using h), prs_append gs a b i (p + 1), show p + 1 + nR a = p + (nR a + 1) by omega]; rfl
theorem nR_append : ∀ a b : List Nat, nR (a ++ b) = nR a + nR b
  | [], b => by simp [nR]
  | c :: a, b => by
    rw [List.cons_append, nR, nR, nR_append a b]
    split <;> omega
theorem nR_count : ∀ a : List Nat, a.length = a.count 40 + nR a
  | [] => rfl
  | c :: a => by
    rw [List.length_cons, nR_count a, nR, List.count_cons]
    by_cases h : c = 40
    · rw [if_pos h, if_pos (by simpa using h)]; omega
    · rw [if_neg h, if_neg (by simpa using h)]; omega
theorem prs_rep (gs : List T) : ∀ (k i p : Nat), prs gs (List.replicate k 41) i p = []
  | 0, i, p => rfl
  | k + 1, i, p => by rw [List.replicate_succ, prs, if_neg (by decide)]; exact prs_rep gs k i (p + 1)
structure TxM (st : Tx) : Prop where
  sgn : ∀ c ∈ st.seen, c = 40 ∨ c = 41
  wn : ∀ w ∈ st.wishes, 0 ≤ w
  wt : ∀ w ∈ st.wishes, w.toNat ≤ nR st.seen
  len : st.wishes.length = st.guests.length
  cnt : st.seen.count 40 = st.guests.length
  idx : ∀ (i : Nat) (g : T), st.guests[i]? = some g → g.2 = (i : Int)
  prs : ∀ gs' : List T, (∀ i, i < st.guests.length → gs'.getD i (0, 0) = st.guests.getD i (0, 0)) → prs gs' st.seen 0 0 = prL st.guests (st.wishes.map Int.toNat) (List.range st.guests.length)
theorem prL_snoc {gs : List T} {ws : List Nat} {g : T} {w : Nat} (h : ws.length = gs.length) : prL (gs ++ [g]) (ws ++ [w]) (List.range (gs ++ [g]).length) = prL gs ws (List.range gs.length) ++ [(w, g)] := by
  unfold prL
  rw [List.length_append, List.length_singleton, List.range_succ, List.map_append]
  congr 1
  · refine List.map_congr_left fun i hi => ?_
    have hi' := List.mem_range.mp hi
    rw [List.getD_eq_getElem?_getD, List.getD_eq_getElem?_getD, List.getD_eq_getElem?_getD, List.getD_eq_getElem?_getD, List.getElem?_append_left hi', List.getElem?_append_left (by omega)]
  · rw [List.map_singleton, List.getD_eq_getElem?_getD, List.getD_eq_getElem?_getD, ← h]
    simp [h]
theorem tx2_M {st : Tx} (h : TxM st) (x : Int) : TxM (tx2 st x) := by
  unfold tx2
  split
  · exact ⟨h.sgn, h.wn, h.wt, h.len, h.cnt, h.idx, h.prs⟩
  split
  · exact ⟨h.sgn, h.wn, h.wt, h.len, h.cnt, h.idx, h.prs⟩
  split
  · exact ⟨h.sgn, h.wn, h.wt, h.len, h.cnt, h.idx, h.prs⟩
  split
  · refine ⟨fun c hc => ?_, h.wn, fun w hw => ?_, h.len, ?_, h.idx, fun gs' hg => ?_⟩
    · rcases List.mem_append.mp hc with q | q
      · exact h.sgn c q
      · exact .inr (List.mem_singleton.mp q)
    · show _ ≤ nR (st.seen ++ [41])
      rw [nR_append]; have := h.wt w hw; omega
    · show (st.seen ++ [41]).count 40 = _
      rw [List.count_append, h.cnt]; rfl
    · show Mine.prs gs' (st.seen ++ [41]) 0 0 = _
      rw [prs_append, h.prs gs' hg]; simp [Mine.prs]
  split
  · have hl := nR_count st.seen
    have hw : ((st.seen.length : Int) - st.wishes.length) = (nR st.seen : Nat) := by rw [hl, h.cnt, h.len]; omega
    refine ⟨fun c hc => ?_, fun w hw' => ?_, fun w hw' => ?_, ?_, ?_, fun i g hg => ?_, fun gs' hg => ?_⟩
    · rcases List.mem_append.mp hc with q | q
      · exact h.sgn c q
      · exact .inl (List.mem_singleton.mp q)
    · rcases List.mem_append.mp hw' with q | q
      · exact h.wn w q
      · obtain rfl := List.mem_singleton.mp q; omega
    · show _ ≤ nR (st.seen ++ [40])
      rw [nR_append]
      rcases List.mem_append.mp hw' with q | q
      · have := h.wt w q; omega
      · obtain rfl := List.mem_singleton.mp q
        rw [hw, Int.toNat_natCast]; omega
    · simp only [List.length_append, h.len, List.length_cons, List.length_nil]
    · simp only [List.count_append, h.cnt, List.length_append, List.length_cons, List.length_nil]; rfl
    · have hg' : (st.guests ++ [(if x.fmod 8 = 0 then x.fdiv 8 else (x.fdiv 8).fmod 3, (st.guests.length : Int))])[i]? = some g := hg
      rcases Nat.lt_or_ge i st.guests.length with q | q
      · rw [List.getElem?_append_left q] at hg'; exact h.idx i g hg'
      · rw [List.getElem?_append_right q] at hg'
        have h0 : i - st.guests.length = 0 := by
          rcases Nat.eq_zero_or_pos (i - st.guests.length) with z | z
          · exact z
          · rw [List.getElem?_eq_none (by simp; omega)] at hg'; cases hg'
        rw [h0] at hg'
        simp at hg'
        subst hg'
        show (st.guests.length : Int) = i
        omega
    · show Mine.prs gs' (st.seen ++ [40]) 0 0 = prL (st.guests ++ [_]) ((st.wishes ++ [_]).map Int.toNat) (List.range (st.guests ++ [_]).length)
      have hg0 : ∀ i, i < (st.guests ++ [(if x.fmod 8 = 0 then x.fdiv 8 else (x.fdiv 8).fmod 3, (st.guests.length : Int))]).length → gs'.getD i (0, 0) = (st.guests ++ [(if x.fmod 8 = 0 then x.fdiv 8 else (x.fdiv 8).fmod 3, (st.guests.length : Int))]).getD i (0, 0) := hg
      have hold : ∀ i, i < st.guests.length → gs'.getD i (0, 0) = st.guests.getD i (0, 0) := fun i hi => by
        rw [hg0 i (by rw [List.length_append]; omega), List.getD_eq_getElem?_getD, List.getD_eq_getElem?_getD, List.getElem?_append_left hi]
      rw [prs_append, h.prs gs' hold, List.map_append, List.map_singleton, prL_snoc (by rw [List.length_map]; exact h.len), hw, Int.toNat_natCast]
      congr 1
      simp only [Mine.prs, if_true, Nat.zero_add]
      rw [h.cnt, hg0 _ (by rw [List.length_append]; simp), List.getD_eq_getElem?_getD]
      simp
  · exact h
theorem txFold2_M (row : List Int) : ∀ i, TxM (txFold2 (row.take i))
  | 0 => ⟨fun c h => by simp [txFold2] at h, fun c h => by simp [txFold2] at h, fun c h => by simp [txFold2] at h, rfl, rfl, fun i g h => by simp [txFold2] at h, fun gs' _ => rfl⟩
  | i + 1 => by
    cases h : row[i]? with
    | some x => rw [txFold2_succ h]; exact tx2_M (txFold2_M row i) x
    | none =>
      have hl : row.length ≤ i := by simpa using h
      have ih := txFold2_M row i
      rw [List.take_of_length_le hl] at ih
      rw [List.take_of_length_le (by omega)]; exact ih
theorem prL_guests {gs : List T} {ws : List Nat} : (prL gs ws (List.range gs.length)).map (·.2) = gs := by
  unfold prL
  rw [List.map_map]
  refine List.ext_getElem? fun i => ?_
  simp only [List.getElem?_map, List.getElem?_range]
  by_cases hi : i < gs.length
  · simp [hi, List.getD_eq_getElem?_getD]
  · simp [hi]
theorem cons_erase_perm {α : Type} : ∀ (l : List α) (i : Nat) (h : i < l.length), (l[i] :: l.eraseIdx i).Perm l
  | [], i, h => by simp at h
  | x :: r, 0, h => List.Perm.refl _
  | x :: r, i + 1, h => by
    have hi : i < r.length := by simpa using h
    have := cons_erase_perm r i hi
    simp only [List.getElem_cons_succ, List.eraseIdx_cons_succ]
    exact (List.Perm.swap x r[i] _).trans (this.cons x)
theorem orderGo_perm (total : Int) : ∀ (f : Nat) (left order : List Nat), left.length ≤ f → (orderGo total f left order).Perm (order ++ left)
  | 0, left, order, h => by
    have : left = [] := List.length_eq_zero_iff.mp (by omega)
    subst this; simp [orderGo]
  | f + 1, left, order, h => by
    rw [orderGo]
    by_cases hn : left = []
    · rw [if_pos hn, hn]; simp
    · rw [if_neg hn]
      have hpos : (0 : Int) < (left.length : Int) := by have := List.length_pos_iff.mpr hn; omega
      have i0 := Int.fmod_nonneg_of_pos (total.fdiv ((order.length : Int) + 1)) hpos
      have i1 := Int.fmod_lt_of_pos (total.fdiv ((order.length : Int) + 1)) hpos
      generalize (total.fdiv ((order.length : Int) + 1)).fmod (left.length : Int) = ix at *
      have hlt : ix.toNat < left.length := by omega
      refine (orderGo_perm total f _ _ (by rw [List.length_eraseIdx_of_lt hlt]; omega)).trans ?_
      rw [List.append_assoc]
      refine List.Perm.append_left order ?_
      have e : left.getD ix.toNat 0 = left[ix.toNat] := by rw [List.getD_eq_getElem?_getD, List.getElem?_eq_getElem hlt]; rfl
      rw [e]
      exact cons_erase_perm left ix.toNat hlt
theorem orderOf_perm (many : Nat) (total : Int) : (orderOf many total).Perm (List.range many) := by
  have := orderGo_perm total many (List.range many) [] (by simp)
  simpa [orderOf] using this
theorem sw_all {P : List (Nat × T)} : ∀ (n p : Nat) (W : List T), ((sw P n p W).rooms.filterMap id ++ (sw P n p W).over).Perm (W ++ late P p)
  | 0, p, W => by simp only [sw, List.filterMap_nil, List.nil_append]; exact srt_perm _
  | n + 1, p, W => by
    have hl := (late_split P p).append_left W
    rw [← List.append_assoc] at hl
    have hS := srt_perm (W ++ atP P p)
    rw [sw]
    cases hs : srt (W ++ atP P p) with
    | nil =>
      rw [hs] at hS
      simp only [List.filterMap_cons, id]
      exact (sw_all n (p + 1) []).trans ((hS.append_right _).trans hl.symm)
    | cons x t =>
      rw [hs] at hS
      simp only [List.filterMap_cons, id, List.cons_append]
      exact ((sw_all n (p + 1) t).cons x).trans ((hS.append_right _).trans hl.symm)
theorem noneAt_eq : ∀ (l : List (Option T)) (p : Nat), noneAt l p = (List.range' p l.length).filter fun i => (l.getD (i - p) none).isNone
  | [], p => rfl
  | o :: r, p => by
    have ih := noneAt_eq r (p + 1)
    have e : (List.range' (p + 1) r.length).filter (fun i => ((o :: r).getD (i - p) none).isNone) = (List.range' (p + 1) r.length).filter fun i => (r.getD (i - (p + 1)) none).isNone := by
      refine List.filter_congr fun i hi => ?_
      have := (List.mem_range'_1.mp hi).1
      rw [show i - p = (i - (p + 1)) + 1 by omega]
      rfl
    rw [List.length_cons, List.range'_succ, List.filter_cons, e, ← ih]
    cases o with
    | none => rw [noneAt, if_pos (by simp)]
    | some t => rw [noneAt, if_neg (by simp)]
section
variable (row : List Int)
theorem mm : TxM (txFold2 row) := by
  have := txFold2_M row row.length
  rw [List.take_length] at this; exact this
theorem nodG2 : (txFold2 row).guests.Nodup := idx_nodup (mm row).idx
theorem prs_full : prs (txFold2 row).guests (full2 row) 0 0 = prL (txFold2 row).guests (ws2 row) (List.range (txFold2 row).guests.length) := by
  unfold full2 beh2
  rw [prs_append, prs_rep, List.append_nil, (mm row).prs _ fun _ _ => rfl]; rfl
theorem late_full : (late (prs (txFold2 row).guests (full2 row) 0 0) 0).Nodup ∧ late (prs (txFold2 row).guests (full2 row) 0 0) 0 = (txFold2 row).guests := by
  have e : late (prs (txFold2 row).guests (full2 row) 0 0) 0 = (txFold2 row).guests := by rw [late0, prs_full, prL_guests]
  exact ⟨by rw [e]; exact nodG2 row, e⟩
/-- the walk is the sweep -/
theorem walk_full : (walk (txFold2 row).guests (full2 row)).rooms = (sw (prs (txFold2 row).guests (full2 row) 0 0) (nR (full2 row)) 0 []).rooms ∧ srt (walk (txFold2 row).guests (full2 row)).heap = (sw (prs (txFold2 row).guests (full2 row) 0 0) (nR (full2 row)) 0 []).over ∧
    (walk (txFold2 row).guests (full2 row)).heap.Nodup ∧ (plain (full2 row)).free = noneAt (sw (prs (txFold2 row).guests (full2 row) 0 0) (nR (full2 row)) 0 []).rooms 0 ∧ (plain (full2 row)).wait = (walk (txFold2 row).guests (full2 row)).heap.length ∧
    (plain (full2 row)).steps = (sw (prs (txFold2 row).guests (full2 row) 0 0) (nR (full2 row)) 0 []).steps := by
  have := walk_sw (gs := (txFold2 row).guests) (full2 row) 0 0 [] [] [] 0 (fun i _ hl => by simp at hl) (by rw [List.nil_append]; exact (late_full row).1)
  simpa [walk, plain] using this
theorem rooms_len : (walk (txFold2 row).guests (full2 row)).rooms.length = nR (full2 row) := by rw [(walk_full row).1, sw_rooms_length]
theorem wish_le (l : Nat) : (ws2 row).getD l 0 ≤ nR (full2 row) := by
  rw [List.getD_eq_getElem?_getD]
  cases h : (ws2 row)[l]? with
  | none => exact Nat.zero_le _
  | some w =>
    have hm := List.mem_of_getElem? h
    unfold ws2 at hm
    obtain ⟨v, hv, rfl⟩ := List.mem_map.mp hm
    have := (mm row).wt v hv
    unfold full2
    rw [nR_append]
    show v.toNat ≤ _
    omega
theorem one2 (os : List Nat) (h : os.Perm (List.range (txFold2 row).guests.length)) :
    (oneByOne (txFold2 row).guests (ws2 row) (walk (txFold2 row).guests (full2 row)).rooms.length os).rooms = (walk (txFold2 row).guests (full2 row)).rooms ∧ (oneByOne (txFold2 row).guests (ws2 row) (walk (txFold2 row).guests (full2 row)).rooms.length os).over.Nodup ∧
      srt (oneByOne (txFold2 row).guests (ws2 row) (walk (txFold2 row).guests (full2 row)).rooms.length os).over = srt (walk (txFold2 row).guests (full2 row)).heap ∧ (oneByOne (txFold2 row).guests (ws2 row) (walk (txFold2 row).guests (full2 row)).rooms.length os).steps = (plain (full2 row)).steps := by
  rw [rooms_len]
  have hp : (prL (txFold2 row).guests (ws2 row) os.reverse).Perm (prL (txFold2 row).guests (ws2 row) (List.range (txFold2 row).guests.length)) := ((List.reverse_perm os).trans h).map _
  have hn : ((prL (txFold2 row).guests (ws2 row) os.reverse).map (·.2)).Nodup := by
    refine (hp.map _).nodup_iff.mpr ?_
    rw [prL_guests]; exact nodG2 row
  obtain ⟨a1, a2, a3, a4⟩ := ob_sw (gs := (txFold2 row).guests) (ws := ws2 row) (many := nR (full2 row)) (wish_le row) os.reverse hn
  rw [List.reverse_reverse] at a1 a2 a3 a4
  have e : sw (prL (txFold2 row).guests (ws2 row) os.reverse) (nR (full2 row)) 0 [] = sw (prs (txFold2 row).guests (full2 row) 0 0) (nR (full2 row)) 0 [] := by
    rw [prs_full]
    exact sw_permP hp _ _ _ (by rw [List.nil_append, late0]; exact hn)
  obtain ⟨b1, b2, b3, b4, b5, b6⟩ := walk_full row
  exact ⟨by rw [a1, b1, e], a3, by rw [a2, b2, e], by rw [a4, b6, e]⟩
theorem getD_isSome (l : List (Option T)) : dif (List.range l.length) ((List.range l.length).filter fun i => (l.getD i none).isSome) = noneAt l 0 := by
  rw [noneAt_eq, List.range_eq_range']
  unfold dif
  refine List.filter_congr fun i hi => ?_
  rw [Nat.sub_zero]
  have : i ∈ ((List.range' 0 l.length).filter fun i => (l.getD i none).isSome) ↔ (l.getD i none).isSome = true := by
    rw [List.mem_filter]; exact ⟨fun q => q.2, fun q => ⟨hi, q⟩⟩
  cases h : l.getD i none with
  | none => rw [decide_eq_true]; · rfl
            · rw [this, h]; simp
  | some t => rw [decide_eq_false]; · rfl
              · rw [this, h]; simp
theorem fm_congr {α β : Type} {f g : α → Option β} : ∀ {l : List α}, (∀ x ∈ l, f x = g x) → l.filterMap f = l.filterMap g
  | [], _ => rfl
  | x :: r, h => by
    rw [List.filterMap_cons, List.filterMap_cons, h x List.mem_cons_self, fm_congr fun y hy => h y (List.mem_cons_of_mem _ hy)]
theorem some_rooms : ∀ (l : List (Option T)), ((List.range l.length).filter fun i => (l.getD i none).isSome).filterMap (fun i => l.getD i none) = l.filterMap id := fun l => by
  have key : ∀ (l : List (Option T)) (p : Nat), ((List.range' p l.length).filter fun i => (l.getD (i - p) none).isSome).filterMap (fun i => l.getD (i - p) none) = l.filterMap id := fun l => by
    induction l with
    | nil => intro p; rfl
    | cons o r ih =>
      intro p
      have ih := ih (p + 1)
      have e1 : (List.range' (p + 1) r.length).filter (fun i => ((o :: r).getD (i - p) none).isSome) = (List.range' (p + 1) r.length).filter fun i => (r.getD (i - (p + 1)) none).isSome := by
        refine List.filter_congr fun i hi => ?_
        have := (List.mem_range'_1.mp hi).1
        rw [show i - p = (i - (p + 1)) + 1 by omega]; rfl
      have e2 : ((List.range' (p + 1) r.length).filter fun i => (r.getD (i - (p + 1)) none).isSome).filterMap (fun i => (o :: r).getD (i - p) none) = ((List.range' (p + 1) r.length).filter fun i => (r.getD (i - (p + 1)) none).isSome).filterMap (fun i => r.getD (i - (p + 1)) none) := by
        refine fm_congr fun i hi => ?_
        have := (List.mem_range'_1.mp (List.mem_filter.mp hi).1).1
        rw [show i - p = (i - (p + 1)) + 1 by omega]; rfl
      rw [List.length_cons, List.range'_succ, List.filter_cons, e1]
      cases o with
      | none => rw [if_neg (by simp), e2, ih]; rfl
      | some t =>
        rw [if_pos (by simp), List.filterMap_cons]
        simp only [Nat.sub_self, List.getD_cons_zero]
        rw [e2, ih]; rfl
  have := key l 0
  simpa [List.range_eq_range'] using this
theorem housed_eq : housed2 row = (walk (txFold2 row).guests (full2 row)).rooms.filterMap id := by
  unfold housed2 taken2
  exact some_rooms _
theorem all2 : (housed2 row ++ srt (walk (txFold2 row).guests (full2 row)).heap).Perm (txFold2 row).guests := by
  rw [housed_eq, (walk_full row).1, (walk_full row).2.1]
  have := sw_all (P := prs (txFold2 row).guests (full2 row) 0 0) (nR (full2 row)) 0 []
  rw [List.nil_append, (late_full row).2] at this
  exact this
theorem hous2 : dif (srt (txFold2 row).guests) (srt (housed2 row)) = srt (walk (txFold2 row).guests (full2 row)).heap := by
  have hall := all2 row
  have hnd := hall.nodup_iff.mpr (nodG2 row)
  have hd := (List.nodup_append.mp hnd).2.2
  refine sorted_unique ((srt_sorted (nodG2 row)).filter _) (srt_sorted (walk_full row).2.2.1) ?_
  have h1 : (dif (srt (txFold2 row).guests) (srt (housed2 row))).Perm (dif (housed2 row ++ srt (walk (txFold2 row).guests (full2 row)).heap) (srt (housed2 row))) :=
    ((srt_perm _).trans hall.symm).filter _
  refine h1.trans ?_
  unfold dif
  rw [List.filter_append, List.filter_eq_nil_iff.mpr fun a ha => by simp [(srt_perm _).mem_iff.mpr ha], List.nil_append, List.filter_eq_self.mpr fun a ha => ?_]
  have : a ∉ housed2 row := fun q => hd a q a ha rfl
  simp only [decide_eq_true_eq]
  exact fun q => this ((srt_perm _).mem_iff.mp q)
end
theorem quo2_quo (i : Int) : Quo (quo2 i) := by
  unfold quo2
  split
  · exact quoB 40 (by decide) (by decide)
  split
  · exact quoB 41 (by decide) (by decide)
  · exact quoE
theorem tx2_S {st : Tx} (h : TxS st.text st.seen) (x : Int) : TxS (tx2 st x).text (tx2 st x).seen := by
  unfold tx2
  split
  · show TxS (st.text ++ (92 :: brk _)) st.seen
    unfold brk
    split
    · exact h.esc 40 (by decide)
    · exact h.esc 41 (by decide)
  split
  · exact h.quo (quo2_quo _)
  split
  · show TxS (st.text ++ let2 _) st.seen
    unfold let2
    split
    · exact h.let_
    · exact h.esc 34 (by decide)
  split
  · exact h.cls
  split
  · exact h.opn
  · exact h
theorem txFold2_S (row : List Int) : ∀ i, TxS (txFold2 (row.take i)).text (txFold2 (row.take i)).seen
  | 0 => by simpa [txFold2] using TxS.nil
  | i + 1 => by
    cases h : row[i]? with
    | some x => rw [txFold2_succ h]; exact tx2_S (txFold2_S row i) x
    | none =>
      have hl : row.length ≤ i := by simpa using h
      have ih := txFold2_S row i
      rw [List.take_of_length_le hl] at ih
      rw [List.take_of_length_le (by omega)]; exact ih
theorem lawMath2 (row : List Int) : LawMath2 row := by
  have hS : TxS (yy2 row) (full2 row) := by
    have := (txFold2_S row row.length).many (n2Of row)
    rw [List.take_length] at this; exact this
  obtain ⟨r1, r2⟩ := hS.read
  obtain ⟨b1, b2, b3, b4, b5, b6⟩ := walk_full row
  have hgz : (txFold2 row).guests.length ≤ 8 := by
    have := (txFold2_ok row row.length).guests
    rw [List.take_length] at this; exact this
  have sgn : ∀ c ∈ full2 row, c = 40 ∨ c = 41 := fun c hc => by
    unfold full2 beh2 at hc
    rcases List.mem_append.mp hc with q | q
    · exact (mm row).sgn c q
    · exact .inr (List.eq_of_mem_replicate q)
  have hop := orderOf_perm (txFold2 row).guests.length row.sum
  exact {
    uok := r2
    signs := r1
    wish := (mm row).wn
    cnt := by
      unfold full2 beh2
      rw [List.count_append, (mm row).cnt, List.count_eq_zero.mpr (fun q => by have := List.eq_of_mem_replicate q; omega)]
      exact Nat.le_refl _
    nodH := b3
    nodG := nodG2 row
    one := fun os h => one2 row os (by
      rcases h with rfl | rfl
      · exact List.Perm.refl _
      · exact hop)
    ord := fun l hl => List.mem_range.mp (hop.mem_iff.mp hl)
    ordz := by rw [hop.length_eq, List.length_range]; omega
    free := by
      rw [b4, ← b1]
      exact getD_isSome _
    nodU := (List.nodup_append.mp ((all2 row).nodup_iff.mpr (nodG2 row))).1
    hous := hous2 row
    hous' := fun x hx => (all2 row).mem_iff.mp (List.mem_append_left _ hx)
    wait := b5.symm
    chk := by
      rw [chk_filter, r1]
      exact (chk_plain (full2 row) [] 0 0 0 sgn).1 }
section
variable {q : Program} {loose : List Str} {mean : ExcName → Option Value} {mg mb : Str → Option Value} {h : Heap}
noncomputable def gOf (mg mb : Str → Option Value) : Str → Option Value := fun x => (mg x).or (mb x)
theorem bs_of (T : Top q loose mean mg mb h) : Bs h (gOf mg mb) where
  nolimit := T.nolimit
  look x v hv := by
    unfold gOf at hv
    cases hm : mg x with
    | some u => rw [hm] at hv; cases hv; exact .inl ⟨mg, T.g, hm⟩
    | none => rw [hm] at hv; exact .inr ⟨mg, mb, T.g, hm, T.b, hv⟩
theorem fn_at (T : Top q loose mean mg mb h) {nm : Str} {d : DefRec} (e : (recsOf q).find? (fun e => e.name == nm) = some d) : ∃ f, gOf mg mb nm = some (.ref f) ∧ ∀ c : Cc, c.base = h → Fn c d.name d.params d.body d.scope f := by
  obtain ⟨a, o, pm, cd, doc, h1, h2, h3, h4⟩ := T.fn d (List.mem_of_find?_eq_some e)
  have hn : d.name = nm := beq_iff_eq.mp (List.find?_some (p := fun e : DefRec => e.name == nm) e)
  refine ⟨a, by unfold gOf; rw [← hn, h1]; rfl, fun c hc => ⟨⟨o, pm, cd, doc, by rw [hc]; exact h2, h3, by rw [hc]; exact h4⟩⟩⟩
theorem built (T : Top q loose mean mg mb h) {x : Str} {v : Value} (h0 : (x != "__name__" && !startupNames.contains x && !loose.contains x && !((recsOf q).map (·.name)).contains x && !((litsOf q).map (·.1)).contains x && !((clssOf q loose).map (·.name)).contains x) = true) (hb : bootBuiltins x = some v) : gOf mg mb x = some v := by
  simp only [Bool.and_eq_true, bne_iff_ne, ne_eq, Bool.not_eq_true', List.contains_eq_mem, decide_eq_false_iff_not] at h0
  obtain ⟨⟨⟨⟨⟨h1, h2⟩, h3⟩, h4⟩, h5⟩, h6⟩ := h0
  unfold gOf
  rw [T.free x h2 h3 h4 h5 h6, T.builtins x h1, hb]; rfl
end
theorem gs_start {base : Heap} {s : Shared} (hb : s.heap = base) (hg : s.gens = #[]) : GS base [] noHp s where
  keep b o e := by rw [hb]; exact e
  frames := trivial
  lists a ds ha := nomatch ha
  bare := AllBare.of_eq hg
theorem ints_start {P : Params} {h : Heap} {a : Addr} {vs : List Value} {ns : List Int} {xs : List WData} (w1 : Well P h (.ref a) (.list xs)) (hl : h.IsList a vs.toArray) (hi : IntsAre vs ns) : VR h noHp (.d (.list (ns.map .int))) (.ref a) := by
  obtain ⟨o, ho, hc, n, hd⟩ := hl
  cases w1 with
  | list h1 h2 =>
    rw [ho] at h1
    cases h1
    cases hd
    simp only [VR, RD]
    exact ⟨a, vs, _, rfl, ho, rfl, ints_rds hi⟩
theorem law2_ends {c : Cc} {s₁ : Shared} {fa a : Addr} {ns : List Int} {R : Result → Shared → Prop} (hA : callerA.frames = some [])
    (h : CL c 6 fa [.d (.list (ns.map .int))] (fun d σ' => d = .bool true ∧ σ' = noHp) (fun _ _ _ _ => False) noHp) (hb : s₁.heap = c.base) (hg : s₁.gens = #[]) (hv : VR s₁.heap noHp (.d (.list (ns.map .int))) (.ref a))
    (hR : ∀ s', (∀ b o, s₁.heap.get? b = some o → s'.heap.get? b = some o) → s'.os = s₁.os → AllBare s'.gens → R (.ok (.ret (.bool true))) s') : codeAny (model c.prog c.w) callerA (.call (.ref fa) ⟨[.ref a], []⟩) R s₁ := by
  refine codeAny_mono (h callerA [] s₁ [.ref a] hA (by decide) (by decide) rfl (gs_start hb hg) (VRs.cons hv VRs.nil)) fun r s' hr => ?_
  match r, hr with
  | .ok (.ret v), ⟨d, σ', ev, gs', rd, hd, hσ⟩ =>
    subst hd
    simp only [RD] at rd
    subst rd
    exact hR s' (by rw [hb]; exact gs'.keep) ev.os gs'.bare
  | .error e, ⟨σ', _, _, x⟩ => exact x.elim
noncomputable def isDef : Stmt → Bool
  | .FunctionDef .. => true
  | _ => false
/-- the text's defs -/
noncomputable def viewOf (p : Program) : Program := { p with main := { p.main with body := p.main.body.filter isDef } }
end Mine
open PySem PySem.W PyProof.Rows
set_option maxRecDepth 100000 in
set_option maxHeartbeats 8000000 in
theorem PySem.Challenge.cw_op0068_02_holds : PySem.Challenge.rw_op0068_02.Holds := by
  w_on
  refine holds_law (by kernel_rfl) fun said => ?_
  refine holds_open (q := Mine.viewOf PySem.Challenge.pw_op0068_02) (loose := []) (Xt := fun s => xlAt (Mine.viewOf PySem.Challenge.pw_op0068_02) [] s && recOk (RowW.records (OpenRow.toRowW PySem.Challenge.rw_op0068_02.row)) s) (XP := XL (Mine.viewOf PySem.Challenge.pw_op0068_02) []) (Yf := Hook.obs Hook.none) (Ya := Hook.val Hook.none) (YP := Hook.says Hook.none) (N := 1186) ?hl (Hook.of Hook.none) (Hook.keeps Hook.none) (fun s e => xl_of s (Bool.and_eq_true_iff.mp e).1) XL.keeps (by rfl) (by rfl) (by rfl) (fun s e => recFacts_of (Bool.and_eq_true_iff.mp e).2) (by rfl) (by first | assumption | decide +kernel) (by decide +kernel) ⟨rfl, rfl, rfl, rfl, rfl, by decide +kernel⟩ ?hw ?hc
  case hl => exact fun w => by kernel_rfl
  case hw => w_witness2
  case hc => w_strict (
    intro w s₀ s₁ mg mb G Y fa o pm cd doc dV kV ho hd hcd hD hmg hg args vals as hpre hlay hrd hwl hlo
    clear ho hd hcd hD Y
    have T := G.T
    clear G
    wrow_args hpre hlay hrd hwl hlo
    rename_i ns _ _ _ _ _ _ _ a vs _ hL _ w1 _ hI _ hlen _
    obtain ⟨f0, g0, F0⟩ := Mine.fn_at T (nm := "law") rfl
    have hfa : f0 = fa := by
      have e : Mine.gOf mg mb "law" = some (.ref fa) := by unfold Mine.gOf; rw [show mg (Str.ofString "law") = some (.ref fa) from hmg]; rfl
      rw [e] at g0; cases g0; rfl
    subst hfa
    obtain ⟨f1, g1, F1⟩ := Mine.fn_at T (nm := "_iter_escaped_chars") rfl
    obtain ⟨f2, g2, F2⟩ := Mine.fn_at T (nm := "_strip_quoted_realnames") rfl
    obtain ⟨f3, g3, F3⟩ := Mine.fn_at T (nm := "_check_parenthesis") rfl
    obtain ⟨f4, g4, F4⟩ := Mine.fn_at T (nm := "heappush") rfl
    obtain ⟨f5, g5, F5⟩ := Mine.fn_at T (nm := "heappop") rfl
    obtain ⟨f6, g6, F6⟩ := Mine.fn_at T (nm := "_siftdown") rfl
    obtain ⟨f7, g7, F7⟩ := Mine.fn_at T (nm := "_siftup") rfl
    obtain ⟨f8, g8, F8⟩ := Mine.fn_at T (nm := "sorted_list_difference") rfl
    obtain ⟨f9, g9, F9⟩ := Mine.fn_at T (nm := "three_way_cmp") rfl
    obtain ⟨f10, g10, F10⟩ := Mine.fn_at T (nm := "_law_text") rfl
    obtain ⟨f11, g11, F11⟩ := Mine.fn_at T (nm := "_law_plain") rfl
    obtain ⟨f12, g12, F12⟩ := Mine.fn_at T (nm := "_law_walk") rfl
    obtain ⟨f13, g13, F13⟩ := Mine.fn_at T (nm := "_law_one_by_one") rfl
    obtain ⟨f14, g14, F14⟩ := Mine.fn_at T (nm := "_law_order") rfl
    have ge : Mine.gOf mg mb "enumerate" = some (.type "enumerate") := Mine.built T (by decide +kernel) (by decide +kernel)
    have gl : Mine.gOf mg mb "len" = some (.builtin "len") := Mine.built T (by decide +kernel) (by decide +kernel)
    have gm : Mine.gOf mg mb "max" = some (.builtin "max") := Mine.built T (by decide +kernel) (by decide +kernel)
    have gsm : Mine.gOf mg mb "sum" = some (.builtin "sum") := Mine.built T (by decide +kernel) (by decide +kernel)
    have gso : Mine.gOf mg mb "sorted" = some (.builtin "sorted") := Mine.built T (by decide +kernel) (by decide +kernel)
    have gst : Mine.gOf mg mb "str" = some (.type "str") := Mine.built T (by decide +kernel) (by decide +kernel)
    have gli : Mine.gOf mg mb "list" = some (.type "list") := Mine.built T (by decide +kernel) (by decide +kernel)
    have gr : Mine.gOf mg mb "range" = some (.type "range") := Mine.built T (by decide +kernel) (by decide +kernel)
    have gie : Mine.gOf mg mb "IndexError" = some (.type "IndexError") := Mine.built T (by decide +kernel) (by decide +kernel)
    have key := Mine.law2_cl (c := ⟨rw_op0068_02.row.prog, w, s₁.heap, Mine.gOf mg mb⟩) (σ := Mine.noHp) (script := ns) (f15 := 0) 0 (F0 _ rfl) (F1 _ rfl) (F2 _ rfl) (F3 _ rfl) (F4 _ rfl) (F5 _ rfl) (F6 _ rfl) (F7 _ rfl) (F8 _ rfl) (F9 _ rfl) (F10 _ rfl) (F11 _ rfl) (F12 _ rfl) (F13 _ rfl) (F14 _ rfl) g1 g2 g3 g4 g5 g6 g7 g8 g9 g10 g11 g12 g13 g14 ge gl gm gsm gso gst gli gr gie (Mine.bs_of T) (by omega) (Mine.lawMath2 _)
    refine enter_call ?_
    refine Mine.law2_ends rfl key rfl hg (Mine.ints_start w1 hL hI) fun s' h1 h2 h3 => ?_
    refine ⟨.inl ⟨_, _, _, rfl, fun _ => rfl, .bool true, ?_, fun _ => ⟨List.nodup_nil, fun a h => nomatch h⟩⟩, .of_keep h1, h2, h3⟩
    first | rfl | (simp [ClaimW.post]; done) | (wrow_post; done))
