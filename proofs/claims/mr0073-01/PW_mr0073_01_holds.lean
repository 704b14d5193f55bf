import PyProof.Rows.All
import Wide.All
import OpenK.AllK
import Wide.FinOn
import PySem.Challenge.RW_mr0073_01
set_option Elab.async false

section
open PySem PySem.W PyProof.Rows
set_option Elab.async false
set_option maxRecDepth 100000
set_option maxHeartbeats 8000000
namespace Mine
open_top hd for PySem.Challenge.rw_mr0073_01
end Mine

end
section
open PySem PySem.W PyProof.Rows PySem.Calls
set_option Elab.async false
set_option linter.unusedVariables false
set_option maxRecDepth 100000
namespace Mine
/-- the text's own objects, with the built-ins' table and module -/
noncomputable def K (P : Params) : Frag := hd.heap_39 P
abbrev Md (w : World) : Model := model PySem.Challenge.pw_mr0073_01 w
/-- the built-ins' names and their module -/
noncomputable def B0 (h : Heap) : Prop := (∃ mb, h.Ns 0 mb ∧ ∀ x : Str, x ≠ "__name__" → mb x = bootBuiltins x) ∧ ∃ ob, h.get? 4 = some ob ∧ ob.cls = .type "module" ∧ ob.dict = some 0 ∧ ob.data = .plain
noncomputable def Stat (w : World) (h : Heap) : Prop := (K w.params).In h ∧ B0 h
noncomputable def dEs (o : Obj) : Array DictEntry := match o.data with | .dict es _ => es | _ => #[]
noncomputable def ob (P : Params) (a : Addr) : Obj := ((K P).lookup a).getD default
noncomputable def es3 (P : Params) : Array DictEntry := dEs (ob P 3)
noncomputable def allStr (es : Array DictEntry) : Bool := es.toList.all fun e => match e.key with | .str .. => true | _ => false
theorem strKeys_of {es : Array DictEntry} (h : allStr es = true) : StrKeys es := by
  intro e he
  have := List.all_eq_true.mp h e (by simpa using he)
  revert this
  cases e.key <;> intro q <;> first | exact ⟨_, _, rfl⟩ | cases q
theorem allStr3 (P : Params) : allStr (es3 P) = true := by kernel_rfl
/-- the places that stand -/
noncomputable def StA (P : Params) (a : Addr) : Prop := a = 0 ∨ a = 4 ∨ ∃ o, (K P).lookup a = some o
theorem Stat.move {w : World} {h h' : Heap} (S : Stat w h) (k : ∀ a o, StA w.params a → h.get? a = some o → h'.get? a = some o) : Stat w h' := by
  obtain ⟨S1, ⟨mb, ⟨o, es, ep, e, r⟩, hb⟩, ob, e4, r4⟩ := S
  exact ⟨fun a o ea => k a o (.inr (.inr ⟨o, ea⟩)) (S1 a o ea), ⟨mb, ⟨o, es, ep, k 0 o (.inl rfl) e, r⟩, hb⟩, ob, k 4 ob (.inr (.inl rfl)) e4, r4⟩
theorem Stat.has {w : World} {h : Heap} (S : Stat w h) {a : Addr} (x : StA w.params a) : ∃ o, h.get? a = some o := by
  obtain ⟨S1, ⟨mb, ⟨o, es, ep, e, r⟩, hb⟩, ob, e4, r4⟩ := S
  rcases x with rfl | rfl | ⟨o, ea⟩
  · exact ⟨_, e⟩
  · exact ⟨_, e4⟩
  · exact ⟨_, S1 _ _ ea⟩
theorem StA.of {P : Params} {a : Addr} {p : Addr → Bool} (x : StA P a) (key : ((0 : Addr) :: 4 :: (K P).map (·.1)).all p = true) : p a = true := by
  have mem : a ∈ ((0 : Addr) :: 4 :: (K P).map (·.1)) := by
    rcases x with rfl | rfl | ⟨o, ea⟩
    · exact .head _
    · exact .tail _ (.head _)
    · have h1 : a ∈ (K P).map (·.1) := List.mem_map_of_mem (f := (·.1)) (mem_of_lookupK ea)
      exact List.mem_cons_of_mem _ (List.mem_cons_of_mem _ h1)
  exact List.all_eq_true.mp key a mem
theorem Stat.keeps {w : World} {h h' : Heap} (S : Stat w h) (k : ∀ b o, h.get? b = some o → h'.get? b = some o) : Stat w h' := S.move fun a o _ e => k a o e
theorem Stat.at {w : World} {h : Heap} (S : Stat w h) (a : Addr) (e : (K w.params).lookup a = some (ob w.params a)) : h.get? a = some (ob w.params a) := S.1 _ _ e
theorem Stat.ns3 {w : World} {h : Heap} (S : Stat w h) : h.Ns 3 (nsFind (es3 w.params)) :=
  ⟨ob w.params 3, es3 w.params, 17, S.at 3 (by kernel_rfl), by kernel_rfl, strKeys_of (allStr3 _), fun _ => rfl⟩
theorem Stat.noLimit {w : World} {h : Heap} (S : Stat w h) : h.NoLimit :=
  ⟨nsFind #[], ⟨ob w.params 2, #[], 0, S.at 2 (by kernel_rfl), by kernel_rfl, fun e he => (nomatch he), fun _ => rfl⟩, by kernel_rfl⟩
theorem gl_len (P : Params) : nsFind (es3 P) "len" = none ∧ bootBuiltins "len" = some (.builtin "len") := ⟨by kernel_rfl, by kernel_rfl⟩

section
variable {w : World} {A : Around} {E : Value → Shared → Prop} {s : Shared} {env : Env}
/-- a built-in's name, read in a def -/
theorem nameB {x : Str} {pos : Pos} {v : Value} {Q : Value → Shared → Prop} (S : Stat w s.heap) (e : nsFind (es3 w.params) x = none ∧ bootBuiltins x = some v) (h : Q v s)
    (hk : env.scope.kind = .function := by rfl) (hx : env.kindOf x = some .globalImplicit := by rfl) (hg : env.globals = 3 := by rfl) (hb : env.builtins = 0 := by rfl) (hd : (x == ("__debug__" : Str)) = false := by decide) :
    wpAny (Md w) A (eval (.Name x pos) env) Q E s :=
  let ⟨_, n0, hb0⟩ := S.2.1
  have ne : x ≠ "__name__" := fun q => by
    have h1 := e.1
    rw [q] at h1
    have h2 : (nsFind (es3 w.params) "__name__").isSome = true := by kernel_rfl
    rw [h1] at h2; cases h2
  Name_function_global hk hx (loadGlobal_builtin (hg ▸ S.ns3) e.1 (hb ▸ n0) ((hb0 x ne).trans e.2) h) hd
/-- a def's name, read in a def -/
theorem nameG {x : Str} {pos : Pos} {v : Value} {Q : Value → Shared → Prop} (S : Stat w s.heap) (e : nsFind (es3 w.params) x = some v) (h : Q v s)
    (hk : env.scope.kind = .function := by rfl) (hx : env.kindOf x = some .globalImplicit := by rfl) (hg : env.globals = 3 := by rfl) (hd : (x == ("__debug__" : Str)) = false := by decide) :
    wpAny (Md w) A (eval (.Name x pos) env) Q E s :=
  Name_function_global hk hx (loadGlobal_global (hg ▸ S.ns3) e h) hd
end
/-- all stays but the two code tables -/
noncomputable def Ext (h h' : Heap) : Prop := ∀ b o, b ≠ 16 → b ≠ 23 → h.get? b = some o → h'.get? b = some o
theorem Ext.refl (h : Heap) : Ext h h := fun _ _ _ _ e => e
theorem Ext.trans {h₁ h₂ h₃ : Heap} (x : Ext h₁ h₂) (y : Ext h₂ h₃) : Ext h₁ h₃ := fun b o p q e => y b o p q (x b o p q e)
theorem Ext.of_keeps {h h' : Heap} (k : ∀ b o, h.get? b = some o → h'.get? b = some o) : Ext h h' := fun b o _ _ e => k b o e
theorem Stat.ext {w : World} {h h' : Heap} (S : Stat w h) (k : Ext h h') : Stat w h' := by
  refine S.move fun a o x e => ?_
  have := of_decide_eq_true (x.of (p := fun a => decide (a ≠ 16 ∧ a ≠ 23)) (by kernel_rfl))
  exact k a o this.1 this.2 e
/-- a code table: empty, or one nested def's code -/
noncomputable def Tab1 (h : Heap) (P : Addr) (pos : Pos) (qual : Str) : Prop :=
  ∃ ps, h.get? P = some (tabObj ps) ∧ (ps = #[] ∨ ∃ c, ps = #[rawInt pos.line, rawInt pos.col, .ref c] ∧ c ≠ 16 ∧ c ≠ 23 ∧ h.CodeRec (.ref c) qual)
noncomputable def pos16 : Pos := ⟨5, 4, 14, 28⟩
noncomputable def pos23 : Pos := ⟨20, 4, 25, 55⟩
structure Tab (h : Heap) : Prop where
  t16 : Tab1 h 16 pos16 "_int2digits.<locals>.inner"
  t23 : Tab1 h 23 pos23 "_digits2int.<locals>.inner"
end Mine

end
section
open PySem PySem.W PyProof.Rows PySem.Calls
set_option Elab.async false
set_option linter.unusedVariables false
set_option maxRecDepth 100000
namespace Mine
theorem ne_of_data {h : Heap} {a b : Addr} {oa ob : Obj} (ea : h.get? a = some oa) (eb : h.get? b = some ob) (hd : oa.data ≠ ob.data) : a ≠ b := by
  rintro rfl
  rw [ea] at eb
  cases eb
  exact hd rfl
/-- objects that no store to a name or a cell touches -/
noncomputable def still (o : Obj) : Prop := (∀ es n, o.data ≠ .dict es n) ∧ (∀ v, o.data ≠ .cell v)
theorem still_fields {c : Value} {d : Option Addr} {xs : Array Value} {sl : Array (Option Value)} : still ⟨c, d, .fields xs, sl⟩ := ⟨fun _ _ h => (nomatch h), fun _ h => (nomatch h)⟩
theorem Tab1.keeps {h h' : Heap} {P : Addr} {pos : Pos} {q : Str} (x : Tab1 h P pos q) (k : ∀ b o vs, o.data = .fields vs → h.get? b = some o → h'.get? b = some o) : Tab1 h' P pos q := by
  obtain ⟨ps, e, r⟩ := x
  refine ⟨ps, k _ _ _ rfl e, r.imp id ?_⟩
  rintro ⟨c, e1, e2, e3, c', o, vs, t, e4, e5, e6, e7⟩
  exact ⟨c, e1, e2, e3, c', o, vs, t, e4, k _ _ _ e6 e5, e6, e7⟩
theorem Tab.keeps {h h' : Heap} (x : Tab h) (k : ∀ b o vs, o.data = .fields vs → h.get? b = some o → h'.get? b = some o) : Tab h' := ⟨x.t16.keeps k, x.t23.keeps k⟩
theorem Tab1.ne {h : Heap} {P a : Addr} {pos : Pos} {q : Str} {o : Obj} (x : Tab1 h P pos q) (e : h.get? a = some o) (ho : ∀ vs, o.data ≠ .fields vs) : a ≠ P := by
  obtain ⟨ps, e', _⟩ := x
  rintro rfl
  rw [e] at e'
  cases e'
  exact ho _ rfl

/-- a frame at work: the frozen part f, the frame L with its names, its own cells -/
structure Fn (f : Heap) (L : Addr) (m : Str → Option Value) (cs : List (Str × Addr)) (cm : Str → Option Value) (h : Heap) : Prop where
  ns : h.Ns L m
  cell : ∀ n c, cs.lookup n = some c → h.IsCell c (cm n)
  apart : cs.Pairwise fun x y => x.2 ≠ y.2
  keep : ∀ b o, f.get? b = some o → h.get? b = some o
  noL : f.get? L = none
  noC : ∀ n c, cs.lookup n = some c → f.get? c = none
  no16 : f.get? 16 = none
  no23 : f.get? 23 = none
  tab : Tab h

/-- a state: all as in s₀ but the heap and the tokens -/
abbrev St (s₀ : Shared) (h : Heap) (tk : Nat) : Shared := { s₀ with heap := h, toks := tk }

section
variable {f h h' : Heap} {L : Addr} {m : Str → Option Value} {cs : List (Str × Addr)} {cm : Str → Option Value}
theorem Fn.ne16 (F : Fn f L m cs cm h) : L ≠ 16 ∧ L ≠ 23 := by
  obtain ⟨o, es, ep, e, hd, _⟩ := F.ns
  exact ⟨F.tab.t16.ne e (by rw [hd]; intro vs h; cases h), F.tab.t23.ne e (by rw [hd]; intro vs h; cases h)⟩
theorem Fn.ext (F : Fn f L m cs cm h) (x : Ext h h') (t : Tab h') : Fn f L m cs cm h' := by
  refine ⟨?_, fun n c hc => ?_, F.apart, fun b o e => x b o ?_ ?_ (F.keep b o e), F.noL, F.noC, F.no16, F.no23, t⟩
  · obtain ⟨o, es, ep, e, r⟩ := F.ns
    exact ⟨o, es, ep, x L o F.ne16.1 F.ne16.2 e, r⟩
  · obtain ⟨o, e, hd⟩ := F.cell n c hc
    exact ⟨o, x c o (F.tab.t16.ne e (by rw [hd]; intro vs h; cases h)) (F.tab.t23.ne e (by rw [hd]; intro vs h; cases h)) e, hd⟩
  · rintro rfl; rw [F.no16] at e; cases e
  · rintro rfl; rw [F.no23] at e; cases e
/-- all that stands grows: nothing is lost -/
theorem Fn.keeps (F : Fn f L m cs cm h) (k : ∀ b o, h.get? b = some o → h'.get? b = some o) : Fn f L m cs cm h' :=
  F.ext (Ext.of_keeps k) (F.tab.keeps fun b o _ _ e => k b o e)
theorem Fn.cellNe (F : Fn f L m cs cm h) {n : Str} {c : Addr} (hc : cs.lookup n = some c) : c ≠ L := by
  obtain ⟨o, e, hd⟩ := F.cell n c hc
  obtain ⟨o', es, ep, e', hd', _⟩ := F.ns
  exact ne_of_data e e' (by rw [hd, hd']; intro h; cases h)
/-- a store that turns one object (a list of the frame's own, say): the rest as it was -/
theorem Fn.sameBut (F : Fn f L m cs cm h) {d : Addr} {o : Obj} {xs : Array Value} {n : Nat} (hs : Heap.SameBut d h h') (e : h.get? d = some o) (ho : o.data = .seq xs n) (hf : f.get? d = none) : Fn f L m cs cm h' := by
  refine ⟨?_, fun nm c hc => ?_, F.apart, fun b ob eb => ?_, F.noL, F.noC, F.no16, F.no23, ?_⟩
  · obtain ⟨o', es, ep, e', hd', r⟩ := F.ns
    exact ⟨o', es, ep, (hs.2 L (ne_of_data e' e (by rw [hd', ho]; intro h; cases h))).trans e', hd', r⟩
  · obtain ⟨o', e', hd'⟩ := F.cell nm c hc
    exact ⟨o', (hs.2 c (ne_of_data e' e (by rw [hd', ho]; intro h; cases h))).trans e', hd'⟩
  · refine (hs.2 b ?_).trans (F.keep b ob eb)
    rintro rfl; rw [hf] at eb; cases eb
  · refine F.tab.keeps fun b ob vs hv eb => (hs.2 b (ne_of_data eb e (by rw [hv, ho]; intro h; cases h))).trans eb

/-- freezing: all but the frame, its cells, the tables and what the list names -/
theorem Fn.freeze (F : Fn f L m cs cm h) (ex : List Addr) : Fn (hideAll h (16 :: 23 :: L :: cs.map (·.2) ++ ex)) L m cs cm h := by
  refine ⟨F.ns, F.cell, F.apart, fun b o e => of_hideAll _ e, hideAll_none _ (by simp), fun n c hc => hideAll_none _ ?_, hideAll_none _ (by simp), hideAll_none _ (by simp), F.tab⟩
  have := mem_of_lookup hc
  simp only [List.cons_append, List.mem_cons, List.mem_append, List.mem_map]
  exact .inr (.inr (.inr (.inl ⟨_, this, rfl⟩)))
end

noncomputable def upd (m : Str → Option Value) (x : Str) (v : Value) : Str → Option Value := fun y => if y = x then some v else m y

section
variable {w : World} {A : Around} {E : Value → Shared → Prop} {s₀ : Shared} {h : Heap} {tk : Nat} {env : Env} {f : Heap} {m cm : Str → Option Value} {L : Addr} {cs : List (Str × Addr)}
theorem stL {x : Str} {v : Value} {Q : Unit → Shared → Prop} (F : Fn f L m cs cm h)
    (hq : ∀ h' tk', Fn f L (upd m x v) cs cm h' → (∀ b o, still o → h.get? b = some o → h'.get? b = some o) → Q () (St s₀ h' tk'))
    (hk : env.scope.kind = .function := by rfl) (hl : env.kindOf x = some .local := by rfl) (hL : env.locals = L := by rfl) : wpAny (Md w) A (storeName env x v) Q E (St s₀ h tk) := by
  subst hL
  refine wpAny_storeName_local hl F.ns (fun h' hn hs => hq h' _ ?_ ?_) (by rw [hk]; rfl)
  · refine ⟨hn, fun nm c hc => ?_, F.apart, fun b o e => ?_, F.noL, F.noC, F.no16, F.no23, ?_⟩
    · obtain ⟨o, e, hd⟩ := F.cell nm c hc
      exact ⟨o, (hs.2 c (F.cellNe hc)).trans e, hd⟩
    · refine (hs.2 b ?_).trans (F.keep b o e)
      rintro rfl; rw [F.noL] at e; cases e
    · obtain ⟨o', es, ep, e', hd', _⟩ := F.ns
      exact F.tab.keeps fun b ob vs hv eb => (hs.2 b (ne_of_data eb e' (by rw [hv, hd']; intro h; cases h))).trans eb
  · intro b o ho e
    obtain ⟨o', es, ep, e', hd', _⟩ := F.ns
    exact (hs.2 b (ne_of_data e e' (by rw [hd']; exact ho.1 _ _))).trans e
theorem stC {x : Str} {v : Value} {c : Addr} {Q : Unit → Shared → Prop} (F : Fn f L m cs cm h) (hc : cs.lookup x = some c)
    (hq : ∀ h' tk', Fn f L m cs (upd cm x v) h' → (∀ b o, still o → h.get? b = some o → h'.get? b = some o) → Q () (St s₀ h' tk'))
    (he : env.cells = cs := by rfl) (hk : env.scope.kind = .function := by rfl) (hl : env.kindOf x = some .cell := by rfl) : wpAny (Md w) A (storeName env x v) Q E (St s₀ h tk) := by
  refine wpAny_storeName_cell hk hl (he ▸ hc) (F.cell x c hc) fun h' hn hs => hq h' _ ?_ ?_
  · obtain ⟨oc, ec, hdc⟩ := F.cell x c hc
    refine ⟨?_, fun nm c' hc' => ?_, F.apart, fun b o e => ?_, F.noL, F.noC, F.no16, F.no23, ?_⟩
    · obtain ⟨o', es, ep, e', r⟩ := F.ns
      exact ⟨o', es, ep, (hs.2 _ (Ne.symm (F.cellNe hc))).trans e', r⟩
    · by_cases hx : nm = x
      · subst hx
        rw [hc] at hc'; cases hc'
        simpa [upd] using hn
      · have hcc : c' ≠ c := fun e => hx (name_of_addr F.apart (mem_of_lookup hc') (e ▸ mem_of_lookup hc))
        simp only [upd, if_neg hx]
        exact (F.cell nm c' hc').sameBut hs hcc
    · refine (hs.2 b ?_).trans (F.keep b o e)
      rintro rfl; rw [F.noC _ _ hc] at e; cases e
    · exact F.tab.keeps fun b ob vs hv eb => (hs.2 b (ne_of_data eb ec (by rw [hv, hdc]; intro h; cases h))).trans eb
  · intro b o ho e
    obtain ⟨o', e', hd'⟩ := F.cell x c hc
    exact (hs.2 b (ne_of_data e e' (by rw [hd']; exact ho.2 _))).trans e
theorem stL' {x : Str} {v : Value} {Q : Unit → Shared → Prop} (F : Fn f L m cs cm h)
    (hq : ∀ h' tk', Fn f L (upd m x v) cs cm h' → Heap.SameBut L h h' → Q () (St s₀ h' tk'))
    (hk : env.scope.kind = .function := by rfl) (hl : env.kindOf x = some .local := by rfl) (hL : env.locals = L := by rfl) : wpAny (Md w) A (storeName env x v) Q E (St s₀ h tk) := by
  subst hL
  refine wpAny_storeName_local hl F.ns (fun h' hn hs => hq h' _ ?_ ?_) (by rw [hk]; rfl)
  · refine ⟨hn, fun nm c hc => ?_, F.apart, fun b o e => ?_, F.noL, F.noC, F.no16, F.no23, ?_⟩
    · obtain ⟨o, e, hd⟩ := F.cell nm c hc
      exact ⟨o, (hs.2 c (F.cellNe hc)).trans e, hd⟩
    · refine (hs.2 b ?_).trans (F.keep b o e)
      rintro rfl; rw [F.noL] at e; cases e
    · obtain ⟨o', es, ep, e', hd', _⟩ := F.ns
      exact F.tab.keeps fun b ob vs hv eb => (hs.2 b (ne_of_data eb e' (by rw [hv, hd']; intro h; cases h))).trans eb
  · exact hs
theorem stC' {x : Str} {v : Value} {c : Addr} {Q : Unit → Shared → Prop} (F : Fn f L m cs cm h) (hc : cs.lookup x = some c)
    (hq : ∀ h' tk', Fn f L m cs (upd cm x v) h' → Heap.SameBut c h h' → Q () (St s₀ h' tk'))
    (he : env.cells = cs := by rfl) (hk : env.scope.kind = .function := by rfl) (hl : env.kindOf x = some .cell := by rfl) : wpAny (Md w) A (storeName env x v) Q E (St s₀ h tk) := by
  refine wpAny_storeName_cell hk hl (he ▸ hc) (F.cell x c hc) fun h' hn hs => hq h' _ ?_ ?_
  · obtain ⟨oc, ec, hdc⟩ := F.cell x c hc
    refine ⟨?_, fun nm c' hc' => ?_, F.apart, fun b o e => ?_, F.noL, F.noC, F.no16, F.no23, ?_⟩
    · obtain ⟨o', es, ep, e', r⟩ := F.ns
      exact ⟨o', es, ep, (hs.2 _ (Ne.symm (F.cellNe hc))).trans e', r⟩
    · by_cases hx : nm = x
      · subst hx
        rw [hc] at hc'; cases hc'
        simpa [upd] using hn
      · have hcc : c' ≠ c := fun e => hx (name_of_addr F.apart (mem_of_lookup hc') (e ▸ mem_of_lookup hc))
        simp only [upd, if_neg hx]
        exact (F.cell nm c' hc').sameBut hs hcc
    · refine (hs.2 b ?_).trans (F.keep b o e)
      rintro rfl; rw [F.noC _ _ hc] at e; cases e
    · exact F.tab.keeps fun b ob vs hv eb => (hs.2 b (ne_of_data eb ec (by rw [hv, hdc]; intro h; cases h))).trans eb
  · exact hs
end

noncomputable def flowVal : Flow → Value
  | .ret v => v
  | _ => .none

section
variable {w : World} {A : Around} {s₀ : Shared} {h : Heap} {tk : Nat} {R : Result → Shared → Prop}
/-- a call of a def of the text (with cells of its own or without) -/
theorem enterC {a : Addr} {oc : Value} {od : Option Addr} {sl : Array (Option Value)} {fd : FuncData} {body : List Stmt} {args : Args} {binds : List (Str × Value)} {m cm : Str → Option Value} {cs : Addr → List (Str × Addr)}
    (hroom : A.depth < recursionLimit) (S : Stat w h) (T : Tab h) (ho : h.get? a = some ⟨oc, od, .func fd, sl⟩) (hbody : fd.body = .stmts body) (hclo : fd.closure = []) (hcd : h.CodeRec fd.code fd.qualname)
    (hbind : bindArgs fd args = pure binds) (hkind : (binds.all fun y => fd.scope.names.lookup y.1 == some .local || fd.scope.names.lookup y.1 == some .cell) = true)
    (hcs : ∀ L, cellsFrom (L + 1) fd.scope.names [] = cs L) (hm : bindL (fun x => fd.scope.names.lookup x) binds (fun _ => none) = m) (hcm : bindC (fun x => fd.scope.names.lookup x) binds (fun _ => none) = cm)
    (hq : ∀ L h' tk', (∀ b o, h.get? b = some o → h'.get? b = some o) → h.objs.size ≤ L → Fn (hideAll h [16, 23]) L m (cs L) cm h' →
      wpAny (Md w) (A.deeper (newEnv fd.scope L fd.globals (cs L) (fd.qualname ++ ".<locals>.") (some a) fd.code none fd.builtins))
        (execs body (newEnv fd.scope L fd.globals (cs L) (fd.qualname ++ ".<locals>.") (some a) fd.code none fd.builtins)) (fun fl s' => R (.ok (.ret (flowVal fl))) s') (fun _ _ => False) (St s₀ h' tk'))
    (hco : fd.scope.isCoroutine = false := by rfl) (hgen : fd.scope.isGenerator = false := by rfl) (hk : fd.scope.kind = .function := by rfl) :
    codeAny (Md w) A (.call (.ref a) args) R (St s₀ h tk) := by
  refine codeAny_call_function hroom ho rfl hco hgen hbody hcd ?_
  rw [hbind]
  refine wpAny_pure ?_
  rw [hclo]
  refine wpAny_newFunctionEnv_cells hk (kindsX hkind _) fun env he s' x => ?_
  subst he
  refine ⟨S.noLimit.keeps x.toInCall.keep, codeAny_func ?_⟩
  obtain ⟨h', tk', rfl, hk'⟩ := x.done
  have hcs' := hcs h.objs.size
  have hns : h'.Ns h.objs.size m := hm ▸ x.toInCall.ns
  have hce : ∀ n c, (cellsFrom (h.objs.size + 1) fd.scope.names []).lookup n = some c → h'.IsCell c (cm n) := fun n c hc => hcm ▸ x.cell n c hc
  have hap := x.apart
  have hab := x.above
  clear x
  show wpAny (Md w) (A.deeper (newEnv fd.scope h.objs.size fd.globals (cellsFrom (h.objs.size + 1) fd.scope.names []) (fd.qualname ++ ".<locals>.") (some a) fd.code none fd.builtins)) (execs body (newEnv fd.scope h.objs.size fd.globals (cellsFrom (h.objs.size + 1) fd.scope.names []) (fd.qualname ++ ".<locals>.") (some a) fd.code none fd.builtins)) _ _ _
  have hap' : (cs h.objs.size).Pairwise fun x y => x.2 ≠ y.2 := hcs' ▸ hap
  have hab' : ∀ n c, (n, c) ∈ cs h.objs.size → h.objs.size < c := fun n c hm => hab n c (hcs' ▸ hm)
  rw [hcs'] at hce ⊢
  refine wpAny_mono (hq h.objs.size h' tk' hk' (Nat.le_refl _) ⟨hns, hce, hap', fun b o e => hk' b o (of_hideAll _ e), ?_, fun n c hc => ?_, hideAll_none _ (by simp), hideAll_none _ (by simp), T.keeps fun b o _ _ e => hk' b o e⟩) (fun fl s' h' => ?_) fun _ _ h' => h'.elim
  · exact Heap.get?_none_of_le (Nat.le_of_eq (hideAll_size _ _))
  · exact Heap.get?_none_of_le (Nat.le_trans (Nat.le_of_eq (hideAll_size _ _)) (Nat.le_of_lt (hab' n c (mem_of_lookup hc))))
  · cases fl <;> exact h'
/-- a call of a closure -/
theorem enterF {ex : List Addr} {a : Addr} {oc : Value} {od : Option Addr} {sl : Array (Option Value)} {fd : FuncData} {body : List Stmt} {args : Args} {binds : List (Str × Value)}
    (hroom : A.depth < recursionLimit) (S : Stat w h) (T : Tab h) (ho : h.get? a = some ⟨oc, od, .func fd, sl⟩) (hbody : fd.body = .stmts body) (hcd : h.CodeRec fd.code fd.qualname)
    (hbind : bindArgs fd args = pure binds) (hcell : (fd.scope.names.all fun x => !(x.2 == .cell)) = true) (hloc : (binds.all fun x => fd.scope.names.lookup x.1 == some .local) = true)
    (hq : ∀ L h' tk', (∀ b o, h.get? b = some o → h'.get? b = some o) → h.objs.size ≤ L →
      Fn (hideAll h (16 :: 23 :: ex)) L (fun x => binds.reverse.lookup x) [] (fun _ => none) h' →
      wpAny (Md w) (A.deeper (callEnv fd L a)) (execs body (callEnv fd L a)) (fun fl s' => R (.ok (.ret (flowVal fl))) s') (fun _ _ => False) (St s₀ h' tk'))
    (hco : fd.scope.isCoroutine = false := by rfl) (hgen : fd.scope.isGenerator = false := by rfl) (hk : fd.scope.kind = .function := by rfl) :
    codeAny (Md w) A (.call (.ref a) args) R (St s₀ h tk) := by
  refine codeAny_call_def hroom ho rfl S.noLimit hcd hbody (BindsTo.of_eq hbind) (fun x hx e => by have := List.all_eq_true.mp hcell x hx; rw [e] at this; cases this) (fun x hx => beq_iff_eq.mp (List.all_eq_true.mp hloc x hx)) (fun h' hns hk' => ?_) hco hgen hk
  refine wpAny_mono (hq h.objs.size h' _ hk' (Nat.le_refl _) ⟨hns, fun n c hc => (nomatch hc), List.Pairwise.nil, fun b o e => hk' b o (of_hideAll _ e), ?_, fun n c hc => (nomatch hc), hideAll_none _ (by simp), hideAll_none _ (by simp), T.keeps fun b o _ _ e => hk' b o e⟩) (fun fl s' h' => ?_) fun _ _ h' => h'.elim
  · exact Heap.get?_none_of_le (Nat.le_of_eq (hideAll_size _ _))
  · cases fl <;> exact h'
end
theorem Ext.of_frozen {h h' : Heap} (k : ∀ b o, (hideAll h [16, 23]).get? b = some o → h'.get? b = some o) : Ext h h' := fun b o p q e => k b o (hideAll_get _ e (by simp [p, q]))
end Mine

end
section
open PySem PySem.W PyProof.Rows PySem.Calls
set_option Elab.async false
set_option linter.unusedVariables false
set_option maxRecDepth 100000
namespace Mine
noncomputable def evArgs (M : Model) (A : Around) (env : Env) (E : Value → Shared → Prop) : List Expr → (List Value → Shared → Prop) → Shared → Prop
  | [], Q, s => Q [] s
  | e :: r, Q, s => wpAny M A (eval e env) (fun v s₁ => evArgs M A env E r (fun vs s₂ => Q (v :: vs) s₂) s₁) E s
section
variable {w : World} {A : Around} {E : Value → Shared → Prop} {env : Env}
theorem spliced_evArgs : ∀ (es : List Expr) (Q : List Value → Shared → Prop) (s : Shared), evArgs (Md w) A env E es Q s → wpAny (Md w) A (spliced (es.map fun e => (false, eval e env))) Q E s
  | [], _, _, h => spliced_nil h
  | e :: r, Q, s, h => spliced_cons (wpAny_mono h (fun v s₁ h₁ => spliced_evArgs r _ s₁ h₁) fun _ _ x => x)
end
/-- an expression that yields v and turns no object -/
noncomputable def EvV (w : World) (A : Around) (env : Env) (s₀ : Shared) (h : Heap) (e : Expr) (v : Value) : Prop :=
  ∀ (tk : Nat) (Q : Value → Shared → Prop) (E : Value → Shared → Prop), (∀ tk', Q v (St s₀ h tk')) → wpAny (Md w) A (eval e env) Q E (St s₀ h tk)
/-- an expression that yields the int i and turns no object -/
noncomputable def EvI (w : World) (A : Around) (env : Env) (s₀ : Shared) (h : Heap) (e : Expr) (i : Int) : Prop :=
  ∀ (tk : Nat) (Q : Value → Shared → Prop) (E : Value → Shared → Prop), (∀ t tk', Q (.int i t) (St s₀ h tk')) → wpAny (Md w) A (eval e env) Q E (St s₀ h tk)
/-- a test -/
noncomputable def Tst (w : World) (A : Around) (env : Env) (s₀ : Shared) (h : Heap) (e : Expr) (b : Bool) : Prop :=
  ∀ (tk : Nat) (Q : Bool → Shared → Prop) (E : Value → Shared → Prop), (∀ tk', Q b (St s₀ h tk')) → wpAny (Md w) A (isTrue e env (eval e env)) Q E (St s₀ h tk)
section
variable {w : World} {A : Around} {env : Env} {s₀ : Shared} {h f : Heap} {m cm : Str → Option Value} {cs : List (Str × Addr)}
theorem evL {x : Str} {pos : Pos} {v : Value} (F : Fn f env.locals m cs cm h) (hv : m x = some v)
    (hk : env.scope.kind = .function := by rfl) (hl : env.kindOf x = some .local := by rfl) (hd : (x == ("__debug__" : Str)) = false := by decide) : EvV w A env s₀ h (.Name x pos) v :=
  fun _ _ _ hq => wpAny_Name (wpAny_loadName_local hk hl F.ns hv (hq _)) hd
theorem evC {x : Str} {pos : Pos} {v : Value} {c : Addr} {L : Addr} (F : Fn f L m cs cm h) (hc : cs.lookup x = some c) (hv : cm x = some v) (he : env.cells = cs := by rfl)
    (hk : env.scope.kind = .function := by rfl) (hl : env.kindOf x = some .cell := by rfl) (hd : (x == ("__debug__" : Str)) = false := by decide) : EvV w A env s₀ h (.Name x pos) v :=
  fun _ _ _ hq => wpAny_Name (wpAny_loadName_cell hk hl (he ▸ hc) (hv ▸ F.cell x c hc) (hq _)) hd
theorem evF {x : Str} {pos : Pos} {v : Value} {c : Addr} (hv : h.IsCell c (some v)) (hc : env.cells.lookup x = some c := by rfl)
    (hk : env.scope.kind = .function := by rfl) (hl : env.kindOf x = some .free := by rfl) (hd : (x == ("__debug__" : Str)) = false := by decide) (hn : (x == ("__classdict__" : Str)) = false := by decide) : EvV w A env s₀ h (.Name x pos) v :=
  fun _ _ _ hq => wpAny_Name (wpAny_loadName_free hk hl hc hv (hq _) hn) hd
theorem evB {x : Str} {pos : Pos} {v : Value} (S : Stat w h) (e : nsFind (es3 w.params) x = none ∧ bootBuiltins x = some v)
    (hk : env.scope.kind = .function := by rfl) (hx : env.kindOf x = some .globalImplicit := by rfl) (hg : env.globals = 3 := by rfl) (hb : env.builtins = 0 := by rfl) (hd : (x == ("__debug__" : Str)) = false := by decide) :
    EvV w A env s₀ h (.Name x pos) v := fun _ _ _ hq => nameB S e (hq _) hk hx hg hb hd
theorem evG {x : Str} {pos : Pos} {v : Value} (S : Stat w h) (e : nsFind (es3 w.params) x = some v)
    (hk : env.scope.kind = .function := by rfl) (hx : env.kindOf x = some .globalImplicit := by rfl) (hg : env.globals = 3 := by rfl) (hd : (x == ("__debug__" : Str)) = false := by decide) :
    EvV w A env s₀ h (.Name x pos) v := fun _ _ _ hq => nameG S e (hq _) hk hx hg hd
theorem EvV.i {e : Expr} {i : Int} {t : Tok} (x : EvV w A env s₀ h e (.int i t)) : EvI w A env s₀ h e i := fun tk Q E hq => x tk Q E fun tk' => hq t tk'
theorem evK {i : Int} {k : Nat} {pos : Pos} : EvI w A env s₀ h (.Constant (.int i) k pos) i := fun _ _ _ hq => wpAny_Constant_int (hq _ _)
section
variable {a b : Expr} {i j : Int} {pos : Pos}
theorem EvI.bin {op : Operator} {r : Int} (x : EvI w A env s₀ h a i) (y : EvI w A env s₀ h b j)
    (ho : ∀ (t u : Tok) (tk : Nat) (Q : Value → Shared → Prop) (E : Value → Shared → Prop), (∀ t tk', Q (.int r t) (St s₀ h tk')) → wpAny (Md w) A (binaryOp op (.int i t) (.int j u)) Q E (St s₀ h tk)) : EvI w A env s₀ h (.BinOp a op b pos) r :=
  fun tk Q E hq => wpAny_BinOp (x tk _ E fun t tk₁ => y tk₁ _ E fun u tk₂ => ho t u tk₂ Q E hq)
theorem EvI.add (x : EvI w A env s₀ h a i) (y : EvI w A env s₀ h b j) : EvI w A env s₀ h (.BinOp a .Add b pos) (i + j) := x.bin y fun _ _ _ _ _ hq => add_int (hq _ _)
theorem EvI.sub (x : EvI w A env s₀ h a i) (y : EvI w A env s₀ h b j) : EvI w A env s₀ h (.BinOp a .Sub b pos) (i - j) := x.bin y fun _ _ _ _ _ hq => sub_int (hq _ _)
theorem EvI.mul (x : EvI w A env s₀ h a i) (y : EvI w A env s₀ h b j) (hm : IntMulOk i j) : EvI w A env s₀ h (.BinOp a .Mult b pos) (i * j) := x.bin y fun _ _ _ _ _ hq => mul_int (hq _ _) hm
theorem EvI.shl (x : EvI w A env s₀ h a i) (y : EvI w A env s₀ h b j) (h1 : 0 ≤ j) (h2 : j ≤ 1000000) (h3 : i.natAbs < 2 ^ 64) : EvI w A env s₀ h (.BinOp a .LShift b pos) (i * 2 ^ j.toNat) := x.bin y fun _ _ _ _ _ hq => lshift_int_small h1 h2 h3 (hq _ _)
theorem EvI.shr (x : EvI w A env s₀ h a i) (y : EvI w A env s₀ h b j) (h1 : 0 ≤ j) : EvI w A env s₀ h (.BinOp a .RShift b pos) (i.fdiv (2 ^ j.toNat)) := x.bin y fun _ _ _ _ _ hq => rshift_int h1 (hq _ _)
theorem EvI.xor (x : EvI w A env s₀ h a i) (y : EvI w A env s₀ h b j) : EvI w A env s₀ h (.BinOp a .BitXor b pos) (Builtin.bitXor i j) := x.bin y fun _ _ _ _ _ hq => xor_int (hq _ _)
theorem EvI.fdiv (x : EvI w A env s₀ h a i) (y : EvI w A env s₀ h b j) (h1 : j ≠ 0) (h2 : j.natAbs < 1073741824) : EvI w A env s₀ h (.BinOp a .FloorDiv b pos) (i.fdiv j) := x.bin y fun _ _ _ _ _ hq => floordiv_int h1 (hq _ _) (.inl (PyProof.noPylong_small h2))
theorem EvI.eq {r : Int} (x : EvI w A env s₀ h a i) (e : i = r) : EvI w A env s₀ h a r := e ▸ x
theorem tst_eq (x : EvI w A env s₀ h a i) (y : EvI w A env s₀ h b j) (hm : behindInMarks .Eq b = false := by with_unfolding_all rfl) : Tst w A env s₀ h (.Compare a [.Eq] [b] pos) (i == j) :=
  fun tk Q E hq => wpAny_isTrue_Compare1 (x tk _ E fun t tk₁ => y tk₁ _ E fun u tk₂ => eq_int (wpAny_truthy_bool (hq _))) hm
theorem tst_lt (x : EvI w A env s₀ h a i) (y : EvI w A env s₀ h b j) (hm : behindInMarks .Lt b = false := by with_unfolding_all rfl) : Tst w A env s₀ h (.Compare a [.Lt] [b] pos) (decide (i < j)) :=
  fun tk Q E hq => wpAny_isTrue_Compare1 (x tk _ E fun t tk₁ => y tk₁ _ E fun u tk₂ => lt_int (wpAny_truthy_bool (hq _))) hm
end
/-- an item of a list at a place within it -/
theorem evItem {value slice : Expr} {pos : Pos} {l : Addr} {items : Array Value} {k : Int} {x : Value} (hv : EvV w A env s₀ h value (.ref l)) (hi : EvI w A env s₀ h slice k) (hl : h.IsList l items) (h0 : 0 ≤ k) (hfit : k < 2 ^ 63) (hx : items[k.toNat]? = some x)
    (hs : ∀ t, subscripted slice false (.ref l) (.int k t) = operate [.ref l, .int k t] (getItem (.ref l) (.int k t)) := by intro _; with_unfolding_all rfl) : EvV w A env s₀ h (.Subscript value slice pos) x :=
  fun tk Q E hq => Subscript_ (hv tk _ E fun tk₁ => hi tk₁ _ E fun t tk₂ => tail_any (s := St s₀ h tk₂) (Heap.IsList.typeIs hl) slot_list_getitem.lookup (wpAny_getItem_list hl h0 hfit hx (hq _)) (hs t))
variable {E : Value → Shared → Prop} {tk : Nat}
/-- a call of a function object under a name -/
theorem callF {a : Addr} {x : Str} {p pos : Pos} {e : Expr} {rest : List Expr} {Q : Value → Shared → Prop} (hn : EvV w A env s₀ h (.Name x p) (.ref a))
    (hq : ∀ tk', evArgs (Md w) A env E (e :: rest) (fun vs s₁ => FnAt a s₁.heap ∧ wpAny (Md w) A (call (.ref a) vs) Q E s₁) (St s₀ h tk'))
    (hs : backTo pos (starEach (e :: rest) env) = (e :: rest).map (fun e => (false, eval e env)) := by rfl) :
    wpAny (Md w) A (eval (.Call (.Name x p) (e :: rest) [] pos) env) Q E (St s₀ h tk) := by
  refine wpAny_Call_NameR (hn tk _ E fun tk' => ?_)
  rw [hs]
  refine callWith_of (P := FnAt a) (first := []) ?_ keeps_F (evalArgs_plain (spliced_evArgs (e :: rest) _ _ (hq tk')))
  simp
/-- a call of a built-in under a name -/
theorem callB {id : String} {x : Str} {p pos : Pos} {e : Expr} {rest : List Expr} {Q : Value → Shared → Prop} (hn : EvV w A env s₀ h (.Name x p) (.builtin id))
    (hq : ∀ tk', evArgs (Md w) A env E (e :: rest) (fun vs s₁ => wpAny (Md w) A (call (.builtin id) vs) Q E s₁) (St s₀ h tk'))
    (hs : backTo pos (starEach (e :: rest) env) = (e :: rest).map (fun e => (false, eval e env)) := by rfl) :
    wpAny (Md w) A (eval (.Call (.Name x p) (e :: rest) [] pos) env) Q E (St s₀ h tk) := by
  refine wpAny_Call_NameR (hn tk _ E fun tk' => ?_)
  rw [hs]
  exact callWith_builtin (by simp) (evalArgs_plain (spliced_evArgs (e :: rest) _ _ (hq tk')))
/-- a call of a built-in type under a name -/
theorem callT {T : String} {x : Str} {p pos : Pos} {e : Expr} {rest : List Expr} {Q : Value → Shared → Prop} (hn : EvV w A env s₀ h (.Name x p) (.type T))
    (hq : ∀ tk', evArgs (Md w) A env E (e :: rest) (fun vs s₁ => wpAny (Md w) A (call (.type T) vs) Q E s₁) (St s₀ h tk'))
    (hs : backTo pos (starEach (e :: rest) env) = (e :: rest).map (fun e => (false, eval e env)) := by rfl) :
    wpAny (Md w) A (eval (.Call (.Name x p) (e :: rest) [] pos) env) Q E (St s₀ h tk) := by
  refine wpAny_Call_NameR (hn tk _ E fun tk' => ?_)
  rw [hs]
  exact PySem.callWith_type (by simp) (evalArgs_plain (spliced_evArgs (e :: rest) _ _ (hq tk')))
theorem EvI.run {e : Expr} {i : Int} {Q : Value → Shared → Prop} (x : EvI w A env s₀ h e i) (hq : ∀ t tk', Q (.int i t) (St s₀ h tk')) : wpAny (Md w) A (eval e env) Q E (St s₀ h tk) := x tk Q E hq
theorem EvV.run {e : Expr} {v : Value} {Q : Value → Shared → Prop} (x : EvV w A env s₀ h e v) (hq : ∀ tk', Q v (St s₀ h tk')) : wpAny (Md w) A (eval e env) Q E (St s₀ h tk) := x tk Q E hq
theorem Tst.run {e : Expr} {b : Bool} {Q : Bool → Shared → Prop} (x : Tst w A env s₀ h e b) (hq : ∀ tk', Q b (St s₀ h tk')) : wpAny (Md w) A (isTrue e env (eval e env)) Q E (St s₀ h tk) := x tk Q E hq
/-- x = e, an int, a local name -/
theorem asI {x : Str} {pos pos' : Pos} {e : Expr} {i : Int} {L : Addr} {Q : Flow → Shared → Prop} (F : Fn f L m cs cm h) (hx : EvI w A env s₀ h e i)
    (hq : ∀ t h' tk', Fn f L (upd m x (.int i t)) cs cm h' → (∀ b o, still o → h.get? b = some o → h'.get? b = some o) → Q .next (St s₀ h' tk'))
    (hk : env.scope.kind = .function := by rfl) (hl : env.kindOf x = some .local := by rfl) (hL : env.locals = L := by rfl) (hs : swapsWith e (some (.Name x pos')) pos.line env = pure false := by rfl) : wpAny (Md w) A (exec (.Assign [.Name x pos'] e pos) env) Q E (St s₀ h tk) :=
  wpAny_Assign_Name (hx tk _ E fun t tk₁ => stL F (fun h' tk' F' k => hq t h' tk' F' k) hk hl hL) hs
theorem ifI {test : Expr} {body orelse : List Stmt} {pos : Pos} {b : Bool} {Q : Flow → Shared → Prop} (x : Tst w A env s₀ h test b) (h1 : b = true → ∀ tk', wpAny (Md w) A (execs body env) Q E (St s₀ h tk')) (h2 : b = false → ∀ tk', wpAny (Md w) A (execs orelse env) Q E (St s₀ h tk')) :
    wpAny (Md w) A (exec (.If test body orelse pos) env) Q E (St s₀ h tk) :=
  wpAny_If (x tk _ E fun tk' => by cases b with | true => exact h1 rfl tk' | false => exact h2 rfl tk')
theorem retV {e : Expr} {pos : Pos} {v : Value} {Q : Flow → Shared → Prop} (x : EvV w A env s₀ h e v) (hq : ∀ tk', Q (.ret v) (St s₀ h tk')) : wpAny (Md w) A (exec (.Return (some e) pos) env) Q E (St s₀ h tk) :=
  wpAny_Return_some (x tk _ E hq)
end
/-- the digits' number, the lowest first -/
noncomputable def und (n : Nat) : List Int → Int
  | [] => 0
  | d :: r => d + 2 ^ n * und n r
theorem und_append (n : Nat) : ∀ a b : List Int, und n (a ++ b) = und n a + 2 ^ (n * a.length) * und n b
  | [], b => by simp [und]
  | d :: a, b => by
    simp only [List.cons_append, und, und_append n a b, List.length_cons, Nat.mul_add, Nat.mul_one, Int.mul_add, Int.pow_add]
    rw [← Int.mul_assoc, Int.mul_comm (2 ^ n) (2 ^ (n * a.length))]
    lia
noncomputable def Digs (n : Nat) (ds : List Int) : Prop := ∀ d ∈ ds, 0 ≤ d ∧ d < 2 ^ n
theorem und_bound (n : Nat) : ∀ ds : List Int, Digs n ds → 0 ≤ und n ds ∧ und n ds < 2 ^ (n * ds.length)
  | [], _ => by simp [und]
  | d :: r, h => by
    have ih := und_bound n r fun x hx => h x (.tail _ hx)
    have hd := h d (.head _)
    simp only [und, List.length_cons, Nat.mul_add, Nat.mul_one, Int.pow_add]
    have hp : (0 : Int) < 2 ^ n := Int.pow_pos (by decide)
    refine ⟨Int.add_nonneg hd.1 (Int.mul_nonneg (Int.le_of_lt hp) ih.1), ?_⟩
    have : 2 ^ n * und n r ≤ 2 ^ n * (2 ^ (n * r.length) - 1) := Int.mul_le_mul_of_nonneg_left (by lia) (Int.le_of_lt hp)
    rw [Int.mul_sub, Int.mul_one, Int.mul_comm (2 ^ n) (2 ^ (n * r.length))] at this
    lia
noncomputable def seg (ds : List Int) (lo hi : Nat) : List Int := (ds.drop lo).take (hi - lo)
theorem seg_split {ds : List Int} {lo mid hi : Nat} (h1 : lo ≤ mid) (h2 : mid ≤ hi) : seg ds lo hi = seg ds lo mid ++ seg ds mid hi := by
  unfold seg
  have e : hi - lo = (mid - lo) + (hi - mid) := by lia
  rw [e, List.take_add, List.drop_drop]
  congr 3
  lia
theorem seg_length {ds : List Int} {lo hi : Nat} (h : hi ≤ ds.length) : (seg ds lo hi).length = hi - lo := by
  unfold seg; rw [List.length_take, List.length_drop]; lia
theorem seg_all (ds : List Int) : seg ds 0 ds.length = ds := by simp [seg]
theorem seg_one {ds : List Int} {lo : Nat} {d : Int} (h : ds[lo]? = some d) : seg ds lo (lo + 1) = [d] := by
  obtain ⟨hl, he⟩ := List.getElem?_eq_some_iff.mp h
  unfold seg
  rw [List.drop_eq_getElem_cons hl, he]
  simp
theorem Digs.seg {n : Nat} {ds : List Int} (h : Digs n ds) (lo hi : Nat) : Digs n (seg ds lo hi) := fun d hd => h d (List.mem_of_mem_drop (List.mem_of_mem_take hd))
end Mine

end
section
open PySem PySem.W PyProof.Rows PySem.Calls
set_option Elab.async false
set_option linter.unusedVariables false
set_option maxRecDepth 100000
namespace Mine
noncomputable def fdAt (P : Params) (a : Addr) : FuncData := match (ob P a).data with | .func fd => fd | _ => default
noncomputable def bodyOf (fd : FuncData) : List Stmt := match fd.body with | .stmts b => b | _ => []
noncomputable def defIn : List Stmt → Arguments × List Stmt × Scope
  | .FunctionDef _ ps b _ _ _ sc _ _ _ :: _ => (ps, b, sc)
  | _ :: r => defIn r
  | [] => default
noncomputable def in23 (P : Params) : Arguments × List Stmt × Scope := defIn (bodyOf (fdAt P 28))
noncomputable def in16 (P : Params) : Arguments × List Stmt × Scope := defIn (bodyOf (fdAt P 21))
/-- what _digits2int's inner closes over -/
structure Clo2 (P : Params) (h : Heap) (nn : Nat) (l cd ci cn fi c' : Addr) (vs : List Value) : Prop where
  fn : ∃ doc pm ctv, h.get? fi = some (fnMade "inner" "_digits2int.<locals>.inner" (in23 P).1 (in23 P).2.1 (in23 P).2.2 [("n", cn), ("inner", ci), ("digits", cd)] doc pm c' ctv)
  code : h.CodeRec (.ref c') "_digits2int.<locals>.inner"
  c16 : c' ≠ 16
  c23 : c' ≠ 23
  d : h.IsCell cd (some (.ref l))
  i : h.IsCell ci (some (.ref fi))
  n : ∃ tn, h.IsCell cn (some (.int nn tn))
  l : h.IsList l vs.toArray
theorem IsCell.ext {h h' : Heap} {c : Addr} {v : Option Value} (x : h.IsCell c v) (T : Tab h) (e : Ext h h') : h'.IsCell c v :=
  let ⟨o, ho, hd⟩ := x; ⟨o, e _ _ (T.t16.ne ho (by rw [hd]; intro vs h; cases h)) (T.t23.ne ho (by rw [hd]; intro vs h; cases h)) ho, hd⟩
theorem IsList.ext {h h' : Heap} {c : Addr} {v : Array Value} (x : h.IsList c v) (T : Tab h) (e : Ext h h') : h'.IsList c v :=
  let ⟨o, ho, hc, n, hd⟩ := x; ⟨o, e _ _ (T.t16.ne ho (by rw [hd]; intro vs h; cases h)) (T.t23.ne ho (by rw [hd]; intro vs h; cases h)) ho, hc, n, hd⟩
theorem IsList.keeps {h h' : Heap} {c : Addr} {v : Array Value} (x : h.IsList c v) (k : ∀ b o, h.get? b = some o → h'.get? b = some o) : h'.IsList c v :=
  let ⟨o, ho, r⟩ := x; ⟨o, k _ _ ho, r⟩
section
variable {P : Params} {h h' : Heap} {nn : Nat} {l cd ci cn fi c' : Addr} {vs : List Value}
theorem Clo2.ext (C : Clo2 P h nn l cd ci cn fi c' vs) (T : Tab h) (e : Ext h h') : Clo2 P h' nn l cd ci cn fi c' vs := by
  obtain ⟨⟨doc, pm, ctv, hf⟩, ⟨cc, o, us, t, e1, e2, e3, e4⟩, h16, h23, hd, hi, ⟨tn, hn⟩, hl⟩ := C
  cases e1
  exact ⟨⟨doc, pm, ctv, e _ _ (T.t16.ne hf (fun _ h => nomatch h)) (T.t23.ne hf (fun _ h => nomatch h)) hf⟩, ⟨_, o, us, t, rfl, e _ _ h16 h23 e2, e3, e4⟩, h16, h23, IsCell.ext hd T e, IsCell.ext hi T e, ⟨tn, IsCell.ext hn T e⟩, IsList.ext hl T e⟩
theorem Clo2.keeps (C : Clo2 P h nn l cd ci cn fi c' vs) (k : ∀ b o, h.get? b = some o → h'.get? b = some o) : Clo2 P h' nn l cd ci cn fi c' vs := by
  obtain ⟨⟨doc, pm, ctv, hf⟩, hc, h16, h23, hd, hi, ⟨tn, hn⟩, hl⟩ := C
  exact ⟨⟨doc, pm, ctv, k _ _ hf⟩, hc.keeps k, h16, h23, hd.keeps k, hi.keeps k, ⟨tn, hn.keeps k⟩, IsList.keeps hl k⟩
end
theorem ext_frozen (h : Heap) : Ext h (hideAll h [16, 23]) := fun b o p q e => hideAll_get _ e (by simp [p, q])
theorem ints_at {vs : List Value} {ds : List Int} (hi : IntsAre vs ds) {k : Nat} {d : Int} (h : ds[k]? = some d) : ∃ t, vs[k]? = some (.int d t) := by
  induction hi generalizing k with
  | nil => simp at h
  | cons n t hr ih =>
    cases k with
    | zero => simp at h; exact ⟨t, by simp [h]⟩
    | succ k => simpa using ih (by simpa using h)
theorem pow2_le {a b : Nat} (h : a ≤ b) : (2 : Int) ^ a ≤ 2 ^ b := by
  have := Nat.pow_le_pow_right (n := 2) (by decide) h
  have e : ∀ k : Nat, ((2 ^ k : Nat) : Int) = 2 ^ k := fun k => by rw [Int.natCast_pow]; rfl
  rw [← e, ← e]; lia
theorem Stat.frozen {w : World} {h : Heap} (S : Stat w h) : Stat w (hideAll h [16, 23]) := S.ext (ext_frozen h)
set_option maxHeartbeats 1000000 in
theorem inner2 {w : World} {nn : Nat} (hn : 1 ≤ nn) {l cd ci cn fi c' : Addr} {vs : List Value} {ds : List Int} (hi' : IntsAre vs ds) (hd : Digs nn ds) (h60 : nn * ds.length ≤ 60) (s₀ : Shared) (k : Nat) :
    ∀ {A : Around} {h : Heap} {tk : Nat} {lo hi : Nat} {t1 t2 : Tok} {Q : Value → Shared → Prop} {E : Value → Shared → Prop}, A.depth + k < recursionLimit → Stat w h → Tab h → Clo2 w.params h nn l cd ci cn fi c' vs →
      lo < hi → hi ≤ ds.length → hi - lo ≤ k →
      (∀ t h' tk', Ext h h' → Tab h' → Q (.int (und nn (seg ds lo hi)) t) (St s₀ h' tk')) →
      wpAny (Md w) A (call (.ref fi) [.int lo t1, .int hi t2]) Q E (St s₀ h tk) := by
  induction k with
  | zero => intros; lia
  | succ k ih =>
    intro A h tk lo hi t1 t2 Q E hdep S T C h1 h2 h3 hQ
    obtain ⟨doc, pm, ctv, hf0⟩ := C.fn
    have hf : h.get? fi = some (fnMade "inner" "_digits2int.<locals>.inner" ⟨_, _, _, _, _, _, _⟩ (_ :: _) ⟨_, _, _, _, _⟩ [("n", cn), ("inner", ci), ("digits", cd)] doc pm c' ctv) := hf0
    refine wpAny_call (enterF (ex := []) (binds := [("L", .int lo t1), ("R", .int hi t2)]) (by lia) S T hf rfl C.code rfl rfl rfl ?_)
    intro L h' tk' hk hL F
    have C1 := C.ext T (ext_frozen h)
    have X1 : Ext h h' := Ext.of_keeps hk
    have hl60 : ds.length ≤ 60 := Nat.le_trans (Nat.le_mul_of_pos_left _ hn) h60
    refine wpAny_execs_cons (ifI (tst_eq ((evL F rfl).i.add evK) (evL F rfl).i) (fun hb tk' => ?_) fun hb tk' => ?_)
    · -- a single digit
      have e : hi = lo + 1 := by have := beq_iff_eq.mp hb; lia
      subst e
      obtain ⟨d, hdl⟩ : ∃ d, ds[lo]? = some d := ⟨_, List.getElem?_eq_getElem (by lia)⟩
      obtain ⟨td, hvl⟩ := ints_at hi' hdl
      refine wpAny_execs_cons (retV (evItem (evF (C1.d.keeps F.keep)) (evL F rfl).i (IsList.keeps C1.l F.keep) (by lia) (by lia) (by simpa using hvl)) fun tk₂ => ?_)
      rw [seg_one hdl] at hQ
      have := hQ td h' tk₂ X1 F.tab
      simp only [und, Int.mul_zero, Int.add_zero] at this
      exact this
    · have hne : lo + 1 ≠ hi := fun e => by
        have : ((lo : Int) + 1 == (hi : Int)) = true := beq_iff_eq.mpr (by lia)
        rw [this] at hb; cases hb
      refine wpAny_execs_nil ?_
      obtain ⟨mid, hmid⟩ : ∃ mid, mid = (lo + hi) / 2 := ⟨_, rfl⟩
      have hm1 : lo < mid := by lia
      have hm2 : mid < hi := by lia
      refine wpAny_execs_cons (asI F ((((evL F rfl).i.add (evL F rfl).i).shr evK (by decide)).eq (r := (mid : Int)) ?_) fun t3 h3 tk3 F3 k3 => ?_)
      · show Int.fdiv ((lo : Int) + hi) 2 = mid
        rw [Int.fdiv_eq_ediv_of_nonneg _ (by decide)]
        lia
      obtain ⟨tn, hcn⟩ := C1.n
      have hsm : ((mid : Int) - lo) * nn = ((nn * (mid - lo) : Nat) : Int) := by rw [Int.mul_comm, Int.natCast_mul]; congr 1; lia
      have hs60 : nn * (mid - lo) ≤ 60 := Nat.le_trans (Nat.mul_le_mul_left nn (show mid - lo ≤ ds.length by lia)) h60
      refine wpAny_execs_cons (asI F3 ((((evL F3 rfl).i.sub (evL F3 rfl).i).mul (evF (hcn.keeps F3.keep)).i ?_).eq hsm) fun t4 h4 tk4 F4 k4 => ?_)
      · exact IntMulOk.of_left (intBits_le_64 (by lia) (by lia))
      have S4 : Stat w h4 := S.frozen.keeps F4.keep
      have C4 : Clo2 w.params h4 nn l cd ci cn fi c' vs := C1.keeps F4.keep
      have fnAt : ∀ h, Clo2 w.params h nn l cd ci cn fi c' vs → FnAt fi h := fun h C => let ⟨_, _, _, e⟩ := C.fn; ⟨_, _, _, _, e⟩
      refine wpAny_execs_cons (wpAny_Return_some (wpAny_BinOp (wpAny_BinOp ?_)))
      refine callF (evF (C1.i.keeps F4.keep)) fun tk5 => ?_
      refine (evL F4 rfl).i tk5 _ _ fun t5 tk6 => ?_
      refine (evL F4 rfl).i tk6 _ _ fun t6 tk7 => ⟨fnAt _ C4, ?_⟩
      refine ih (by show A.depth + 1 + k < _; lia) S4 F4.tab C4 hm2 h2 (by lia) fun t7 h7 tk8 X7 T7 => ?_
      have F7 := F4.ext X7 T7
      have C7 : Clo2 w.params h7 nn l cd ci cn fi c' vs := C1.keeps F7.keep
      refine (evL F7 rfl).i tk8 _ _ fun t8 tk9 => ?_
      have b1 := und_bound nn (seg ds mid hi) (hd.seg _ _)
      have l1 : (seg ds mid hi).length = hi - mid := seg_length h2
      have p60 : ∀ x, x ≤ ds.length → (2 : Int) ^ (nn * x) ≤ 2 ^ 60 := fun x hx => pow2_le (Nat.le_trans (Nat.mul_le_mul_left nn hx) h60)
      have q1 := p60 (seg ds mid hi).length (by lia)
      refine lshift_int_small (by lia) (by lia) (by lia) ?_
      refine callF (evF (C1.i.keeps F7.keep)) fun tk10 => ?_
      refine (evL F7 rfl).i tk10 _ _ fun t9 tk11 => ?_
      refine (evL F7 rfl).i tk11 _ _ fun t10 tk12 => ⟨fnAt _ C7, ?_⟩
      refine ih (by show A.depth + 1 + k < _; lia) (S.frozen.keeps F7.keep) F7.tab C7 hm1 (by lia) (by lia) fun t11 h11 tk13 X11 T11 => ?_
      have F11 := F7.ext X11 T11
      refine add_int ?_
      have e : und nn (seg ds mid hi) * 2 ^ ((nn * (mid - lo) : Nat) : Int).toNat + und nn (seg ds lo mid) = und nn (seg ds lo hi) := by
        rw [seg_split (ds := ds) (Nat.le_of_lt hm1) (Nat.le_of_lt hm2), und_append, seg_length (by lia), Int.toNat_natCast, Int.mul_comm]
        lia
      rw [e]
      exact hQ _ _ _ (Ext.of_frozen F11.keep) T11
end Mine

end
section
open PySem PySem.W PyProof.Rows PySem.Calls
set_option Elab.async false
set_option linter.unusedVariables false
set_option maxRecDepth 100000
namespace Mine
theorem Tab1.extBut {h h' : Heap} {P P' : Addr} {pos : Pos} {q : Str} (x : Tab1 h P pos q) (e : Heap.ExtBut P' h h') (hP : P ≠ P') (hP' : P' = 16 ∨ P' = 23) : Tab1 h' P pos q := by
  obtain ⟨ps, e1, r⟩ := x
  refine ⟨ps, e _ _ hP e1, r.imp id ?_⟩
  rintro ⟨c, e2, e3, e4, c', o, vs, t, e5, e6, e7⟩
  cases e5
  exact ⟨c, e2, e3, e4, c, o, vs, t, rfl, e _ _ (by rcases hP' with rfl | rfl <;> assumption) e6, e7⟩
theorem builtinsAt {w : World} {h : Heap} {P : Addr} (S : Stat w h) (hP : P = 16 ∨ P = 23) : h.BuiltinsAt (nsFind (es3 w.params)) P :=
  let ⟨o4, e4, c4, d4, t4⟩ := S.2.2
  ⟨4, o4, by kernel_rfl, by decide, by decide, by rcases hP with rfl | rfl <;> decide, e4, c4, d4, t4⟩
section
variable {w : World} {A : Around} {E : Value → Shared → Prop} {s₀ : Shared} {h : Heap} {tk : Nat} {env : Env}
/-- a nested def: its function object -/
theorem nestG {P c : Addr} {pos pos' : Pos} {name qual : Str} {params : Arguments} {body : List Stmt} {scope : Scope} {firstLine : Nat} {clos : List (Str × Addr)} {Q : Value → Shared → Prop} (hP : P = 16 ∨ P = 23) (S : Stat w h) (T : Tab1 h P pos' qual) (C : CodeHd h c P)
    (hcl : closureFor scope env = pure clos) (hg : env.globals = mainGlobals) (hcode : env.code = .ref c) (hl : pos'.line = pos.line) (hc : pos'.col = pos.col)
    (hq : ∀ fi c' ctv doc pm h' tk', Heap.ExtBut P h h' → Tab1 h' P pos' qual → c' ≠ 16 → c' ≠ 23 → h'.CodeRec (.ref c') qual → h'.get? fi = some (fnMade name qual params body scope clos doc pm c' ctv) → h.objs.size ≤ fi → Q (.ref fi) (St s₀ h' tk')) :
    wpAny (Md w) A (makeFunction name qual params (.stmts body) scope env [] [] [] pos firstLine) Q E (St s₀ h tk) := by
  have h63 : 62 < h.objs.size := Heap.lt_size (S.at 62 (by kernel_rfl))
  obtain ⟨ps, hps, rfl | ⟨c', rfl, n16, n23, hrec⟩⟩ := T
  · refine makeFunction_K (mg := nsFind (es3 w.params)) (s := St s₀ h tk) hcl hg S.ns3 hcode C hps trivial rfl (by rcases hP with rfl | rfl <;> decide) (builtinsAt S hP) fun c' ctv doc h' tk' hx hge hlt hrec htb => ?_
    have hge' : h.objs.size ≤ c' := hge
    have hlt' : c' < h'.objs.size := hlt
    have n16 : c' ≠ 16 := show @Ne Nat c' (16 : Nat) by lia
    have n23 : c' ≠ 23 := show @Ne Nat c' (23 : Nat) by lia
    have hsz : h.objs.size ≤ h'.objs.size := by lia
    refine hq _ c' ctv doc _ _ _ (fun b o hb e => Heap.get?_push_of_some _ (hx b o hb e)) ⟨_, Heap.get?_push_of_some _ htb, .inr ⟨c', ?_, n16, n23, hrec.push _⟩⟩ n16 n23 (hrec.push _) (Heap.get?_push_size _ rfl) hsz
    rw [hl, hc]; rfl
  · have hf : codeAmong pos (#[rawInt pos'.line, rawInt pos'.col, Value.ref c'] : Array Value).toList = some (.ref c') := by
      rw [hl, hc]
      simp [codeAmong, rawInt]
    refine makeFunction_hit (mg := nsFind (es3 w.params)) (s := St s₀ h tk) hcl hg S.ns3 hcode C hps (by simp [TriplesOk, rawInt]) hf (builtinsAt S hP) fun ctv doc h' tk' hx hsz => ?_
    refine hq _ c' ctv doc _ _ _ (fun b o _ e => Heap.get?_push_of_some _ (hx b o e)) ⟨_, Heap.get?_push_of_some _ (hx _ _ hps), .inr ⟨c', rfl, n16, n23, (hrec.keeps hx).push _⟩⟩ n16 n23 ((hrec.keeps hx).push _) (Heap.get?_push_size _ rfl) hsz
end
end Mine

end
section
open PySem PySem.W PyProof.Rows PySem.Calls
set_option Elab.async false
set_option linter.unusedVariables false
set_option maxRecDepth 100000
namespace Mine
section
variable {w : World} {A : Around} {env : Env} {s₀ : Shared} {h f : Heap} {m cm : Str → Option Value} {cs : List (Str × Addr)}
theorem evLen {p pos : Pos} {e : Expr} {l : Addr} {items : Array Value} (hn : EvV w A env s₀ h (.Name "len" p) (.builtin "len")) (hv : EvV w A env s₀ h e (.ref l)) (hl : h.IsList l items) (hfit : (items.size : Int) < 2 ^ 63)
    (hs : backTo pos (starEach [e] env) = [e].map (fun e => (false, eval e env)) := by rfl) : EvI w A env s₀ h (.Call (.Name "len" p) [e] [] pos) items.size := by
  intro tk Q E hq
  refine callB hn (fun tk' => ?_) hs
  refine hv tk' _ _ fun tk₁ => ?_
  exact call_len_list hl hfit (hq _ _)
/-- the truth of a list under a name -/
theorem tstL {x : Str} {p : Pos} {l : Addr} {items : Array Value} (hv : EvV w A env s₀ h (.Name x p) (.ref l)) (hl : h.IsList l items) (hfit : (items.size : Int) < 2 ^ 63) : Tst w A env s₀ h (.Name x p) (!items.isEmpty) := by
  intro tk Q E hq
  exact wpAny_isTrue_value (hv tk _ E fun tk' => wpAny_truthy_list hl hfit (hq _))
end
theorem hd27 {w : World} {h : Heap} (S : Stat w h) : CodeHd h 27 23 := ⟨_, _, _, _, _, _, _, _, _, S.1 27 _ rfl, rfl, rfl, rfl, rfl, rfl, rfl, rfl, rfl, by decide⟩
theorem hd20 {w : World} {h : Heap} (S : Stat w h) : CodeHd h 20 16 := ⟨_, _, _, _, _, _, _, _, _, S.1 20 _ rfl, rfl, rfl, rfl, rfl, rfl, rfl, rfl, rfl, by decide⟩
theorem codeRec_of' {w : World} {h : Heap} (S : Stat w h) {c : Addr} {q : Str} (hc : codeIn (K w.params) (.ref c) q = true) : h.CodeRec (.ref c) q := codeRec_of S.1 hc
theorem still_func {c : Value} {d : Option Addr} {fd : FuncData} {sl : Array (Option Value)} : still ⟨c, d, .func fd, sl⟩ := ⟨fun _ _ h => (nomatch h), fun _ h => (nomatch h)⟩
theorem codeRec_still {h h' : Heap} {v : Value} {q : Str} (x : h.CodeRec v q) (k : ∀ b o, still o → h.get? b = some o → h'.get? b = some o) : h'.CodeRec v q :=
  let ⟨c, o, vs, t, e, g, hd, r⟩ := x; ⟨c, o, vs, t, e, k _ _ ⟨fun _ _ h => (nomatch hd.symm.trans h), fun _ h => (nomatch hd.symm.trans h)⟩ g, hd, r⟩
set_option maxHeartbeats 1000000 in
theorem digits2int {w : World} {nn : Nat} (hn : 1 ≤ nn) {l : Addr} {tn : Tok} {vs : List Value} {ds : List Int} (hi : IntsAre vs ds) (hd : Digs nn ds) (h60 : nn * ds.length ≤ 60) {s₀ : Shared}
    {A : Around} {h : Heap} {tk : Nat} {Q : Value → Shared → Prop} {E : Value → Shared → Prop} (hdep : A.depth + 70 < recursionLimit) (S : Stat w h) (T : Tab h) (hl : h.IsList l vs.toArray)
    (hQ : ∀ t h' tk', Ext h h' → Tab h' → Q (.int (und nn ds) t) (St s₀ h' tk')) :
    wpAny (Md w) A (call (.ref 28) [.ref l, .int nn tn]) Q E (St s₀ h tk) := by
  refine wpAny_call (enterC (binds := [("digits", .ref l), ("n", .int nn tn)]) (m := fun _ => none) (cm := upd (upd (fun _ => none) "digits" (.ref l)) "n" (.int nn tn)) (cs := fun L => [("inner", L + 1 + 1 + 1), ("n", L + 1 + 1), ("digits", L + 1)])
    (by lia) S T (S.1 28 _ rfl) rfl rfl (codeRec_of' S (by kernel_rfl)) rfl rfl (fun L => rfl) rfl rfl ?_)
  intro L h1 tk1 hk hL F
  have S1 : Stat w h1 := S.keeps hk
  refine wpAny_execs_cons (nestDef_K rfl rfl rfl ?_)
  refine nestG (qual := "_digits2int.<locals>.inner") (.inr rfl) S1 F.tab.t23 (hd27 S1) (clos := [("n", L + 1 + 1), ("inner", L + 1 + 1 + 1), ("digits", L + 1)]) rfl rfl rfl rfl rfl ?_
  intro fi c' ctv doc pm h2 tk2 hx ht n16 n23 hrec hfn hfi
  have X2 : Ext h1 h2 := fun b o _ q e => hx b o q e
  have F2 := F.ext X2 ⟨F.tab.t16.extBut hx (by decide) (.inr rfl), ht⟩
  refine stC F2 rfl fun h3 tk3 F3 k3 => ?_
  have hlf : (hideAll h [16, 23]).IsList l vs.toArray := IsList.ext hl T (ext_frozen h)
  have C : Clo2 w.params h3 nn l (L + 1) (L + 1 + 1 + 1) (L + 1 + 1) fi c' vs :=
    ⟨⟨doc, pm, ctv, k3 _ _ still_func hfn⟩, codeRec_still hrec k3, n16, n23, F3.cell "digits" _ rfl, F3.cell "inner" _ rfl, ⟨tn, F3.cell "n" _ rfl⟩, IsList.keeps hlf F3.keep⟩
  have S3 : Stat w h3 := S.frozen.keeps F3.keep
  have hlen : vs.length = ds.length := hi.length
  have hl60 : ds.length ≤ 60 := Nat.le_trans (Nat.le_mul_of_pos_left _ hn) h60
  refine wpAny_execs_cons (wpAny_Return_some (wpAny_IfExp ?_))
  refine Tst.run (tstL (evC F3 rfl rfl) C.l (by simp only [List.size_toArray]; lia)) fun tk4 => ?_
  cases ds with
  | nil =>
    cases hi
    exact evK tk4 _ _ fun t tk5 => hQ t h3 tk5 (Ext.of_frozen F3.keep) F3.tab
  | cons d r =>
    cases hi with
    | cons _ td hr =>
    refine callF (evC F3 rfl rfl) fun tk5 => ?_
    refine evK tk5 _ _ fun t5 tk6 => ?_
    refine EvI.run (evLen (evB S3 (gl_len _)) (evC F3 rfl rfl) C.l (by simp only [List.size_toArray]; lia)) fun t6 tk7 => ⟨⟨_, _, _, _, C.fn.choose_spec.choose_spec.choose_spec⟩, ?_⟩
    simp only [List.size_toArray, hlen]
    exact inner2 (w := w) hn (IntsAre.cons d td hr) hd h60 s₀ 60 (lo := 0) (by show A.depth + 1 + 60 < _; lia) S3 F3.tab C (by simp) (Nat.le_refl _) (by lia)
      (fun t h' tk' X T' => by
        rw [seg_all]
        exact hQ t h' tk' (fun b o p q e => X b o p q (F3.keep b o (hideAll_get _ e (by simp [p, q])))) T')
end Mine

end
section
open PySem PySem.W PyProof.Rows PySem.Calls
set_option Elab.async false
set_option linter.unusedVariables false
set_option maxRecDepth 100000
namespace Mine
/-- k digits of x, the lowest first -/
noncomputable def dg (n : Nat) : Nat → Nat → List Int
  | 0, _ => []
  | k + 1, x => ((x % 2 ^ n : Nat) : Int) :: dg n k (x / 2 ^ n)
theorem dg_length (n : Nat) : ∀ k x, (dg n k x).length = k
  | 0, _ => rfl
  | k + 1, x => by simp [dg, dg_length n k]
theorem dg_split (n : Nat) : ∀ a b x, dg n (a + b) x = dg n a (x % 2 ^ (n * a)) ++ dg n b (x / 2 ^ (n * a))
  | 0, b, x => by simp [dg]
  | a + 1, b, x => by
    rw [show a + 1 + b = (a + b) + 1 by lia]
    simp only [dg, List.cons_append]
    rw [dg_split n a b (x / 2 ^ n)]
    have e : 2 ^ (n * (a + 1)) = 2 ^ n * 2 ^ (n * a) := by rw [Nat.mul_add, Nat.mul_one, Nat.pow_add, Nat.mul_comm]
    rw [e, Nat.mod_mul_right_div_self, Nat.div_div_eq_div_mul, Nat.mod_mod_of_dvd _ (Nat.dvd_mul_right _ _)]
theorem dg_one {n x : Nat} (h : x < 2 ^ n) : dg n 1 x = [(x : Int)] := by simp [dg, Nat.mod_eq_of_lt h]
theorem dg_digs (n : Nat) : ∀ k x, Digs n (dg n k x)
  | 0, _ => fun d hd => by simp [dg] at hd
  | k + 1, x => fun d hd => by
    simp only [dg, List.mem_cons] at hd
    rcases hd with rfl | hd
    · have h := Nat.mod_lt x (Nat.two_pow_pos n)
      have e : ((2 ^ n : Nat) : Int) = 2 ^ n := by rw [Int.natCast_pow]; rfl
      rw [← e]; lia
    · exact dg_digs n k _ d hd
theorem und_dg (n : Nat) : ∀ k x, x < 2 ^ (n * k) → und n (dg n k x) = x
  | 0, x, h => by simp at h; subst h; rfl
  | k + 1, x, h => by
    have e1 : 2 ^ (n * (k + 1)) = 2 ^ n * 2 ^ (n * k) := by rw [Nat.mul_add, Nat.mul_one, Nat.pow_add, Nat.mul_comm]
    rw [e1] at h
    simp only [dg, und]
    rw [und_dg n k _ (Nat.div_lt_of_lt_mul h)]
    have e : (2 : Int) ^ n = ((2 ^ n : Nat) : Int) := by rw [Int.natCast_pow]; rfl
    rw [e, ← Int.natCast_mul, ← Int.natCast_add, Nat.mod_add_div]
theorem and_top (x s : Nat) : x &&& (x / 2 ^ s * 2 ^ s) = x / 2 ^ s * 2 ^ s := by
  rw [← Nat.shiftRight_eq_div_pow, ← Nat.shiftLeft_eq]
  apply Nat.eq_of_testBit_eq
  intro i
  rw [Nat.testBit_and, Nat.testBit_shiftLeft, Nat.testBit_shiftRight]
  by_cases h : s ≤ i
  · simp [h, Nat.add_sub_cancel' h]
  · simp [h]
theorem xor_top (x s : Nat) : Builtin.bitXor (x : Int) ((x / 2 ^ s * 2 ^ s : Nat) : Int) = ((x % 2 ^ s : Nat) : Int) := by
  rw [bitXor_and, bitAnd_pp (by lia) (by lia), Int.toNat_natCast, Int.toNat_natCast, and_top]
  have := Nat.div_add_mod' x (2 ^ s)
  lia
theorem fdiv_pow (x s : Nat) : Int.fdiv (x : Int) (2 ^ s) = ((x / 2 ^ s : Nat) : Int) := by
  have e : (2 : Int) ^ s = ((2 ^ s : Nat) : Int) := by rw [Int.natCast_pow]; rfl
  rw [e, Int.fdiv_eq_ediv_of_nonneg _ (Int.natCast_nonneg _), ← Int.natCast_ediv]
/-- all stays but the two code tables and one list -/
noncomputable def ExtD (d : Addr) (h h' : Heap) : Prop := ∀ b o, b ≠ 16 → b ≠ 23 → b ≠ d → h.get? b = some o → h'.get? b = some o
theorem ExtD.trans {d : Addr} {h₁ h₂ h₃ : Heap} (x : ExtD d h₁ h₂) (y : ExtD d h₂ h₃) : ExtD d h₁ h₃ := fun b o p q r e => y b o p q r (x b o p q r e)
/-- a list of ints at work -/
noncomputable def LI (h : Heap) (d : Addr) (ns : List Int) : Prop := ∃ vs, h.IsList d vs.toArray ∧ IntsAre vs ns
end Mine

end
section
open PySem PySem.W PyProof.Rows PySem.Calls
set_option Elab.async false
set_option linter.unusedVariables false
set_option maxRecDepth 100000
namespace Mine
/-- what _int2digits's inner closes over -/
structure Clo1 (P : Params) (h : Heap) (nn : Nat) (d cd ci cn fi c' : Addr) : Prop where
  fn : ∃ doc pm ctv, h.get? fi = some (fnMade "inner" "_int2digits.<locals>.inner" (in16 P).1 (in16 P).2.1 (in16 P).2.2 [("n", cn), ("inner", ci), ("a_digits", cd)] doc pm c' ctv)
  code : h.CodeRec (.ref c') "_int2digits.<locals>.inner"
  c16 : c' ≠ 16
  c23 : c' ≠ 23
  d : h.IsCell cd (some (.ref d))
  i : h.IsCell ci (some (.ref fi))
  n : ∃ tn, h.IsCell cn (some (.int nn tn))
theorem LI.at {h : Heap} {d : Addr} {ns : List Int} (x : LI h d ns) : ∃ o xs n, h.get? d = some o ∧ o.data = .seq xs n := let ⟨vs, ⟨o, e, _, n, hd⟩, _⟩ := x; ⟨o, _, n, e, hd⟩
theorem LI.ext {h h' : Heap} {d : Addr} {ns : List Int} (x : LI h d ns) (T : Tab h) (e : Ext h h') : LI h' d ns := let ⟨vs, hl, hi⟩ := x; ⟨vs, IsList.ext hl T e, hi⟩
theorem LI.keeps {h h' : Heap} {d : Addr} {ns : List Int} (x : LI h d ns) (k : ∀ b o, h.get? b = some o → h'.get? b = some o) : LI h' d ns := let ⟨vs, hl, hi⟩ := x; ⟨vs, IsList.keeps hl k, hi⟩
theorem LI.still {h h' : Heap} {d : Addr} {ns : List Int} (x : LI h d ns) (k : ∀ b o, still o → h.get? b = some o → h'.get? b = some o) : LI h' d ns :=
  let ⟨vs, ⟨o, e, hc, n, hd⟩, hi⟩ := x; ⟨vs, ⟨o, k _ _ ⟨fun _ _ q => (nomatch hd.symm.trans q), fun _ q => (nomatch hd.symm.trans q)⟩ e, hc, n, hd⟩, hi⟩
section
variable {P : Params} {h h' : Heap} {nn : Nat} {d cd ci cn fi c' : Addr} {ns : List Int}
theorem Clo1.extD (C : Clo1 P h nn d cd ci cn fi c') (T : Tab h) (l : LI h d ns) (e : ExtD d h h') : Clo1 P h' nn d cd ci cn fi c' := by
  obtain ⟨⟨doc, pm, ctv, hf⟩, ⟨cc, o, us, t, e1, e2, e3, e4⟩, h16, h23, ⟨o1, a1, b1⟩, ⟨o2, a2, b2⟩, ⟨tn, ⟨o3, a3, b3⟩⟩⟩ := C
  cases e1
  obtain ⟨od, xs, n, ed, hd⟩ := l.at
  have cel : ∀ {c : Addr} {o : Obj} {v : Option Value}, h.get? c = some o → o.data = .cell v → h'.get? c = some o := fun {c o v} a b =>
    e _ _ (T.t16.ne a (by rw [b]; intro vs h; cases h)) (T.t23.ne a (by rw [b]; intro vs h; cases h)) (ne_of_data a ed (by rw [b, hd]; intro h; cases h)) a
  exact ⟨⟨doc, pm, ctv, e _ _ (T.t16.ne hf (fun _ h => nomatch h)) (T.t23.ne hf (fun _ h => nomatch h)) (ne_of_data hf ed (by rw [hd]; intro h; cases h)) hf⟩,
    ⟨_, o, us, t, rfl, e _ _ h16 h23 (ne_of_data e2 ed (by rw [e3, hd]; intro h; cases h)) e2, e3, e4⟩, h16, h23, ⟨o1, cel a1 b1, b1⟩, ⟨o2, cel a2 b2, b2⟩, ⟨tn, ⟨o3, cel a3 b3, b3⟩⟩⟩
theorem Clo1.keeps (C : Clo1 P h nn d cd ci cn fi c') (k : ∀ b o, h.get? b = some o → h'.get? b = some o) : Clo1 P h' nn d cd ci cn fi c' := by
  obtain ⟨⟨doc, pm, ctv, hf⟩, hc, h16, h23, hd, hi, ⟨tn, hn⟩⟩ := C
  exact ⟨⟨doc, pm, ctv, k _ _ hf⟩, hc.keeps k, h16, h23, hd.keeps k, hi.keeps k, ⟨tn, hn.keeps k⟩⟩
end
theorem extD_frozen (h : Heap) (d : Addr) : ExtD d h (hideAll h [16, 23, d]) := fun b o p q r e => hideAll_get _ e (by simp [p, q, r])
theorem Stat.extD {w : World} {h h' : Heap} {d : Addr} {ns : List Int} (S : Stat w h) (T : Tab h) (l : LI h d ns) (hd : 62 < d) (e : ExtD d h h') : Stat w h' := by
  refine S.move fun a o x ea => ?_
  have := of_decide_eq_true (x.of (p := fun a => decide (a ≠ 16 ∧ a ≠ 23 ∧ a < 63)) (by kernel_rfl))
  refine e a o this.1 this.2.1 ?_ ea
  rintro rfl
  exact absurd hd (Nat.not_lt.mpr (Nat.le_of_lt_succ this.2.2))
theorem Fn.extD {f h h' : Heap} {L : Addr} {m : Str → Option Value} {cs : List (Str × Addr)} {cm : Str → Option Value} {d : Addr} {ns : List Int} (F : Fn f L m cs cm h) (x : ExtD d h h') (t : Tab h') (l : LI h d ns) (hf : f.get? d = none) : Fn f L m cs cm h' := by
  obtain ⟨od, xs, n, ed, hd⟩ := l.at
  refine ⟨?_, fun nm c hc => ?_, F.apart, fun b o e => x b o ?_ ?_ ?_ (F.keep b o e), F.noL, F.noC, F.no16, F.no23, t⟩
  · obtain ⟨o, es, ep, e, hd', r⟩ := F.ns
    exact ⟨o, es, ep, x L o F.ne16.1 F.ne16.2 (ne_of_data e ed (by rw [hd', hd]; intro h; cases h)) e, hd', r⟩
  · obtain ⟨o, e, hd'⟩ := F.cell nm c hc
    exact ⟨o, x c o (F.tab.t16.ne e (by rw [hd']; intro vs h; cases h)) (F.tab.t23.ne e (by rw [hd']; intro vs h; cases h)) (ne_of_data e ed (by rw [hd', hd]; intro h; cases h)) e, hd'⟩
  · rintro rfl; rw [F.no16] at e; cases e
  · rintro rfl; rw [F.no23] at e; cases e
  · rintro rfl; rw [hf] at e; cases e
theorem ints_set {vs : List Value} {ns : List Int} (hi : IntsAre vs ns) {k : Nat} {x : Int} {t : Tok} : IntsAre (vs.set k (.int x t)) (ns.set k x) := by
  induction hi generalizing k with
  | nil => exact .nil
  | cons n u hr ih =>
    cases k with
    | zero => exact .cons x t hr
    | succ k => exact .cons n u ih
theorem upto_split (ns a : List Int) {lo mid hi : Nat} {b c : List Int} (h1 : lo ≤ mid) (h2 : mid ≤ hi) (h3 : hi ≤ ns.length) (ha : a.length = mid - lo) (hb : b.length = hi - mid) (hc : c = a ++ b) :
    (ns.take lo ++ a ++ ns.drop mid).take mid ++ b ++ (ns.take lo ++ a ++ ns.drop mid).drop hi = ns.take lo ++ c ++ ns.drop hi := by
  subst hc
  have e1 : (ns.take lo ++ a).length = mid := by rw [List.length_append, List.length_take, ha]; lia
  have t1 : (ns.take lo ++ a ++ ns.drop mid).take mid = ns.take lo ++ a := by rw [List.take_append_of_le_length (by lia), List.take_of_length_le (by lia)]
  have t2 : (ns.take lo ++ a ++ ns.drop mid).drop hi = ns.drop hi := by
    rw [List.drop_append, List.drop_eq_nil_of_le (by lia), List.nil_append, List.drop_drop, e1]
    congr 1
    lia
  rw [t1, t2]
  simp
set_option maxHeartbeats 1000000 in
theorem inner1 {w : World} {nn : Nat} (hn : 1 ≤ nn) {d cd ci cn fi c' : Addr} (hd62 : 62 < d) (s₀ : Shared) (k : Nat) :
    ∀ {A : Around} {h : Heap} {tk : Nat} {x lo hi : Nat} {ns : List Int} {t0 t1 t2 : Tok} {Q : Value → Shared → Prop} {E : Value → Shared → Prop}, A.depth + k < recursionLimit → Stat w h → Tab h → Clo1 w.params h nn d cd ci cn fi c' → LI h d ns →
      lo < hi → hi ≤ ns.length → hi - lo ≤ k → x < 2 ^ (nn * (hi - lo)) → nn * ns.length ≤ 60 →
      (∀ h' tk', ExtD d h h' → Tab h' → LI h' d (ns.take lo ++ dg nn (hi - lo) x ++ ns.drop hi) → Q .none (St s₀ h' tk')) →
      wpAny (Md w) A (call (.ref fi) [.int x t0, .int lo t1, .int hi t2]) Q E (St s₀ h tk) := by
  induction k with
  | zero => intros; lia
  | succ k ih =>
    intro A h tk x lo hi ns t0 t1 t2 Q E hdep S T C hli h1 h2 h3 hx h60 hQ
    obtain ⟨doc, pm, ctv, hf0⟩ := C.fn
    have hf : h.get? fi = some (fnMade "inner" "_int2digits.<locals>.inner" ⟨_, _, _, _, _, _, _⟩ (_ :: _) ⟨_, _, _, _, _⟩ [("n", cn), ("inner", ci), ("a_digits", cd)] doc pm c' ctv) := hf0
    refine wpAny_call (enterF (ex := [d]) (binds := [("x", .int x t0), ("L", .int lo t1), ("R", .int hi t2)]) (by lia) S T hf rfl C.code rfl rfl rfl ?_)
    intro L h' tk' hk hL F
    have hfd : (hideAll h [16, 23, d]).get? d = none := hideAll_none _ (by simp)
    have C1 := C.extD T hli (extD_frozen h d)
    have S1 : Stat w (hideAll h [16, 23, d]) := S.extD T hli hd62 (extD_frozen h d)
    have L1 : LI h' d ns := hli.keeps hk
    have hl60 : ns.length ≤ 60 := Nat.le_trans (Nat.le_mul_of_pos_left _ hn) h60
    have back : ∀ {h₂ : Heap}, (∀ b o, (hideAll h [16, 23, d]).get? b = some o → h₂.get? b = some o) → ExtD d h h₂ := fun k b o p q r e => k b o (extD_frozen h d b o p q r e)
    refine wpAny_execs_cons (ifI (tst_eq ((evL F rfl).i.add evK) (evL F rfl).i) (fun hb tk' => ?_) fun hb tk' => ?_)
    · -- a single digit
      have e : hi = lo + 1 := by have := beq_iff_eq.mp hb; lia
      subst e
      obtain ⟨vs, hl, hv⟩ := L1
      have hvl : vs.length = ns.length := hv.length
      obtain ⟨od, eod, hcd, nd, hdd⟩ := id hl
      refine wpAny_execs_cons (wpAny_Assign_Subscript ?_)
      refine EvV.run (evL F rfl) fun tk1 => ?_
      refine EvV.run (evF (C1.d.keeps F.keep)) fun tk2 => ?_
      refine EvI.run (evL F rfl).i fun t3 tk3 => ?_
      refine wpAny_setItem_list (s := St s₀ h' tk3) hl (by lia) (by lia) (by simp only [List.size_toArray]; lia) fun h2 hl2 hs2 => ?_
      have F2 := F.sameBut hs2 eod hdd hfd
      refine wpAny_execs_cons (wpAny_Return_none ?_)
      refine hQ h2 tk3 (back F2.keep) F2.tab ⟨vs.set lo (.int x t0), ?_, ?_⟩
      · have e : (vs.toArray.setIfInBounds (lo : Int).toNat (Value.int (x : Int) t0)) = (vs.set lo (.int x t0)).toArray := by simp
        rw [← e]; exact hl2
      · have e : ns.take lo ++ dg nn (lo + 1 - lo) x ++ ns.drop (lo + 1) = ns.set lo x := by
          rw [show lo + 1 - lo = 1 by lia] at hx ⊢
          rw [dg_one (by simpa using hx), List.set_eq_take_append_cons_drop, if_pos (by lia)]
          simp
        rw [e]
        exact ints_set hv
    · have hne : lo + 1 ≠ hi := fun e => by
        have : ((lo : Int) + 1 == (hi : Int)) = true := beq_iff_eq.mpr (by lia)
        rw [this] at hb; cases hb
      refine wpAny_execs_nil ?_
      obtain ⟨mid, hmid⟩ : ∃ mid, mid = (lo + hi) / 2 := ⟨_, rfl⟩
      have hm1 : lo < mid := by lia
      have hm2 : mid < hi := by lia
      refine wpAny_execs_cons (asI F ((((evL F rfl).i.add (evL F rfl).i).shr evK (by decide)).eq (r := (mid : Int)) ?_) fun t3 h3 tk3 F3 k3 => ?_)
      · show Int.fdiv ((lo : Int) + hi) 2 = mid
        rw [Int.fdiv_eq_ediv_of_nonneg _ (by decide)]
        lia
      obtain ⟨tn, hcn⟩ := C1.n
      obtain ⟨sh, hsh⟩ : ∃ sh, sh = nn * (mid - lo) := ⟨_, rfl⟩
      have hsm : ((mid : Int) - lo) * nn = (sh : Int) := by rw [hsh, Int.mul_comm, Int.natCast_mul]; congr 1; lia
      have hs60 : sh ≤ 60 := hsh ▸ Nat.le_trans (Nat.mul_le_mul_left nn (show mid - lo ≤ ns.length by lia)) h60
      refine wpAny_execs_cons (asI F3 ((((evL F3 rfl).i.sub (evL F3 rfl).i).mul (evF (hcn.keeps F3.keep)).i ?_).eq hsm) fun t4 h4 tk4 F4 k4 => ?_)
      · exact IntMulOk.of_left (intBits_le_64 (by lia) (by lia))
      refine wpAny_execs_cons (asI F4 (((evL F4 rfl).i.shr (evL F4 rfl).i (by lia)).eq (r := ((x / 2 ^ sh : Nat) : Int)) ?_) fun t5 h5 tk5 F5 k5 => ?_)
      · rw [Int.toNat_natCast, fdiv_pow]
      have x60 : x < 2 ^ 60 := Nat.lt_of_lt_of_le hx (Nat.pow_le_pow_right (by decide) (Nat.le_trans (Nat.mul_le_mul_left nn (show hi - lo ≤ ns.length by lia)) h60))
      have u60 : x / 2 ^ sh ≤ x := Nat.div_le_self _ _
      refine wpAny_execs_cons (asI F5 (((evL F5 rfl).i.xor ((evL F5 rfl).i.shl (evL F5 rfl).i (by lia) (by lia) (by rw [Int.natAbs_natCast]; lia))).eq (r := ((x % 2 ^ sh : Nat) : Int)) ?_) fun t6 h6 tk6 F6 k6 => ?_)
      · rw [Int.toNat_natCast]
        have e : (2 : Int) ^ sh = ((2 ^ sh : Nat) : Int) := by rw [Int.natCast_pow]; rfl
        rw [e, ← Int.natCast_mul, xor_top]
      have L6 : LI h6 d ns := (((L1.still k3).still k4).still k5).still k6
      have fnAt : ∀ h, Clo1 w.params h nn d cd ci cn fi c' → FnAt fi h := fun h C => let ⟨_, _, _, e⟩ := C.fn; ⟨_, _, _, _, e⟩
      have C6 : Clo1 w.params h6 nn d cd ci cn fi c' := C1.keeps F6.keep
      refine wpAny_execs_cons (wpAny_Expr ?_)
      refine callF (evF (C1.i.keeps F6.keep)) fun tk7 => ?_
      refine EvI.run (evL F6 rfl).i fun t7 tk8 => ?_
      refine EvI.run (evL F6 rfl).i fun t8 tk9 => ?_
      refine EvI.run (evL F6 rfl).i fun t9 tk10 => ⟨fnAt _ C6, ?_⟩
      have pl : x % 2 ^ sh < 2 ^ (nn * (mid - lo)) := hsh ▸ Nat.mod_lt _ (Nat.two_pow_pos _)
      refine ih (by show A.depth + 1 + k < _; lia) (S1.keeps F6.keep) F6.tab C6 L6 hm1 (by lia) (by lia) pl h60 fun h10 tk11 X10 T10 L10 => ?_
      have F10 := F6.extD X10 T10 L6 hfd
      have C10 : Clo1 w.params h10 nn d cd ci cn fi c' := C1.keeps F10.keep
      have len10 : (ns.take lo ++ dg nn (mid - lo) (x % 2 ^ sh) ++ ns.drop mid).length = ns.length := by
        simp only [List.length_append, List.length_take, List.length_drop, dg_length]; lia
      refine wpAny_execs_cons (wpAny_Expr ?_)
      refine callF (evF (C1.i.keeps F10.keep)) fun tk12 => ?_
      refine EvI.run (evL F10 rfl).i fun t10 tk13 => ?_
      refine EvI.run (evL F10 rfl).i fun t11 tk14 => ?_
      refine EvI.run (evL F10 rfl).i fun t12 tk15 => ⟨fnAt _ C10, ?_⟩
      have pu : x / 2 ^ sh < 2 ^ (nn * (hi - mid)) := by
        refine Nat.div_lt_of_lt_mul ?_
        rw [hsh, ← Nat.pow_add, ← Nat.mul_add, show mid - lo + (hi - mid) = hi - lo by lia]
        exact hx
      refine ih (by show A.depth + 1 + k < _; lia) (S1.keeps F10.keep) F10.tab C10 L10 hm2 (by lia) (by lia) pu (by rw [len10]; exact h60) fun h15 tk16 X15 T15 L15 => ?_
      have F15 := F10.extD X15 T15 L10 hfd
      refine wpAny_execs_nil ?_
      refine hQ h15 tk16 (back F15.keep) T15 ?_
      rw [upto_split ns _ (Nat.le_of_lt hm1) (Nat.le_of_lt hm2) h2 (dg_length ..) (dg_length ..) rfl, hsh, ← dg_split, show mid - lo + (hi - mid) = hi - lo by lia] at L15
      exact L15
end Mine

end
section
open PySem PySem.W PyProof.Rows PySem.Calls
set_option Elab.async false
set_option linter.unusedVariables false
set_option maxRecDepth 100000
namespace Mine
section
variable {w : World} {A : Around} {E : Value → Shared → Prop} {s₀ : Shared} {h : Heap} {tk : Nat} {env : Env}
/-- [0] * x: a new list -/
theorem mulZero {l : Addr} {k : Nat} {v : Value} {x : Nat} {u : Tok} {Q : Value → Shared → Prop} (hl : h.get? l = some { cls := .type "list", dict := none, data := .seq #[v] k, slots := #[] }) (hx : x ≤ 1000)
    (hq : Q (.ref h.objs.size) (St s₀ (h.push { cls := .type "list", data := .seq (List.replicate x v).toArray }) tk)) : wpAny (Md w) A (binaryOp .Mult (.ref l) (.int x u)) Q E (St s₀ h tk) := by
  have e : ∀ (n : Nat) (a : Array Value), List.foldl (fun x1 x2 => x1 ++ x2) a (List.replicate n #[v]) = a ++ (List.replicate n v).toArray := by
    intro n
    induction n with
    | zero => intro a; simp
    | succ n ih => intro a; rw [List.replicate_succ, List.foldl_cons, ih]; apply Array.toList_inj.mp; simp [List.replicate_succ]
  have e' : List.foldl (fun x1 x2 => x1 ++ x2) #[] (List.replicate (if (#[v] : Array Value).isEmpty = true then 0 else (x : Int).toNat) #[v]) = (List.replicate x v).toArray := by
    rw [if_neg (by simp), e]; simp
  have key : ∀ (s : Shared) (y : Int), y = x → s.heap.get? l = some { cls := .type "list", dict := none, data := .seq #[v] k, slots := #[] } →
      Q (.ref s.heap.objs.size) { s with heap := s.heap.push { cls := .type "list", data := .seq (List.foldl (fun x1 x2 => x1 ++ x2) #[] (List.replicate (if (#[v] : Array Value).isEmpty = true then 0 else y.toNat) #[v])) } } → wpAny (Md w) A (binaryOp .Mult (.ref l) (.int y u)) Q E s := fun s y hy hl' hq' =>
    wpAny_binaryOp_repeat_ref (T := "list") (U := "int") (by decide) ⟨_, hl', rfl⟩ (fun s' => typeIs_int s' y u) noFill_list_mul F.fills_int_mul F.slot_int_rmul repeat_list F.slot_int_index.lookup
      (call_meets F.slot_int_rmul (typeIs_int s y u) F.entry_int_rmul (F.args_int_rmul_2 _ _) (int___rmul___int_list y u l #[v] k)
        ⟨hl', rfl, ⟨_, hl', rfl⟩, call_meets F.slot_list_mul ⟨_, hl', rfl⟩ F.entry_list_mul (F.args_list_mul_2 _ _)
          (AutoListH.list___mul___list_int_3 l #[v] k y u (by simp [Builtin.List.listFitsIndex]; lia) (by simp; lia) (by simp [Builtin.List.listTooLong, sizeLine]; lia)) ⟨hl', hq'⟩⟩)
  refine key (St s₀ h tk) x rfl hl ?_
  rw [e']
  exact hq
theorem evBits {a : Int} {t : Tok} {o : Expr} {apos pos : Pos} {pl : Sem Bool} (hv : EvV w A env s₀ h o (.int a t))
    (he : eval (.Call (.Attribute o "bit_length" apos) [] [] pos) env = (do
      let ov ← eval o env
      standAt apos.atName
      let (f, first) ← holding [ov] (getMethod ov "bit_length" pl)
      callWith pos f first (backTo pos (starEach [] env)) []) := by rfl) : EvI w A env s₀ h (.Call (.Attribute o "bit_length" apos) [] [] pos) (Builtin.Int.intBits a) := by
  intro tk Q E hq
  refine MethodCall_ (pl := pl) (hv tk _ E fun tk' => getMethod_int_bit_length ?_) he
  exact callWith_builtin rfl (evalArgs_nil3 (call_int_bit_length (hq _ _)))
end
end Mine

end
section
open PySem PySem.W PyProof.Rows PySem.Calls
set_option Elab.async false
set_option linter.unusedVariables false
set_option maxRecDepth 100000
namespace Mine
/-- how many digits -/
noncomputable def nd (n a : Nat) : Nat := (Builtin.Int.intBits a + n - 1) / n
noncomputable def digs (n a : Nat) : List Int := dg n (nd n a) a
theorem nd_zero {n : Nat} (hn : 1 ≤ n) : nd n 0 = 0 := by
  unfold nd
  have : Builtin.Int.intBits ((0 : Nat) : Int) = 0 := rfl
  rw [this]
  exact Nat.div_eq_of_lt (by lia)
theorem nd_mul_le {n a : Nat} : n * nd n a ≤ Builtin.Int.intBits a + n - 1 := Nat.mul_div_le _ _
theorem bits_le_mul {n a : Nat} (hn : 1 ≤ n) : Builtin.Int.intBits a ≤ n * nd n a := by
  unfold nd
  have h1 := Nat.div_add_mod (Builtin.Int.intBits a + n - 1) n
  have h2 := Nat.mod_lt (Builtin.Int.intBits a + n - 1) (show 0 < n by lia)
  lia
theorem lt_nd {n a : Nat} (hn : 1 ≤ n) : a < 2 ^ (n * nd n a) := by
  have := (intBits_le_iff (m := n * nd n a) (x := (a : Int))).mp (bits_le_mul hn)
  simpa using this
theorem und_digs {n a : Nat} (hn : 1 ≤ n) : und n (digs n a) = a := und_dg n _ _ (lt_nd hn)
theorem isList_push {h : Heap} {vs : List Value} : (h.push { cls := .type "list", data := .seq vs.toArray }).IsList h.objs.size vs.toArray := ⟨_, Heap.get?_push_size _ rfl, rfl, 0, rfl⟩
theorem intsRep {t : Tok} {x : Int} : ∀ n, IntsAre (List.replicate n (.int x t)) (List.replicate n x)
  | 0 => .nil
  | n + 1 => .cons x t (intsRep n)
set_option maxHeartbeats 1000000 in
theorem int2digits {w : World} {nn a : Nat} (hn : 1 ≤ nn) (h60 : Builtin.Int.intBits a + nn ≤ 60) {ta tn : Tok} {s₀ : Shared}
    {A : Around} {h : Heap} {tk : Nat} {Q : Value → Shared → Prop} {E : Value → Shared → Prop} (hdep : A.depth + 70 < recursionLimit) (S : Stat w h) (T : Tab h)
    (hQ : ∀ l h' tk', Ext h h' → Tab h' → h.get? l = none → LI h' l (digs nn a) → Q (.ref l) (St s₀ h' tk')) :
    wpAny (Md w) A (call (.ref 21) [.int a ta, .int nn tn]) Q E (St s₀ h tk) := by
  refine wpAny_call (enterC (binds := [("a", .int a ta), ("n", .int nn tn)]) (m := upd (fun _ => none) "a" (.int a ta)) (cm := upd (fun _ => none) "n" (.int nn tn)) (cs := fun L => [("inner", L + 1 + 1 + 1), ("a_digits", L + 1 + 1), ("n", L + 1)])
    (by lia) S T (S.1 21 _ rfl) rfl rfl (codeRec_of' S (by kernel_rfl)) rfl rfl (fun L => rfl) rfl rfl ?_)
  intro L h1 tk1 hk hL F
  have S1 : Stat w h1 := S.keeps hk
  have hnd : nd nn a ≤ 60 := by
    have h1 := nd_mul_le (n := nn) (a := a)
    have h2 : nd nn a ≤ nn * nd nn a := Nat.le_mul_of_pos_left _ hn
    lia
  refine wpAny_execs_cons (wpAny_Assign_Name (wpAny_BinOp (List_ ?_)))
  refine spliced_evArgs [_] _ _ ?_
  refine EvI.run evK fun t0 tk2 => ?_
  refine wpAny_newList ?_
  have F2 := F.keeps (h' := h1.push { cls := .type "list", data := .seq [Value.int 0 t0].toArray }) fun b o e => Heap.get?_push_of_some _ e
  refine EvI.run (((((evBits (evL F2 rfl)).add (evC F2 rfl rfl).i).sub evK).fdiv (evC F2 rfl rfl).i (by lia) (by lia)).eq (r := (nd nn a : Int)) ?_) fun t3 tk3 => ?_
  · rw [Int.fdiv_eq_ediv_of_nonneg _ (by lia)]
    unfold nd
    rw [Int.natCast_ediv]
    congr 1
    lia
  refine mulZero (Heap.get?_push_size _ rfl) (by lia) ?_
  obtain ⟨h2, hh2⟩ : ∃ h2, h2 = h1.push { cls := .type "list", data := .seq [Value.int 0 t0].toArray } := ⟨_, rfl⟩
  rw [← hh2] at F2 ⊢
  obtain ⟨d, hdd⟩ : ∃ d, d = h2.objs.size := ⟨_, rfl⟩
  obtain ⟨h3, hh3⟩ : ∃ h3, h3 = h2.push { cls := .type "list", data := .seq (List.replicate (nd nn a) (Value.int 0 t0)).toArray } := ⟨_, rfl⟩
  have k23 : ∀ b o, h2.get? b = some o → h3.get? b = some o := fun b o e => hh3 ▸ Heap.get?_push_of_some _ e
  have F3 : Fn _ L _ _ _ h3 := F2.keeps k23
  have L3 : LI h3 d (List.replicate (nd nn a) 0) := ⟨_, by rw [hh3, hdd]; exact isList_push, intsRep _⟩
  rw [← hh3, ← hdd]
  have hd62 : 62 < d := by
    rw [hdd, hh2, Heap.size_push]
    exact Nat.lt_succ_of_lt (Heap.lt_size (S1.at 62 (by kernel_rfl)))
  have hfd : (hideAll h [16, 23]).get? d = none := by
    refine Heap.get?_none_of_le ?_
    rw [hideAll_size, hdd, hh2, Heap.size_push]
    exact Nat.le_succ_of_le (Nat.le_trans hL (Nat.le_of_lt F.ns.lt))
  refine stC F3 rfl fun h4 tk4 F4 k4 => ?_
  have L4 := L3.still k4
  have S4 : Stat w h4 := S.frozen.keeps F4.keep
  refine wpAny_execs_cons (nestDef_K rfl rfl rfl ?_)
  refine nestG (qual := "_int2digits.<locals>.inner") (.inl rfl) S4 F4.tab.t16 (hd20 S4) (clos := [("n", L + 1), ("inner", L + 1 + 1 + 1), ("a_digits", L + 1 + 1)]) rfl rfl rfl rfl rfl ?_
  intro fi c' ctv doc pm h5 tk5 hx ht n16 n23 hrec hfn hfi
  have X5 : Ext h4 h5 := fun b o p _ e => hx b o p e
  have F5 := F4.ext X5 ⟨ht, F4.tab.t23.extBut hx (by decide) (.inl rfl)⟩
  have L5 := L4.ext F4.tab X5
  refine stC F5 rfl fun h6 tk6 F6 k6 => ?_
  have L6 := L5.still k6
  have C : Clo1 w.params h6 nn d (L + 1 + 1) (L + 1 + 1 + 1) (L + 1) fi c' :=
    ⟨⟨doc, pm, ctv, k6 _ _ still_func hfn⟩, codeRec_still hrec k6, n16, n23, F6.cell "a_digits" _ rfl, F6.cell "inner" _ rfl, ⟨tn, F6.cell "n" _ rfl⟩⟩
  have S6 : Stat w h6 := S.frozen.keeps F6.keep
  obtain ⟨vs6, hl6, hv6⟩ := id L6
  have hlen6 : vs6.length = nd nn a := by rw [hv6.length, List.length_replicate]
  have hzero : (((a : Int) != 0) = true) ↔ a ≠ 0 := by simp
  have hx6 : Ext h h6 := Ext.of_frozen F6.keep
  have hnone : h.get? d = none := by
    refine Heap.get?_none_of_le ?_
    rw [hdd, hh2, Heap.size_push]
    exact Nat.le_succ_of_le (Nat.le_trans hL (Nat.le_of_lt F.ns.lt))
  refine wpAny_execs_cons (ifI (b := ((a : Int) != 0)) ?_ (fun hb tk7 => ?_) fun hb tk7 => ?_)
  · intro tk Q E hq
    exact wpAny_isTrue_value ((evL F6 rfl) tk _ E fun tk' => truthy_int (hq _))
  · refine wpAny_execs_cons (wpAny_Expr ?_)
    refine callF (evC F6 rfl rfl) fun tk8 => ?_
    refine EvV.run (evL F6 rfl) fun tk9 => ?_
    refine EvI.run evK fun t9 tk10 => ?_
    refine EvI.run (evLen (evB S6 (gl_len _)) (evC F6 rfl rfl) hl6 (by simp only [List.size_toArray]; lia)) fun t10 tk11 => ⟨let ⟨_, _, _, e⟩ := C.fn; ⟨_, _, _, _, e⟩, ?_⟩
    have hpos : 0 < nd nn a := by
      have := lt_nd (n := nn) (a := a) hn
      have ha : a ≠ 0 := hzero.mp hb
      rcases Nat.eq_zero_or_pos (nd nn a) with e | e
      · rw [e] at this; simp at this; exact absurd this ha
      · exact e
    have hm60 : nn * nd nn a ≤ 60 := Nat.le_trans nd_mul_le (by lia)
    simp only [List.size_toArray, hlen6]
    refine inner1 (w := w) hn hd62 s₀ 60 (lo := 0) (hi := nd nn a) (by show A.depth + 1 + 60 < _; lia) S6 F6.tab C L6 hpos (by simp) (by lia) (by simpa using lt_nd hn) (by simpa using hm60) fun h11 tk12 X11 T11 L11 => ?_
    have F11 := F6.extD X11 T11 L6 hfd
    refine wpAny_execs_nil ?_
    refine wpAny_execs_cons (retV (evC F11 rfl rfl) fun tk13 => ?_)
    refine hQ d h11 tk13 (Ext.of_frozen F11.keep) T11 hnone ?_
    simpa [digs, List.drop_eq_nil_of_le] using L11
  · refine wpAny_execs_nil ?_
    refine wpAny_execs_cons (retV (evC F6 rfl rfl) fun tk8 => ?_)
    have ha : a = 0 := by
      rcases Nat.eq_zero_or_pos a with e | e
      · exact e
      · have := hzero.mpr (by lia); rw [this] at hb; cases hb
    refine hQ d h6 tk8 hx6 F6.tab hnone ?_
    subst ha
    rw [nd_zero hn] at L6
    simpa [digs, nd_zero hn, dg] using L6
end Mine

end
section
open PySem PySem.W PyProof.Rows PySem.Calls
set_option Elab.async false
set_option linter.unusedVariables false
set_option maxRecDepth 100000
namespace Mine
abbrev pw : Program := PySem.Challenge.pw_mr0073_01
/-- what an iterator writes is no code object and no table -/
noncomputable def WrOk (wr : List Addr) (h : Heap) : Prop := ∀ b ∈ wr, b ≠ 16 ∧ b ≠ 23 ∧ ∃ o, h.get? b = some o ∧ ((∃ vs, o.data = .fields vs ∧ ∀ q t, vs[1]? ≠ some (.str q t)) ∨ ∃ vs n, o.data = .seq vs n)
theorem Tab1.wr {wr : List Addr} {h h' : Heap} {P : Addr} {pos : Pos} {q : Str} (x : Tab1 h P pos q) (hP : P = 16 ∨ P = 23) (W : WrOk wr h) (k : ∀ b o, b ∉ wr → h.get? b = some o → h'.get? b = some o) : Tab1 h' P pos q := by
  obtain ⟨ps, e, r⟩ := x
  refine ⟨ps, k _ _ (fun hm => ?_) e, r.imp id ?_⟩
  · rcases hP with rfl | rfl
    · exact (W _ hm).1 rfl
    · exact (W _ hm).2.1 rfl
  · rintro ⟨c, e1, e2, e3, c', o, vs, t, e4, e5, e6, e7⟩
    refine ⟨c, e1, e2, e3, c', o, vs, t, e4, k _ _ (fun hm => ?_) e5, e6, e7⟩
    obtain ⟨_, _, o', a1, ⟨vs', a2, a3⟩ | ⟨vs', n', a2⟩⟩ := W _ hm
    · rw [e5] at a1; cases a1
      rw [e6] at a2; cases a2
      exact a3 _ _ e7
    · rw [e5] at a1; cases a1
      rw [e6] at a2; cases a2
theorem Tab.wr {wr : List Addr} {h h' : Heap} (x : Tab h) (W : WrOk wr h) (k : ∀ b o, b ∉ wr → h.get? b = some o → h'.get? b = some o) : Tab h' := ⟨x.t16.wr (.inl rfl) W k, x.t23.wr (.inr rfl) W k⟩
/-- in a comprehension: the names' dict C, the list D that it fills -/
structure Cp (wr : List Addr) (h₂ : Heap) (C D : Addr) (m : Str → Option Value) (ys : List Value) (h : Heap) : Prop where
  ns : h.Ns C m
  acc : h.PlainList D ys.toArray
  keep : ∀ b o, b ∉ wr → b ≠ 16 → b ≠ 23 → h₂.get? b = some o → h.get? b = some o
  tab : Tab h
section
variable {w : World} {A : Around} {E : Value → Shared → Prop} {env : Env} {s₀ : Shared}
theorem compLoopG {elt iter : Expr} {x : Str} {px : Pos} {scope : Scope} {pos : Pos} {I C D : Addr} {fp wr ex : List Addr} {n : Nat} {P : Nat → Value → Prop} {Z : Nat → Heap → Prop} {cenv : Env} {h₂ h : Heap} {tk : Nat} {m : Str → Option Value} {R : Result → Shared → Prop}
    (W : Walks pw w A I fp wr n P Z) (hsz : n ≤ 10000) (hC : cenv.locals = C) (hx : cenv.kindOf x = some .local) (hp : (cenv.scope.kind == .class || (cenv.scope.kind == .module && cenv.locals != cenv.globals)) = false)
    (hDC : D ≠ C) (hCn : h₂.get? C = none) (hDn : h₂.get? D = none) (hDf : D ∉ fp) (hCf : C ∉ fp) (hfp : ∀ b ∈ fp, b ≠ 16 ∧ b ≠ 23) (hW : ∀ i h, Z i h → WrOk wr h)
    (G : Nat → Value → Value → Heap → Prop) (mono : ∀ i v y g g', G i v y g → (∀ b o, g.get? b = some o → g'.get? b = some o) → G i v y g')
    (hst : Z 0 h) (hcp : Cp wr h₂ C D m [] h)
    (helt : ∀ i v h tk m ys (Q : Value → Shared → Prop) (E : Value → Shared → Prop), i < n → P i v → m x = some v → Z (i + 1) h → Cp wr h₂ C D m ys h →
      (∀ y h' tk', Ext h h' → Tab h' → G i v y (hideAll h' (16 :: 23 :: C :: D :: (wr ++ ex))) → Q y (St s₀ h' tk')) → wpAny (Md w) A (eval elt cenv) Q E (St s₀ h tk))
    (hR : ∀ h' tk' m' ys (vs : List Value), Cp wr h₂ C D m' ys h' → vs.length = n → ys.length = n → (∀ j v, vs[j]? = some v → P j v) → (∀ j v y, vs[j]? = some v → ys[j]? = some y → G j v y (hideAll h' (16 :: 23 :: C :: D :: (wr ++ ex)))) → R (.ok .next) (St s₀ h' tk')) :
    codeAny (Md w) A (.compLoop (.ListComp elt [⟨.Name x px, iter, [], 0⟩] scope pos) 0 (.ref I) (.ref D) cenv) R (St s₀ h tk) := by
  subst hC
  refine codeAny_compLoop_list (fun k s' => ∃ h' tk' m' ys, ∃ vs : List Value, s' = St s₀ h' tk' ∧ Z vs.length h' ∧ Cp wr h₂ cenv.locals D m' ys h' ∧ vs.length ≤ n ∧ ys.length = vs.length ∧ (∀ j v, vs[j]? = some v → P j v) ∧
    (∀ j v y, vs[j]? = some v → ys[j]? = some y → G j v y (hideAll h' (16 :: 23 :: cenv.locals :: D :: (wr ++ ex)))) ∧ k = n + 1 - vs.length) ?_ (n + 1)
    ⟨h, tk, m, [], [], rfl, hst, hcp, Nat.zero_le _, rfl, by simp, by simp, rfl⟩
  rintro k s' ⟨h, tk, m, ys, vs, rfl, hst, hcp, hle, hlen, hP, hG, rfl⟩
  have hCw : cenv.locals ∉ wr := fun h => hCf (W.sub _ h)
  have hDw : D ∉ wr := fun h => hDf (W.sub _ h)
  have dat : ∃ o xs k, h.get? D = some o ∧ o.data = .seq xs k := let ⟨k, e⟩ := hcp.acc; ⟨_, _, k, e, rfl⟩
  by_cases hlt : vs.length < n
  · refine W.item vs.length _ _ _ hlt hst fun v h₁ tk₁ hPv hst₁ hk₁ => ?_
    have T₁ : Tab h₁ := hcp.tab.wr (hW _ _ hst) hk₁
    have ns₁ : h₁.Ns cenv.locals m := hcp.ns.at' fun o e => hk₁ _ o hCw e
    refine wpAny_assign_Name (wpAny_storeName_local hx ns₁ (fun h₃ hn₃ hs₃ => ?_) hp)
    obtain ⟨oC, esC, epC, eC, hdC, _⟩ := ns₁
    have T₃ : Tab h₃ := T₁.keeps fun b o us hu e => (hs₃.2 b (ne_of_data e eC (by rw [hu, hdC]; intro q; cases q))).trans e
    have acc₃ : h₃.PlainList D ys.toArray := by
      obtain ⟨k, e⟩ := hcp.acc
      exact ⟨k, (hs₃.2 D hDC).trans (hk₁ _ _ hDw e)⟩
    have keep₃ : ∀ b o, b ∉ wr → b ≠ 16 → b ≠ 23 → h₂.get? b = some o → h₃.get? b = some o := fun b o p q r e => (hs₃.2 b (by rintro rfl; rw [hCn] at e; cases e)).trans (hk₁ b o p (hcp.keep b o p q r e))
    have st₃ : Z (vs.length + 1) h₃ := W.frame _ _ _ hst₁ fun b hb o e => hs₃.extBut b o (fun q => hCf (q ▸ hb)) e
    refine helt vs.length v h₃ _ _ ys _ _ hlt hPv (by simp) st₃ ⟨hn₃, acc₃, keep₃, T₃⟩ fun y h₄ tk₄ X₄ T₄ G₄ => ?_
    have hD16 : D ≠ 16 ∧ D ≠ 23 := by
      obtain ⟨o, xs, k, e, hd⟩ := dat
      exact ⟨hcp.tab.t16.ne e (by rw [hd]; intro q h; cases h), hcp.tab.t23.ne e (by rw [hd]; intro q h; cases h)⟩
    have hC16 : cenv.locals ≠ 16 ∧ cenv.locals ≠ 23 := ⟨T₁.t16.ne eC (by rw [hdC]; intro q h; cases h), T₁.t23.ne eC (by rw [hdC]; intro q h; cases h)⟩
    have acc₄ : h₄.PlainList D ys.toArray := let ⟨k, e⟩ := acc₃; ⟨k, X₄ _ _ hD16.1 hD16.2 e⟩
    obtain ⟨kD, eD⟩ := id acc₄
    refine wpAny_list_append_plain (s := St s₀ h₄ tk₄) acc₄ (fun h₅ hl₅ hs₅ => ?_) (by rw [List.size_toArray, hlen, sizeLine_eq]; lia)
    have T₅ : Tab h₅ := T₄.keeps fun b o us hu e => (hs₅.2 b (ne_of_data e eD (by rw [hu]; intro q; cases q))).trans e
    have up : ∀ b o, b ∉ wr → b ≠ 16 → b ≠ 23 → b ≠ cenv.locals → b ≠ D → h.get? b = some o → h₅.get? b = some o := fun b o p q r c d e =>
      (hs₅.2 b d).trans (X₄ _ _ q r ((hs₃.2 b c).trans (hk₁ b o p e)))
    have hid : ∀ (g : Heap) (b : Addr) (o : Obj), (hideAll g (16 :: 23 :: cenv.locals :: D :: (wr ++ ex))).get? b = some o → b ∉ (16 :: 23 :: cenv.locals :: D :: (wr ++ ex)) ∧ g.get? b = some o := fun g b o e =>
      ⟨(fun hm => by rw [hideAll_none _ hm] at e; cases e), of_hideAll _ e⟩
    refine ⟨n + 1 - (vs.length + 1), by lia, h₅, tk₄, upd m x v, ys ++ [y], vs ++ [v], rfl, ?_, ⟨?_, ?_, ?_, T₅⟩, ?_, ?_, ?_, ?_, ?_⟩
    · rw [List.length_append, List.length_singleton]
      exact W.frame _ _ _ st₃ fun b hb o e => hs₅.extBut b o (fun q => hDf (q ▸ hb)) (X₄ b o (hfp b hb).1 (hfp b hb).2 e)
    · exact (Heap.Ns.at' (m := upd m x v) hn₃ fun o e => X₄ _ o hC16.1 hC16.2 e).sameBut hs₅ (Ne.symm hDC)
    · have e : (ys ++ [y]).toArray = ys.toArray.push y := by simp
      rw [e]; exact hl₅
    · exact fun b o p q r e => (hs₅.2 b (by rintro rfl; rw [hDn] at e; cases e)).trans (X₄ b o q r (keep₃ b o p q r e))
    · rw [List.length_append, List.length_singleton]; exact hlt
    · rw [List.length_append, List.length_append, hlen]; rfl
    · intro j u hj
      rcases Nat.lt_trichotomy j vs.length with h | h | h
      · exact hP j u (by rwa [List.getElem?_append_left h] at hj)
      · subst h; simp at hj; subst hj; exact hPv
      · have hnone : (vs ++ [v])[j]? = none := List.getElem?_eq_none (by rw [List.length_append, List.length_singleton]; lia)
        rw [hnone] at hj; cases hj
    · intro j u z hj hz
      rcases Nat.lt_trichotomy j vs.length with h | h | h
      · rw [List.getElem?_append_left h] at hj
        rw [List.getElem?_append_left (by lia)] at hz
        refine mono _ _ _ _ _ (hG j u z hj hz) fun b o e => ?_
        obtain ⟨h1, h2⟩ := hid _ _ _ e
        simp only [List.mem_cons, not_or] at h1
        refine hideAll_get _ (up b o (fun hm => h1.2.2.2.2 (List.mem_append_left _ hm)) h1.1 h1.2.1 h1.2.2.1 h1.2.2.2.1 h2) ?_
        simp only [List.mem_cons, not_or]; exact h1
      · subst h
        simp at hj; subst hj
        rw [← hlen] at hz; simp at hz; subst hz
        refine mono _ _ _ _ _ G₄ fun b o e => ?_
        obtain ⟨h1, h2⟩ := hid _ _ _ e
        refine hideAll_get _ ((hs₅.2 b ?_).trans h2) h1
        simp only [List.mem_cons, not_or] at h1
        exact h1.2.2.2.1
      · have hnone : (vs ++ [v])[j]? = none := List.getElem?_eq_none (by rw [List.length_append, List.length_singleton]; lia)
        rw [hnone] at hj; cases hj
    · rw [List.length_append, List.length_singleton]
  · have hin : vs.length = n := by lia
    refine W.done _ _ _ (hin ▸ hst) fun h₁ tk₁ hk₁ => ?_
    refine hR h₁ tk₁ m ys vs ⟨hcp.ns.at' fun o e => hk₁ _ o hCw e, ?_, fun b o p q r e => hk₁ b o p (hcp.keep b o p q r e), hcp.tab.wr (hW _ _ hst) hk₁⟩ hin (hlen.trans hin) hP fun j u z hj hz => ?_
    · obtain ⟨k, e⟩ := hcp.acc
      exact ⟨k, hk₁ _ _ hDw e⟩
    · refine mono _ _ _ _ _ (hG j u z hj hz) fun b o e => ?_
      have h1 : b ∉ (16 :: 23 :: cenv.locals :: D :: (wr ++ ex)) := fun hm => by rw [hideAll_none _ hm] at e; cases e
      refine hideAll_get _ (hk₁ b o ?_ (of_hideAll _ e)) h1
      simp only [List.mem_cons, not_or] at h1
      exact fun hm => h1.2.2.2.2 (List.mem_append_left _ hm)
end
end Mine

end
section
open PySem PySem.W PyProof.Rows PySem.Calls
set_option Elab.async false
set_option linter.unusedVariables false
set_option maxRecDepth 100000
namespace Mine
section
variable {w : World} {A : Around} {E : Value → Shared → Prop} {env : Env} {s₀ : Shared}
variable {elt iter : Expr} {x : Str} {px : Pos} {scope : Scope} {cl : List (Str × Addr)} {pos : Pos} {I : Addr} {fp wr ex : List Addr} {n : Nat} {P : Nat → Value → Prop} {Z : Nat → Heap → Prop} {h₂ : Heap} {tk : Nat}
/-- what a comprehension's element must do -/
noncomputable def EltOk (w : World) (A : Around) (s₀ : Shared) (env : Env) (scope : Scope) (cl : List (Str × Addr)) (elt : Expr) (x : Str) (n : Nat) (P : Nat → Value → Prop) (Z : Nat → Heap → Prop) (wr ex : List Addr) (h₂ : Heap) (G : Nat → Value → Value → Heap → Prop) : Prop :=
  ∀ C D, h₂.get? C = none → h₂.get? D = none → D ≠ C → ∀ i v h tk m ys (Q : Value → Shared → Prop) (E : Value → Shared → Prop), i < n → P i v → m x = some v → Z (i + 1) h → Cp wr h₂ C D m ys h →
      (∀ y h' tk', Ext h h' → Tab h' → G i v y (hideAll h' (16 :: 23 :: C :: D :: (wr ++ ex))) → Q y (St s₀ h' tk')) → wpAny (Md w) A (eval elt (compEnvC scope cl C env)) Q E (St s₀ h tk)
theorem compBlock {RR : Value → Addr → Result → Shared → Prop} (W : Walks pw w A I fp wr n P Z) (hsz : n ≤ 10000)
    (hcell : (scope.names.all fun y => !(y.2 == .cell)) = true) (hkind : scope.kind = .function) (hx : scope.names.lookup x = some .local) (hst : Z 0 h₂) (hfp : ∀ b ∈ fp, b < h₂.objs.size ∧ b ≠ 16 ∧ b ≠ 23) (hW : ∀ i h, Z i h → WrOk wr h) (T : Tab h₂)
    (G : Nat → Value → Value → Heap → Prop) (mono : ∀ i v y g g', G i v y g → (∀ b o, g.get? b = some o → g'.get? b = some o) → G i v y g')
    (helt : EltOk w A s₀ env scope cl elt x n P Z wr ex h₂ G)
    (hRR : ∀ D C h' tk' m' ys (vs : List Value), h₂.get? D = none → h₂.get? C = none → D ≠ C → C ∉ wr → D ∉ wr → Cp wr h₂ C D m' ys h' → vs.length = n → ys.length = n → (∀ j v, vs[j]? = some v → P j v) →
      (∀ j v y, vs[j]? = some v → ys[j]? = some y → G j v y (hideAll h' (16 :: 23 :: C :: D :: (wr ++ ex)))) → RR (.ref D) C (.ok .next) (St s₀ h' tk')) :
    wpAny (Md w) A (newList []) (fun acc s₃ => wpAny (Md w) A (newFunctionEnv scope env.globals cl [] env.qual none .none (some env)) (fun cenv s₄ =>
      codeAny (Md w) A (.compStart (.ListComp elt [⟨.Name x px, iter, [], 0⟩] scope pos) 0 (.ref I) acc { cenv with scope := relabel scope env }) (RR acc cenv.locals) s₄) E s₃) E (St s₀ h₂ tk) := by
  have hcell' : ∀ y ∈ scope.names, y.2 ≠ .cell := fun y hy e => by have := List.all_eq_true.mp hcell y hy; rw [e] at this; cases this
  refine wpAny_newList (wpAny_newFunctionEnv hcell' (by intro y hy; simp at hy) (fun h₁ hns₁ hsb₁ => ?_) hkind)
  dsimp only at hns₁ hsb₁ ⊢
  generalize hH2 : h₂.push { cls := .type "list", dict := none, data := .seq ([] : List Value).toArray } = H2 at hns₁ hsb₁ ⊢
  have hC : H2.objs.size = h₂.objs.size + 1 := by rw [← hH2, Heap.size_push]
  have hDC : h₂.objs.size ≠ H2.objs.size := by rw [hC]; exact Nat.ne_of_lt (Nat.lt_succ_self _)
  have hCle : h₂.objs.size ≤ H2.objs.size := by rw [hC]; exact Nat.le_succ _
  have below : ∀ b, b < h₂.objs.size → b ≠ H2.objs.size ∧ b ≠ h₂.objs.size := fun b hb => ⟨by rw [hC]; exact Nat.ne_of_lt (Nat.lt_succ_of_lt hb), Nat.ne_of_lt hb⟩
  have hDf : h₂.objs.size ∉ fp := fun hm => Nat.lt_irrefl _ (hfp _ hm).1
  have hCf : H2.objs.size ∉ fp := fun hm => by have := (hfp _ hm).1; rw [hC] at this; exact Nat.lt_irrefl _ (Nat.lt_of_succ_lt this)
  have old : ∀ b o, h₂.get? b = some o → h₁.get? b = some o := fun b o e => hsb₁.extBut b o (below b (Heap.lt_size e)).1 (Heap.get?_push_of_some _ (hH2 ▸ Heap.get?_push_of_some _ e))
  have hacc : h₁.PlainList h₂.objs.size ([] : List Value).toArray := ⟨0, hsb₁.extBut _ _ hDC (Heap.get?_push_of_some _ (hH2 ▸ Heap.get?_push_size _ rfl))⟩
  have hst₁ : Z 0 h₁ := W.frame _ _ _ hst fun b _ o e => old b o e
  have fD : h₂.get? h₂.objs.size = none := Heap.get?_none_of_le (Nat.le_refl _)
  have fC : h₂.get? H2.objs.size = none := Heap.get?_none_of_le hCle
  have loop : codeAny (Md w) A (.compLoop (.ListComp elt [⟨.Name x px, iter, [], 0⟩] scope pos) 0 (.ref I) (.ref h₂.objs.size) (compEnvC scope cl H2.objs.size env)) (RR (.ref h₂.objs.size) H2.objs.size) (St s₀ h₁ (tk + ([] : List (Str × Value)).length)) := by
    refine compLoopG (cenv := compEnvC scope cl H2.objs.size env) (C := H2.objs.size) (D := h₂.objs.size) W hsz rfl (lookup_relabel_local hx) (by simp [compEnvC, relabel, hkind]) hDC fC fD hDf hCf (fun b hb => (hfp b hb).2) hW G mono hst₁
      ⟨hns₁, hacc, fun b o _ _ _ e => old b o e, T.keeps fun b o _ _ e => old b o e⟩ (helt _ _ fC fD hDC) ?_
    intro h' tk' m' ys vs hcp h1 h2 h3 h4
    exact hRR _ _ h' tk' m' ys vs fD fC hDC (fun hm => hCf (W.sub _ hm)) (fun hm => hDf (W.sub _ hm)) hcp h1 h2 h3 h4
  exact codeAny_compStart_list loop (W.self 0 _ _ _ hst₁ loop)
/-- a comprehension as a value -/
theorem compE {Q : Value → Shared → Prop} (hclos : closureFor scope env = pure cl) (hcell : (scope.names.all fun y => !(y.2 == .cell)) = true) (hkind : scope.kind = .function)
    (hnames : (scope.names.all fun y => !(y.2 == .local) || scope.names.lookup y.1 == some .local) = true) (hx : scope.names.lookup x = some .local) {h : Heap}
    (hq : wpAny (Md w) A (eval iter env) (fun xv s₁ => wpAny (Md w) A (pyIter xv) (fun it s₂ => ∃ I fp wr ex n P Z h₂ tk₂ G, s₂ = St s₀ h₂ tk₂ ∧ it = .ref I ∧ Walks pw w A I fp wr n P Z ∧ n ≤ 10000 ∧ Z 0 h₂ ∧ (∀ b ∈ fp, b < h₂.objs.size ∧ b ≠ 16 ∧ b ≠ 23) ∧ (∀ i h, Z i h → WrOk wr h) ∧ Tab h₂ ∧
      (∀ i v y g g', G i v y g → (∀ b o, g.get? b = some o → g'.get? b = some o) → G i v y g') ∧ EltOk w A s₀ env scope cl elt x n P Z wr ex h₂ G ∧
      (∀ D h' tk' (ys vs : List Value), h₂.get? D = none → h'.PlainList D ys.toArray → vs.length = n → ys.length = n → (∀ j v, vs[j]? = some v → P j v) → (∀ j v y, vs[j]? = some v → ys[j]? = some y → G j v y (hideAll h' (16 :: 23 :: D :: (wr ++ ex)))) →
        (∀ b o, b ∉ wr → b ≠ 16 → b ≠ 23 → h₂.get? b = some o → h'.get? b = some o) → Tab h' → D ∉ wr → Q (.ref D) (St s₀ h' tk'))) E s₁) E (St s₀ h tk))
    (hs : ∀ x, foldedSetIterable iter env x = pure x := by intro _; rfl) :
    wpAny (Md w) A (eval (.ListComp elt [⟨.Name x px, iter, [], 0⟩] scope pos) env) Q E (St s₀ h tk) := by
  have hnames' : ∀ y ∈ scope.names, y.2 = .local → scope.names.lookup y.1 = some .local := fun y hy e => by
    have := List.all_eq_true.mp hnames y hy
    rw [e] at this
    simpa using this
  rw [eval_ListComp]
  refine wpAny_comprehension_free (use := none) rfl hs hclos hkind hnames' (wpAny_mono hq (fun xv s₁ h₁ => wpAny_mono h₁ (fun it s₂ h₂ => ?_) fun _ _ e => e) fun _ _ e => e)
  obtain ⟨I, fp, wr, ex, n, P, Z, h₂, tk₂, G, rfl, rfl, W, hsz, hst, hfp, hW, T, mono, helt, hQ⟩ := h₂
  refine compBlock (RR := fun acc C => compPost (Md w) A E none Q acc C) W hsz hcell hkind hx hst hfp hW T G mono helt ?_
  intro D C h' tk' m' ys vs hD hC hDC hCw hDw hcp h1 h2 h3 h4
  refine ⟨m', hcp.ns, fun h'' hs'' => ?_⟩
  obtain ⟨oC, esC, epC, eC, hdC, _⟩ := hcp.ns
  refine hQ D h'' tk' ys vs hD ?_ h1 h2 h3 (fun j v y hj hy => mono _ _ _ _ _ (h4 j v y hj hy) fun b o e => ?_) (fun b o p q r e => ?_) ?_ hDw
  · obtain ⟨k, e⟩ := hcp.acc
    exact ⟨k, (hs''.2 _ hDC).trans e⟩
  · have h1 : b ∉ (16 :: 23 :: C :: D :: (wr ++ ex)) := fun hm => by rw [hideAll_none _ hm] at e; cases e
    simp only [List.mem_cons, not_or] at h1
    refine hideAll_get _ ((hs''.2 b h1.2.2.1).trans (of_hideAll _ e)) ?_
    simp only [List.mem_cons, not_or]; exact ⟨h1.1, h1.2.1, h1.2.2.2⟩
  · exact (hs''.2 b (by rintro rfl; rw [hC] at e; cases e)).trans (hcp.keep b o p q r e)
  · exact hcp.tab.keeps fun b o us hu e => (hs''.2 b (ne_of_data e eC (by rw [hu, hdC]; intro q; cases q))).trans e
/-- a comprehension that a name takes before its own names go -/
theorem compA {y : Str} {py spos : Pos} {Q : Flow → Shared → Prop} (hsw : swapsWith (.ListComp elt [⟨.Name x px, iter, [], 0⟩] scope pos) (some (.Name y py)) spos.line env = pure true)
    (hclos : closureFor scope env = pure cl) (hcell : (scope.names.all fun y => !(y.2 == .cell)) = true) (hkind : scope.kind = .function)
    (hnames : (scope.names.all fun y => !(y.2 == .local) || scope.names.lookup y.1 == some .local) = true) (hx : scope.names.lookup x = some .local) {h : Heap}
    (hq : wpAny (Md w) A (eval iter env) (fun xv s₁ => wpAny (Md w) A (pyIter xv) (fun it s₂ => ∃ I fp wr ex n P Z h₂ tk₂ G, s₂ = St s₀ h₂ tk₂ ∧ it = .ref I ∧ Walks pw w A I fp wr n P Z ∧ n ≤ 10000 ∧ Z 0 h₂ ∧ (∀ b ∈ fp, b < h₂.objs.size ∧ b ≠ 16 ∧ b ≠ 23) ∧ (∀ i h, Z i h → WrOk wr h) ∧ Tab h₂ ∧
      (∀ i v y g g', G i v y g → (∀ b o, g.get? b = some o → g'.get? b = some o) → G i v y g') ∧ EltOk w A s₀ env scope cl elt x n P Z wr ex h₂ G ∧
      (∀ D C h' tk' m' (ys vs : List Value), h₂.get? D = none → h₂.get? C = none → D ≠ C → C ∉ wr → D ∉ wr → Cp wr h₂ C D m' ys h' → vs.length = n → ys.length = n → (∀ j v, vs[j]? = some v → P j v) →
        (∀ j v y, vs[j]? = some v → ys[j]? = some y → G j v y (hideAll h' (16 :: 23 :: C :: D :: (wr ++ ex)))) →
        wpAny (Md w) A (storeName env y (.ref D)) (fun _ s'' => ∃ m, s''.heap.Ns C m ∧ ∀ h'', Heap.SameBut C s''.heap h'' → Q .next { s'' with heap := h'' }) E (St s₀ h' tk'))) E s₁) E (St s₀ h tk))
    (hs : ∀ x, foldedSetIterable iter env x = pure x := by intro _; rfl) :
    wpAny (Md w) A (exec (.Assign [.Name y py] (.ListComp elt [⟨.Name x px, iter, [], 0⟩] scope pos) spos) env) Q E (St s₀ h tk) := by
  have hnames' : ∀ y ∈ scope.names, y.2 = .local → scope.names.lookup y.1 = some .local := fun y hy e => by
    have := List.all_eq_true.mp hnames y hy
    rw [e] at this
    simpa using this
  rw [exec_Assign_Name_used _ _ _ _ hsw]
  refine wpAny_bind (wpAny_standAt (wpAny_bind ?_))
  show wpAny _ A (do let _ ← comprehension (.ListComp elt [⟨.Name x px, iter, [], 0⟩] scope pos) scope env _ (newList []) false (eval iter env) (some (assign (.Name y py) env))) _ _ _
  refine wpAny_bind (wpAny_mono (wpAny_comprehension_free (use := some (assign (.Name y py) env)) (Q := fun _ s' => Q .next s') rfl hs hclos hkind hnames'
    (wpAny_mono hq (fun xv s₁ h₁ => wpAny_mono h₁ (fun it s₂ h₂ => ?_) fun _ _ e => e) fun _ _ e => e)) (fun _ s' hq => wpAny_pure (wpAny_pure hq)) fun _ _ e => e)
  obtain ⟨I, fp, wr, ex, n, P, Z, h₂, tk₂, G, rfl, rfl, W, hsz, hst, hfp, hW, T, mono, helt, hQ⟩ := h₂
  refine compBlock (RR := fun acc C => compPost (Md w) A E (some (assign (.Name y py) env)) (fun _ s' => Q .next s') acc C) W hsz hcell hkind hx hst hfp hW T G mono helt ?_
  intro D C h' tk' m' ys vs hD hC hDC hCw hDw hcp h1 h2 h3 h4
  show wpAny _ A (assign (.Name y py) env (.ref D)) _ _ _
  exact wpAny_assign_Name (hQ D C h' tk' m' ys vs hD hC hDC hCw hDw hcp h1 h2 h3 h4)
end
section
variable {w : World} {A : Around} {E : Value → Shared → Prop} {env : Env} {s₀ : Shared} {f h₂ h' : Heap} {L C D : Addr} {m cm mC : Str → Option Value} {cs : List (Str × Addr)} {wr : List Addr} {ys : List Value} {tk : Nat}
theorem WrOk.ne {a : Addr} {o : Obj} (W : WrOk wr h₂) (e : h₂.get? a = some o) (ho : ∀ vs, o.data ≠ .fields vs) (ho2 : ∀ vs n, o.data ≠ .seq vs n) : a ∉ wr := fun hm => by
  obtain ⟨_, _, o', e', ⟨vs, hd, _⟩ | ⟨vs, n, hd⟩⟩ := W a hm
  · rw [e] at e'; cases e'
    exact ho _ hd
  · rw [e] at e'; cases e'
    exact ho2 _ _ hd
/-- behind a comprehension's loop: the frame stands -/
theorem Fn.comp (F : Fn f L m cs cm h₂) (hcp : Cp wr h₂ C D mC ys h') (hfw : ∀ b ∈ wr, f.get? b = none) (W : WrOk wr h₂) : Fn f L m cs cm h' := by
  refine ⟨?_, fun n c hc => ?_, F.apart, fun b o e => hcp.keep b o (fun hm => by rw [hfw b hm] at e; cases e) ?_ ?_ (F.keep b o e), F.noL, F.noC, F.no16, F.no23, hcp.tab⟩
  · obtain ⟨o, es, ep, e, hd, r⟩ := F.ns
    exact ⟨o, es, ep, hcp.keep L o (W.ne e (by rw [hd]; intro vs h; cases h) (by rw [hd]; intro vs n h; cases h)) F.ne16.1 F.ne16.2 e, hd, r⟩
  · obtain ⟨o, e, hd⟩ := F.cell n c hc
    exact ⟨o, hcp.keep c o (W.ne e (by rw [hd]; intro vs h; cases h) (by rw [hd]; intro vs n h; cases h)) (F.tab.t16.ne e (by rw [hd]; intro vs h; cases h)) (F.tab.t23.ne e (by rw [hd]; intro vs h; cases h)) e, hd⟩
  · rintro rfl; rw [F.no16] at e; cases e
  · rintro rfl; rw [F.no23] at e; cases e
/-- a change at a dict that is not the frame -/
theorem Fn.dict (F : Fn f L m cs cm h₂) (hs : Heap.SameBut C h₂ h') (hn : h₂.Ns C mC) (hC : C ≠ L) (hf : f.get? C = none) : Fn f L m cs cm h' := by
  obtain ⟨oC, esC, epC, eC, hdC, _⟩ := hn
  refine ⟨F.ns.sameBut hs hC.symm, fun n c hc => ?_, F.apart, fun b o e => (hs.2 b (by rintro rfl; rw [hf] at e; cases e)).trans (F.keep b o e), F.noL, F.noC, F.no16, F.no23, ?_⟩
  · obtain ⟨o, e, hd⟩ := F.cell n c hc
    exact ⟨o, (hs.2 c (ne_of_data e eC (by rw [hd, hdC]; intro q; cases q))).trans e, hd⟩
  · exact F.tab.keeps fun b o us hu e => (hs.2 b (ne_of_data e eC (by rw [hu, hdC]; intro q; cases q))).trans e
theorem compStL {y : Str} {Q : Flow → Shared → Prop} (F : Fn f L m cs cm h₂) (hcp : Cp wr h₂ C D mC ys h') (hfw : ∀ b ∈ wr, f.get? b = none) (W : WrOk wr h₂) (hC : h₂.get? C = none) (hD : h₂.get? D = none) (hDC : D ≠ C)
    (hq : ∀ h'' tk'', Fn f L (upd m y (.ref D)) cs cm h'' → (∀ b o, b ≠ L → b ≠ C → h'.get? b = some o → h''.get? b = some o) → h''.PlainList D ys.toArray → Q .next (St s₀ h'' tk''))
    (hk : env.scope.kind = .function := by rfl) (hl : env.kindOf y = some .local := by rfl) (hL : env.locals = L := by rfl) :
    wpAny (Md w) A (storeName env y (.ref D)) (fun _ s'' => ∃ m, s''.heap.Ns C m ∧ ∀ h'', Heap.SameBut C s''.heap h'' → Q .next { s'' with heap := h'' }) E (St s₀ h' tk) := by
  have F' := F.comp hcp hfw W
  have fC : f.get? C = none := by
    cases e : f.get? C with
    | none => rfl
    | some o => rw [F.keep _ _ e] at hC; cases hC
  have ne : ∀ {a : Addr}, h₂.get? a = none → a ≠ L := fun {a} e q => by obtain ⟨o, _, _, e', _⟩ := F.ns; rw [q, e'] at e; cases e
  refine stL' F' (fun h3 tk3 F3 hs3 => ?_) hk hl hL
  refine ⟨mC, hcp.ns.sameBut hs3 (ne hC), fun h4 hs4 => hq h4 tk3 (F3.dict hs4 (hcp.ns.sameBut hs3 (ne hC)) (ne hC) fC) (fun b o p q e => (hs4.2 b q).trans ((hs3.2 b p).trans e)) ?_⟩
  obtain ⟨o, e⟩ := hcp.acc
  exact ⟨o, (hs4.2 D hDC).trans ((hs3.2 D (ne hD)).trans e)⟩
end
end Mine

end
section
open PySem PySem.W PyProof.Rows PySem.Calls
set_option Elab.async false
set_option linter.unusedVariables false
set_option maxRecDepth 100000
namespace Mine
section
variable {w : World} {A : Around} {E : Value → Shared → Prop} {env : Env} {s₀ : Shared} {f h h' : Heap} {L : Addr} {m cm : Str → Option Value} {cs : List (Str × Addr)} {tk : Nat}
/-- an iterator's own writes leave the frame -/
theorem Fn.wr {wr : List Addr} (F : Fn f L m cs cm h) (hfw : ∀ b ∈ wr, f.get? b = none) (W : WrOk wr h) (k : ∀ b o, b ∉ wr → h.get? b = some o → h'.get? b = some o) : Fn f L m cs cm h' := by
  refine ⟨?_, fun n c hc => ?_, F.apart, fun b o e => k b o (fun hm => by rw [hfw b hm] at e; cases e) (F.keep b o e), F.noL, F.noC, F.no16, F.no23, F.tab.wr W k⟩
  · obtain ⟨o, es, ep, e, hd, r⟩ := F.ns
    exact ⟨o, es, ep, k L o (W.ne e (by rw [hd]; intro vs h; cases h) (by rw [hd]; intro vs n h; cases h)) e, hd, r⟩
  · obtain ⟨o, e, hd⟩ := F.cell n c hc
    exact ⟨o, k c o (W.ne e (by rw [hd]; intro vs h; cases h) (by rw [hd]; intro vs n h; cases h)) e, hd⟩
/-- a for over any walk, by an invariant -/
theorem forG {x : Str} {px : Pos} {body : List Stmt} {I : Addr} {fp wr : List Addr} {n : Nat} {P : Nat → Value → Prop} {Z : Nat → Heap → Prop} {R : Result → Shared → Prop}
    (W : Walks pw w A I fp wr n P Z) (F : Fn f L m cs cm h) (hst : Z 0 h) (hW : ∀ i h, Z i h → WrOk wr h) (hfw : ∀ b ∈ wr, f.get? b = none) (hLf : L ∉ fp)
    (J : Nat → (Str → Option Value) → Heap → Prop) (h0 : J 0 m h) (hJ : ∀ i m h h', J i m h → (∀ b o, b ∉ wr → b ≠ L → h.get? b = some o → h'.get? b = some o) → J i m h')
    (step : ∀ i v h tk m (Qb : Flow → Shared → Prop) (E : Value → Shared → Prop), i < n → P i v → Z (i + 1) h → J i m h → Fn f L (upd m x v) cs cm h →
      (∀ h' tk' m', Fn f L m' cs cm h' → (∀ b ∈ fp, ∀ o, h.get? b = some o → h'.get? b = some o) → J (i + 1) m' h' → Qb .next (St s₀ h' tk')) → wpAny (Md w) A (execs body env) Qb E (St s₀ h tk))
    (hend : ∀ h' tk' m', Fn f L m' cs cm h' → J n m' h' → R (.ok .next) (St s₀ h' tk'))
    (hk : env.scope.kind = .function := by rfl) (hl : env.kindOf x = some .local := by rfl) (hL : env.locals = L := by rfl) :
    codeAny (Md w) A (.forLoop (.Name x px) (.ref I) body [] env) R (St s₀ h tk) := by
  refine codeAny_forLoop (fun k s' => ∃ h' tk' m' i, s' = St s₀ h' tk' ∧ Z i h' ∧ Fn f L m' cs cm h' ∧ J i m' h' ∧ i ≤ n ∧ k = n + 1 - i) ?_ (n + 1) ⟨h, tk, m, 0, rfl, hst, F, h0, Nat.zero_le _, rfl⟩
  rintro k s' ⟨h, tk, m, i, rfl, hst, F, hj, hi, rfl⟩
  by_cases hlt : i < n
  · refine W.item i _ _ _ hlt hst fun v h₁ tk₁ hPv hst₁ hk₁ => ?_
    have F₁ := F.wr hfw (hW _ _ hst) hk₁
    refine wpAny_assign_Name (stL' F₁ (fun h₂ tk₂ F₂ hs₂ => ?_) hk hl hL)
    have hj₂ := hJ i m h h₂ hj fun b o p q e => (hs₂.2 b q).trans (hk₁ b o p e)
    refine step i v h₂ _ m _ _ hlt hPv (W.frame _ _ _ hst₁ fun b hb o e => hs₂.extBut b o (fun q => hLf (q ▸ hb)) e) hj₂ F₂ fun h₃ tk₃ m₃ F₃ k₃ hj₃ => ?_
    refine ⟨n + 1 - (i + 1), by lia, h₃, tk₃, m₃, i + 1, rfl, ?_, F₃, hj₃, hlt, rfl⟩
    exact W.frame _ _ _ hst₁ fun b hb o e => k₃ b hb o (hs₂.extBut b o (fun q => hLf (q ▸ hb)) e)
  · have : i = n := by lia
    subst this
    refine W.done _ _ _ hst fun h₁ tk₁ hk₁ => ?_
    refine wpAny_execs_nil ?_
    exact hend h₁ tk₁ m (F.wr hfw (hW _ _ hst) hk₁) (hJ _ _ _ _ hj fun b o p _ e => hk₁ b o p e)
end
end Mine

end
section
open PySem PySem.W PyProof.Rows PySem.Calls
set_option Elab.async false
set_option linter.unusedVariables false
set_option maxRecDepth 100000
namespace Mine
noncomputable def Sub (f f' : Heap) : Prop := ∀ b o, f.get? b = some o → f'.get? b = some o
theorem Sub.refl (f : Heap) : Sub f f := fun _ _ e => e
theorem Sub.trans {f g k : Heap} (x : Sub f g) (y : Sub g k) : Sub f k := fun b o e => y b o (x b o e)
theorem Sub.ext {f g : Heap} (x : Sub f g) : Ext f g := Ext.of_keeps x
/-- the heap without what may turn -/
abbrev fz (h : Heap) (L : Addr) (cs : List (Str × Addr)) (mu : List Addr) : Heap := hideAll h (16 :: 23 :: L :: (cs.map (·.2) ++ mu))
noncomputable def In (b : Addr) (h : Heap) : Prop := h.get? b ≠ none
theorem In.of {b : Addr} {h : Heap} {o : Obj} (e : h.get? b = some o) : In b h := by unfold In; rw [e]; intro h; cases h
theorem In.get {b : Addr} {h : Heap} (x : In b h) : ∃ o, h.get? b = some o := by
  unfold In at x
  cases e : h.get? b with
  | none => exact absurd e x
  | some o => exact ⟨o, rfl⟩
theorem Tab1.in {h : Heap} {P : Addr} {pos : Pos} {q : Str} (x : Tab1 h P pos q) : In P h := let ⟨_, e, _⟩ := x; In.of e
theorem In.ext {b : Addr} {h h' : Heap} (x : In b h) (X : Ext h h') (T : Tab h') : In b h' := by
  by_cases h1 : b = 16
  · exact h1 ▸ T.t16.in
  · by_cases h2 : b = 23
    · exact h2 ▸ T.t23.in
    · obtain ⟨o, e⟩ := x.get; exact In.of (X b o h1 h2 e)
theorem In.sub {b : Addr} {h h' : Heap} (x : In b h) (X : Sub h h') : In b h' := let ⟨o, e⟩ := x.get; In.of (X b o e)
section
variable {f h h' : Heap} {L : Addr} {m cm : Str → Option Value} {cs : List (Str × Addr)}
theorem Fn.inL (F : Fn f L m cs cm h) : In L h := let ⟨_, _, _, e, _⟩ := F.ns; In.of e
theorem lookup_of_mem : ∀ {cs : List (Str × Addr)} {c : Addr}, c ∈ cs.map (·.2) → ∃ n, (n, c) ∈ cs := fun {cs c} h => by
  obtain ⟨p, hp, rfl⟩ := List.mem_map.mp h
  exact ⟨p.1, hp⟩
/-- the cells that a frame's list tells -/
noncomputable def Cells (cs : List (Str × Addr)) (h f : Heap) : Prop := ∀ c ∈ cs.map (·.2), In c h ∧ f.get? c = none
theorem Fn.cells (F : Fn f L m cs cm h) (nd : (cs.map (·.1)).Nodup) : Cells cs h f := by
  intro c hc
  obtain ⟨n, hm⟩ := lookup_of_mem hc
  have hl : cs.lookup n = some c := by
    clear F
    induction cs with
    | nil => cases hm
    | cons p r ih =>
      obtain ⟨k, a⟩ := p
      rw [List.map_cons, List.nodup_cons] at nd
      rcases List.mem_cons.mp hm with e | hm'
      · cases e; simp [List.lookup]
      · have : n ≠ k := by rintro rfl; exact nd.1 (List.mem_map_of_mem (f := (·.1)) hm')
        have hb : (n == k) = false := by simpa using this
        simp only [List.lookup, hb]
        exact ih nd.2 (List.mem_map_of_mem (f := (·.2)) hm') hm'
  obtain ⟨o, e, _⟩ := F.cell n c hl
  exact ⟨In.of e, F.noC n c hl⟩
theorem Fn.refreeze (F : Fn f L m cs cm h) (mu : List Addr) : Fn (fz h L cs mu) L m cs cm h := F.freeze mu
theorem Fn.subFz (F : Fn f L m cs cm h) (nd : (cs.map (·.1)).Nodup) {mu : List Addr} (hmu : ∀ b ∈ mu, f.get? b = none) : Sub f (fz h L cs mu) := by
  intro b o e
  refine hideAll_get _ (F.keep b o e) ?_
  simp only [List.mem_cons, List.mem_append, not_or]
  refine ⟨?_, ?_, ?_, ?_, ?_⟩
  · rintro rfl; rw [F.no16] at e; cases e
  · rintro rfl; rw [F.no23] at e; cases e
  · rintro rfl; rw [F.noL] at e; cases e
  · intro hm; rw [(F.cells nd b hm).2] at e; cases e
  · intro hm; rw [hmu b hm] at e; cases e
end
/-- a source that a loop walks: its iterator is new -/
structure Src (w : World) (A : Around) (h : Heap) (I : Addr) (fp : List Addr) (n : Nat) (P : Nat → Value → Prop) (Z : Nat → Heap → Prop) (h₂ : Heap) : Prop where
  walks : Walks pw w A I fp [I] n P Z
  small : n ≤ 10000
  start : Z 0 h₂
  sub : Sub h h₂
  new : h.get? I = none
  fpOk : ∀ b ∈ fp, b < h₂.objs.size ∧ b ≠ 16 ∧ b ≠ 23
  fpDat : ∀ b ∈ fp, ∃ o, h₂.get? b = some o ∧ (∀ es n, o.data ≠ .dict es n) ∧ (∀ v, o.data ≠ .cell v)
  wrOk : ∀ i h, Z i h → WrOk [I] h
section
variable {w : World} {A : Around} {h : Heap}
theorem size_ne {h : Heap} (T : Tab h) : h.objs.size ≠ 16 ∧ h.objs.size ≠ 23 := by
  obtain ⟨_, e, _⟩ := T.t16
  obtain ⟨_, e', _⟩ := T.t23
  exact ⟨Ne.symm (Nat.ne_of_lt (Heap.lt_size e)), Ne.symm (Nat.ne_of_lt (Heap.lt_size e'))⟩
theorem IsList.ne16 {h : Heap} {l : Addr} {items : Array Value} (T : Tab h) (hl : h.IsList l items) : l ≠ 16 ∧ l ≠ 23 := by
  obtain ⟨o, e, _, k, hd⟩ := hl
  exact ⟨T.t16.ne e (by rw [hd]; intro q h; cases h), T.t23.ne e (by rw [hd]; intro q h; cases h)⟩
theorem Src.list (hh : A.handled = none) (T : Tab h) {l : Addr} {items : Array Value} (hl : h.IsList l items) (hsz : items.size ≤ 10000) :
    Src w A h h.objs.size [h.objs.size, l] items.size (fun i v => items[i]? = some v) (fun i h' => h'.IsListIter h.objs.size l i ∧ h'.IsList l items) (h.push { cls := .type "list_iterator", data := .fields #[.ref l, .int 0 0] }) := by
  have hlt : l < h.objs.size := by obtain ⟨_, e, _⟩ := hl; exact Heap.lt_size e
  obtain ⟨s1, s2⟩ := size_ne T
  obtain ⟨n1, n2⟩ := IsList.ne16 T hl
  refine ⟨Walks.list hh _ l (Nat.ne_of_lt hlt) items, hsz, ⟨⟨_, Heap.get?_push_size _ rfl, rfl, rfl⟩, hl.push _⟩, fun b o e => Heap.get?_push_of_some _ e, Heap.get?_none_of_le (Nat.le_refl _), ?_, ?_, ?_⟩
  · intro b hb
    rw [Heap.size_push]
    rcases List.mem_cons.mp hb with rfl | hb
    · exact ⟨Nat.lt_succ_self _, s1, s2⟩
    · rcases List.mem_cons.mp hb with rfl | hb
      · exact ⟨Nat.lt_succ_of_lt hlt, n1, n2⟩
      · cases hb
  · intro b hb
    rcases List.mem_cons.mp hb with rfl | hb
    · exact ⟨_, Heap.get?_push_size _ rfl, (fun _ _ h => nomatch h), (fun _ h => nomatch h)⟩
    · rcases List.mem_cons.mp hb with rfl | hb
      · obtain ⟨o, e, _, k, hd⟩ := hl
        exact ⟨o, Heap.get?_push_of_some _ e, (fun _ _ h => nomatch hd.symm.trans h), (fun _ h => nomatch hd.symm.trans h)⟩
      · cases hb
  · rintro i h' ⟨⟨o, e, _, hd⟩, _⟩ b hb
    rw [List.mem_singleton] at hb
    subst hb
    refine ⟨s1, s2, o, e, .inl ⟨_, hd, fun q t h => ?_⟩⟩
    simp at h
theorem Src.rev (hh : A.handled = none) (T : Tab h) {l : Addr} {items : Array Value} (hl : h.IsList l items) (hsz : items.size ≤ 10000) :
    Src w A h h.objs.size [h.objs.size, l] items.size (fun i v => items[items.size - 1 - i]? = some v) (fun i h' => i ≤ items.size ∧ h'.IsRevIter h.objs.size l ((items.size : Int) - 1 - (i : Int)) ∧ h'.IsList l items) (h.push (revObj l ((items.size : Int) - 1))) := by
  have hlt : l < h.objs.size := by obtain ⟨_, e, _⟩ := hl; exact Heap.lt_size e
  obtain ⟨s1, s2⟩ := size_ne T
  obtain ⟨n1, n2⟩ := IsList.ne16 T hl
  refine ⟨Walks.listRev hh _ l (Nat.ne_of_lt hlt) items, hsz, ⟨Nat.zero_le _, ⟨_, Heap.get?_push_size _ rfl, rfl, by simp [revObj]⟩, hl.push _⟩, fun b o e => Heap.get?_push_of_some _ e, Heap.get?_none_of_le (Nat.le_refl _), ?_, ?_, ?_⟩
  · intro b hb
    rw [Heap.size_push]
    rcases List.mem_cons.mp hb with rfl | hb
    · exact ⟨Nat.lt_succ_self _, s1, s2⟩
    · rcases List.mem_cons.mp hb with rfl | hb
      · exact ⟨Nat.lt_succ_of_lt hlt, n1, n2⟩
      · cases hb
  · intro b hb
    rcases List.mem_cons.mp hb with rfl | hb
    · exact ⟨_, Heap.get?_push_size _ rfl, (fun _ _ h => nomatch h), (fun _ h => nomatch h)⟩
    · rcases List.mem_cons.mp hb with rfl | hb
      · obtain ⟨o, e, _, k, hd⟩ := hl
        exact ⟨o, Heap.get?_push_of_some _ e, (fun _ _ h => nomatch hd.symm.trans h), (fun _ h => nomatch hd.symm.trans h)⟩
      · cases hb
  · rintro i h' ⟨_, ⟨o, e, _, hd⟩, _⟩ b hb
    rw [List.mem_singleton] at hb
    subst hb
    refine ⟨s1, s2, o, e, .inl ⟨_, hd, fun q t h => ?_⟩⟩
    simp [rawInt] at h
theorem Src.range (hh : A.handled = none) (T : Tab h) (a c : Int) (n : Nat) (hsz : n ≤ 10000) :
    Src w A h h.objs.size [h.objs.size] n (fun i v => ∃ t, v = .int (a + i * c) t) (fun i h' => IsRangeIter h' h.objs.size (a + (i : Nat) * c) ((n : Int) - (i : Nat)) c) (h.push { cls := .type "range_iterator", data := .fields #[rawInt a, rawInt n, rawInt c] }) := by
  obtain ⟨s1, s2⟩ := size_ne T
  refine ⟨Walks.range hh _ a c n, hsz, ?_, fun b o e => Heap.get?_push_of_some _ e, Heap.get?_none_of_le (Nat.le_refl _), ?_, ?_, ?_⟩
  · show Heap.get? _ _ = _
    have e : a + ((0 : Nat) : Int) * c = a := by simp
    have e' : (n : Int) - ((0 : Nat) : Int) = n := by simp
    rw [e, e']
    exact Heap.get?_push_size _ rfl
  · intro b hb
    rw [Heap.size_push]
    rcases List.mem_cons.mp hb with rfl | hb
    · exact ⟨Nat.lt_succ_self _, s1, s2⟩
    · cases hb
  · intro b hb
    rcases List.mem_cons.mp hb with rfl | hb
    · exact ⟨_, Heap.get?_push_size _ rfl, (fun _ _ h => nomatch h), (fun _ h => nomatch h)⟩
    · cases hb
  · intro i h' e b hb
    rw [List.mem_singleton] at hb
    subst hb
    exact ⟨s1, s2, _, e, .inl ⟨_, rfl, fun q t h => by simp [rawInt] at h⟩⟩
end
section
variable {w : World} {A : Around} {E : Value → Shared → Prop} {env : Env} {s₀ : Shared} {f h : Heap} {L : Addr} {m cm : Str → Option Value} {cs : List (Str × Addr)} {tk : Nat}
variable {elt iter : Expr} {x : Str} {px : Pos} {scope : Scope} {cl : List (Str × Addr)} {pos : Pos} {mu : List Addr}
/-- what an element must do, the frame frozen -/
noncomputable def Elt (w : World) (A : Around) (s₀ : Shared) (env : Env) (scope : Scope) (cl : List (Str × Addr)) (elt : Expr) (x : Str) (n : Nat) (P : Nat → Value → Prop) (h : Heap) (F : Heap → Prop) (G : Nat → Value → Value → Heap → Prop) : Prop :=
  ∀ C i v h' tk mC hid (Q : Value → Shared → Prop) (E : Value → Shared → Prop), i < n → P i v → h'.Ns C mC → mC x = some v → F h' → Ext h h' → Tab h' → (∀ b ∈ hid, In b h') →
    (∀ y h'' tk', Ext h' h'' → Tab h'' → G i v y (hideAll h'' hid) → Q y (St s₀ h'' tk')) → wpAny (Md w) A (eval elt (compEnvC scope cl C env)) Q E (St s₀ h' tk)
noncomputable def Mono (G : Nat → Value → Value → Heap → Prop) : Prop := ∀ i v y g g', G i v y g → (∀ b o, g.get? b = some o → g'.get? b = some o) → G i v y g'
theorem Elt.ok {n : Nat} {P : Nat → Value → Prop} {Z : Nat → Heap → Prop} {G : Nat → Value → Value → Heap → Prop} {h₁ h₂ : Heap} {I : Addr} {fp ex : List Addr}
    (x1 : Elt w A s₀ env scope cl elt x n P h (Fn f L m cs cm) G) (F : Fn f L m cs cm h₁) (X : Ext h h₁) (Sr : Src w A h₁ I fp n P Z h₂) (hex : ∀ b ∈ ex, In b h₁) :
    EltOk w A s₀ env scope cl elt x n P Z [I] ex h₂ G := by
  intro C D hC hD hDC i v h' tk' mC ys Q E hi hP hx hz hcp hq
  have fI : ∀ b o, h₁.get? b = some o → b ∉ [I] := fun b o e hm => by rw [List.mem_singleton] at hm; subst hm; rw [Sr.new] at e; cases e
  have X' : Ext h₁ h' := fun b o p q e => hcp.keep b o (fI b o e) p q (Sr.sub b o e)
  have F' : Fn f L m cs cm h' := F.ext X' hcp.tab
  refine x1 C i v h' tk' mC (16 :: 23 :: C :: D :: ([I] ++ ex)) Q E hi hP hcp.ns hx F' (X.trans X') hcp.tab ?_ fun y h'' tk'' X2 T2 g => hq y h'' tk'' X2 T2 g
  intro b hb
  simp only [List.mem_cons, List.mem_append, List.not_mem_nil, or_false] at hb
  rcases hb with rfl | rfl | rfl | rfl | rfl | hb
  · exact hcp.tab.t16.in
  · exact hcp.tab.t23.in
  · obtain ⟨_, _, _, e, _⟩ := hcp.ns; exact In.of e
  · obtain ⟨_, e⟩ := hcp.acc; exact In.of e
  · obtain ⟨_, _, o, e, _⟩ := Sr.wrOk _ _ hz b (by simp); exact In.of e
  · exact (hex b hb).ext X' hcp.tab
/-- a comprehension as a value -/
theorem compV {Q : Value → Shared → Prop} (F₀ : Fn f L m cs cm h) (nd : (cs.map (·.1)).Nodup) (hmu : ∀ b ∈ mu, f.get? b = none ∧ In b h)
    (hq : wpAny (Md w) A (eval iter env) (fun xv s₁ => wpAny (Md w) A (pyIter xv) (fun it s₂ => ∃ I fp n P Z h₁ h₂ tk₂ G, s₂ = St s₀ h₂ tk₂ ∧ it = .ref I ∧ Fn f L m cs cm h₁ ∧ Ext h h₁ ∧ Src w A h₁ I fp n P Z h₂ ∧ Mono G ∧
      Elt w A s₀ env scope cl elt x n P h (Fn f L m cs cm) G ∧
      (∀ D f' h' tk' (ys vs : List Value), Sub f f' → Fn f' L m cs cm h' → Ext h h' → (∀ b ∈ mu, f'.get? b = none) → f'.PlainList D ys.toArray → vs.length = n → ys.length = n → (∀ j v, vs[j]? = some v → P j v) → (∀ j v y, vs[j]? = some v → ys[j]? = some y → G j v y f') →
        h.get? D = none → Q (.ref D) (St s₀ h' tk'))) E s₁) E (St s₀ h tk))
    (hclos : closureFor scope env = pure cl) (hcell : (scope.names.all fun y => !(y.2 == .cell)) = true := by rfl) (hkind : scope.kind = .function := by rfl)
    (hnames : (scope.names.all fun y => !(y.2 == .local) || scope.names.lookup y.1 == some .local) = true := by rfl) (hx : scope.names.lookup x = some .local := by rfl)
    (hs : ∀ x, foldedSetIterable iter env x = pure x := by intro _; rfl) :
    wpAny (Md w) A (eval (.ListComp elt [⟨.Name x px, iter, [], 0⟩] scope pos) env) Q E (St s₀ h tk) := by
  refine compE hclos hcell hkind hnames hx (wpAny_mono hq (fun xv s₁ h₁ => wpAny_mono h₁ (fun it s₂ h₂ => ?_) fun _ _ e => e) fun _ _ e => e) hs
  obtain ⟨I, fp, n, P, Z, h₁, h₂, tk₂, G, rfl, rfl, F, X, Sr, mono, helt, hQ⟩ := h₂
  have ce := F.cells nd
  have fI : ∀ b o, h₁.get? b = some o → b ∉ [I] := fun b o e hm => by rw [List.mem_singleton] at hm; subst hm; rw [Sr.new] at e; cases e
  have T₂ : Tab h₂ := F.tab.keeps fun b o _ _ e => Sr.sub b o e
  refine ⟨I, fp, [I], L :: (cs.map (·.2) ++ mu), n, P, Z, h₂, tk₂, G, rfl, rfl, Sr.walks, Sr.small, Sr.start, Sr.fpOk, Sr.wrOk, T₂, mono, helt.ok F X Sr ?_, ?_⟩
  · intro b hb
    rcases List.mem_cons.mp hb with rfl | hb
    · exact F.inL
    · rcases List.mem_append.mp hb with hb | hb
      · exact (ce b hb).1
      · exact (hmu b hb).2.ext X F.tab
  · intro D h' tk' ys vs hD hl h1 h2 h3 h4 hkeep T' hDw
    have X' : Ext h₁ h' := fun b o p q e => hkeep b o (fI b o e) p q (Sr.sub b o e)
    have F' : Fn f L m cs cm h' := F.ext X' T'
    have hDn : ∀ b, In b h₁ → D ≠ b := by
      rintro b hb rfl
      obtain ⟨o, e⟩ := hb.get
      rw [Sr.sub _ _ e] at hD; cases hD
    refine hQ D (fz h' L cs mu) h' tk' ys vs (F'.subFz nd fun b hb => (hmu b hb).1) (F'.refreeze mu) (X.trans X') (fun b hb => hideAll_none _ (by simp [hb])) ?_ h1 h2 h3 ?_ ?_
    · obtain ⟨k, e⟩ := hl
      refine ⟨k, hideAll_get _ e ?_⟩
      simp only [List.mem_cons, List.mem_append, not_or]
      exact ⟨hDn _ F.tab.t16.in, hDn _ F.tab.t23.in, hDn _ F.inL, fun hm => hDn _ (ce _ hm).1 rfl, fun hm => hDn _ ((hmu _ hm).2.ext X F.tab) rfl⟩
    · intro j v y hj hy
      refine mono _ _ _ _ _ (h4 j v y hj hy) fun b o e => ?_
      have h1 : b ∉ (16 :: 23 :: D :: ([I] ++ (L :: (cs.map (·.2) ++ mu)))) := fun hm => by rw [hideAll_none _ hm] at e; cases e
      refine hideAll_get _ (of_hideAll _ e) ?_
      simp only [List.mem_cons, List.mem_append, not_or, List.not_mem_nil, not_false_iff, and_true] at h1 ⊢
      exact ⟨h1.1, h1.2.1, h1.2.2.2.2.1, h1.2.2.2.2.2.1, h1.2.2.2.2.2.2⟩
    · cases e : h.get? D with
      | none => rfl
      | some o => exact absurd rfl (hDn D ((In.of e).ext X F.tab))
end
end Mine

end
section
open PySem PySem.W PyProof.Rows PySem.Calls
set_option Elab.async false
set_option linter.unusedVariables false
set_option maxRecDepth 100000
namespace Mine
section
variable {w : World} {A : Around} {E : Value → Shared → Prop} {env : Env} {s₀ : Shared} {f h : Heap} {L : Addr} {m cm : Str → Option Value} {cs : List (Str × Addr)} {tk : Nat}
variable {elt iter : Expr} {x : Str} {px : Pos} {scope : Scope} {cl : List (Str × Addr)} {pos : Pos} {mu : List Addr}
/-- what stands but the frame -/
noncomputable def ExtB (N : List Addr) (h h' : Heap) : Prop := ∀ b o, b ≠ 16 → b ≠ 23 → b ∉ N → h.get? b = some o → h'.get? b = some o
theorem ExtB.trans {N : List Addr} {a b c : Heap} (x : ExtB N a b) (y : ExtB N b c) : ExtB N a c := fun k o p q r e => y k o p q r (x k o p q r e)
theorem Ext.b {N : List Addr} {a b : Heap} (x : Ext a b) : ExtB N a b := fun k o p q _ e => x k o p q e
/-- a comprehension that a local name takes -/
theorem compAL {y : Str} {py spos : Pos} {Q : Flow → Shared → Prop} (F₀ : Fn f L m cs cm h) (nd : (cs.map (·.1)).Nodup) (hmu : ∀ b ∈ mu, f.get? b = none ∧ In b h)
    (hq : wpAny (Md w) A (eval iter env) (fun xv s₁ => wpAny (Md w) A (pyIter xv) (fun it s₂ => ∃ I fp n P Z h₁ h₂ tk₂ G, s₂ = St s₀ h₂ tk₂ ∧ it = .ref I ∧ Fn f L m cs cm h₁ ∧ Ext h h₁ ∧ Src w A h₁ I fp n P Z h₂ ∧ Mono G ∧
      Elt w A s₀ env scope cl elt x n P h (Fn f L m cs cm) G ∧
      (∀ D f' h' tk' (ys vs : List Value), Sub f f' → Fn f' L (upd m y (.ref D)) cs cm h' → ExtB [L] h h' → (∀ b ∈ mu, f'.get? b = none) → f'.PlainList D ys.toArray → vs.length = n → ys.length = n → (∀ j v, vs[j]? = some v → P j v) → (∀ j v y, vs[j]? = some v → ys[j]? = some y → G j v y f') →
        h.get? D = none → Q .next (St s₀ h' tk'))) E s₁) E (St s₀ h tk))
    (hsw : swapsWith (.ListComp elt [⟨.Name x px, iter, [], 0⟩] scope pos) (some (.Name y py)) spos.line env = pure true)
    (hclos : closureFor scope env = pure cl) (hcell : (scope.names.all fun y => !(y.2 == .cell)) = true := by rfl) (hkind : scope.kind = .function := by rfl)
    (hnames : (scope.names.all fun y => !(y.2 == .local) || scope.names.lookup y.1 == some .local) = true := by rfl) (hx : scope.names.lookup x = some .local := by rfl)
    (hs : ∀ x, foldedSetIterable iter env x = pure x := by intro _; rfl)
    (hk : env.scope.kind = .function := by rfl) (hl : env.kindOf y = some .local := by rfl) (hL : env.locals = L := by rfl) :
    wpAny (Md w) A (exec (.Assign [.Name y py] (.ListComp elt [⟨.Name x px, iter, [], 0⟩] scope pos) spos) env) Q E (St s₀ h tk) := by
  refine compA hsw hclos hcell hkind hnames hx (wpAny_mono hq (fun xv s₁ h₁ => wpAny_mono h₁ (fun it s₂ h₂ => ?_) fun _ _ e => e) fun _ _ e => e) hs
  obtain ⟨I, fp, n, P, Z, h₁, h₂, tk₂, G, rfl, rfl, F, X, Sr, mono, helt, hQ⟩ := h₂
  have ce := F.cells nd
  have fI : ∀ b o, h₁.get? b = some o → b ∉ [I] := fun b o e hm => by rw [List.mem_singleton] at hm; subst hm; rw [Sr.new] at e; cases e
  have F₂ : Fn f L m cs cm h₂ := F.keeps Sr.sub
  refine ⟨I, fp, [I], L :: (cs.map (·.2) ++ mu), n, P, Z, h₂, tk₂, G, rfl, rfl, Sr.walks, Sr.small, Sr.start, Sr.fpOk, Sr.wrOk, F₂.tab, mono, helt.ok F X Sr ?_, ?_⟩
  · intro b hb
    rcases List.mem_cons.mp hb with rfl | hb
    · exact F.inL
    · rcases List.mem_append.mp hb with hb | hb
      · exact (ce b hb).1
      · exact (hmu b hb).2.ext X F.tab
  · intro D C h' tk' m' ys vs hD hC hDC hCw hDw hcp h1 h2 h3 h4
    refine compStL F₂ hcp (fun b hb => ?_) (Sr.wrOk _ _ Sr.start) hC hD hDC (fun h3' tk3 F3 k3 pl3 => ?_) hk hl hL
    · rw [List.mem_singleton] at hb; subst hb
      cases e : f.get? b with
      | none => rfl
      | some o => exact absurd (List.mem_singleton.mpr rfl) (fI b o (F.keep b o e))
    have hne : ∀ (D : Addr), h₂.get? D = none → ∀ b, In b h₁ → D ≠ b := by
      rintro D hD b hb rfl
      obtain ⟨o, e⟩ := hb.get
      rw [Sr.sub _ _ e] at hD; cases hD
    refine hQ D (fz h3' L cs mu) h3' tk3 ys vs (F3.subFz nd fun b hb => (hmu b hb).1) (F3.refreeze mu) (fun b o p q r e => ?_) (fun b hb => hideAll_none _ (by simp [hb])) ?_ h1 h2 h3 ?_ ?_
    · have e1 := X b o p q e
      exact k3 b o (by simpa using r) (Ne.symm (hne C hC b (In.of e1))) (hcp.keep b o (fI b o e1) p q (Sr.sub _ _ e1))
    · obtain ⟨k, e⟩ := pl3
      refine ⟨k, hideAll_get _ e ?_⟩
      simp only [List.mem_cons, List.mem_append, not_or]
      exact ⟨hne D hD _ F.tab.t16.in, hne D hD _ F.tab.t23.in, hne D hD _ F.inL, fun hm => hne D hD _ (ce _ hm).1 rfl, fun hm => hne D hD _ ((hmu _ hm).2.ext X F.tab) rfl⟩
    · intro j v y hj hy
      refine mono _ _ _ _ _ (h4 j v y hj hy) fun b o e => ?_
      have h1 : b ∉ (16 :: 23 :: C :: D :: ([I] ++ (L :: (cs.map (·.2) ++ mu)))) := fun hm => by rw [hideAll_none _ hm] at e; cases e
      simp only [List.mem_cons, List.mem_append, not_or, List.not_mem_nil, not_false_iff, and_true] at h1
      refine hideAll_get _ (k3 b o h1.2.2.2.2.2.1 h1.2.2.1 (of_hideAll _ e)) ?_
      simp only [List.mem_cons, List.mem_append, not_or]
      exact ⟨h1.1, h1.2.1, h1.2.2.2.2.2.1, h1.2.2.2.2.2.2.1, h1.2.2.2.2.2.2.2⟩
    · cases e : h.get? D with
      | none => rfl
      | some o => exact absurd rfl (hne D hD D ((In.of e).ext X F.tab))
/-- a for over a source -/
theorem forS {px : Pos} {body : List Stmt} {iter : Expr} {pos : Pos} {Q : Flow → Shared → Prop} (F₀ : Fn f L m cs cm h)
    (hq : wpAny (Md w) A (eval iter env) (fun xv s₁ => wpAny (Md w) A (pyIter xv) (fun it s₂ => ∃ I fp n P Z h₁ h₂ tk₂ m, ∃ J : Nat → (Str → Option Value) → Heap → Prop, s₂ = St s₀ h₂ tk₂ ∧ it = .ref I ∧ Fn f L m cs cm h₁ ∧ Src w A h₁ I fp n P Z h₂ ∧ (∀ b ∈ fp, In b f ∨ b = I) ∧
      J 0 m h₁ ∧ (∀ i m (h h' : Heap), J i m h → (∀ b o, b ≠ I → b ≠ L → h.get? b = some o → h'.get? b = some o) → (I ≠ L) → J i m h') ∧
      (∀ i v h tk m (Qb : Flow → Shared → Prop) (E : Value → Shared → Prop), i < n → P i v → J i m h → Fn f L (upd m x v) cs cm h →
        (∀ h' tk' m', Fn f L m' cs cm h' → (∀ o, h.get? I = some o → h'.get? I = some o) → J (i + 1) m' h' → Qb .next (St s₀ h' tk')) → wpAny (Md w) A (execs body env) Qb E (St s₀ h tk)) ∧
      (∀ h' tk' m', Fn f L m' cs cm h' → J n m' h' → Q .next (St s₀ h' tk'))) E s₁) E (St s₀ h tk))
    (hk : env.scope.kind = .function := by rfl) (hl : env.kindOf x = some .local := by rfl) (hL : env.locals = L := by rfl)
    (hs : ∀ x, foldedSetIterable iter env x = pure x := by intro _; rfl) :
    wpAny (Md w) A (exec (.For (.Name x px) iter body [] pos) env) Q E (St s₀ h tk) := by
  refine wpAny_For (wpAny_mono hq (fun xv s₁ h₁ => wpAny_mono h₁ (fun it s₂ h₂ => ?_) fun _ _ e => e) fun _ _ e => e) hs
  obtain ⟨I, fp, n, P, Z, h₁, h₂, tk₂, m, J, rfl, rfl, F, Sr, hfp, j0, jm, step, hend⟩ := h₂
  have F₂ : Fn f L m cs cm h₂ := F.keeps Sr.sub
  have hIL : I ≠ L := by
    rintro rfl
    obtain ⟨o, _, _, e, _⟩ := F.ns
    rw [Sr.new] at e; cases e
  have hIf : f.get? I = none := by
    cases e : f.get? I with
    | none => rfl
    | some o => have := F.keep _ _ e; rw [Sr.new] at this; cases this
  refine forG (m := m) Sr.walks F₂ Sr.start Sr.wrOk (fun b hb => by rw [List.mem_singleton] at hb; subst hb; exact hIf) (fun hm => ?_) J (jm _ _ _ _ j0 (fun b o _ _ e => Sr.sub b o e) hIL)
    (fun i m h h' j k => jm i m h h' j (fun b o p q e => k b o (by simpa using p) q e) hIL)
    (fun i v h tk m Qb E hi hP hz j F' hq' => step i v h tk m Qb E hi hP j F' fun h' tk' m' F3 kI j3 => hq' h' tk' m' F3 (fun b hb o e => ?_) j3) (fun h' tk' m' F' j => hend h' tk' m' F' j) hk hl hL
  · rcases hfp L hm with hI | rfl
    · obtain ⟨o, e⟩ := hI.get
      rw [F.noL] at e; cases e
    · exact hIL rfl
  · rcases hfp b hb with hI | rfl
    · obtain ⟨o', e'⟩ := hI.get
      have := F'.keep _ _ e'
      rw [e] at this; cases this
      exact F3.keep _ _ e'
    · exact kI o e
end
end Mine

end
section
open PySem PySem.W PyProof.Rows PySem.Calls
set_option Elab.async false
set_option linter.unusedVariables false
set_option maxRecDepth 100000
namespace Mine
theorem gl_max (P : Params) : nsFind (es3 P) "max" = none ∧ bootBuiltins "max" = some (.builtin "max") := ⟨by kernel_rfl, by kernel_rfl⟩
theorem gl_min (P : Params) : nsFind (es3 P) "min" = none ∧ bootBuiltins "min" = some (.builtin "min") := ⟨by kernel_rfl, by kernel_rfl⟩
theorem gl_sum (P : Params) : nsFind (es3 P) "sum" = none ∧ bootBuiltins "sum" = some (.builtin "sum") := ⟨by kernel_rfl, by kernel_rfl⟩
theorem gl_sorted (P : Params) : nsFind (es3 P) "sorted" = none ∧ bootBuiltins "sorted" = some (.builtin "sorted") := ⟨by kernel_rfl, by kernel_rfl⟩
theorem gl_range (P : Params) : nsFind (es3 P) "range" = none ∧ bootBuiltins "range" = some (.type "range") := ⟨by kernel_rfl, by kernel_rfl⟩
theorem gl_reversed (P : Params) : nsFind (es3 P) "reversed" = none ∧ bootBuiltins "reversed" = some (.type "reversed") := ⟨by kernel_rfl, by kernel_rfl⟩
theorem gl_list (P : Params) : nsFind (es3 P) "list" = none ∧ bootBuiltins "list" = some (.type "list") := ⟨by kernel_rfl, by kernel_rfl⟩
theorem gl_zip (P : Params) : nsFind (es3 P) "zip" = none ∧ bootBuiltins "zip" = some (.type "zip") := ⟨by kernel_rfl, by kernel_rfl⟩
theorem gl_i2d (P : Params) : nsFind (es3 P) "_int2digits" = some (.ref 21) := by kernel_rfl
theorem gl_d2i (P : Params) : nsFind (es3 P) "_digits2int" = some (.ref 28) := by kernel_rfl
theorem gl_c2k (P : Params) : nsFind (es3 P) "cmp_to_key" = some (.ref 35) := by kernel_rfl
theorem gl_woven (P : Params) : nsFind (es3 P) "_law_woven" = some (.ref 40) := by kernel_rfl
theorem gl_worth (P : Params) : nsFind (es3 P) "_law_worth" = some (.ref 47) := by kernel_rfl
theorem gl_dealt (P : Params) : nsFind (es3 P) "_law_dealt" = some (.ref 52) := by kernel_rfl
theorem gl_order (P : Params) : nsFind (es3 P) "_law_order" = some (.ref 57) := by kernel_rfl
section
variable {f f' h h' : Heap} {L : Addr} {m cm : Str → Option Value} {cs : List (Str × Addr)}
theorem Sub.none {b : Addr} (s : Sub f f') (e : f'.get? b = none) : f.get? b = none := by
  cases x : f.get? b with
  | none => rfl
  | some o => rw [s _ _ x] at e; cases e
theorem Fn.down (F : Fn f' L m cs cm h) (s : Sub f f') : Fn f L m cs cm h :=
  ⟨F.ns, F.cell, F.apart, s.trans F.keep, s.none F.noL, fun n c hc => s.none (F.noC n c hc), s.none F.no16, s.none F.no23, F.tab⟩
theorem Fn.newNone (F : Fn f L m cs cm h) {b : Addr} (e : h.get? b = none) : f.get? b = none := Sub.none F.keep e
theorem LI.hide {h : Heap} {d : Addr} {ns : List Int} {hid : List Addr} (x : LI h d ns) (hd : d ∉ hid) : LI (hideAll h hid) d ns :=
  let ⟨vs, ⟨o, e, r⟩, hi⟩ := x; ⟨vs, ⟨o, hideAll_get _ e hd, r⟩, hi⟩
end
/-- values that are lists of ints -/
noncomputable def Rows (f : Heap) (ys : List Value) (rs : List (List Int)) : Prop := ys.length = rs.length ∧ ∀ (j : Nat) (r : List Int), rs[j]? = some r → ∃ l, ys[j]? = some (Value.ref l) ∧ LI f l r
theorem Rows.sub {f f' : Heap} {ys : List Value} {rs : List (List Int)} (x : Rows f ys rs) (s : Sub f f') : Rows f' ys rs :=
  ⟨x.1, fun j r h => let ⟨l, e, hl⟩ := x.2 j r h; ⟨l, e, hl.keeps s⟩⟩
theorem Rows.get {f : Heap} {ys : List Value} {rs : List (List Int)} (x : Rows f ys rs) {j : Nat} {y : Value} (h : ys[j]? = some y) : ∃ r l, rs[j]? = some r ∧ y = .ref l ∧ LI f l r := by
  obtain ⟨hj, _⟩ := List.getElem?_eq_some_iff.mp h
  have hr : rs[j]? = some (rs[j]'(x.1 ▸ hj)) := List.getElem?_eq_getElem _
  obtain ⟨l, e, hl⟩ := x.2 j _ hr
  rw [h] at e; cases e
  exact ⟨_, l, hr, rfl, hl⟩
theorem ints_get {vs : List Value} {ds : List Int} (hi : IntsAre vs ds) {k : Nat} {v : Value} (h : vs[k]? = some v) : ∃ d t, ds[k]? = some d ∧ v = .int d t := by
  induction hi generalizing k with
  | nil => simp at h
  | cons n t hr ih =>
    cases k with
    | zero => simp at h; exact ⟨n, t, by simp, h.symm⟩
    | succ k => simpa using ih (by simpa using h)
theorem ints_of {vs : List Value} {ds : List Int} (hl : vs.length = ds.length) (h : ∀ (j : Nat) (d : Int), ds[j]? = some d → ∃ t : Tok, vs[j]? = some (Value.int d t)) : IntsAre vs ds := by
  induction vs generalizing ds with
  | nil => cases ds with
    | nil => exact .nil
    | cons => simp at hl
  | cons v r ih => cases ds with
    | nil => simp at hl
    | cons d q =>
      obtain ⟨t, e⟩ := h 0 d (by simp)
      simp at e; subst e
      exact .cons d t (ih (by simpa using hl) fun j x hx => by simpa using h (j + 1) x (by simpa using hx))
section
variable {w : World} {A : Around} {E : Value → Shared → Prop} {s₀ : Shared} {h : Heap} {tk : Nat} {Q : Value → Shared → Prop}
theorem maxLI {l : Addr} {ns : List Int} (hh : A.handled = none) (hl : LI h l ns) (hne : 0 < ns.length)
    (hq : ∀ h' M (t : Tok) tk', Sub h h' → M ∈ ns → (∀ a, a ∈ ns → a ≤ M) → Q (.int M t) (St s₀ h' tk')) : wpAny (Md w) A (call (.builtin "max") [.ref l]) Q E (St s₀ h tk) := by
  obtain ⟨vs, hl, hi⟩ := hl
  obtain ⟨xs, e⟩ := hi.allInts.items
  have hns : ns = xs.toList.map (·.1) := by rw [← hi.numsOf, ← nums_intItems, ← e]
  have hsz : 0 < xs.size := by
    have h3 := hne; rw [hns, List.length_map, Array.length_toList] at h3; exact h3
  rw [e] at hl
  refine max_intList (s := St s₀ h tk) hh hl hsz fun v h' tk hv hk => ?_
  obtain ⟨t, rfl⟩ := intItems_at hv
  obtain ⟨h1, h2⟩ := argBest_gt (numAt xs) (xs.size - 1)
  refine hq _ _ t tk hk ?_ fun a ha => ?_
  · rw [hns, numAt_eq]; exact getD_mem (by rw [List.length_map, Array.length_toList]; lia)
  · rw [hns] at ha
    obtain ⟨j, hj, rfl⟩ := mem_getD ha
    rw [List.length_map, Array.length_toList] at hj
    rw [← numAt_eq]; exact h2 j (by lia)
theorem minLI {l : Addr} {ns : List Int} (hh : A.handled = none) (hl : LI h l ns) (hne : 0 < ns.length)
    (hq : ∀ h' M (t : Tok) tk', Sub h h' → M ∈ ns → (∀ a, a ∈ ns → M ≤ a) → Q (.int M t) (St s₀ h' tk')) : wpAny (Md w) A (call (.builtin "min") [.ref l]) Q E (St s₀ h tk) := by
  obtain ⟨vs, hl, hi⟩ := hl
  obtain ⟨xs, e⟩ := hi.allInts.items
  have hns : ns = xs.toList.map (·.1) := by rw [← hi.numsOf, ← nums_intItems, ← e]
  have hsz : 0 < xs.size := by
    have h3 := hne; rw [hns, List.length_map, Array.length_toList] at h3; exact h3
  rw [e] at hl
  refine min_intList (s := St s₀ h tk) hh hl hsz fun v h' tk hv hk => ?_
  obtain ⟨t, rfl⟩ := intItems_at hv
  obtain ⟨h1, h2⟩ := argBest_lt (numAt xs) (xs.size - 1)
  refine hq _ _ t tk hk ?_ fun a ha => ?_
  · rw [hns, numAt_eq]; exact getD_mem (by rw [List.length_map, Array.length_toList]; lia)
  · rw [hns] at ha
    obtain ⟨j, hj, rfl⟩ := mem_getD ha
    rw [List.length_map, Array.length_toList] at hj
    rw [← numAt_eq]; exact h2 j (by lia)
/-- a walk over range(n) -/
theorem iterRange {n : Nat} {t : Tok} (T : Tab h) (hn : n ≤ 10000) (hh : A.handled = none)
    (hq : ∀ h₁ h₂ tk' I, Sub h h₁ → Tab h₁ → I = h₁.objs.size → Src w A h₁ I [I] n (fun i v => ∃ t, v = .int i t) (fun i h' => IsRangeIter h' I (i : Nat) ((n : Int) - (i : Nat)) 1) h₂ → Q (.ref I) (St s₀ h₂ tk')) :
    wpAny (Md w) A (call (.type "range") [.int n t]) (fun xv s₁ => wpAny (Md w) A (pyIter xv) Q E s₁) E (St s₀ h tk) := by
  refine call_range_1 ?_
  have T1 : Tab (h.push { cls := .type "range", data := .fields #[.int 0 tk, .int n t, .int 1 (tk + 1)] }) := T.keeps fun b o _ _ e => Heap.get?_push_of_some _ e
  refine wpAny_pyIter_range (IsRange.new _ 0 n 1 _ _ _) (small_one (by lia) (by lia) (by lia) (by lia)) ?_
  have e : Builtin.Range.rangeSize 0 n 1 = n := by rw [rangeSize_one]; split <;> lia
  rw [e]
  refine hq _ _ _ _ (fun b o e => Heap.get?_push_of_some _ e) T1 rfl ?_
  have x := Src.range (w := w) hh T1 0 1 n hn
  simpa using x
end
end Mine

end
section
open PySem PySem.W PyProof.Rows PySem.Calls
set_option Elab.async false
set_option linter.unusedVariables false
set_option maxRecDepth 100000
namespace Mine
/-- the digit at a place -/
noncomputable def at0 (r : List Int) (k : Nat) : Int := r.getD k 0
noncomputable def weave (rs : List (List Int)) : Nat → List Int
  | 0 => []
  | k + 1 => weave rs k ++ rs.reverse.map fun r => at0 r k
noncomputable def maxLen (rs : List (List Int)) : Nat := rs.foldr (fun r k => max r.length k) 0
theorem maxLen_of {rs : List (List Int)} {M : Int} (h1 : M ∈ rs.map fun r => (r.length : Int)) (h2 : ∀ a ∈ rs.map (fun r => (r.length : Int)), a ≤ M) : M = maxLen rs := by
  have key : ∀ (rs : List (List Int)), (∀ r ∈ rs, r.length ≤ maxLen rs) ∧ (rs ≠ [] → ∃ r ∈ rs, r.length = maxLen rs) := by
    intro rs
    induction rs with
    | nil => simp [maxLen]
    | cons a b ih =>
      obtain ⟨i1, i2⟩ := ih
      have e : maxLen (a :: b) = max a.length (maxLen b) := rfl
      refine ⟨fun r hr => ?_, fun _ => ?_⟩
      · rcases List.mem_cons.mp hr with rfl | hr
        · rw [e]; exact Nat.le_max_left _ _
        · rw [e]; exact Nat.le_trans (i1 r hr) (Nat.le_max_right _ _)
      · by_cases hle : maxLen b ≤ a.length
        · exact ⟨a, by simp, by rw [e]; lia⟩
        · have hb : b ≠ [] := by rintro rfl; simp [maxLen] at hle
          obtain ⟨r, hr, hl⟩ := i2 hb
          exact ⟨r, by simp [hr], by rw [e]; lia⟩
  obtain ⟨k1, k2⟩ := key rs
  obtain ⟨r, hr, rfl⟩ := List.mem_map.mp h1
  have ha := k1 r hr
  obtain ⟨r', hr', e'⟩ := k2 (by rintro rfl; simp at hr)
  have := h2 r'.length (List.mem_map.mpr ⟨r', hr', rfl⟩)
  lia
theorem maxLen_le {k : Nat} : ∀ {rs : List (List Int)}, (∀ r ∈ rs, r.length ≤ k) → maxLen rs ≤ k
  | [], _ => Nat.zero_le _
  | a :: b, h => Nat.max_le.mpr ⟨h a (by simp), maxLen_le fun r hr => h r (by simp [hr])⟩
theorem weave_length (rs : List (List Int)) : ∀ k, (weave rs k).length = k * rs.length
  | 0 => by simp [weave]
  | k + 1 => by rw [weave, List.length_append, weave_length rs k, List.length_map, List.length_reverse, Nat.succ_mul]
theorem evX {w : World} {A : Around} {env : Env} {s₀ : Shared} {h : Heap} {m : Str → Option Value} {C : Addr} {x : Str} {pos : Pos} {v : Value} (F : h.Ns C m) (hv : m x = some v) (hC : env.locals = C := by rfl)
    (hk : env.scope.kind = .function := by rfl) (hl : env.kindOf x = some .local := by rfl) (hd : (x == ("__debug__" : Str)) = false := by decide) : EvV w A env s₀ h (.Name x pos) v :=
  fun _ _ _ hq => wpAny_Name (wpAny_loadName_local hk hl (hC ▸ F) hv (hq _)) hd
theorem evY {w : World} {A : Around} {env : Env} {s₀ : Shared} {h : Heap} {x : Str} {pos : Pos} {v : Value} {c : Addr} (hv : h.IsCell c (some v)) (hc : env.cells.lookup x = some c := by rfl)
    (hk : env.scope.kind = .function := by rfl) (hl : env.kindOf x = some .cell := by rfl) (hd : (x == ("__debug__" : Str)) = false := by decide) : EvV w A env s₀ h (.Name x pos) v :=
  fun _ _ _ hq => wpAny_Name (wpAny_loadName_cell hk hl hc hv (hq _)) hd
theorem ints_append {a b : List Value} {x y : List Int} (h1 : IntsAre a x) (h2 : IntsAre b y) : IntsAre (a ++ b) (x ++ y) := by
  induction h1 with
  | nil => exact h2
  | cons n t _ ih => exact .cons n t ih
theorem dg_le {nn a : Nat} (hn : 1 ≤ nn) (h60 : Builtin.Int.intBits a + nn ≤ 60) : (digs nn a).length ≤ 60 := by
  unfold digs
  rw [dg_length]
  have h1 := nd_mul_le (n := nn) (a := a)
  have h2 : nd nn a ≤ nn * nd nn a := Nat.le_mul_of_pos_left _ hn
  lia
set_option maxHeartbeats 2000000 in
theorem law_woven {w : World} {nn : Nat} (hn : 1 ≤ nn) {ps : List Nat} (hps : ps ≠ []) (hlen : ps.length ≤ 100) (h60 : ∀ a ∈ ps, Builtin.Int.intBits a + nn ≤ 60) {p : Addr} {tn : Tok} {s₀ : Shared}
    {A : Around} {h : Heap} {tk : Nat} {Q : Value → Shared → Prop} {E : Value → Shared → Prop} (hdep : A.depth + 80 < recursionLimit) (hh : A.handled = none) (S : Stat w h) (T : Tab h) (hp : LI h p (ps.map Int.ofNat))
    (hQ : ∀ l h' tk', Ext h h' → Tab h' → h.get? l = none → LI h' l (weave (ps.map (digs nn)) (maxLen (ps.map (digs nn)))) → Q (.ref l) (St s₀ h' tk')) :
    wpAny (Md w) A (call (.ref 40) [.ref p, .int nn tn]) Q E (St s₀ h tk) := by
  obtain ⟨pvs, hpl, hpi⟩ := hp
  have hplen : pvs.length = ps.length := by rw [hpi.length, List.length_map]
  refine wpAny_call (enterC (binds := [("point", .ref p), ("bits", .int nn tn)]) (m := upd (fun _ => none) "point" (.ref p)) (cm := upd (fun _ => none) "bits" (.int nn tn)) (cs := fun L => [("bits", L + 1)])
    (by lia) S T (S.1 40 _ rfl) rfl rfl (codeRec_of' S (by kernel_rfl)) rfl rfl (fun L => rfl) rfl rfl ?_)
  intro L h1 tk1 hk hL F
  have S1 : Stat w h1 := S.keeps hk
  have hpl1 : h1.IsList p pvs.toArray := IsList.keeps hpl hk
  have ndc : (([("bits", L + 1)] : List (Str × Addr)).map (·.1)).Nodup := by simp
  have Sf : Stat w (hideAll h [16, 23]) := S.frozen
  have hhA : ∀ env, (A.deeper env).handled = none := fun _ => hh
  -- rows
  refine wpAny_execs_cons (compAL (mu := []) F ndc (by simp) ?_ rfl rfl)
  refine EvV.run (evL F rfl) fun tk2 => ?_
  refine wpAny_pyIter_list hpl1 ?_
  refine ⟨_, _, _, _, _, h1, _, _, fun i v y g => ∃ a l, ps[i]? = some a ∧ y = .ref l ∧ LI g l (digs nn a), rfl, rfl, F, Ext.refl _, Src.list (hhA _) F.tab hpl1 (by simp; lia), ?_, ?_, ?_⟩
  · rintro i v y g g' ⟨a, l, e1, e2, e3⟩ k
    exact ⟨a, l, e1, e2, e3.keeps k⟩
  · intro C i v h' tk' mC hid Q E hi hP hns hx F' X' T' hhid hq
    have hP' : pvs[i]? = some v := by simpa using hP
    obtain ⟨d, t, hd, rfl⟩ := ints_get hpi hP'
    rw [List.getElem?_map, Option.map_eq_some_iff] at hd
    obtain ⟨a, ha, rfl⟩ := hd
    have S' : Stat w h' := S1.ext X'
    refine callF (evG S' (gl_i2d _)) fun tk3 => ?_
    refine EvV.run (evX hns hx) fun tk4 => ?_
    refine EvV.run (evY (F'.cell "bits" _ rfl)) fun tk5 => ⟨⟨_, _, _, _, S'.1 21 _ rfl⟩, ?_⟩
    refine int2digits (s₀ := s₀) hn (h60 a (List.mem_of_getElem? ha)) (by show A.depth + 1 + 70 < _; lia) S' T' fun l h'' tk'' X'' T'' hnone hli => ?_
    refine hq _ _ _ X'' T'' ⟨a, l, ha, rfl, hli.hide fun hm => ?_⟩
    exact hhid l hm hnone
  intro D f2 h2 tk3 ys vs sf F2 X2 _ hD h1' h2' h3' h4' hDn
  obtain ⟨rs, hrs⟩ : ∃ rs, rs = ps.map (digs nn) := ⟨_, rfl⟩
  have hrl : rs.length = ps.length := by rw [hrs, List.length_map]
  have hyl : ys.length = rs.length := by rw [h2', hrl, ← hplen]; simp
  have hrows : Rows f2 ys rs := by
    refine ⟨hyl, fun j r hr => ?_⟩
    have hj : j < ys.length := by rw [hyl]; exact (List.getElem?_eq_some_iff.mp hr).1
    have hv : vs[j]? = some (vs[j]'(by lia)) := List.getElem?_eq_getElem _
    have hy : ys[j]? = some ys[j] := List.getElem?_eq_getElem _
    obtain ⟨a, l, e1, e2, e3⟩ := h4' j _ _ hv hy
    rw [hrs, List.getElem?_map, e1] at hr
    cases hr
    exact ⟨l, by rw [hy, e2], e3⟩
  have hne : rs ≠ [] := by rw [hrs]; simpa using hps
  have hlens : ∀ r ∈ rs, r.length ≤ 60 := by
    intro r hr
    rw [hrs] at hr
    obtain ⟨a, ha, rfl⟩ := List.mem_map.mp hr
    exact dg_le hn (h60 a ha)
  rw [← hrs] at hQ
  have S2 : Stat w f2 := Sf.keeps sf
  have hDnone : h.get? D = none := Sub.none hk hDn
  clear h4' h3' h2' h1' hrs hpl1 hpl hpi hplen
  -- woven = []
  refine wpAny_execs_cons (wpAny_Assign_Name (List_ (spliced_nil (wpAny_newList ?_))))
  obtain ⟨W, hW⟩ : ∃ W, W = h2.objs.size := ⟨_, rfl⟩
  have hWn : h2.get? W = none := by rw [hW]; exact Heap.get?_none_of_le (Nat.le_refl _)
  have hp3 : (h2.push { cls := .type "list", data := .seq ([] : List Value).toArray }).PlainList W ([] : List Value).toArray := ⟨0, by rw [hW]; exact Heap.get?_push_size _ rfl⟩
  have F3 := F2.keeps (h' := h2.push { cls := .type "list", data := .seq ([] : List Value).toArray }) fun b o e => Heap.get?_push_of_some _ e
  have X3 : ExtB [L] h1 (h2.push { cls := .type "list", data := .seq ([] : List Value).toArray }) := X2.trans (Ext.of_keeps fun b o e => Heap.get?_push_of_some _ e).b
  dsimp only at F3 hp3 X3 ⊢
  rw [← hW]
  generalize (h2.push { cls := .type "list", data := .seq ([] : List Value).toArray }) = h3 at F3 hp3 X3 ⊢
  refine stL' F3 fun h4 tk4 F4 hs4 => ?_
  have hWL : W ≠ L := by rintro rfl; obtain ⟨o, _, _, e, _⟩ := F2.ns; rw [hWn] at e; cases e
  have hp4 : h4.PlainList W ([] : List Value).toArray := hp3.at fun o e => (hs4.2 W hWL).trans e
  have fW : f2.get? W = none := F2.newNone hWn
  have hWo : h.get? W = none := by
    cases e : h.get? W with
    | none => rfl
    | some o =>
      have e1 := hk _ _ e
      have := F2.keep W o (sf W o (hideAll_get _ e ?_))
      · rw [hWn] at this; cases this
      · simp only [List.mem_cons, List.not_mem_nil, or_false, not_or]
        constructor
        · rintro rfl; have := F2.tab.t16.in; exact this hWn
        · rintro rfl; have := F2.tab.t23.in; exact this hWn
  clear X3 hp3 hs4 F3 X2 F2 hk F S1
  have S4 : Stat w h4 := S2.keeps F4.keep
  have hD4 : h4.IsList D ys.toArray := IsList.keeps hD.isList F4.keep
  have hW16 : W ≠ 16 ∧ W ≠ 23 := IsList.ne16 F4.tab hp4.isList
  have hM : maxLen rs ≤ 60 := maxLen_le hlens
  refine wpAny_execs_cons (forS F4 ?_)
  refine callT (evB S4 (gl_range _)) fun tk5 => ?_
  refine callB (evB S4 (gl_max _)) fun tk6 => ?_
  refine compV (mu := [W]) F4 ndc (by intro b hb; rw [List.mem_singleton] at hb; subst hb; exact ⟨fW, let ⟨_, e⟩ := hp4; In.of e⟩) ?_ rfl
  refine EvV.run (evL F4 rfl) fun tk7 => ?_
  refine wpAny_pyIter_list hD4 ?_
  refine ⟨_, _, _, _, _, h4, _, _, fun i v y g => ∃ (r : List Int) (t : Tok), rs[i]? = some r ∧ y = .int r.length t, rfl, rfl, F4, Ext.refl _, Src.list (hhA _) F4.tab hD4 (by simp; lia), fun i v y g g' x _ => x, ?_, ?_⟩
  · intro C i v h' tk' mC hid Q E hi hP hns hx F' X' T' hhid hq
    have hP' : ys[i]? = some v := by simpa using hP
    obtain ⟨r, l, hr, rfl, vs', hl', hi'⟩ := hrows.get hP'
    have hlr : vs'.length = r.length := hi'.length
    refine EvI.run (evLen (evB (S2.keeps F'.keep) (gl_len _)) (evX hns hx) (IsList.keeps hl' F'.keep) ?_) fun t tk8 => hq _ _ _ (Ext.refl _) T' ⟨r, t, hr, by simp [hlr]⟩
    have := hlens r (List.mem_of_getElem? hr)
    simp only [List.size_toArray]; lia
  intro Dm f5 h5 tk8 ys5 vs5 sf5 F5 X5 hmu5 hD5 h15 h25 h35 h45 hDn5
  have hl5 : LI h5 Dm (rs.map fun r => (r.length : Int)) := by
    refine ⟨ys5, IsList.keeps hD5.isList F5.keep, ints_of ?_ fun j d hd => ?_⟩
    · rw [h25, List.length_map, ← hyl]; simp
    · rw [List.getElem?_map, Option.map_eq_some_iff] at hd
      obtain ⟨r, hr, rfl⟩ := hd
      have hj : j < ys5.length := by have := (List.getElem?_eq_some_iff.mp hr).1; rw [h25]; simpa [hyl] using this
      have hv : vs5[j]? = some (vs5[j]'(by lia)) := List.getElem?_eq_getElem _
      have hy : ys5[j]? = some ys5[j] := List.getElem?_eq_getElem _
      obtain ⟨r', t, e1, e2⟩ := h45 j _ _ hv hy
      rw [hr] at e1; cases e1
      exact ⟨t, by rw [hy, e2]⟩
  refine maxLI (hhA _) hl5 (by rw [List.length_map]; exact List.length_pos_iff.mpr hne) fun h6 M t6 tk9 s6 hM1 hM2 => ?_
  have hMe := maxLen_of hM1 hM2
  subst hMe
  have F6 := (F5.down sf5).keeps s6
  have hp6 : h6.PlainList W ([] : List Value).toArray := hp4.at fun o e => s6 _ _ (X5 W o hW16.1 hW16.2 e)
  clear hl5 h45 h35 h25 h15 hD5 hmu5 X5 F5 hDn5 sf5 hM1 hM2 s6
  refine iterRange F6.tab (by lia) (hhA _) fun h7 h8 tk10 I s7 T7 hI src => ?_
  have F7 := F6.keeps s7
  have hp7 : h7.PlainList W ([] : List Value).toArray := hp6.at fun o e => s7 _ _ e
  have hI7 : h7.get? I = none := by rw [hI]; exact Heap.get?_none_of_le (Nat.le_refl _)
  have hWI : W ≠ I := by rintro rfl; obtain ⟨_, e⟩ := hp7; rw [hI7] at e; cases e
  have hIL : I ≠ L := by rintro rfl; exact F7.inL hI7
  refine ⟨I, _, _, _, _, h7, h8, tk10, _, fun i m h => m "rows" = some (.ref D) ∧ m "woven" = some (.ref W) ∧ ∃ vs, h.PlainList W vs.toArray ∧ IntsAre vs (weave rs i), rfl, rfl, F7, src, ?_, ⟨rfl, rfl, [], hp7, .nil⟩, ?_, ?_, ?_⟩
  · intro b hb; rw [List.mem_singleton] at hb; exact .inr hb
  · rintro i m h h' ⟨j1, j2, vs, j3, j4⟩ k _
    exact ⟨j1, j2, vs, j3.at fun o e => k W o hWI hWL e, j4⟩
  · rintro i v h9 tk9 m Qb E hi ⟨t, rfl⟩ ⟨j1, j2, vs, j3, j4⟩ F9 hq
    have S9 : Stat w h9 := S2.keeps F9.keep
    have hD9 : h9.IsList D ys.toArray := IsList.keeps hD.isList F9.keep
    have j1' : (upd m "place" (.int i t)) "rows" = some (.ref D) := (if_neg (by decide)).trans j1
    have j2' : (upd m "place" (.int i t)) "woven" = some (.ref W) := (if_neg (by decide)).trans j2
    have j5' : (upd m "place" (.int i t)) "place" = some (.int i t) := if_pos rfl
    refine wpAny_execs_cons (forS F9 ?_)
    refine callT (evB S9 (gl_reversed _)) fun tk5 => ?_
    refine EvV.run (evL F9 j1') fun tk7 => ?_
    refine call_reversed_list (s := St s₀ h9 tk7) hD9 ?_
    refine wpAny_pyIter_revIter (l := D) (i := (ys.toArray.size : Int) - 1) ⟨_, Heap.get?_push_size _ rfl, rfl, by simp [revObj]⟩ ?_
    have hI9 : ∀ o, h9.get? I = some o → I ≠ h9.objs.size := fun o e => Nat.ne_of_lt (Heap.lt_size e)
    have hW9 : W ≠ h9.objs.size := by obtain ⟨_, e⟩ := j3; exact Nat.ne_of_lt (Heap.lt_size e)
    refine ⟨_, _, _, _, _, h9, _, _, _, fun k m h => m "rows" = some (.ref D) ∧ m "woven" = some (.ref W) ∧ m "place" = some (.int i t) ∧ (∀ o, h9.get? I = some o → h.get? I = some o) ∧
      ∃ vs, h.PlainList W vs.toArray ∧ IntsAre vs (weave rs i ++ (rs.reverse.take k).map fun r => at0 r i), rfl, rfl, F9, Src.rev (hhA _) F9.tab hD9 (by simp; lia), ?_, ⟨j1', j2', j5', fun _ e => e, vs, j3, by simpa using j4⟩, ?_, ?_, ?_⟩
    · intro b hb
      simp only [List.mem_cons, List.not_mem_nil, or_false] at hb
      rcases hb with hb | rfl
      · exact .inr hb
      · obtain ⟨_, e⟩ := hD; exact .inl (In.of e)
    · rintro k m h h' ⟨a1, a2, a3, a4, us, a5, a6⟩ kk _
      exact ⟨a1, a2, a3, fun o e => kk I o (hI9 o e) hIL (a4 o e), us, a5.at fun o e => kk W o hW9 hWL e, a6⟩
    · rintro k v h10 tk10 m' Qb E hk hP ⟨a1, a2, a3, a4, us, a5, a6⟩ F10 hq'
      have S10 : Stat w h10 := S2.keeps F10.keep
      have hP' : ys[ys.length - 1 - k]? = some v := by simpa using hP
      have hkl : k < rs.length := by simpa [hyl] using hk
      obtain ⟨r, l, hr, rfl, vs', hl', hi'⟩ := hrows.get hP'
      have hlr : vs'.length = r.length := hi'.length
      have hr60 := hlens r (List.mem_of_getElem? hr)
      have hrev : rs.reverse[k]? = some r := by
        rw [List.getElem?_reverse hkl, ← hyl]; exact hr
      have htk : weave rs i ++ (rs.reverse.take (k + 1)).map (fun r => at0 r i) = (weave rs i ++ (rs.reverse.take k).map fun r => at0 r i) ++ [at0 r i] := by
        rw [List.take_succ, hrev]; simp
      have hl10 := IsList.keeps hl' F10.keep
      have b1 : (upd m' "row" (.ref l)) "woven" = some (.ref W) := (if_neg (by decide)).trans a2
      have b2 : (upd m' "row" (.ref l)) "place" = some (.int i t) := (if_neg (by decide)).trans a3
      have b3 : (upd m' "row" (.ref l)) "row" = some (.ref l) := if_pos rfl
      have b4 : (upd m' "row" (.ref l)) "rows" = some (.ref D) := (if_neg (by decide)).trans a1
      have huslen : us.length ≤ 10000 := by
        rw [a6.length, List.length_append, weave_length, List.length_map, List.length_take, List.length_reverse]
        have : i * rs.length ≤ 60 * 100 := Nat.mul_le_mul (by lia) (by lia)
        lia
      have fin : ∀ (A : Around) (E' : Value → Shared → Prop) (Q' : Value → Shared → Prop) (t' : Tok) tk', (∀ h11 tk', Qb .next (St s₀ h11 tk') → Q' .none (St s₀ h11 tk')) →
          wpAny (Md w) A (call (.builtin "list.append") [.ref W, .int (at0 r i) t']) Q' E' (St s₀ h10 tk') := by
        rintro A E' Q' t' tk' hqq
        obtain ⟨n0, e0⟩ := id a5
        refine wpAny_list_append_plain (s := St s₀ h10 tk') a5 (fun h11 pl11 hs11 => ?_) (by rw [List.size_toArray, sizeLine_eq]; lia)
        refine hqq _ _ ?_
        refine hq' h11 tk' _ (F10.sameBut hs11 e0 rfl fW) (fun o e => (hs11.2 _ hW9.symm).trans e) ⟨b4, b1, b2, fun o e => (hs11.2 _ hWI.symm).trans (a4 o e), us ++ [.int (at0 r i) t'], ?_, ?_⟩
        · have e : (us ++ [Value.int (at0 r i) t']).toArray = us.toArray.push (.int (at0 r i) t') := by simp
          rw [e]; exact pl11
        · rw [htk]; exact ints_append a6 (.cons _ _ .nil)
      refine wpAny_execs_cons (wpAny_Expr (wpAny_Call_append rfl rfl rfl rfl ?_))
      refine EvV.run (evL F10 b1) fun tk11 => ⟨W, us.toArray, rfl, let ⟨n, e⟩ := a5; ⟨_, n, e, rfl, rfl, rfl⟩, ?_⟩
      refine wpAny_IfExp (Tst.run (tst_lt (evL F10 b2).i (evLen (evB S10 (gl_len _)) (evL F10 b3) hl10 (by simp only [List.size_toArray]; lia))) fun tk12 => ?_)
      simp only [List.size_toArray, hlr]
      by_cases hlt : i < r.length
      · rw [if_pos (by simpa using hlt)]
        have hri : r[i]? = some (at0 r i) := by simp [at0, hlt]
        obtain ⟨t', hv'⟩ := ints_at hi' hri
        refine EvV.run (evItem (evL F10 b3) (evL F10 b2).i hl10 (by lia) (by lia) (x := .int (at0 r i) t') (by simpa using hv')) fun tk13 => ?_
        exact fin _ _ _ t' _ fun h11 tk' x => wpAny_execs_nil x
      · rw [if_neg (by simpa using hlt)]
        refine EvI.run evK fun t' tk13 => ?_
        have e0 : at0 r i = 0 := by simp [at0, List.getElem?_eq_none (Nat.le_of_not_lt hlt)]
        rw [← e0]
        exact fin _ _ _ t' _ fun h11 tk' x => wpAny_execs_nil x
    · rintro h10 tk10 m' F10 ⟨a1, a2, a3, a4, us, a5, a6⟩
      refine wpAny_execs_nil ?_
      refine hq h10 tk10 _ F10 a4 ⟨a1, a2, us, a5, ?_⟩
      rw [weave]
      rw [List.size_toArray, hyl, List.take_of_length_le (by simp)] at a6
      exact a6
  · rintro h9 tk9 m F9 ⟨j1, j2, vs, j3, j4⟩
    refine wpAny_execs_cons (retV (evL F9 j2) fun tk10 => ?_)
    refine hQ W h9 tk10 (Ext.of_frozen (sf.trans F9.keep)) F9.tab hWo ⟨vs, j3.isList, j4⟩
end Mine

end
section
open PySem PySem.W PyProof.Rows PySem.Calls
set_option Elab.async false
set_option linter.unusedVariables false
set_option maxRecDepth 100000
namespace Mine
section
variable {prog : Program} {w : World} {A : Around} {E : Value → Shared → Prop} {s : Shared}
noncomputable def revSmall (a b c : Int) : Bool := Builtin.Range.rangeFitsLong a && Builtin.Range.rangeFitsLong b && Builtin.Range.rangeFitsLong c && Builtin.Range.rangeFitsLong (-c) && Builtin.Range.rangeFitsLong (a - c) && Builtin.Range.rangeFitsLong (Builtin.Range.rangeSize a b c)
noncomputable def rriObj (a b c : Int) : Obj := { cls := .type "range_iterator", data := .fields #[rawInt (a + (Builtin.Range.rangeSize a b c - 1) * c), rawInt (Builtin.Range.rangeSize a b c), rawInt (-c)] }
theorem rr_meets (r : Addr) (a b c : Int) (t u v : Tok) (hc : revSmall a b c = true) :
    Meets (Builtin.«range.__reversed__» ⟨[.ref r], []⟩) (fun _ R s => s.heap.get? r = some { cls := .type "range", dict := none, data := .fields #[.int a t, .int b u, .int c v], slots := #[] } ∧ R (.ok (.ret (Value.ref s.heap.objs.size))) { s with heap := s.heap.push (rriObj a b c), toks := s.toks }) :=
  .of_wp fun prog w A R s h => by
    obtain ⟨hp, g, d, tk, os⟩ := s
    obtain ⟨hl, h⟩ := h
    unfold revSmall at hc
    unfold rriObj at h
    have hc0 : ¬(!(Builtin.Range.rangeFitsLong a && Builtin.Range.rangeFitsLong b && Builtin.Range.rangeFitsLong c && Builtin.Range.rangeFitsLong (-c) && Builtin.Range.rangeFitsLong (a - c) && Builtin.Range.rangeFitsLong (Builtin.Range.rangeSize a b c))) = true := by simp [hc]
    wp_walk
    rw [if_pos hc]
    exact ⟨_, rfl, h⟩
theorem call_range_reversed {r : Addr} {a b c : Int} {t u v : Tok} {Q : Value → Shared → Prop} (hr : IsRange s.heap r a b c t u v) (hc : revSmall a b c = true)
    (h : Q (.ref s.heap.objs.size) { s with heap := s.heap.push (rriObj a b c) }) : wpAny (model prog w) A (call (.builtin "range.__reversed__") [.ref r]) Q E s :=
  call_meets F.slot_range_reversed ⟨_, hr, rfl⟩ F.entry_range_reversed (F.args_range_reversed_1 _) (rr_meets r a b c t u v hc) ⟨hr, h⟩
theorem sub_ri_reversed : isSubtype (.type "range_iterator") (.type "reversed") = pure false := by rw [isSubtype_type]; kernel_rfl
theorem code_reversed_range {r : Addr} {a b c : Int} {t u v : Tok} {Q₁ : Value → Shared → Prop} (hr : IsRange s.heap r a b c t u v) (hc : revSmall a b c = true)
    (h : Q₁ (.ref s.heap.objs.size) { s with heap := s.heap.push (rriObj a b c) }) :
    codeAny (model prog w) A (.call (.builtin "reversed.__new__") ⟨[.type "reversed", .ref r], []⟩) (wants Q₁ E) s := by
  refine codeAny_of_tree ?_
  show wpAny _ A.in1 (do checkBuiltinCall "reversed.__new__" ⟨[.type "reversed", .ref r], []⟩; again (.builtin "reversed.__new__" ⟨[.type "reversed", .ref r], []⟩)) _ _ s
  refine wpAny_bind (wpAny_of_eq (F.newCall_reversed_1 _) (wpAny_pure ⟨plainId_quiet F.plain_reversed_new _, codeAny_builtin F.entry_reversed_new ?_⟩))
  rw [Around.under_plainId F.plain_reversed_new _]
  unfold Builtin.«reversed.__new__»
  refine wpAny_bind (wpAny_of_eq (newClass_reversed _) ?_)
  try dsimp only
  refine wpAny_bind (wpAny_of_eq (a := ()) (by first | rfl | kernel_rfl) ?_)
  refine wpAny_bind (wpAny_of_eq (a := ()) (by first | rfl | kernel_rfl) ?_)
  try dsimp only
  refine wpAny_bind (wpAny_specialOf (T := "range") ⟨_, hr, rfl⟩ F.slot_range_reversed.lookup ?_)
  try dsimp only
  refine wpAny_bind (wpAny_of_eq (F.slot_range_reversed.bind _) ?_)
  try dsimp only
  first
  | rw [if_neg (show ¬ ((Value.builtin "range.__reversed__" == Value.none) = true) from Bool.false_ne_true)]
  | (show wpAny _ _ (if (Value.builtin "range.__reversed__" == Value.none) = true then _ else _) _ _ _; rw [if_neg (show ¬ ((Value.builtin "range.__reversed__" == Value.none) = true) from Bool.false_ne_true)])
  refine wpAny_bind (wpAny_rule ?_)
  refine wpAny_bind (m := runValue (.call (.builtin "range.__reversed__") ⟨[.ref r], []⟩)) (show wpAny _ _ (call (.builtin "range.__reversed__") [.ref r]) _ _ _ from call_range_reversed hr hc ?_)
  first
  | exact wpAny_pure h
  | exact wpAny_bind (wpAny_pure (wpAny_pure h))
theorem call_reversed_range {r : Addr} {a b c : Int} {t u v : Tok} {Q : Value → Shared → Prop} (hr : IsRange s.heap r a b c t u v) (hc : revSmall a b c = true)
    (h : Q (.ref s.heap.objs.size) { s with heap := s.heap.push (rriObj a b c) }) : wpAny (model prog w) A (call (.type "reversed") [.ref r]) Q E s := by
  refine callType_other (U := "range_iterator") (Q₁ := fun obj s₁ => obj = .ref s.heap.objs.size ∧ s₁ = { s with heap := s.heap.push (rriObj a b c) }) (by decide +kernel) F.create_reversed ⟨_, _, F.mro_reversed⟩ F.made_reversed sub_ri_reversed (F.typeCall_reversed_1 _) (code_reversed_range hr hc ⟨rfl, rfl⟩) ?_
  rintro obj s₁ ⟨rfl, rfl⟩
  exact ⟨⟨_, Heap.get?_push_size _ rfl, rfl⟩, h⟩
end
section
variable {w : World} {A : Around} {E : Value → Shared → Prop} {s₀ : Shared} {h : Heap} {tk : Nat} {Q : Value → Shared → Prop}
/-- a walk over reversed(range(n)) -/
theorem iterRevRange {n : Nat} {t : Tok} (T : Tab h) (hn : n ≤ 10000) (hh : A.handled = none)
    (hq : ∀ h₁ h₂ tk' I, Sub h h₁ → Tab h₁ → I = h₁.objs.size → Src w A h₁ I [I] n (fun i v => ∃ t, v = .int ((n : Int) - 1 - (i : Nat)) t) (fun i h' => IsRangeIter h' I ((n : Int) - 1 - (i : Nat)) ((n : Int) - (i : Nat)) (-1)) h₂ → Q (.ref I) (St s₀ h₂ tk')) :
    wpAny (Md w) A (call (.type "range") [.int n t]) (fun rv s₁ => wpAny (Md w) A (call (.type "reversed") [rv]) (fun xv s₂ => wpAny (Md w) A (pyIter xv) Q E s₂) E s₁) E (St s₀ h tk) := by
  refine call_range_1 ?_
  have T1 : Tab (h.push { cls := .type "range", data := .fields #[.int 0 tk, .int n t, .int 1 (tk + 1)] }) := T.keeps fun b o _ _ e => Heap.get?_push_of_some _ e
  have e : Builtin.Range.rangeSize 0 n 1 = n := by rw [rangeSize_one]; split <;> lia
  refine call_reversed_range (IsRange.new _ 0 n 1 _ _ _) (by unfold revSmall; rw [e]; simp only [Builtin.Range.rangeFitsLong, Bool.and_eq_true, decide_eq_true_eq]; lia) ?_
  have x := Src.range (w := w) hh T1 ((n : Int) - 1) (-1) n hn
  have ee : rriObj 0 n 1 = { cls := .type "range_iterator", data := .fields #[rawInt ((n : Int) - 1), rawInt n, rawInt (-1)] } := by
    unfold rriObj; rw [e]; simp
  rw [ee]
  have e1 : ∀ i : Nat, (n : Int) - 1 + (i : Int) * (-1) = (n : Int) - 1 - (i : Nat) := fun i => by lia
  simp only [e1] at x
  refine wpAny_pyIter_rangeiter (x := (n : Int) - 1) (left := n) (step := -1) (Heap.get?_push_size _ rfl) ?_
  exact hq _ _ _ _ (fun b o e => Heap.get?_push_of_some _ e) T1 rfl x
end
end Mine

end
section
open PySem PySem.W PyProof.Rows PySem.Calls
set_option Elab.async false
set_option linter.unusedVariables false
set_option maxRecDepth 100000
namespace Mine
/-- a round of digits: of every side the digit at place k, the last side first -/
noncomputable def rnd (nn : Nat) (ps : List Nat) (k : Nat) : List Int := ps.reverse.map fun a => ((a / 2 ^ (nn * k) % 2 ^ nn : Nat) : Int)
noncomputable def wv (nn : Nat) (ps : List Nat) : Nat → List Int
  | 0 => []
  | k + 1 => wv nn ps k ++ rnd nn ps k
theorem rnd_length (nn : Nat) (ps : List Nat) (k : Nat) : (rnd nn ps k).length = ps.length := by simp [rnd]
theorem wv_length (nn : Nat) (ps : List Nat) : ∀ k, (wv nn ps k).length = k * ps.length
  | 0 => by simp [wv]
  | k + 1 => by rw [wv, List.length_append, wv_length nn ps k, rnd_length, Nat.succ_mul]
theorem two_pow (n : Nat) : (2 : Int) ^ n = ((2 ^ n : Nat) : Int) := by rw [Int.natCast_pow]; rfl
theorem und_zero {n : Nat} : ∀ {ds : List Int}, (∀ d ∈ ds, d = 0) → und n ds = 0
  | [], _ => rfl
  | d :: r, h => by
    have h1 := h d (by simp)
    have h2 := und_zero (n := n) (ds := r) fun x hx => h x (by simp [hx])
    simp [und, h1, h2]
theorem rnd_zero {nn : Nat} {ps : List Nat} {k : Nat} (h : ∀ a ∈ ps, a / 2 ^ (nn * k) = 0) : ∀ d ∈ rnd nn ps k, d = 0 := by
  intro d hd
  obtain ⟨a, ha, rfl⟩ := List.mem_map.mp hd
  rw [h a (List.mem_reverse.mp ha)]; simp
theorem wv_more {nn : Nat} {ps : List Nat} {j : Nat} (h : ∀ a ∈ ps, a / 2 ^ (nn * j) = 0) : ∀ d, und nn (wv nn ps (j + d)) = und nn (wv nn ps j)
  | 0 => rfl
  | d + 1 => by
    rw [← Nat.add_assoc, wv, und_append, wv_more h d, und_zero (rnd_zero fun a ha => ?_)]
    · simp
    · have h1 := h a ha
      have h2 : a < 2 ^ (nn * j) := by
        rcases Nat.div_eq_zero_iff.mp h1 with h | h
        · have := Nat.two_pow_pos (nn * j); lia
        · exact h
      exact Nat.div_eq_of_lt (Nat.lt_of_lt_of_le h2 (Nat.pow_le_pow_right (by decide) (Nat.mul_le_mul_left _ (by lia))))
/-- the sides at work in a round -/
noncomputable def mix (nn : Nat) (qs : List Nat) : Nat → List Int
  | 0 => qs.map Int.ofNat
  | i + 1 => (mix nn qs i).set (qs.length - 1 - i) ((qs.getD (qs.length - 1 - i) 0 / 2 ^ nn : Nat) : Int)
theorem mix_length (nn : Nat) (qs : List Nat) : ∀ i, (mix nn qs i).length = qs.length
  | 0 => by simp [mix]
  | i + 1 => by rw [mix, List.length_set, mix_length nn qs i]
theorem mix_get (nn : Nat) (qs : List Nat) : ∀ i, i ≤ qs.length → ∀ j a, qs[j]? = some a → (mix nn qs i)[j]? = some (if qs.length ≤ j + i then ((a / 2 ^ nn : Nat) : Int) else (a : Int))
  | 0, _, j, a, ha => by
    have hj := (List.getElem?_eq_some_iff.mp ha).1
    rw [mix, List.getElem?_map, ha, if_neg (by lia)]; rfl
  | i + 1, hi, j, a, ha => by
    have hj := (List.getElem?_eq_some_iff.mp ha).1
    rw [mix, List.getElem?_set]
    by_cases e : qs.length - 1 - i = j
    · rw [if_pos e, mix_length, if_pos (by lia), if_pos (by lia), e]
      simp [List.getD, ha]
    · rw [if_neg e, mix_get nn qs i (by lia) j a ha]
      by_cases h1 : qs.length ≤ j + i
      · rw [if_pos h1, if_pos (by lia)]
      · rw [if_neg h1, if_neg (by lia)]
theorem mix_all (nn : Nat) (qs : List Nat) : mix nn qs qs.length = (qs.map fun a => a / 2 ^ nn).map Int.ofNat := by
  apply List.ext_getElem?
  intro j
  rw [List.getElem?_map, List.getElem?_map]
  cases e : qs[j]? with
  | none =>
    have := List.getElem?_eq_none_iff.mp e
    rw [List.getElem?_eq_none (by rw [mix_length]; exact this)]; rfl
  | some a =>
    have hj := (List.getElem?_eq_some_iff.mp e).1
    rw [mix_get nn qs _ (Nat.le_refl _) j a e, if_pos (by lia)]; rfl
set_option maxHeartbeats 2000000 in
theorem law_worth {w : World} {nn J : Nat} (hn : 1 ≤ nn) (hn2 : nn ≤ 20) {ps : List Nat} (hps : ps ≠ []) (hlen : ps.length ≤ 100) (hJ : ∀ a ∈ ps, a < 2 ^ (nn * J)) {p : Addr} {tn : Tok} {s₀ : Shared}
    {A : Around} {h : Heap} {tk : Nat} {Q : Value → Shared → Prop} {E : Value → Shared → Prop} (hdep : A.depth + 80 < recursionLimit) (hh : A.handled = none) (S : Stat w h) (T : Tab h) (hp : LI h p (ps.map Int.ofNat))
    (hQ : ∀ t h' tk', Ext h h' → Tab h' → Q (.int (und nn (wv nn ps J)) t) (St s₀ h' tk')) :
    wpAny (Md w) A (call (.ref 47) [.ref p, .int (2 ^ nn) tn]) Q E (St s₀ h tk) := by
  obtain ⟨pvs, hpl, hpi⟩ := hp
  have hplen : pvs.length = ps.length := by rw [hpi.length, List.length_map]
  refine wpAny_call (enterC (binds := [("point", .ref p), ("base", .int (2 ^ nn) tn)]) (m := upd (upd (fun _ => none) "point" (.ref p)) "base" (.int (2 ^ nn) tn)) (cm := (fun _ => none)) (cs := fun L => [])
    (by lia) S T (S.1 47 _ rfl) rfl rfl (codeRec_of' S (by kernel_rfl)) rfl rfl (fun L => rfl) rfl rfl ?_)
  intro L h1 tk1 hk hL F
  have S1 : Stat w h1 := S.keeps hk
  have hpl1 : h1.IsList p pvs.toArray := IsList.keeps hpl hk
  have Sf : Stat w (hideAll h [16, 23]) := S.frozen
  have hhA : ∀ env, (A.deeper env).handled = none := fun _ => hh
  -- rest = list(point)
  refine wpAny_execs_cons (wpAny_Assign_Name (callT (evB S1 (gl_list _)) fun tk2 => ?_))
  refine EvV.run (evL F rfl) fun tk3 => ?_
  obtain ⟨op, eop, hcp, np, hdp⟩ := id hpl1
  refine call_list_seq (s := St s₀ h1 tk3) p (.inl rfl) eop hcp hdp (fun h2 c2 hk2 e2 => ?_) (by rw [List.size_toArray, sizeLine_eq]; lia)
  obtain ⟨R, hR⟩ : ∃ R, R = h1.objs.size := ⟨_, rfl⟩
  have hRn : h1.get? R = none := by rw [hR]; exact Heap.get?_none_of_le (Nat.le_refl _)
  have hl2 : LI h2 R (ps.map Int.ofNat) := ⟨pvs, ⟨_, by rw [hR]; exact e2, rfl, c2, rfl⟩, hpi⟩
  have F2 := F.keeps hk2
  have hRL : R ≠ L := by rintro rfl; exact F.inL hRn
  have fR : (hideAll h [16, 23]).get? R = none := F.newNone hRn
  show wpAny _ _ (storeName _ _ (.ref h1.objs.size)) _ _ (St s₀ h2 tk3)
  rw [← hR]
  refine stL' F2 fun h3 tk4 F3 hs3 => ?_
  have hl3 : LI h3 R (ps.map Int.ofNat) := let ⟨vs, ⟨o, e, r⟩, hi⟩ := hl2; ⟨vs, ⟨o, (hs3.2 R hRL).trans e, r⟩, hi⟩
  clear hl2 hs3 F2 hRn e2 hR hk2 hdp hcp eop S1 hpl1
  refine wpAny_execs_cons (wpAny_Assign_Name (EvI.run evK fun t4 tk5 => stL' F3 fun h4 tk6 F4 hs4 => ?_))
  refine wpAny_execs_cons (wpAny_Assign_Name (EvI.run evK fun t5 tk7 => stL' F4 fun h5 tk8 F5 hs5 => ?_))
  have hl5 : LI h5 R (ps.map Int.ofNat) := let ⟨vs, ⟨o, e, r⟩, hi⟩ := hl3; ⟨vs, ⟨o, (hs5.2 R hRL).trans ((hs4.2 R hRL).trans e), r⟩, hi⟩
  clear hs5 hs4 hl3 F4 F3 F
  have hB : ((2 : Int) ^ nn) ≠ 0 := by rw [two_pow]; have := Nat.two_pow_pos nn; lia
  have hB2 : ((2 : Int) ^ nn).natAbs < 1073741824 := by
    rw [two_pow, Int.natAbs_natCast]
    exact Nat.lt_of_le_of_lt (Nat.pow_le_pow_right (by decide) hn2) (by decide)
  have hB3 : Builtin.Int.intBits ((2 : Int) ^ nn) ≤ 64 := by
    refine intBits_le_64 ?_ ?_ <;> rw [two_pow] <;> have := Nat.pow_le_pow_right (n := 2) (by decide) hn2 <;> lia
  refine wpAny_execs_cons (wpAny_While ?_)
  refine codeAny_whileLoop (fun k s' => ∃ h' tk' m j, s' = St s₀ h' tk' ∧ Fn (hideAll h [16, 23]) L m [] (fun _ => none) h' ∧ m "rest" = some (.ref R) ∧ m "base" = some (.int (2 ^ nn) tn) ∧
    (∃ t, m "worth" = some (.int (und nn (wv nn ps j)) t)) ∧ (∃ t, m "weight" = some (.int (2 ^ (nn * (j * ps.length))) t)) ∧ LI h' R ((ps.map fun a => a / 2 ^ (nn * j)).map Int.ofNat) ∧ j ≤ J ∧ k = J + 1 - j) ?_ (J + 1)
    ⟨h5, tk8, _, 0, rfl, F5, rfl, rfl, ⟨t4, rfl⟩, ⟨t5, by simp [upd]⟩, by simpa using hl5, Nat.zero_le _, rfl⟩
  rintro k s' ⟨h6, tk6, m, j, rfl, F6, hm1, hm2, ⟨t6, hm3⟩, ⟨t7, hm4⟩, hl6, hj, rfl⟩
  have S6 : Stat w h6 := Sf.keeps F6.keep
  refine wpAny_isTrue_Compare1 (callB (evB S6 (gl_max _)) fun tk9 => ?_)
  refine EvV.run (evL F6 hm1) fun tk10 => ?_
  refine maxLI (hhA _) hl6 (by rw [List.length_map, List.length_map]; exact List.length_pos_iff.mpr hps) fun h7 M t8 tk11 s7 hM1 hM2 => ?_
  have F7 := F6.keeps s7
  have hl7 := hl6.keeps s7
  refine EvI.run evK fun t9 tk12 => ?_
  refine gt_int (wpAny_truthy_bool ?_)
  clear hl6 F6 S6
  have S7 : Stat w h7 := Sf.keeps F7.keep
  obtain ⟨qs, hqs⟩ : ∃ qs, qs = ps.map fun a => a / 2 ^ (nn * j) := ⟨_, rfl⟩
  have hql : qs.length = ps.length := by rw [hqs, List.length_map]
  rw [← hqs] at hl7 hM1 hM2
  by_cases hpos : (0 : Int) < M
  · rw [if_pos (by simpa using hpos)]
    obtain ⟨q0, hq0, rfl⟩ := List.mem_map.mp hM1
    have hjJ : j < J := by
      rw [hqs] at hq0
      obtain ⟨a, ha, rfl⟩ := List.mem_map.mp hq0
      rcases Nat.lt_or_ge j J with h | h
      · exact h
      · have e : j = J := by lia
        rw [e, Nat.div_eq_of_lt (hJ a ha)] at hpos
        exact absurd hpos (by simp)
    refine wpAny_execs_cons (forS F7 ?_)
    refine callT (evB S7 (gl_reversed _)) fun tk13 => ?_
    refine callT (evB S7 (gl_range _)) fun tk14 => ?_
    obtain ⟨rvs, hrl, hri⟩ := id hl7
    have hrvl : rvs.length = ps.length := by rw [hri.length, List.length_map, hql]
    refine EvI.run (evLen (evB S7 (gl_len _)) (evL F7 hm1) hrl (by simp only [List.size_toArray]; lia)) fun t15 tk15 => ?_
    simp only [List.size_toArray, hrvl]
    refine iterRevRange F7.tab (by lia) (hhA _) fun h8 h9 tk16 I s8 T8 hI src => ?_
    have F8 := F7.keeps s8
    have hl8 := hl7.keeps s8
    have hI8 : h8.get? I = none := by rw [hI]; exact Heap.get?_none_of_le (Nat.le_refl _)
    have hRI : R ≠ I := by rintro rfl; obtain ⟨o, _, _, e, _⟩ := hl8.at; rw [hI8] at e; cases e
    refine ⟨I, _, _, _, _, h8, h9, tk16, m, fun i m h => m "rest" = some (.ref R) ∧ m "base" = some (.int (2 ^ nn) tn) ∧
      (∃ t, m "worth" = some (.int (und nn (wv nn ps j) + 2 ^ (nn * (j * ps.length)) * und nn ((rnd nn ps j).take i)) t)) ∧ (∃ t, m "weight" = some (.int (2 ^ (nn * (j * ps.length)) * 2 ^ (nn * i)) t)) ∧ LI h R (mix nn qs i), rfl, rfl, F8, src, ?_, ⟨hm1, hm2, ⟨t6, ?_⟩, ⟨t7, ?_⟩, hl8⟩, ?_, ?_, ?_⟩
    · intro b hb; rw [List.mem_singleton] at hb; exact .inr hb
    · rw [hm3]; simp [und]
    · rw [hm4]; simp
    · rintro i m h h' ⟨j1, j2, j3, j4, vs, ⟨o, e, r⟩, j5⟩ k _
      exact ⟨j1, j2, j3, j4, vs, ⟨o, k R o hRI hRL e, r⟩, j5⟩
    · rintro i v h10 tk10 m' Qb E hi ⟨t, rfl⟩ ⟨j1, j2, ⟨t11, j3⟩, ⟨t12, j4⟩, j5⟩ F10 hq
      obtain ⟨kk, hkk⟩ : ∃ kk, kk = ps.length - 1 - i := ⟨_, rfl⟩
      have ek : (ps.length : Int) - 1 - (i : Int) = (kk : Int) := by lia
      rw [ek] at F10
      have b1 : (upd m' "k" (.int kk t)) "rest" = some (.ref R) := (if_neg (by decide)).trans j1
      have b2 : (upd m' "k" (.int kk t)) "base" = some (.int (2 ^ nn) tn) := (if_neg (by decide)).trans j2
      have b3 : (upd m' "k" (.int kk t)) "worth" = _ := (if_neg (by decide)).trans j3
      have b4 : (upd m' "k" (.int kk t)) "weight" = _ := (if_neg (by decide)).trans j4
      have b5 : (upd m' "k" (.int kk t)) "k" = some (.int kk t) := if_pos rfl
      have hqk : qs[kk]? = some (qs[kk]'(by lia)) := List.getElem?_eq_getElem _
      obtain ⟨a, ha⟩ : ∃ a, a = qs[kk]'(by lia) := ⟨_, rfl⟩
      rw [← ha] at hqk
      have hmk : (mix nn qs i)[kk]? = some (a : Int) := by
        rw [mix_get nn qs i (by lia) kk a hqk, if_neg (by lia)]
      have hset : mix nn qs (i + 1) = (mix nn qs i).set kk ((a / 2 ^ nn : Nat) : Int) := by
        rw [mix, hql, ← hkk]; simp [List.getD, hqk]
      have hrd : (rnd nn ps j)[i]? = some ((a % 2 ^ nn : Nat) : Int) := by
        have hps' : ps.reverse[i]? = ps[kk]? := by rw [List.getElem?_reverse (by lia), hkk]
        rw [hqs, List.getElem?_map] at hqk
        obtain ⟨a0, ha0, ha1⟩ := Option.map_eq_some_iff.mp hqk
        rw [rnd, List.getElem?_map, hps', ha0, ← ha1]
        rfl
      have hund : und nn ((rnd nn ps j).take (i + 1)) = und nn ((rnd nn ps j).take i) + 2 ^ (nn * i) * ((a % 2 ^ nn : Nat) : Int) := by
        rw [List.take_succ, hrd, und_append, List.length_take, rnd_length, Nat.min_eq_left (by lia)]
        simp [und]
      obtain ⟨vs, hvl, hvi⟩ := j5
      have hvlen : vs.length = ps.length := by rw [hvi.length, mix_length, hql]
      obtain ⟨ta, hva⟩ := ints_at hvi hmk
      have hmod : (a : Int).fmod (2 ^ nn) = ((a % 2 ^ nn : Nat) : Int) := by
        rw [two_pow, Int.fmod_eq_emod_of_nonneg _ (Int.natCast_nonneg _), ← Int.natCast_emod]
      have S10 : Stat w h10 := Sf.keeps F10.keep
      refine wpAny_execs_cons (wpAny_AugAssign_Name (wpAny_loadName_local rfl rfl F10.ns b3 ?_))
      refine EvI.run (EvI.mul (EvI.bin (r := ((a % 2 ^ nn : Nat) : Int)) (evItem (evL F10 b1) (evL F10 b5).i hvl (by lia) (by lia) (x := .int a ta) (by simpa using hva)).i (evL F10 b2).i (fun _ _ _ _ _ hq => mod_int hB (by rw [hmod]; exact hq _ _))) (evL F10 b4).i (IntMulOk.of_left (intBits_le_64 ?_ ?_))) fun t16 tk17 => ?_
      · lia
      · have h1 := Nat.mod_lt a (Nat.two_pow_pos nn)
        have h2 := Nat.pow_le_pow_right (n := 2) (by decide) hn2
        lia
      refine iadd_int ?_
      refine stL' F10 fun h11 tk18 F11 hs11 => ?_
      have hvl11 : h11.IsList R vs.toArray := let ⟨o, e, r⟩ := hvl; ⟨o, (hs11.2 R hRL).trans e, r⟩
      refine wpAny_execs_cons (wpAny_Assign_Subscript ?_)
      have c1 : ∀ v, (upd (upd m' "k" (.int kk t)) "worth" v) "rest" = some (.ref R) := fun v => (if_neg (by decide)).trans b1
      have c2 : ∀ v, (upd (upd m' "k" (.int kk t)) "worth" v) "base" = some (.int (2 ^ nn) tn) := fun v => (if_neg (by decide)).trans b2
      have c4 : ∀ v, (upd (upd m' "k" (.int kk t)) "worth" v) "weight" = _ := fun v => (if_neg (by decide)).trans b4
      have c5 : ∀ v, (upd (upd m' "k" (.int kk t)) "worth" v) "k" = some (.int kk t) := fun v => (if_neg (by decide)).trans b5
      refine EvI.run (((evItem (evL F11 (c1 _)) (evL F11 (c5 _)).i hvl11 (by lia) (by lia) (x := .int a ta) (by simpa using hva)).i.fdiv (evL F11 (c2 _)).i hB hB2).eq (fdiv_pow a nn)) fun t19 tk19 => ?_
      refine EvV.run (evL F11 (c1 _)) fun tk20 => ?_
      refine EvI.run (evL F11 (c5 _)).i fun t21 tk21 => ?_
      refine wpAny_setItem_list (s := St s₀ h11 tk21) hvl11 (by lia) (by lia) (by simp only [List.size_toArray]; lia) fun h12 hl12 hs12 => ?_
      obtain ⟨od, eod, hcd, nd, hdd⟩ := id hvl11
      have F12 := F11.sameBut hs12 eod hdd fR
      have hl12' : LI h12 R (mix nn qs (i + 1)) := by
        refine ⟨vs.set kk (.int ((a / 2 ^ nn : Nat) : Int) t19), ?_, by rw [hset]; exact ints_set hvi⟩
        have e : (vs.toArray.setIfInBounds (kk : Int).toNat (Value.int ((a / 2 ^ nn : Nat) : Int) t19)) = (vs.set kk (.int ((a / 2 ^ nn : Nat) : Int) t19)).toArray := by simp
        rw [← e]; exact hl12
      refine wpAny_execs_cons (wpAny_Assign_Name (EvI.run (EvI.mul (evL F12 (c4 _)).i (evL F12 (c2 _)).i (IntMulOk.of_right hB3)) fun t22 tk22 => stL' F12 fun h13 tk23 F13 hs13 => ?_))
      refine wpAny_execs_nil ?_
      refine hq h13 tk23 _ F13 (fun o e => ?_) ⟨(if_neg (by decide)).trans (c1 _), (if_neg (by decide)).trans (c2 _), ⟨tk17, (if_neg (by decide)).trans ((if_pos rfl).trans ?_)⟩, ⟨t22, (if_pos rfl).trans ?_⟩, ?_⟩
      · have hIL : I ≠ L := by rintro rfl; exact F8.inL hI8
        exact (hs13.2 I hIL).trans ((hs12.2 I hRI.symm).trans ((hs11.2 I hIL).trans e))
      · rw [hund, Int.mul_add, ← Int.add_assoc, Int.mul_comm ((a % 2 ^ nn : Nat) : Int), Int.mul_assoc]
      · rw [Nat.mul_add, Nat.mul_one, Int.pow_add, Int.mul_assoc]
      · obtain ⟨us, ⟨o, e, r⟩, hi⟩ := hl12'
        exact ⟨us, ⟨o, (hs13.2 R hRL).trans e, r⟩, hi⟩
    · rintro h10 tk10 m' F10 ⟨j1, j2, ⟨t11, j3⟩, ⟨t12, j4⟩, j5⟩
      refine wpAny_execs_nil ?_
      refine ⟨J + 1 - (j + 1), by lia, h10, tk10, m', j + 1, rfl, F10, j1, j2, ⟨t11, ?_⟩, ⟨t12, ?_⟩, ?_, hjJ, rfl⟩
      · rw [j3, wv, und_append, wv_length, List.take_of_length_le (Nat.le_of_eq (rnd_length ..))]
      · rw [j4, Nat.add_mul, Nat.one_mul, Nat.mul_add, Int.pow_add]
      · rw [← hql, mix_all] at j5
        have e : (qs.map fun a => a / 2 ^ nn) = ps.map fun a => a / 2 ^ (nn * (j + 1)) := by
          rw [hqs, List.map_map]
          apply List.map_congr_left
          intro a _
          show a / 2 ^ (nn * j) / 2 ^ nn = _
          rw [Nat.div_div_eq_div_mul, ← Nat.pow_add, Nat.mul_add, Nat.mul_one]
        rw [e] at j5
        exact j5
  · rw [if_neg (by simpa using hpos)]
    refine wpAny_execs_nil ?_
    refine wpAny_execs_cons (retV (evL F7 hm3) fun tk13 => ?_)
    have hz : ∀ a ∈ ps, a / 2 ^ (nn * j) = 0 := by
      intro a ha
      have := hM2 (Int.ofNat (a / 2 ^ (nn * j))) (by rw [hqs]; exact List.mem_map.mpr ⟨_, List.mem_map.mpr ⟨a, ha, rfl⟩, rfl⟩)
      have h0 : Int.ofNat (a / 2 ^ (nn * j)) = ((a / 2 ^ (nn * j) : Nat) : Int) := rfl
      rw [h0] at this
      have h1 := Int.le_trans this (Int.not_lt.mp hpos)
      have h2 : ((a / 2 ^ (nn * j) : Nat) : Int) ≤ ((0 : Nat) : Int) := h1
      exact Nat.le_zero.mp (Int.ofNat_le.mp h2)
    have hfin := wv_more hz (J - j)
    rw [show j + (J - j) = J by lia] at hfin
    rw [hfin] at hQ
    exact hQ t6 h7 tk13 (Ext.of_frozen F7.keep) F7.tab
end Mine

end
section
open PySem PySem.W PyProof.Rows PySem.Calls
set_option Elab.async false
set_option linter.unusedVariables false
set_option maxRecDepth 100000
namespace Mine
/-- how many places k, k + sd, .. lie below n -/
noncomputable def cnt (k n sd : Nat) : Nat := if k < n then (n - k - 1) / sd + 1 else 0
/-- every sd-th digit from k on -/
noncomputable def every (ds : List Int) (k sd : Nat) : List Int := (List.range (cnt k ds.length sd)).map fun i => at0 ds (k + i * sd)
theorem cnt_size {k n sd : Nat} (h : 1 ≤ sd) : Builtin.Range.rangeSize k n sd = cnt k n sd := by
  unfold Builtin.Range.rangeSize cnt
  rw [if_pos (by lia)]
  by_cases hk : k < n
  · rw [if_pos (by lia), if_pos hk]
    have e : (n : Int) - k - 1 = ((n - k - 1 : Nat) : Int) := by lia
    rw [e, ← Int.natCast_ediv]; rfl
  · rw [if_neg (by lia), if_neg hk]; rfl
theorem cnt_lt {k n sd i : Nat} (h : 1 ≤ sd) (hi : i < cnt k n sd) : k + i * sd < n := by
  unfold cnt at hi
  split at hi
  · have h1 : i ≤ (n - k - 1) / sd := by lia
    have h2 := (Nat.le_div_iff_mul_le h).mp h1
    lia
  · lia
theorem cnt_le {k n sd : Nat} : cnt k n sd ≤ n := by
  unfold cnt
  split
  · have := Nat.div_le_self (n - k - 1) sd; lia
  · lia
theorem every_digs {nn : Nat} {ds : List Int} (h : Digs nn ds) {k sd : Nat} (hs : 1 ≤ sd) : Digs nn (every ds k sd) := by
  intro d hd
  obtain ⟨i, hi, rfl⟩ := List.mem_map.mp hd
  have := cnt_lt hs (List.mem_range.mp hi)
  refine h _ ?_
  unfold at0
  rw [List.getD_eq_getElem?_getD, List.getElem?_eq_getElem this]
  exact List.getElem_mem _
/-- the sides that are dealt out: the first i of them -/
noncomputable def deal (nn : Nat) (ds : List Int) (sd : Nat) (i : Nat) : List Int := (List.range i).map fun j => und nn (every ds (sd - 1 - j) sd)
section
variable {w : World} {A : Around} {E : Value → Shared → Prop} {s₀ : Shared} {h : Heap} {tk : Nat} {Q : Value → Shared → Prop}
/-- a walk over range(k, n, sd) -/
theorem iterRange3 {k n sd : Nat} {t u v : Tok} (T : Tab h) (hn : n ≤ 10000) (hk : k ≤ 10000) (hs : 1 ≤ sd) (hs2 : sd ≤ 10000) (hh : A.handled = none)
    (hq : ∀ h₁ h₂ tk' I, Sub h h₁ → Tab h₁ → I = h₁.objs.size → Src w A h₁ I [I] (cnt k n sd) (fun i v => ∃ t, v = .int ((k + i * sd : Nat) : Int) t) (fun i h' => IsRangeIter h' I ((k : Int) + (i : Nat) * (sd : Int)) ((cnt k n sd : Int) - (i : Nat)) sd) h₂ → Q (.ref I) (St s₀ h₂ tk')) :
    wpAny (Md w) A (call (.type "range") [.int k t, .int n u, .int sd v]) (fun xv s₁ => wpAny (Md w) A (pyIter xv) Q E s₁) E (St s₀ h tk) := by
  refine call_range_3 (by lia) ?_ (.inl (PyProof.noPylong_small (by lia)))
  have T1 : Tab (h.push { cls := .type "range", data := .fields #[.int k t, .int n u, .int sd v] }) := T.keeps fun b o _ _ e => Heap.get?_push_of_some _ e
  have hc := cnt_size (k := k) (n := n) hs
  have hcl := cnt_le (k := k) (n := n) (sd := sd)
  refine wpAny_pyIter_range (IsRange.new _ k n sd _ _ _) ?_ ?_
  · unfold Builtin.Range.small
    rw [hc]
    simp only [Builtin.Range.rangeFitsLong, Bool.and_eq_true, Bool.or_eq_true, decide_eq_true_eq, beq_iff_eq]
    rw [if_pos (by lia)]
    rw [Bool.and_eq_true, decide_eq_true_eq, decide_eq_true_eq]
    lia
  rw [hc]
  have x := Src.range (w := w) hh T1 k sd (cnt k n sd) (by lia)
  refine hq _ _ _ _ (fun b o e => Heap.get?_push_of_some _ e) T1 rfl ?_
  have e : ∀ i : Nat, ((k + i * sd : Nat) : Int) = (k : Int) + (i : Int) * (sd : Int) := fun i => by push_cast; rfl
  simp only [e]
  exact x
end
set_option maxHeartbeats 2000000 in
theorem law_dealt {w : World} {nn N sd : Nat} (hn : 1 ≤ nn) (h60 : Builtin.Int.intBits N + nn ≤ 60) (hs : 1 ≤ sd) (hs2 : sd ≤ 100) {ta tn ts : Tok} {s₀ : Shared}
    {A : Around} {h : Heap} {tk : Nat} {Q : Value → Shared → Prop} {E : Value → Shared → Prop} (hdep : A.depth + 80 < recursionLimit) (hh : A.handled = none) (S : Stat w h) (T : Tab h)
    (hQ : ∀ l h' tk', Ext h h' → Tab h' → h.get? l = none → LI h' l (deal nn (digs nn N) sd sd) → Q (.ref l) (St s₀ h' tk')) :
    wpAny (Md w) A (call (.ref 52) [.int N ta, .int sd ts, .int nn tn]) Q E (St s₀ h tk) := by
  refine wpAny_call (enterC (binds := [("worth", .int N ta), ("sides", .int sd ts), ("bits", .int nn tn)]) (m := upd (upd (upd (fun _ => none) "worth" (.int N ta)) "sides" (.int sd ts)) "bits" (.int nn tn)) (cm := (fun _ => none)) (cs := fun L => [("digits", L + 1)])
    (by lia) S T (S.1 52 _ rfl) rfl rfl (codeRec_of' S (by kernel_rfl)) rfl rfl (fun L => rfl) rfl rfl ?_)
  intro L h1 tk1 hk hL F
  have S1 : Stat w h1 := S.keeps hk
  have Sf : Stat w (hideAll h [16, 23]) := S.frozen
  have ndc : (([("digits", L + 1)] : List (Str × Addr)).map (·.1)).Nodup := by simp
  have hhA : ∀ env, (A.deeper env).handled = none := fun _ => hh
  -- digits = _int2digits(worth, bits)
  refine wpAny_execs_cons (wpAny_Assign_Name (callF (evG S1 (gl_i2d _)) fun tk2 => ?_))
  refine EvV.run (evL F rfl) fun tk3 => ?_
  refine EvV.run (evL F rfl) fun tk4 => ⟨⟨_, _, _, _, S1.1 21 _ rfl⟩, ?_⟩
  refine int2digits (s₀ := s₀) hn h60 (by show A.depth + 1 + 70 < _; lia) S1 F.tab fun l h2 tk5 X2 T2 hln hli => ?_
  have F2 := F.ext X2 T2
  refine stC' F2 rfl fun h3 tk6 F3 hs3 => ?_
  have hlL : l ≠ L := by rintro rfl; exact F.inL hln
  have hlC : l ≠ L + 1 := by rintro rfl; obtain ⟨o, e, _⟩ := F.cell "digits" _ rfl; rw [hln] at e; cases e
  have hl3 : LI h3 l (digs nn N) := let ⟨vs, ⟨o, e, r⟩, hi⟩ := hli; ⟨vs, ⟨o, (hs3.2 l hlC).trans e, r⟩, hi⟩
  -- point = []
  refine wpAny_execs_cons (wpAny_Assign_Name (List_ (spliced_nil (wpAny_newList ?_))))
  obtain ⟨W, hW⟩ : ∃ W, W = h3.objs.size := ⟨_, rfl⟩
  have hWn : h3.get? W = none := by rw [hW]; exact Heap.get?_none_of_le (Nat.le_refl _)
  have kp : Sub h3 (h3.push { cls := .type "list", data := .seq ([] : List Value).toArray }) := fun b o e => Heap.get?_push_of_some _ e
  have hp4 : (h3.push { cls := .type "list", data := .seq ([] : List Value).toArray }).PlainList W ([] : List Value).toArray := ⟨0, by rw [hW]; exact Heap.get?_push_size _ rfl⟩
  have F4 := F3.keeps kp
  have hl4 := hl3.keeps kp
  dsimp only at F4 hp4 hl4 ⊢
  rw [← hW]
  have hWL : W ≠ L := by rintro rfl; exact F3.inL hWn
  have hlW : l ≠ W := by rintro rfl; obtain ⟨o, _, _, e, _⟩ := hl3.at; rw [hWn] at e; cases e
  have hWC : W ≠ L + 1 := by rintro rfl; obtain ⟨o, e, _⟩ := F3.cell "digits" _ rfl; rw [hWn] at e; cases e
  clear kp
  generalize (h3.push { cls := .type "list", data := .seq ([] : List Value).toArray }) = h4 at F4 hp4 hl4 ⊢
  refine stL' F4 fun h5 tk7 F5 hs5 => ?_
  have hp5 : h5.PlainList W ([] : List Value).toArray := hp4.at fun o e => (hs5.2 W hWL).trans e
  have hl5 : LI h5 l (digs nn N) := let ⟨vs, ⟨o, e, r⟩, hi⟩ := hl4; ⟨vs, ⟨o, (hs5.2 l hlL).trans e, r⟩, hi⟩
  have hWo : h.get? W = none := by
    cases e : h.get? W with
    | none => rfl
    | some o =>
      have := F3.keep W o (hideAll_get _ e ?_)
      · rw [hWn] at this; cases this
      · simp only [List.mem_cons, List.not_mem_nil, or_false, not_or]
        exact ⟨by rintro rfl; exact F3.tab.t16.in hWn, by rintro rfl; exact F3.tab.t23.in hWn⟩
  -- freeze
  have F6 := F5.refreeze [W]
  have s6 := F5.subFz ndc (mu := [W]) (by intro b hb; rw [List.mem_singleton] at hb; subst hb; exact F3.newNone hWn)
  have fW : (fz h5 L [("digits", L + 1)] [W]).get? W = none := hideAll_none _ (by simp)
  have hl16 : l ≠ 16 ∧ l ≠ 23 := let ⟨_, hl, _⟩ := hl5; IsList.ne16 F5.tab hl
  have hlf : LI (fz h5 L [("digits", L + 1)] [W]) l (digs nn N) := hl5.hide (by simp [hl16.1, hl16.2, hlL, hlC, hlW])
  have S6 : Stat w (fz h5 L [("digits", L + 1)] [W]) := Sf.keeps s6
  clear hs5 hs3 hl5 hl4 hl3 hli F5 F4 F3 F2 F S1 hp4 hk
  generalize (fz h5 L [("digits", L + 1)] [W]) = f at F6 s6 fW hlf S6
  obtain ⟨ds, hds⟩ : ∃ ds, ds = digs nn N := ⟨_, rfl⟩
  have hdl : ds.length ≤ 60 := hds ▸ dg_le hn h60
  have hdd : Digs nn ds := hds ▸ dg_digs nn _ _
  have hdm : nn * ds.length ≤ 60 := by
    rw [hds]; unfold digs; rw [dg_length]
    exact Nat.le_trans nd_mul_le (by lia)
  rw [← hds] at hlf hQ
  obtain ⟨dvs, hdv, hdi⟩ := hlf
  have hdvl : dvs.length = ds.length := hdi.length
  have hW16 : W ≠ 16 ∧ W ≠ 23 := IsList.ne16 F6.tab hp5.isList
  refine wpAny_execs_cons (forS F6 ?_)
  have Sh : Stat w h5 := S6.keeps F6.keep
  refine callT (evB Sh (gl_reversed _)) fun tk8 => ?_
  refine callT (evB Sh (gl_range _)) fun tk9 => ?_
  refine EvV.run (evL F6 rfl) fun tk10 => ?_
  refine iterRevRange F6.tab (by lia) (hhA _) fun h8 h9 tk16 I s8 T8 hI src => ?_
  have F8 := F6.keeps s8
  have hp8 : h8.PlainList W ([] : List Value).toArray := hp5.at fun o e => s8 _ _ e
  have hI8 : h8.get? I = none := by rw [hI]; exact Heap.get?_none_of_le (Nat.le_refl _)
  have hWI : W ≠ I := by rintro rfl; obtain ⟨_, e⟩ := hp8; rw [hI8] at e; cases e
  have hIL : I ≠ L := by rintro rfl; exact F8.inL hI8
  have hI16 : I ≠ 16 ∧ I ≠ 23 := ⟨by rintro rfl; exact F8.tab.t16.in hI8, by rintro rfl; exact F8.tab.t23.in hI8⟩
  refine ⟨I, _, _, _, _, h8, h9, tk16, _, fun i m h => m "point" = some (.ref W) ∧ m "bits" = some (.int nn tn) ∧ m "sides" = some (.int sd ts) ∧ ∃ vs, h.PlainList W vs.toArray ∧ IntsAre vs (deal nn ds sd i), rfl, rfl, F8, src, ?_, ⟨rfl, rfl, rfl, [], hp8, .nil⟩, ?_, ?_, ?_⟩
  · intro b hb; rw [List.mem_singleton] at hb; exact .inr hb
  · rintro i m h h' ⟨j1, j2, j3, vs, j4, j5⟩ k _
    exact ⟨j1, j2, j3, vs, j4.at fun o e => k W o hWI hWL e, j5⟩
  · rintro i v h10 tk10 m' Qb E hi ⟨t, rfl⟩ ⟨j1, j2, j3, us, a5, a6⟩ F10 hq'
    obtain ⟨kk, hkk⟩ : ∃ kk, kk = sd - 1 - i := ⟨_, rfl⟩
    have ek : (sd : Int) - 1 - (i : Int) = (kk : Int) := by lia
    rw [ek] at F10
    have S10 : Stat w h10 := S6.keeps F10.keep
    have b1 : (upd m' "k" (.int kk t)) "point" = some (.ref W) := (if_neg (by decide)).trans j1
    have b2 : (upd m' "k" (.int kk t)) "bits" = some (.int nn tn) := (if_neg (by decide)).trans j2
    have b3 : (upd m' "k" (.int kk t)) "sides" = some (.int sd ts) := (if_neg (by decide)).trans j3
    have b5 : (upd m' "k" (.int kk t)) "k" = some (.int kk t) := if_pos rfl
    have hd10 : h10.IsList l dvs.toArray := IsList.keeps hdv F10.keep
    refine wpAny_execs_cons (wpAny_Expr (wpAny_Call_append rfl rfl rfl rfl ?_))
    refine EvV.run (evL F10 b1) fun tk11 => ⟨W, us.toArray, rfl, let ⟨n, e⟩ := a5; ⟨_, n, e, rfl, rfl, rfl⟩, ?_⟩
    refine callF (evG S10 (gl_d2i _)) fun tk12 => ?_
    have inW : In W h10 := let ⟨_, e⟩ := a5; In.of e
    refine compV (mu := [W]) F10 ndc (by intro b hb; rw [List.mem_singleton] at hb; subst hb; exact ⟨fW, inW⟩) ?_ rfl
    refine callT (evB S10 (gl_range _)) fun tk13 => ?_
    refine EvV.run (evL F10 b5) fun tk14 => ?_
    refine EvI.run (evLen (evB S10 (gl_len _)) (evC F10 rfl rfl) hd10 (by simp only [List.size_toArray]; lia)) fun t15 tk15 => ?_
    refine EvV.run (evL F10 b3) fun tk16 => ?_
    simp only [List.size_toArray, hdvl]
    refine iterRange3 F10.tab (by lia) (by lia) hs (by lia) (hhA _) fun h11 h12 tk17 I2 s11 T11 hI2 src2 => ?_
    have F11 := F10.keeps s11
    refine ⟨_, _, _, _, _, h11, h12, _, fun i v y g => ∃ t : Tok, y = .int (at0 ds (kk + i * sd)) t, rfl, rfl, F11, Ext.of_keeps s11, src2, fun i v y g g' x _ => x, ?_, ?_⟩
    · intro C i2 v h' tk' mC hid Q E hi2 hP hns hx F' X' T' hhid hq
      obtain ⟨t2, rfl⟩ := hP
      have hlt := cnt_lt hs hi2
      have hat : ds[kk + i2 * sd]? = some (at0 ds (kk + i2 * sd)) := by simp [at0, hlt]
      obtain ⟨t3, hv⟩ := ints_at hdi hat
      refine EvV.run (evItem (evY (F'.cell "digits" _ rfl)) (evX hns hx).i (IsList.keeps hdv F'.keep) (by lia) (by lia) (x := .int (at0 ds (kk + i2 * sd)) t3) (by rw [Int.toNat_natCast, List.getElem?_toArray]; exact hv)) fun tk18 => ?_
      exact hq _ _ _ (Ext.refl _) T' ⟨t3, rfl⟩
    intro D f5 h13 tk18 ys5 vs5 sf5 F13 X13 hmu5 hD5 h15 h25 h35 h45 hDn5
    have hi5 : IntsAre ys5 (every ds kk sd) := by
      refine ints_of ?_ fun j d hd => ?_
      · rw [h25, every, List.length_map, List.length_range]
      · unfold every at hd
        rw [List.getElem?_map, Option.map_eq_some_iff] at hd
        obtain ⟨j', hj', rfl⟩ := hd
        obtain ⟨hjl, e⟩ := List.getElem?_eq_some_iff.mp hj'
        rw [List.getElem_range] at e
        subst e
        have hj : j < ys5.length := by rw [h25]; simpa using hjl
        have hv : vs5[j]? = some (vs5[j]'(by lia)) := List.getElem?_eq_getElem _
        have hy : ys5[j]? = some ys5[j] := List.getElem?_eq_getElem _
        obtain ⟨t, e⟩ := h45 j _ _ hv hy
        exact ⟨t, by rw [hy, e]⟩
    have hel : (every ds kk sd).length ≤ ds.length := by rw [every, List.length_map, List.length_range]; exact cnt_le
    have S13 : Stat w h13 := (S6.keeps sf5).keeps F13.keep
    refine EvV.run (evL F13 b2) fun tk19 => ⟨⟨_, _, _, _, S13.1 28 _ rfl⟩, ?_⟩
    refine digits2int (s₀ := s₀) hn hi5 (every_digs hdd hs) (Nat.le_trans (Nat.mul_le_mul_left _ hel) hdm) (by show A.depth + 1 + 70 < _; lia) S13 F13.tab (IsList.keeps hD5.isList F13.keep) fun t20 h14 tk20 X14 T14 => ?_
    have F14 := (F13.ext X14 T14).down sf5
    have pl14 : h14.PlainList W us.toArray := a5.at fun o e => X14 W o hW16.1 hW16.2 (X13 W o hW16.1 hW16.2 e)
    obtain ⟨n0, e0⟩ := id pl14
    have hul : us.length ≤ 100 := by rw [a6.length, deal, List.length_map, List.length_range]; lia
    refine wpAny_list_append_plain (s := St s₀ h14 tk20) pl14 (fun h15 pl15 hs15 => ?_) (by rw [List.size_toArray, sizeLine_eq]; lia)
    refine wpAny_execs_nil ?_
    refine hq' h15 tk20 _ (F14.sameBut hs15 e0 rfl fW) (fun o e => ?_) ⟨b1, b2, b3, us ++ [.int (und nn (every ds kk sd)) t20], ?_, ?_⟩
    · exact (hs15.2 I hWI.symm).trans (X14 I o hI16.1 hI16.2 (X13 I o hI16.1 hI16.2 e))
    · have e : (us ++ [Value.int (und nn (every ds kk sd)) t20]).toArray = us.toArray.push (.int (und nn (every ds kk sd)) t20) := by simp
      rw [e]; exact pl15
    · have e : deal nn ds sd (i + 1) = deal nn ds sd i ++ [und nn (every ds kk sd)] := by
        unfold deal; rw [List.range_succ, List.map_append, hkk]; rfl
      rw [e]; exact ints_append a6 (.cons _ _ .nil)
  · rintro h10 tk10 m' F10 ⟨j1, j2, j3, us, a5, a6⟩
    refine wpAny_execs_cons (retV (evL F10 j1) fun tk11 => ?_)
    exact hQ W h10 tk11 (Ext.of_frozen (s6.trans F10.keep)) F10.tab hWo ⟨us, a5.isList, a6⟩
end Mine

end
section
open PySem PySem.W PyProof.Rows PySem.Calls
set_option Elab.async false
set_option linter.unusedVariables false
set_option maxRecDepth 100000
namespace Mine
/-- a zip of two lists at its turn i -/
noncomputable def Zt (z TI TO i1 i2 l1 l2 : Addr) (xs ys : Array Value) (i : Nat) (h : Heap) : Prop :=
  IsZip h z TI TO .none ∧ IsPair h TI (.ref i1) (.ref i2) ∧ (∃ a b, IsPair h TO a b) ∧ h.IsListIter i1 l1 i ∧ h.IsListIter i2 l2 i ∧ h.IsList l1 xs ∧ h.IsList l2 ys
theorem wrZip {h : Heap} {z TI TO i1 i2 l1 l2 : Addr} {f0 : Value} {j k : Nat} (T : Tab h) (hz : IsZip h z TI TO f0) (hTO : ∃ a b, IsPair h TO a b) (h1 : h.IsListIter i1 l1 j) (h2 : h.IsListIter i2 l2 k)
    (hn : ∀ b ∈ [z, TO, i1, i2], b ≠ 16 ∧ b ≠ 23) : WrOk [z, TO, i1, i2] h := by
  intro b hb
  obtain ⟨n1, n2⟩ := hn b hb
  refine ⟨n1, n2, ?_⟩
  simp only [List.mem_cons, List.not_mem_nil, or_false] at hb
  rcases hb with rfl | rfl | rfl | rfl
  · exact ⟨_, hz, .inl ⟨_, rfl, fun q t h => by simp at h⟩⟩
  · obtain ⟨a, c, e⟩ := hTO; exact ⟨_, e, .inr ⟨_, _, rfl⟩⟩
  · obtain ⟨o, e, _, hd⟩ := h1; exact ⟨o, e, .inl ⟨_, hd, fun q t h => by simp at h⟩⟩
  · obtain ⟨o, e, _, hd⟩ := h2; exact ⟨o, e, .inl ⟨_, hd, fun q t h => by simp at h⟩⟩
section
variable {w : World} {A : Around} {E : Value → Shared → Prop} {env : Env} {s₀ : Shared} {f h : Heap} {L : Addr} {m cm : Str → Option Value} {cs : List (Str × Addr)} {tk : Nat}
variable {elt iter : Expr} {x x₂ : Str} {px px₂ tp : Pos} {scope : Scope} {cl : List (Str × Addr)} {pos : Pos}
set_option maxHeartbeats 1000000 in
theorem compZip {y : Str} {py spos : Pos} {kt : Nat} {Q : Flow → Shared → Prop} {l1 l2 : Addr} {xs ys : Array Value} {val : Nat → Int} (F₀ : Fn f L m cs cm h) (nd : (cs.map (·.1)).Nodup) (hh : A.handled = none) (hsz : min xs.size ys.size ≤ 10000)
    (hl1 : h.IsList l1 xs) (hl2 : h.IsList l2 ys)
    (hq : ∀ (Q' : Value → Shared → Prop), (∀ h₂ tk₂, Zt (h.objs.size + 4) (h.objs.size + 2) (h.objs.size + 3) h.objs.size (h.objs.size + 1) l1 l2 xs ys 0 h₂ → h₂.objs.size = h.objs.size + 5 → Sub h h₂ → Q' (.ref (h.objs.size + 4)) (St s₀ h₂ tk₂)) → wpAny (Md w) A (eval iter env) Q' E (St s₀ h tk))
    (helt : ∀ C i v₁ v₂ h' tk mC (Q : Value → Shared → Prop) (E : Value → Shared → Prop), i < min xs.size ys.size → xs[i]? = some v₁ → ys[i]? = some v₂ → h'.Ns C mC → mC x = some v₁ → mC x₂ = some v₂ → Fn f L m cs cm h' → Ext h h' → Tab h' →
      (∀ t h'' tk', Ext h' h'' → Tab h'' → Q (.int (val i) t) (St s₀ h'' tk')) → wpAny (Md w) A (eval elt (compEnvC scope cl C env)) Q E (St s₀ h' tk))
    (hQ : ∀ D f' h' tk' (us : List Value), Sub f f' → Fn f' L (upd m y (.ref D)) cs cm h' → ExtB [L] h h' → f'.PlainList D us.toArray → IntsAre us ((List.range (min xs.size ys.size)).map val) → h.get? D = none → Q .next (St s₀ h' tk'))
    (hsw : swapsWith (.ListComp elt [⟨.Tuple [.Name x px, .Name x₂ px₂] kt tp, iter, [], 0⟩] scope pos) (some (.Name y py)) spos.line env = pure true)
    (hclos : closureFor scope env = pure cl) (hxx : x ≠ x₂) (hcell : (scope.names.all fun y => !(y.2 == .cell)) = true := by rfl) (hkind : scope.kind = .function := by rfl)
    (hnames : (scope.names.all fun y => !(y.2 == .local) || scope.names.lookup y.1 == some .local) = true := by rfl) (hx : scope.names.lookup x = some .local := by rfl) (hx₂ : scope.names.lookup x₂ = some .local := by rfl)
    (hs : ∀ x, foldedSetIterable iter env x = pure x := by intro _; rfl)
    (hk : env.scope.kind = .function := by rfl) (hl : env.kindOf y = some .local := by rfl) (hL : env.locals = L := by rfl) :
    wpAny (Md w) A (exec (.Assign [.Name y py] (.ListComp elt [⟨.Tuple [.Name x px, .Name x₂ px₂] kt tp, iter, [], 0⟩] scope pos) spos) env) Q E (St s₀ h tk) := by
  have hnames' : ∀ y ∈ scope.names, y.2 = .local → scope.names.lookup y.1 = some .local := fun y hy e => by
    have := List.all_eq_true.mp hnames y hy
    rw [e] at this
    simpa using this
  have hcell' : ∀ y ∈ scope.names, y.2 ≠ .cell := fun y hy e => by have := List.all_eq_true.mp hcell y hy; rw [e] at this; cases this
  rw [exec_Assign_Name_used _ _ _ _ hsw]
  refine wpAny_bind (wpAny_standAt (wpAny_bind ?_))
  show wpAny _ A (do let _ ← comprehension (.ListComp elt [⟨.Tuple [.Name x px, .Name x₂ px₂] kt tp, iter, [], 0⟩] scope pos) scope env _ (newList []) false (eval iter env) (some (assign (.Name y py) env))) _ _ _
  refine wpAny_bind (wpAny_mono (wpAny_comprehension_free (use := some (assign (.Name y py) env)) (Q := fun _ s' => Q .next s') rfl hs hclos hkind hnames' (hq _ fun h₂ tk₂ hZ hsz₂ sub => ?_)) (fun _ s' hq => wpAny_pure (wpAny_pure hq)) fun _ _ e => e)
  refine wpAny_pyIter_zip hZ.1 ?_
  obtain ⟨sz, hsz0⟩ : ∃ sz, sz = h.objs.size := ⟨_, rfl⟩
  rw [← hsz0] at hZ hsz₂ ⊢
  have low : ∀ b : Nat, In b h → @LT.lt Nat _ b sz := fun b hb => by obtain ⟨o, e⟩ := hb.get; rw [hsz0]; exact Heap.lt_size e
  have hl1lt : @LT.lt Nat _ l1 sz := low _ (let ⟨_, e, _⟩ := hl1; In.of e)
  have hl2lt : @LT.lt Nat _ l2 sz := low _ (let ⟨_, e, _⟩ := hl2; In.of e)
  have h16lt : @LT.lt Nat _ 16 sz := low _ F₀.tab.t16.in
  have h23lt : @LT.lt Nat _ 23 sz := low _ F₀.tab.t23.in
  have D0 : ZipApart (sz + 4) (sz + 2) (sz + 3) sz (sz + 1) l1 l2 := by
    refine ⟨?_, ?_, ?_, ?_, ?_, ?_, ?_, ?_, ?_, ?_, ?_, ?_, ?_, ?_, ?_, ?_, ?_, ?_⟩ <;> (show @Ne Nat _ _; lia)
  have W := WalksT.zip2 (prog := pw) (w := w) hh (sz + 4) (sz + 2) (sz + 3) sz (sz + 1) l1 l2 D0 xs ys
  obtain ⟨wr, hwr⟩ : ∃ wr, wr = [sz + 4, sz + 3, sz, sz + 1] := ⟨_, rfl⟩
  have wrn : ∀ b ∈ [sz + 4, sz + 3, sz, sz + 1], b ≠ 16 ∧ b ≠ 23 := by
    intro b hb
    simp only [List.mem_cons, List.not_mem_nil, or_false] at hb
    rcases hb with rfl | rfl | rfl | rfl <;> (constructor <;> (show @Ne Nat _ _; lia))
  have wrOk : ∀ {h : Heap} {f0 : Value} {j k : Nat}, Tab h → IsZip h (sz + 4) (sz + 2) (sz + 3) f0 → (∃ a b, IsPair h (sz + 3) a b) → h.IsListIter sz l1 j → h.IsListIter (sz + 1) l2 k → WrOk [sz + 4, sz + 3, sz, sz + 1] h := fun T a b c d => wrZip T a b c d wrn
  have fI : ∀ b o, h.get? b = some o → b ∉ [sz + 4, sz + 3, sz, sz + 1] := fun b o e hm => by
    have := low b (In.of e)
    simp only [List.mem_cons, List.not_mem_nil, or_false] at hm
    rcases hm with rfl | rfl | rfl | rfl <;> lia
  have F₂ : Fn f L m cs cm h₂ := F₀.keeps sub
  refine wpAny_newList (wpAny_newFunctionEnv hcell' (by intro y hy; simp at hy) (fun h₁ hns₁ hsb₁ => ?_) hkind)
  dsimp only at hns₁ hsb₁ ⊢
  generalize hH2 : h₂.push { cls := .type "list", dict := none, data := .seq ([] : List Value).toArray } = H2 at hns₁ hsb₁ ⊢
  have hC : H2.objs.size = h₂.objs.size + 1 := by rw [← hH2, Heap.size_push]
  have hDC : h₂.objs.size ≠ H2.objs.size := by rw [hC]; exact Nat.ne_of_lt (Nat.lt_succ_self _)
  have hCle : h₂.objs.size ≤ H2.objs.size := by rw [hC]; exact Nat.le_succ _
  have below : ∀ b, b < h₂.objs.size → b ≠ H2.objs.size ∧ b ≠ h₂.objs.size := fun b hb => ⟨by rw [hC]; exact Nat.ne_of_lt (Nat.lt_succ_of_lt hb), Nat.ne_of_lt hb⟩
  have old : ∀ b o, h₂.get? b = some o → h₁.get? b = some o := fun b o e => hsb₁.extBut b o (below b (Heap.lt_size e)).1 (Heap.get?_push_of_some _ (hH2 ▸ Heap.get?_push_of_some _ e))
  have hacc : h₁.PlainList h₂.objs.size ([] : List Value).toArray := ⟨0, hsb₁.extBut _ _ hDC (Heap.get?_push_of_some _ (hH2 ▸ Heap.get?_push_size _ rfl))⟩
  have fD : h₂.get? h₂.objs.size = none := Heap.get?_none_of_le (Nat.le_refl _)
  have fC : h₂.get? H2.objs.size = none := Heap.get?_none_of_le hCle
  have fpb : ∀ b ∈ [sz + 4, sz + 2, sz + 3, sz, sz + 1, l1, l2], b < h₂.objs.size ∧ b ≠ 16 ∧ b ≠ 23 := by
    intro b hb
    rw [hsz₂]
    obtain ⟨a1, a2⟩ := IsList.ne16 F₀.tab hl1
    obtain ⟨a3, a4⟩ := IsList.ne16 F₀.tab hl2
    simp only [List.mem_cons, List.not_mem_nil, or_false] at hb
    rcases hb with rfl | rfl | rfl | rfl | rfl | rfl | rfl
    · exact ⟨by show @LT.lt Nat _ _ _; lia, by show @Ne Nat _ _; lia, by show @Ne Nat _ _; lia⟩
    · exact ⟨by show @LT.lt Nat _ _ _; lia, by show @Ne Nat _ _; lia, by show @Ne Nat _ _; lia⟩
    · exact ⟨by show @LT.lt Nat _ _ _; lia, by show @Ne Nat _ _; lia, by show @Ne Nat _ _; lia⟩
    · exact ⟨by show @LT.lt Nat _ _ _; lia, by show @Ne Nat _ _; lia, by show @Ne Nat _ _; lia⟩
    · exact ⟨by show @LT.lt Nat _ _ _; lia, by show @Ne Nat _ _; lia, by show @Ne Nat _ _; lia⟩
    · exact ⟨Nat.lt_of_lt_of_le hl1lt (Nat.le_add_right _ _), a1, a2⟩
    · exact ⟨Nat.lt_of_lt_of_le hl2lt (Nat.le_add_right _ _), a3, a4⟩
  have Cf : H2.objs.size ∉ [sz + 4, sz + 2, sz + 3, sz, sz + 1, l1, l2] := fun hm => by have := (fpb _ hm).1; rw [hC] at this; exact Nat.lt_irrefl _ (Nat.lt_of_succ_lt this)
  have Df : h₂.objs.size ∉ [sz + 4, sz + 2, sz + 3, sz, sz + 1, l1, l2] := fun hm => Nat.lt_irrefl _ (fpb _ hm).1
  have hst₁ : Zt (sz + 4) (sz + 2) (sz + 3) sz (sz + 1) l1 l2 xs ys 0 h₁ := W.frame _ _ _ hZ fun b _ o e => old b o e
  have Cw : H2.objs.size ∉ [sz + 4, sz + 3, sz, sz + 1] := fun h => Cf (W.sub _ h)
  have Dw : h₂.objs.size ∉ [sz + 4, sz + 3, sz, sz + 1] := fun h => Df (W.sub _ h)
  have loop : codeAny (Md w) A (.compLoop (.ListComp elt [⟨.Tuple [.Name x px, .Name x₂ px₂] kt tp, iter, [], 0⟩] scope pos) 0 (.ref (sz + 4)) (.ref h₂.objs.size) (compEnvC scope cl H2.objs.size env))
      (compPost (Md w) A E (some (assign (.Name y py) env)) (fun _ s' => Q .next s') (.ref h₂.objs.size) H2.objs.size) (St s₀ h₁ (tk₂ + ([] : List (Str × Value)).length)) := by
    refine LCp.codeAny_compLoop_pair (fun k s' => ∃ h' tk' m' us i, s' = St s₀ h' tk' ∧ i ≤ min xs.size ys.size ∧ Zt (sz + 4) (sz + 2) (sz + 3) sz (sz + 1) l1 l2 xs ys i h' ∧ Cp [sz + 4, sz + 3, sz, sz + 1] h₂ H2.objs.size h₂.objs.size m' us h' ∧ IntsAre us ((List.range i).map val) ∧
      k = min xs.size ys.size + 1 - i) ?_ (min xs.size ys.size + 1) ⟨h₁, _, _, [], 0, rfl, Nat.zero_le _, hst₁, ⟨hns₁, hacc, fun b o _ _ _ e => old b o e, F₂.tab.keeps fun b o _ _ e => old b o e⟩, .nil, rfl⟩
    rintro k s' ⟨h', tk', m', us, i, rfl, hi, hst, hcp, hus, rfl⟩
    have hwk : WrOk [sz + 4, sz + 3, sz, sz + 1] h' := wrOk hcp.tab hst.1 hst.2.2.1 hst.2.2.2.1 hst.2.2.2.2.1
    by_cases hlt : i < min xs.size ys.size
    · refine W.item i _ _ _ hlt hst fun T vals h₃ tk₃ hP hTsz hT hMid hk₃ => ?_
      obtain ⟨v₁, v₂, hv₁, hv₂, rfl⟩ := hP
      have T₃ : Tab h₃ := hcp.tab.wr hwk hk₃
      have hwk₃ : WrOk [sz + 4, sz + 3, sz, sz + 1] h₃ := wrOk T₃ hMid.1 hMid.2.2.1 hMid.2.2.2.1 hMid.2.2.2.2.1
      have hTw := W.apart _ _ _ hMid
      refine W.go _ _ _ i T _ _ _ hMid fun h₄ hst₄ hk₄ => ?_
      have T₄ : Tab h₄ := T₃.wr hwk₃ hk₄
      have hT₄ : IsTup h₄ T #[v₁, v₂] := let ⟨o, e, r⟩ := hT; ⟨o, hk₄ T o hTw e, r⟩
      refine assign_Tuple_tuple hh hT₄ rfl rfl fun h₅ he => ?_
      have he' : ∀ b o, h₄.get? b = some o → h₅.get? b = some o := fun b o e => he b o (Nat.ne_of_lt (Heap.lt_size e)) e
      have ns₅ : h₅.Ns H2.objs.size m' := ((hcp.ns.at' fun o e => hk₃ _ o Cw e).at' fun o e => hk₄ _ o Cw e).at' fun o e => he' _ o e
      refine assignInOrder_cons (wpAny_assign_Name (wpAny_storeName_local (lookup_relabel_local hx) ns₅ (fun h₆ hn₆ hs₆ => ?_) (by simp [compEnvC, relabel, hkind])))
      refine assignInOrder_cons (wpAny_assign_Name (wpAny_storeName_local (lookup_relabel_local hx₂) hn₆ (fun h₇ hn₇ hs₇ => ?_) (by simp [compEnvC, relabel, hkind])))
      refine assignInOrder_nil ?_
      have T₅ : Tab h₅ := T₄.keeps fun b o _ _ e => he' b o e
      obtain ⟨oC, esC, epC, eC, hdC, _⟩ := id ns₅
      have up : ∀ b o, b ≠ H2.objs.size → h₅.get? b = some o → h₇.get? b = some o := fun b o p e => (hs₇.2 b p).trans ((hs₆.2 b p).trans e)
      have T₇ : Tab h₇ := T₅.keeps fun b o us hu e => up b o (ne_of_data e eC (by rw [hu, hdC]; intro q; cases q)) e
      have acc₇ : h₇.PlainList h₂.objs.size us.toArray := hcp.acc.at fun o e => up _ o hDC (he' _ o (hk₄ _ o Dw (hk₃ _ o Dw e)))
      have keep₇ : ∀ b o, b ∉ [sz + 4, sz + 3, sz, sz + 1] → b ≠ 16 → b ≠ 23 → h₂.get? b = some o → h₇.get? b = some o := fun b o p q r e => up b o (by rintro rfl; rw [fC] at e; cases e) (he' _ o (hk₄ _ o p (hk₃ _ o p (hcp.keep b o p q r e))))
      have st₇ : Zt (sz + 4) (sz + 2) (sz + 3) sz (sz + 1) l1 l2 xs ys (i + 1) h₇ := W.frame _ _ _ hst₄ fun b hb o e => up b o (fun q => Cf (by rw [← q]; exact hb)) (he' b o e)
      have X₇ : Ext h h₇ := fun b o p q e => keep₇ b o (fI b o e) p q (sub b o e)
      have F₇ : Fn f L m cs cm h₇ := F₀.ext X₇ T₇
      refine helt H2.objs.size i v₁ v₂ h₇ _ _ _ _ hlt hv₁ hv₂ hn₇ (by simp [hxx]) (by simp) F₇ X₇ T₇ fun t h₈ tk₈ X₈ T₈ => ?_
      have hD16 : h₂.objs.size ≠ 16 ∧ h₂.objs.size ≠ 23 := IsList.ne16 T₇ acc₇.isList
      have hC16 : H2.objs.size ≠ 16 ∧ H2.objs.size ≠ 23 := by
        obtain ⟨o, es, ep, e, hd, _⟩ := hn₇
        exact ⟨T₇.t16.ne e (by rw [hd]; intro q h; cases h), T₇.t23.ne e (by rw [hd]; intro q h; cases h)⟩
      have acc₈ : h₈.PlainList h₂.objs.size us.toArray := acc₇.at fun o e => X₈ _ o hD16.1 hD16.2 e
      obtain ⟨kD, eD⟩ := id acc₈
      have husl : us.length = i := by rw [hus.length, List.length_map, List.length_range]
      refine wpAny_list_append_plain (s := St s₀ h₈ tk₈) acc₈ (fun h₉ hl₉ hs₉ => ?_) (by rw [List.size_toArray, sizeLine_eq]; lia)
      have T₉ : Tab h₉ := T₈.keeps fun b o us hu e => (hs₉.2 b (ne_of_data e eD (by rw [hu]; intro q; cases q))).trans e
      have nsf := (Heap.Ns.at' hn₇ fun o e => X₈ _ o hC16.1 hC16.2 e).sameBut hs₉ (Ne.symm hDC)
      refine ⟨min xs.size ys.size + 1 - (i + 1), by lia, h₉, tk₈, _, us ++ [.int (val i) t], i + 1, rfl, hlt, ?_, ⟨nsf, ?_, ?_, T₉⟩, ?_, rfl⟩
      · exact W.frame _ _ _ st₇ fun b hb o e => hs₉.extBut b o (fun q => Df (by rw [← q]; exact hb)) (X₈ b o (fpb b hb).2.1 (fpb b hb).2.2 e)
      · have e : (us ++ [Value.int (val i) t]).toArray = us.toArray.push (.int (val i) t) := by simp
        rw [e]; exact hl₉
      · exact fun b o p q r e => (hs₉.2 b (by rintro rfl; rw [fD] at e; cases e)).trans (X₈ b o q r (keep₇ b o p q r e))
      · rw [List.range_succ, List.map_append]; exact ints_append hus (.cons _ _ .nil)
    · have hin : i = min xs.size ys.size := by lia
      subst hin
      refine W.done _ _ _ hst fun h₃ tk₃ hk₃ => ?_
      have hcp₃ : Cp [sz + 4, sz + 3, sz, sz + 1] h₂ H2.objs.size h₂.objs.size m' us h₃ := ⟨hcp.ns.at' fun o e => hk₃ _ o Cw e, hcp.acc.at fun o e => hk₃ _ o Dw e, fun b o p q r e => hk₃ b o p (hcp.keep b o p q r e), hcp.tab.wr hwk hk₃⟩
      show wpAny _ A (assign (.Name y py) env (.ref h₂.objs.size)) _ _ _
      refine wpAny_assign_Name (compStL F₂ hcp₃ (fun b hb => ?_) (wrOk F₂.tab hZ.1 hZ.2.2.1 hZ.2.2.2.1 hZ.2.2.2.2.1) fC fD hDC (fun h₄ tk₄ F₄ k₄ pl₄ => ?_) hk hl hL)
      · cases e : f.get? b with
        | none => rfl
        | some o => exact absurd hb (fI b o (F₀.keep b o e))
      · refine hQ h₂.objs.size (fz h₄ L cs []) h₄ tk₄ us (F₄.subFz nd (by simp)) (F₄.refreeze []) (fun b o p q r e => ?_) ?_ hus ?_
        · exact k₄ b o (by simpa using r) (below b (Heap.lt_size (sub b o e))).1 (hcp₃.keep b o (fI b o e) p q (sub b o e))
        · obtain ⟨n, e⟩ := pl₄
          have ce := F₂.cells nd
          have ne : ∀ b, In b h₂ → h₂.objs.size ≠ b := fun b hb q => by rw [← q] at hb; exact hb fD
          refine ⟨n, hideAll_get _ e ?_⟩
          simp only [List.mem_cons, List.append_nil, not_or]
          exact ⟨ne _ F₂.tab.t16.in, ne _ F₂.tab.t23.in, ne _ F₂.inL, fun hm => ne _ (ce _ hm).1 rfl⟩
        · cases e : h.get? h₂.objs.size with
          | none => rfl
          | some o => rw [sub _ _ e] at fD; cases fD
  exact codeAny_compStart_list loop (wpAny_pyIter_zip hst₁.1 loop)
end
end Mine

end
section
open PySem PySem.W PyProof.Rows PySem.Calls
set_option Elab.async false
set_option linter.unusedVariables false
set_option maxRecDepth 100000
namespace Mine
theorem xor_and (a b : Nat) : (a ^^^ b) + 2 * (a &&& b) = a + b := by
  induction a using Nat.strongRecOn generalizing b with
  | ind a ih =>
    by_cases ha : a = 0
    · subst ha; simp
    · have h1 := ih (a / 2) (by lia) (b / 2)
      have x1 : (a ^^^ b) / 2 = (a / 2) ^^^ (b / 2) := Nat.xor_div_two
      have x2 : (a &&& b) / 2 = (a / 2) &&& (b / 2) := Nat.and_div_two
      have x3 : (a ^^^ b) % 2 = (a % 2) ^^^ (b % 2) := by have := Nat.xor_mod_two_pow (a := a) (b := b) (n := 1); simpa using this
      have x4 : (a &&& b) % 2 = (a % 2) &&& (b % 2) := by have := Nat.and_mod_two_pow (a := a) (b := b) (n := 1); simpa using this
      have y : ((a % 2) ^^^ (b % 2)) + 2 * ((a % 2) &&& (b % 2)) = a % 2 + b % 2 := by
        rcases Nat.mod_two_eq_zero_or_one a with e | e <;> rcases Nat.mod_two_eq_zero_or_one b with f | f <;> rw [e, f] <;> rfl
      have z1 := Nat.div_add_mod (a ^^^ b) 2
      have z2 := Nat.div_add_mod (a &&& b) 2
      rw [x1, x3] at z1
      rw [x2, x4] at z2
      lia
theorem bitXor_nat (a b : Nat) : Builtin.bitXor (a : Int) (b : Int) = ((a ^^^ b : Nat) : Int) := by
  rw [bitXor_and, bitAnd_pp (by lia) (by lia), Int.toNat_natCast, Int.toNat_natCast]
  have := xor_and a b
  lia
noncomputable def sp (nn : Nat) (as bs : List Nat) (i : Nat) : Nat := nd nn (as.getD i 0 ^^^ bs.getD i 0)
section
variable {w : World} {A : Around} {E : Value → Shared → Prop} {s₀ : Shared} {h : Heap} {tk : Nat} {Q : Value → Shared → Prop}
theorem indexLI {l : Addr} {ns : List Int} {k : Int} {t : Tok} (hl : LI h l ns) (hb : ns.length ≤ 10000) (hk : k ∈ ns) (hq : Q (.int (ns.idxOf k : Nat) tk) (St s₀ h (tk + 1))) :
    wpAny (Md w) A (call (.builtin "list.index") [.ref l, .int k t]) Q E (St s₀ h tk) := by
  obtain ⟨vs, hl, hi⟩ := hl
  obtain ⟨⟨cls, dd, data, sl⟩, ho, hc, n, hd⟩ := id hl
  simp only at hc hd
  subst hc hd
  have hlen := hi.length
  have hj : ns.idxOf k < ns.length := List.idxOf_lt_length_iff.mpr hk
  refine call_meets (s := St s₀ h tk) PySem.F.slot_list_index ⟨_, ho, rfl⟩ PySem.F.entry_list_index (PySem.F.args_list_index_2 _ _)
    (PySem.SeqAt.list_indexAt l vs.toArray n dd sl (.int k t) (isInt k) (ns.idxOf k) (by simpa [hlen] using hj) (by lia) ?_ ?_) ⟨ho, fun y hy => (eq_isInt k t hi y (by simpa using hy)).at _ _, hq⟩
  · show isInt k vs[ns.idxOf k] = true
    rw [isInt_at k hi _ (by lia) hj]
    simpa using List.getElem_idxOf hj
  · intro j hjs hlt
    show isInt k vs[j] = false
    rw [isInt_at k hi j (by simpa using hjs) (by lia)]
    exact ne_of_lt_idxOf hlt _
end
set_option maxHeartbeats 2000000 in
theorem law_order {w : World} {nn : Nat} (hn : 1 ≤ nn) {as bs : List Nat} (hab : as.length = bs.length) (hpos : 0 < as.length) (hlen : as.length ≤ 100) (h60 : ∀ i, i < as.length → Builtin.Int.intBits ((as.getD i 0 ^^^ bs.getD i 0 : Nat) : Int) + nn ≤ 60) {p q : Addr} {tn : Tok} {s₀ : Shared}
    {A : Around} {h : Heap} {tk : Nat} {Q : Value → Shared → Prop} {E : Value → Shared → Prop} (hdep : A.depth + 80 < recursionLimit) (hh : A.handled = none) (S : Stat w h) (T : Tab h) (hp : LI h p (as.map Int.ofNat)) (hq : LI h q (bs.map Int.ofNat))
    (hQ : ∀ d t h' tk', d < as.length → (∀ j, j < as.length → sp nn as bs j ≤ sp nn as bs d) → (∀ j, j < d → sp nn as bs j ≠ sp nn as bs d) → Ext h h' → Tab h' → Q (.int ((as.getD d 0 : Int) - (bs.getD d 0 : Int)) t) (St s₀ h' tk')) :
    wpAny (Md w) A (call (.ref 57) [.ref p, .ref q, .int nn tn]) Q E (St s₀ h tk) := by
  obtain ⟨pvs, hpl, hpi⟩ := hp
  obtain ⟨qvs, hql, hqi⟩ := hq
  have hplen : pvs.length = as.length := by rw [hpi.length, List.length_map]
  have hqlen : qvs.length = as.length := by rw [hqi.length, List.length_map, hab]
  refine wpAny_call (enterC (binds := [("one", .ref p), ("other", .ref q), ("bits", .int nn tn)]) (m := upd (upd (fun _ => none) "one" (.ref p)) "other" (.ref q)) (cm := upd (fun _ => none) "bits" (.int nn tn)) (cs := fun L => [("bits", L + 1)])
    (by lia) S T (S.1 57 _ rfl) rfl rfl (codeRec_of' S (by kernel_rfl)) rfl rfl (fun L => rfl) rfl rfl ?_)
  intro L h1 tk1 hk hL F
  have S1 : Stat w h1 := S.keeps hk
  have hpl1 : h1.IsList p pvs.toArray := IsList.keeps hpl hk
  have hql1 : h1.IsList q qvs.toArray := IsList.keeps hql hk
  have Sf : Stat w (hideAll h [16, 23]) := S.frozen
  have ndc : (([("bits", L + 1)] : List (Str × Addr)).map (·.1)).Nodup := by simp
  have hhA : ∀ env, (A.deeper env).handled = none := fun _ => hh
  have hmin : min pvs.toArray.size qvs.toArray.size = as.length := by simp [hplen, hqlen]
  have pf : (hideAll h [16, 23]).IsList p pvs.toArray := IsList.ext hpl T (ext_frozen h)
  have qf : (hideAll h [16, 23]).IsList q qvs.toArray := IsList.ext hql T (ext_frozen h)
  refine wpAny_execs_cons (compZip (val := fun i => (sp nn as bs i : Int)) F ndc (hhA _) (by rw [hmin]; lia) hpl1 hql1 (fun Q' hq' => ?_) ?_ ?_ rfl rfl (by decide))
  · refine callT (evB S1 (gl_zip _)) fun tk2 => ?_
    refine EvV.run (evL F rfl) fun tk3 => ?_
    refine EvV.run (evL F rfl) fun tk4 => ?_
    refine call_zip_2 (s := St s₀ h1 tk4) hpl1 hql1 fun h2 a1 a2 a3 a4 a5 a6 a7 => ?_
    exact hq' h2 tk4 ⟨a1, a2, ⟨_, _, a3⟩, a4, a5, IsList.keeps hpl1 a7, IsList.keeps hql1 a7⟩ a6 a7
  · intro C i v₁ v₂ h' tk' mC Q E hi hv₁ hv₂ hns hx1 hx2 F' X' T' hq'
    rw [hmin] at hi
    obtain ⟨d1, t1, e1, rfl⟩ := ints_get hpi (by simpa using hv₁)
    obtain ⟨d2, t2, e2, rfl⟩ := ints_get hqi (by simpa using hv₂)
    rw [List.getElem?_map, Option.map_eq_some_iff] at e1 e2
    obtain ⟨a, ha, rfl⟩ := e1
    obtain ⟨b, hb, rfl⟩ := e2
    have ea : as.getD i 0 = a := by simp [List.getD, ha]
    have eb : bs.getD i 0 = b := by simp [List.getD, hb]
    have S' : Stat w h' := S1.ext X'
    refine callB (evB S' (gl_len _)) fun tk2 => ?_
    refine callF (evG S' (gl_i2d _)) fun tk3 => ?_
    refine EvI.run (((evX hns hx1).i.xor (evX hns hx2).i).eq (bitXor_nat a b)) fun t4 tk4 => ?_
    refine EvV.run (evY (F'.cell "bits" _ rfl)) fun tk5 => ⟨⟨_, _, _, _, S'.1 21 _ rfl⟩, ?_⟩
    have h60' := h60 i hi
    rw [ea, eb] at h60'
    refine int2digits (s₀ := s₀) hn h60' (by show A.depth + 1 + 70 < _; lia) S' T' fun l h'' tk'' X'' T'' hnone hli => ?_
    obtain ⟨ls, hll, hlli⟩ := hli
    have hle := dg_le hn h60'
    refine call_len_list (s := St s₀ h'' tk'') hll (by rw [List.size_toArray, hlli.length]; lia) ?_
    have := hq' (tk'' + 1) h'' (tk'' + 1 + 1) X'' T''
    simp only [List.size_toArray, hlli.length]
    have e : (digs nn (a ^^^ b)).length = sp nn as bs i := by rw [sp, ea, eb, digs, dg_length]
    rw [e]
    exact this
  intro D f2 h2 tk2 us sf F2 X2 hD hus hDn
  rw [hmin] at hus
  obtain ⟨sps, hsps⟩ : ∃ sps, sps = (List.range as.length).map fun i => (sp nn as bs i : Int) := ⟨_, rfl⟩
  rw [← hsps] at hus
  have hspl : sps.length = as.length := by rw [hsps]; simp
  have hget : ∀ i, i < as.length → sps[i]? = some (sp nn as bs i : Int) := fun i hi => by rw [hsps, List.getElem?_map, List.getElem?_range hi]; rfl
  have S2 : Stat w h2 := (Sf.keeps sf).keeps F2.keep
  have hD2 : h2.PlainList D us.toArray := hD.at fun o e => F2.keep _ _ e
  have hl2 : LI h2 D sps := ⟨us, hD2.isList, hus⟩
  refine wpAny_execs_cons (wpAny_Assign_Name (MethodCall_ (EvV.run (evL F2 rfl) fun tk3 => getMethod_list_of PySem.F.slot_list_index PySem.F.type_list_index hD2.isList ?_ ?_) rfl))
  · obtain ⟨n, e⟩ := hD2; exact ⟨_, e, rfl⟩
  refine callWith_builtin rfl (evalArgs_plain (spliced_evArgs [_] _ _ ?_))
  refine callB (evB S2 (gl_max _)) fun tk4 => ?_
  refine EvV.run (evL F2 rfl) fun tk5 => ?_
  refine maxLI (hhA _) hl2 (by lia) fun h3 M t6 tk6 s3 hM1 hM2 => ?_
  refine indexLI (hl2.keeps s3) (by lia) hM1 ?_
  have F3 := F2.keeps s3
  obtain ⟨d, hd⟩ : ∃ d, d = sps.idxOf M := ⟨_, rfl⟩
  have hdlt : d < as.length := by rw [hd, ← hspl]; exact List.idxOf_lt_length_iff.mpr hM1
  have hMd : M = (sp nn as bs d : Int) := by
    have h1 := hget d hdlt
    have h2 : sps[d]? = some M := by
      rw [hd, List.getElem?_eq_getElem (List.idxOf_lt_length_iff.mpr hM1), List.getElem_idxOf]
    rw [h1] at h2; cases h2; rfl
  rw [← hd]
  refine stL' F3 fun h4 tk7 F4 hs4 => ?_
  refine wpAny_execs_cons (wpAny_Return_some ?_)
  have ga : as[d]? = some (as.getD d 0) := by simp [List.getD, hdlt]
  have gb : bs[d]? = some (bs.getD d 0) := by simp [List.getD, hab ▸ hdlt]
  obtain ⟨t8, g8⟩ := ints_at hpi (k := d) (d := (as.getD d 0 : Int)) (by rw [List.getElem?_map, ga]; rfl)
  obtain ⟨t9, g9⟩ := ints_at hqi (k := d) (d := (bs.getD d 0 : Int)) (by rw [List.getElem?_map, gb]; rfl)
  have sf4 := sf.trans F4.keep
  refine EvI.run ((evItem (evL F4 rfl) (evL F4 rfl).i (IsList.keeps pf sf4) (by lia) (by lia) (x := .int (as.getD d 0) t8) (by simpa using g8)).i.sub
    (evItem (evL F4 rfl) (evL F4 rfl).i (IsList.keeps qf sf4) (by lia) (by lia) (x := .int (bs.getD d 0) t9) (by simpa using g9)).i) fun t10 tk10 => ?_
  refine hQ d t10 h4 tk10 hdlt (fun j hj => ?_) (fun j hj e => ?_) (Ext.of_frozen sf4) F4.tab
  · have := hM2 _ (List.mem_of_getElem? (hget j hj))
    rw [hMd] at this; lia
  · have hlt : j < sps.idxOf M := hd ▸ hj
    have h1 := ne_of_lt_idxOf (ns := sps) hlt (by lia)
    have h2 := hget j (by lia)
    rw [List.getElem?_eq_getElem (by lia)] at h2
    have h3 : sps[j]'(by lia) = M := (Option.some.inj h2).trans ((congrArg (fun n : Nat => (n : Int)) e).trans hMd.symm)
    rw [h3] at h1
    simp at h1
end Mine

end
section
open PySem PySem.W PyProof.Rows PySem.Calls
set_option Elab.async false
set_option linter.unusedVariables false
set_option maxRecDepth 100000


namespace Mine
theorem isT1 : isType (.type "object") = pure true := rfl
theorem tyO : typeOf (.type "object") = pure (.type "type") := by kernel_rfl
theorem subTT : isSubtype (.type "type") (.type "type") = pure true := by rw [isSubtype_type]; kernel_rfl
theorem extO : Builtin.extendedBase [.type "object"] = pure (.type "object") := by kernel_rfl
theorem notOver : Builtin.notOverATurnedClass [.type "object"] = pure () := by kernel_rfl
theorem linO : Builtin.linearize [.type "object"] mroOf = pure [.type "object"] := by kernel_rfl
theorem hookT : Builtin.mroHook? (.type "type") = pure none := by kernel_rfl
theorem madeO : Bind.madeBy (.type "object") = pure (some "object.__new__") := by kernel_rfl
theorem weakO : Builtin.Slots.givesWeak (.type "object") = pure false := by kernel_rfl
theorem dictO : Builtin.Slots.givesDict (.type "object") = pure false := by kernel_rfl
theorem varO : Builtin.Slots.varSize (.type "object") = pure false := by kernel_rfl
theorem bestO : Builtin.Slots.bestBase [.type "object"] = pure (.type "object") := by kernel_rfl
theorem slotNO : Builtin.Slots.slotNamesOf (.type "object") = pure [] := by kernel_rfl
theorem noteO (a : Addr) : Builtin.noteSubclassOfBuiltin "object" a = pure () := by kernel_rfl
theorem subTup : isSubtype (.type "tuple") (.type "tuple") = pure true := by rw [isSubtype_type]; kernel_rfl
theorem subDic : isSubtype (.type "dict") (.type "dict") = pure true := by rw [isSubtype_type]; kernel_rfl
section
variable {M : Model} {A : Around} {E : Value → Shared → Prop} {s : Shared} {α β : Type} {Q : β → Shared → Prop} {f : α → β → Sem (ForInStep β)} {b : β}
theorem wp_forIn_nil (h : Q b s) : wpAny M A (forIn ([] : List α) b f) Q E s := by
  rw [List.forIn_nil]; exact wpAny_pure h
theorem wp_forIn_arr {xs : Array α} {l : List α} (e : xs.toList = l) (h : wpAny M A (forIn l b f) Q E s) : wpAny M A (forIn xs b f) Q E s := by
  subst e
  rw [← Array.forIn_toList]; exact h
theorem wp_forIn_cons {x : α} {xs : List α} (h : wpAny M A (f x b) (fun r s' => match r with | .done b' => Q b' s' | .yield b' => wpAny M A (forIn xs b' f) Q E s') E s) : wpAny M A (forIn (x :: xs) b f) Q E s := by
  rw [List.forIn_cons]
  refine wpAny_bind (wpAny_mono h (fun r s' h' => ?_) fun _ _ e => e)
  cases r with
  | done b' => exact wpAny_pure h'
  | yield b' => exact h'
end
set_option maxHeartbeats 4000000 in
theorem slotsRead {w : World} {s₀ : Shared} {A : Around} {h : Heap} {tk : Nat} {Q : Builtin.Slots.Plan → Shared → Prop} {E : Value → Shared → Prop} {es : Array DictEntry} {sl : Addr} {to nl : Nat} {dd : Option Addr} {sls : Array (Option Value)}
    (hf : nsFind es "__slots__" = some (.ref sl)) (hno : nsFind es "obj" = none) (hsl : h.get? sl = some ⟨.type "list", dd, .seq #[.str "obj" to] nl, sls⟩)
    (hq : ∀ h', Sub h h' → Q { names := ["obj"], dict := false, weak := false, inherited := [] } (St s₀ h' tk)) :
    wpAny (Md w) A (Builtin.Slots.read "K" [.type "object"] es) Q E (St s₀ h tk) := by
  obtain ⟨e, he, hv⟩ : ∃ e, es.find? (fun x => x.key.isStr "__slots__") = some e ∧ e.val = .ref sl := by
    unfold nsFind findBy at hf
    exact Option.map_eq_some_iff.mp hf
  have hany : es.any (fun x => x.key.isStr "obj") = false := by
    unfold nsFind findBy at hno
    rw [Option.map_eq_none_iff, Array.find?_eq_none] at hno
    rw [Array.any_eq_false']
    intro x hx
    simpa using hno x hx
  delta Builtin.Slots.read
  refine wpAny_bind (wpAny_of_eq bestO ?_)
  refine wpAny_bind (wpAny_of_eq slotNO ?_)
  refine wpAny_bind (wpAny_of_eq dictO ?_)
  refine wpAny_bind (wpAny_of_eq weakO ?_)
  refine wpAny_bind (wpAny_of_eq varO ?_)
  wp_delta
  rw [he]
  wp_delta
  refine wpAny_bind (wpAny_rule ?_)
  rw [hv]
  refine wpAny_bind (wpAny_bind (wpAny_load hsl (wpAny_pure ?_)))
  wp_delta
  refine wpAny_ite_false rfl ?_
  refine wpAny_bind ?_
  refine wpAny_collect_seq (s := St s₀ h tk) sl (.inl rfl) hsl rfl rfl (fun h' hk => ?_) (by rw [sizeLine_eq]; show 1 ≤ _; lia)
  wp_delta
  refine wpAny_ite_true rfl ?_
  refine wpAny_bind (wpAny_of_eq varO ?_)
  refine wpAny_ite_false rfl ?_
  wp_delta
  refine wpAny_bind ?_
  refine wp_forIn_cons ?_
  wp_delta
  refine wpAny_bind (wpAny_of_eq (a := some ("obj" : Str)) rfl ?_)
  have hid : Builtin.Slots.isIdentifier ("obj" : Str) = some true := by kernel_rfl
  wp_delta
  refine wpAny_bind (wpAny_pure ?_)
  wp_delta
  rw [hid]
  wp_delta
  refine wpAny_bind (wpAny_pure ?_)
  wp_delta
  refine wpAny_ite_false rfl ?_
  wp_delta
  refine wpAny_ite_false (by kernel_rfl) ?_
  refine wpAny_ite_false (by kernel_rfl) ?_
  wp_delta
  refine wpAny_pure ?_
  refine wp_forIn_nil ?_
  wp_delta
  refine wpAny_bind (wp_forIn_arr (l := [("obj" : Str)]) rfl ?_)
  refine wp_forIn_cons ?_
  wp_delta
  have hm : Builtin.Slots.mangle ("K" : Str) ("obj" : Str) = ("obj" : Str) := by kernel_rfl
  rw [hm, hany]
  refine wpAny_ite_false (by kernel_rfl) ?_
  wp_delta
  refine wpAny_ite_false rfl ?_
  wp_delta
  refine wpAny_ite_false (by kernel_rfl) ?_
  wp_delta
  refine wpAny_pure ?_
  refine wp_forIn_nil ?_
  wp_delta
  refine wpAny_bind ?_
  refine wp_forIn_cons ?_
  refine wpAny_ite_false rfl ?_
  refine wpAny_pure ?_
  refine wp_forIn_nil ?_
  refine wpAny_pure ?_
  exact hq h' hk
end Mine

end
section
open PySem PySem.W PyProof.Rows PySem.Calls
set_option Elab.async false
set_option linter.unusedVariables false
set_option maxRecDepth 100000
set_option pp.deepTerms false
set_option pp.maxSteps 1500
namespace Mine
section
variable {M : Model} {A : Around} {E : Value → Shared → Prop} {s₀ : Shared} {h : Heap} {tk : Nat}
theorem wp_newObj {T : String} {data : Data} {dict : Option Addr} {Q : Value → Shared → Prop} (hd : sizeOk data) (hf : (Obj.mk (.type T) dict data #[]).isFreed = false)
    (hq : ∀ N h', h.get? N = none → h'.get? N = some ⟨.type T, dict, data, #[]⟩ → Sub h h' → Q (.ref N) (St s₀ h' tk)) : wpAny M A (newObj (.type T) data dict) Q E (St s₀ h tk) :=
  wpAny_newObj_type (hq _ _ (Heap.get?_none_of_le (Nat.le_refl _)) (Heap.get?_push_size _ hf) fun b o e => Heap.get?_push_of_some _ e) hd
theorem wp_alloc {o : Obj} {Q : Addr → Shared → Prop} (hf : o.isFreed = false)
    (hq : ∀ N h', h.get? N = none → h'.get? N = some o → Sub h h' → Q N (St s₀ h' tk)) : wpAny M A (alloc o) Q E (St s₀ h tk) :=
  wpAny_alloc (hq _ _ (Heap.get?_none_of_le (Nat.le_refl _)) (Heap.get?_push_size _ hf) fun b o e => Heap.get?_push_of_some _ e)
theorem wp_setSlotAt {a : Addr} {i : Nat} {v : Option Value} {c : Value} {d : Option Addr} {dt : Data} {sl : Array (Option Value)} {Q : Unit → Shared → Prop} (ho : h.get? a = some ⟨c, d, dt, sl⟩) (hi : i < 100) (hf : ∀ sl', (Obj.mk c d dt sl').isFreed = false)
    (hq : ∀ h', h'.get? a = some ⟨c, d, dt, (sl ++ Array.replicate (i + 1 - sl.size) none).setIfInBounds i v⟩ → Heap.SameBut a h h' → Q () (St s₀ h' tk)) : wpAny M A (setSlotAt a i v) Q E (St s₀ h tk) := by
  unfold setSlotAt
  rw [if_neg (by rw [sizeLine_eq]; lia)]
  exact wpAny_updatePart ho (hq _ (Heap.get?_update_self _ ho (hf _)) (Heap.SameBut.update ..))
theorem wp_updateCls {a : Addr} {f : ClassData → ClassData} {c : Value} {d : Option Addr} {cd : ClassData} {sl : Array (Option Value)} {Q : Unit → Shared → Prop} (ho : h.get? a = some ⟨c, d, .cls cd, sl⟩) (hp : (Data.cls (f cd)).pastItsLine = none)
    (hq : ∀ h', h'.get? a = some ⟨c, d, .cls (f cd), sl⟩ → Heap.SameBut a h h' → Q () (St s₀ h' tk)) : wpAny M A (updateCls a f) Q E (St s₀ h tk) := by
  unfold updateCls
  refine wpAny_bind (wpAny_load ho ?_)
  refine wpAny_bind (wpAny_update ho ?_)
  exact wpAny_lookBehind (o := ⟨c, d, .cls (f cd), sl⟩) (Heap.get?_update_self _ ho rfl) hp (hq _ (Heap.get?_update_self _ ho rfl) (Heap.SameBut.update ..))
theorem wp_slotAt {a : Addr} {i : Nat} {o : Obj} {Q : Option Value → Shared → Prop} (ho : h.get? a = some o) (hq : Q (o.slots[i]?).join (St s₀ h tk)) : wpAny M A (slotAt a i) Q E (St s₀ h tk) := by
  unfold slotAt
  exact wpAny_bind (wpAny_loadPart ho (wpAny_pure hq))
theorem wp_classData {a : Addr} {c : Value} {d : Option Addr} {cd : ClassData} {sl : Array (Option Value)} {Q : ClassData → Shared → Prop} (ho : h.get? a = some ⟨c, d, .cls cd, sl⟩) (hq : Q cd (St s₀ h tk)) : wpAny M A (classData a) Q E (St s₀ h tk) := by
  unfold classData
  exact wpAny_bind (wpAny_load ho (wpAny_pure hq))
theorem wp_clsLook {a : Addr} {x : Str} {c : Value} {d : Option Addr} {cd : ClassData} {sl : Array (Option Value)} {m : Str → Option Value} {Q : Option Value → Shared → Prop} (ho : h.get? a = some ⟨c, d, .cls cd, sl⟩) (hm : cd.mro = [.ref a, .type "object"]) (hn : h.Ns cd.ns m)
    (hq : Q (match m x with | some v => some v | none => builtinOwn "object" x) (St s₀ h tk)) : wpAny M A (typeLookup (.ref a) x) Q E (St s₀ h tk) := by
  delta typeLookup
  refine wpAny_bind (wpAny_bind (wp_classData ho (wpAny_pure ?_)))
  rw [hm]
  refine wpAny_bind (wp_forIn_cons ?_)
  refine wpAny_bind (wpAny_bind (wp_classData ho (wpAny_nsGet (s := St s₀ h tk) hn ?_)))
  cases hx : m x with
  | some v =>
    rw [hx] at hq
    exact wpAny_pure (wpAny_pure hq)
  | none =>
    rw [hx] at hq
    refine wpAny_pure (wp_forIn_cons ?_)
    refine wpAny_bind (wpAny_pure ?_)
    cases hb : builtinOwn "object" x with
    | some v => rw [hb] at hq; exact wpAny_pure (wpAny_pure hq)
    | none => rw [hb] at hq; exact wpAny_pure (wp_forIn_nil (wpAny_pure hq))
theorem ownNew : builtinOwn "object" "__new__" = some (.builtin "object.__new__") := by kernel_rfl
theorem wp_refresh {a : Addr} {c : Value} {d : Option Addr} {cd : ClassData} {sl : Array (Option Value)} {m : Str → Option Value} {Q : Unit → Shared → Prop} (ho : h.get? a = some ⟨c, d, .cls cd, sl⟩) (hm : cd.mro = [.ref a, .type "object"]) (hn : h.Ns cd.ns m)
    (hs : (sl[4]?).join = some (.builtin "object.__new__")) (hnew : m "__new__" = none) (hq : Q () (St s₀ h tk)) : wpAny M A (Bind.refreshMaker a) Q E (St s₀ h tk) := by
  delta Bind.refreshMaker
  refine wpAny_bind (wp_slotAt ho ?_)
  show wpAny _ _ (if ((sl[4]?).join).isNone = true then _ else _) _ _ _
  rw [hs]
  refine wpAny_ite_false rfl ?_
  refine wpAny_bind (wp_clsLook ho hm hn ?_)
  rw [hnew, ownNew]
  try wp_delta
  refine wpAny_ite_false (by kernel_rfl) ?_
  exact wpAny_pure hq
end
theorem nsAny {es : Array DictEntry} {x : Str} : (nsFind es x).isSome = es.any (fun e => e.key.isStr x) := by
  simp only [nsFind, findBy, Option.isSome_map]
  rw [Bool.eq_iff_iff]; simp only [Array.find?_isSome, Array.any_eq_true]
  constructor
  · rintro ⟨x, hx, hp⟩; obtain ⟨i, hi, rfl⟩ := Array.mem_iff_getElem.mp hx; exact ⟨i, hi, hp⟩
  · rintro ⟨i, hi, hp⟩; exact ⟨_, Array.getElem_mem hi, hp⟩
theorem wp_nsSetByValue {M : Model} {A : Around} {E : Value → Shared → Prop} {s₀ : Shared} {h : Heap} {tk : Nat} {N : Addr} {m : Str → Option Value} {name : Str} {v : Value} {W : List Str} {Q : Unit → Shared → Prop} (hn : h.Ns1 N m) (hw : Within m W) (hW : W.length ≤ 100)
    (hq : ∀ h' tk', h'.Ns1 N (fun x => if x = name then some v else m x) → Heap.SameBut N h h' → Q () (St s₀ h' tk')) : wpAny M A (nsSetByValue N name v) Q E (St s₀ h tk) := by
  obtain ⟨o, es, ep, e, hd, r⟩ := id hn
  obtain ⟨o', es', ep', e', hd', hc⟩ := hn.count hw
  rw [e] at e'; cases e'
  rw [hd] at hd'; cases hd'
  delta nsSetByValue
  refine wpAny_bind (wpAny_loadPart e ?_)
  rw [hd]
  have : ¬ (es.size > sizeLine) := by rw [sizeLine_eq]; lia
  try wp_delta
  refine wpAny_ite_false (by simp [this]) ?_
  exact wpAny_nsSet1 (s := St s₀ h tk) hn fun h' n' s' => hq h' _ n' s'
noncomputable def mdObj (a : Addr) (tO : Tok) : Obj := { cls := .type "member_descriptor", data := .fields #[.str "obj" tO, .ref a, .builtin "proto.slot", .builtin "proto.slot#set", rawInt 0] }
set_option maxHeartbeats 400000 in
theorem slotsInstall {M : Model} {A : Around} {E : Value → Shared → Prop} {s₀ : Shared} {h : Heap} {tk : Nat} {a N : Addr} {c : Value} {d : Option Addr} {cd : ClassData} {sl : Array (Option Value)} {m : Str → Option Value} {W : List Str} {Q : Unit → Shared → Prop} (g : h.get? a = some ⟨c, d, .cls cd, sl⟩) (hn : h.Ns1 N m) (hno : m "obj" = none) (haN : N ≠ a) (hw : Within m W) (hW : W.length ≤ 100) (hp : (Data.cls { cd with hasDict := false, slotNames := ["obj"] }).pastItsLine = none)
    (hq : ∀ md tO h' tk', h.get? md = none → h'.get? md = some (mdObj a tO) → h'.Ns1 N (fun x => if x = "obj" then some (.ref md) else m x) → h'.get? a = some ⟨c, d, .cls { cd with hasDict := false, slotNames := ["obj"] }, sl⟩ →
      (∀ b o, b ≠ a → b ≠ N → h.get? b = some o → h'.get? b = some o) → Q () (St s₀ h' tk')) : wpAny M A (Builtin.Slots.install (.ref a) N [.type "object"] { names := ["obj"], dict := false, weak := false }) Q E (St s₀ h tk) := by
  delta Builtin.Slots.install
  try wp_delta
  refine wpAny_bind (wp_forIn_cons ?_)
  refine wpAny_bind (wpAny_nsGet (s := St s₀ h tk) hn.ns ?_)
  rw [hno]
  refine wpAny_ite_true rfl ?_
  refine wpAny_bind (wpAny_mkStr ?_)
  refine wpAny_bind (wp_newObj (by show 5 ≤ _; rw [sizeLine_eq]; lia) rfl fun md h1 n1 g1 k1 => ?_)
  have g1a := k1 _ _ g
  have mN : md ≠ N := by rintro rfl; obtain ⟨_, _, _, e, _⟩ := hn; rw [n1] at e; cases e
  have ma : md ≠ a := by rintro rfl; rw [n1] at g; cases g
  refine wpAny_bind (wp_nsSetByValue (hn.keeps k1) hw hW fun h2 tk2 n2 s2 => ?_)
  refine wpAny_pure (wp_forIn_nil ?_)
  try wp_delta
  refine wpAny_bind (wp_forIn_cons ?_)
  refine wpAny_bind (wpAny_of_eq dictO ?_)
  refine wpAny_ite_false rfl ?_
  refine wpAny_pure (wp_forIn_nil ?_)
  try wp_delta
  refine wpAny_ite_false (by kernel_rfl) ?_
  try wp_delta
  refine wp_updateCls ((s2.2 a haN.symm).trans g1a) hp fun h3 g3 s3 => ?_
  refine hq md _ h3 tk2 n1 ((s3.2 md ma).trans ((s2.2 md mN).trans g1)) (n2.sameBut s3 haN) g3 fun b o p q e => (s3.2 b p).trans ((s2.2 b q).trans (k1 b o e))
section
variable {M : Model} {A : Around} {E : Value → Shared → Prop} {s : Shared} {α β : Type} {Q : β → Shared → Prop} {f : α → β → Sem (ForInStep β)} {b : β}
theorem wp_forIn_same : ∀ {l : List α}, (∀ x ∈ l, ∀ (Q' : ForInStep β → Shared → Prop), Q' (.yield b) s → wpAny M A (f x b) Q' E s) → Q b s → wpAny M A (forIn l b f) Q E s
  | [], _, h => wp_forIn_nil h
  | x :: r, hx, h => wp_forIn_cons (hx x (.head _) _ (wp_forIn_same (fun y hy => hx y (.tail _ hy)) h))
end
noncomputable def noSN (T : String) : Prop := typeLookup (.type T) "__set_name__" = pure none
/-- a value under a name of a class that no __set_name__ minds -/
noncomputable def Harm (h : Heap) (v : Value) : Prop := (∃ b o T, v = .ref b ∧ h.get? b = some o ∧ o.cls = .type T ∧ noSN T) ∨ (∃ T, (∀ id, v ≠ .builtin id) ∧ typeOf v = pure (.type T) ∧ noSN T)
theorem Harm.special {M : Model} {A : Around} {E : Value → Shared → Prop} {s₀ : Shared} {h : Heap} {tk : Nat} {v : Value} {Q : Option Value → Shared → Prop} (x : Harm h v) (hq : Q none (St s₀ h tk)) : wpAny M A (specialOf v "__set_name__") Q E (St s₀ h tk) := by
  rcases x with ⟨b, o, T, rfl, e, hc, hl⟩ | ⟨T, hb, ht, hl⟩
  · exact wpAny_specialOf (T := T) ⟨o, e, hc⟩ hl hq
  · unfold specialOf
    rw [ht]
    exact wpAny_bind (wpAny_pure (wpAny_of_eq hl hq))
theorem Harm.held {h : Heap} {k v : Value} (x : Harm h v) : Builtin.laidUnderItsOwnName k v = false := by
  have hb : ∀ id, v ≠ .builtin id := by
    rcases x with ⟨b, o, T, rfl, e, hc, hl⟩ | ⟨T, hb, ht, hl⟩
    · intro id h; cases h
    · exact hb
  unfold Builtin.laidUnderItsOwnName Builtin.heldUnderItsOwnName
  split
  · split
    · exact absurd rfl (hb _)
    · rfl
  · rfl
theorem uniq_val {es : Array DictEntry} (hk : StrKeys es) (hu : UniqKeys es) {e : DictEntry} (he : e ∈ es) : ∃ n, nsFind es n = some e.val := by
  obtain ⟨n, t, hkey⟩ := hk e he
  refine ⟨n, ?_⟩
  unfold nsFind findBy
  obtain ⟨l⟩ := es
  simp only [List.find?_toArray]
  have hmem : e ∈ l := by simpa using he
  have hu' : l.Pairwise fun a b => ∀ n, a.key.isStr n = true → b.key.isStr n = true → False := hu
  clear hk he hu
  induction l with
  | nil => cases hmem
  | cons x r ih =>
    rw [List.pairwise_cons] at hu'
    rcases List.mem_cons.mp hmem with rfl | hm
    · have : e.key.isStr n = true := by rw [hkey]; simp [Value.isStr]
      rw [List.find?_cons, this]; rfl
    · have hn : x.key.isStr n = false := by
        cases hx : x.key.isStr n
        · rfl
        · exact (hu'.1 e hm n hx (by rw [hkey]; simp [Value.isStr])).elim
      rw [List.find?_cons, hn]
      exact ih hm hu'.2
end Mine

end
section
open PySem PySem.W PyProof.Rows PySem.Calls
set_option Elab.async false
set_option linter.unusedVariables false
set_option maxRecDepth 100000
set_option pp.deepTerms false
set_option pp.maxSteps 1500
namespace Mine
section
variable {w : World} {A : Around} {E : Value → Shared → Prop} {s₀ : Shared} {h : Heap} {tk : Nat} {a : Addr} {c : Value} {d : Option Addr} {cd : ClassData} {sl : Array (Option Value)}
theorem wp_isSubSelf {M : Model} {Q : Bool → Shared → Prop} (g : h.get? a = some ⟨c, d, .cls cd, sl⟩) (hm : cd.mro = [.ref a, .type "object"]) (hq : Q true (St s₀ h tk)) : wpAny M A (isSubtype (.ref a) (.ref a)) Q E (St s₀ h tk) := by
  delta isSubtype
  refine wpAny_bind (wpAny_bind (wp_classData g (wpAny_pure ?_)))
  rw [hm]
  try wp_delta
  refine wpAny_ite_false rfl ?_
  refine wpAny_pure ?_
  have e : [Value.ref a, Value.type "object"].contains (Value.ref a) = true := by simp
  rw [e]; exact hq
set_option maxHeartbeats 1000000 in
theorem superCall {Q : Value → Shared → Prop} (g : h.get? a = some ⟨c, d, .cls cd, sl⟩) (hm : cd.mro = [.ref a, .type "object"])
    (hq : ∀ so h', h.get? so = none → h'.get? so = some { cls := .type "super", data := .fields #[.ref a, .ref a, .ref a] } → Sub h h' → Q (.ref so) (St s₀ h' tk)) :
    wpAny (Md w) A (call (.type "super") [.ref a, .ref a]) Q E (St s₀ h tk) := by
  refine ks_callType_codesW (Q₁ := fun obj s₁ => obj = .ref h.objs.size ∧ s₁ = St s₀ (h.push { cls := .type "super", data := .fields #[.none, .none, .none] }) tk) PySem.F.ks_called_super (ks_wpAny_checkTypeCall_super g rfl) PySem.F.ks_entry_super_init
    (ks_code_super_new _ _ ⟨rfl, rfl⟩) fun obj s₁ h₁ => ?_
  obtain ⟨rfl, rfl⟩ := h₁
  have up : Sub h (h.push { cls := .type "super", data := .fields #[.none, .none, .none] }) := fun y o e => Heap.get?_push_of_some _ e
  have hso : (h.push { cls := .type "super", data := .fields #[.none, .none, .none] }).get? h.objs.size = some { cls := .type "super", dict := none, data := .fields #[.none, .none, .none], slots := #[] } := Heap.get?_push_at rfl rfl
  have g' := up _ _ g
  refine ⟨⟨_, hso, rfl⟩, PySem.F.ks_initArgs_super _ _ _, ?_⟩
  unfold Builtin.«super.__init__» noKeywords
  repeat (first | (with_reducible refine ks_wpAny_isType_cls g' rfl ?_) | (with_reducible refine wp_isSubSelf g' hm ?_) | (with_reducible refine ks_wpAny_super_set3 hso ?_) | wp_step)
  all_goals (intro h' e k; exact ⟨rfl, hq _ h' (Heap.get?_none_of_le (Nat.le_refl _)) e fun y o ey => k y o (Nat.ne_of_lt (Heap.lt_size ey)) (up y o ey)⟩)
end
end Mine

end
section
open PySem PySem.W PyProof.Rows PySem.Calls PySem.W.X
set_option Elab.async false
set_option linter.unusedVariables false
set_option maxRecDepth 100000
set_option pp.deepTerms false
set_option pp.maxSteps 1500
namespace Mine
theorem ownInit : builtinOwn "object" "__init_subclass__" = some (.builtin "object.__init_subclass__") := by kernel_rfl
theorem tyInit : typeOf (.builtin "object.__init_subclass__") = pure (.type "classmethod_descriptor") := by show builtinType _ = _; rw [builtinType_eq_fast]; kernel_rfl
theorem getInit : typeLookup (.type "classmethod_descriptor") "__get__" = pure (some (.builtin "classmethod_descriptor.__get__")) := by rw [typeLookup_type, builtinLookup_eq_fast]; kernel_rfl
/-- K's class data -/
noncomputable def kcd (a N : Addr) (q : Str) : ClassData := { name := "K", bases := [.type "object"], mro := [.ref a, .type "object"], ns := N, qualname := q, hasDict := false, slotNames := ["obj"] }
theorem memSub {h0 h : Heap} {news : List (Addr × Obj)} (D : Mem h0 h [] news) : Sub h0 h := fun b o e => D.keep b o e (by simp [away])
theorem memEnd {h0 h : Heap} {a : Addr} {o : Obj} {Q : Value → Shared → Prop} {g : Array GenState} {d : Drawn} {t : Nat} {os : OsState} (D : Mem h0 h [] [(a, o)])
    (hq : ∀ bm h', h0.get? bm = none → h'.get? bm = some o → Sub h0 h' → Q (.ref bm) ⟨h', g, d, t, os⟩) : Q (.ref a) ⟨h, g, d, t, os⟩ := hq a h (D.nw _ (.head _)).2 (D.nw _ (.head _)).1 (memSub D)
local macro_rules | `(tactic| x_close) => `(tactic| (first | exact memEnd (by assumption) (by assumption) | assumption))
theorem getCall {w : World} {A : Around} {E : Value → Shared → Prop} {Q : Value → Shared → Prop} {h : Heap} {g : Array GenState} {d : Drawn} {t : Nat} {os : OsState} {a N : Addr} {q : Str} {dd : Option Addr} {sl : Array (Option Value)}
    (hg : h.get? a = some ⟨.type "type", dd, .cls (kcd a N q), sl⟩)
    (hq : ∀ bm h', h.get? bm = none → h'.get? bm = some { cls := .type "builtin_function_or_method", data := .fields #[.builtin "object.__init_subclass__", .ref a] } → Sub h h' → Q (.ref bm) ⟨h', g, d, t, os⟩) :
    wpAny (model PySem.Challenge.pw_mr0073_01 w) A (call (.builtin "classmethod_descriptor.__get__") [.builtin "object.__init_subclass__", .none, .ref a]) Q E ⟨h, g, d, t, os⟩ := by
  x_run
theorem initCall {w : World} {A : Around} {E : Value → Shared → Prop} {Q : Value → Shared → Prop} {h : Heap} {g : Array GenState} {d : Drawn} {t : Nat} {os : OsState} {a bm N : Addr} {dd : Option Addr} {sl : Array (Option Value)}
    (hg : h.get? a = some ⟨.type "type", dd, .cls (kcd a N "cmp_to_key.<locals>.K"), sl⟩)
    (hb : h.get? bm = some { cls := .type "builtin_function_or_method", data := .fields #[.builtin "object.__init_subclass__", .ref a] })
    (hq : Q .none ⟨h, g, d, t, os⟩) : wpAny (model PySem.Challenge.pw_mr0073_01 w) A (call (.ref bm) []) Q E ⟨h, g, d, t, os⟩ := by
  x_run
end Mine

end
section
open PySem PySem.W PyProof.Rows PySem.Calls
set_option Elab.async false
set_option linter.unusedVariables false
set_option maxRecDepth 100000
set_option pp.deepTerms false
set_option pp.maxSteps 1500
namespace Mine
theorem noOpaque (P : Params) : nsIn (K P) cStatics "thirdparty.any" = some none := by kernel_rfl
section
variable {w : World} {A : Around} {E : Value → Shared → Prop} {s₀ : Shared} {h : Heap} {tk : Nat} {a so N : Addr} {q : Str} {dd : Option Addr} {sl : Array (Option Value)}
set_option maxHeartbeats 1000000 in
theorem superGA {t0 : Tok} {Q : PySem.Fin → Shared → Prop} (S : Stat w h) (hg : h.get? a = some ⟨.type "type", dd, .cls (kcd a N q), sl⟩) (hso : h.get? so = some { cls := .type "super", data := .fields #[.ref a, .ref a, .ref a] })
    (hq : ∀ bm h', h.get? bm = none → h'.get? bm = some { cls := .type "builtin_function_or_method", data := .fields #[.builtin "object.__init_subclass__", .ref a] } → Sub h h' → Q (.done (.ret (.ref bm))) (St s₀ h' tk)) :
    wpAny (Md w) A (Builtin.«super.__getattribute__» ⟨[.ref so, .str "__init_subclass__" t0], []⟩) Q E (St s₀ h tk) := by
  delta Builtin.«super.__getattribute__»
  try wp_delta
  refine wpAny_bind (wpAny_of_eq (a := some ("__init_subclass__" : Str)) rfl ?_)
  refine wpAny_ite_false rfl ?_
  try wp_delta
  refine wpAny_bind (wpAny_of_eq (a := some ("__init_subclass__" : Str)) rfl ?_)
  try wp_delta
  refine wpAny_bind (wpAny_field hso rfl (x := .ref a) rfl ?_)
  refine wpAny_bind (wpAny_field hso rfl (x := .ref a) rfl ?_)
  refine wpAny_bind (wpAny_field hso rfl (x := .ref a) rfl ?_)
  try wp_delta
  refine wpAny_ite_false (by kernel_rfl) ?_
  try wp_delta
  refine wpAny_bind (ks_wpAny_notOpaque (looks_opaque S.1 (noOpaque _)) ?_)
  try wp_delta
  refine wpAny_ite_false rfl ?_
  try wp_delta
  refine wpAny_bind (wpAny_bind (wp_classData hg (wpAny_pure ?_)))
  have hdw : ((kcd a N q).mro.dropWhile (fun x => x != Value.ref a)).drop 1 = [Value.type "object"] := by simp [kcd]
  rw [hdw]
  try wp_delta
  refine wpAny_bind (wp_forIn_cons ?_)
  refine wpAny_bind (wpAny_of_eq (a := some (.builtin "object.__init_subclass__")) (by show pure (builtinOwn "object" "__init_subclass__") = _; rw [ownInit]) ?_)
  try wp_delta
  refine wpAny_bind (wpAny_of_eq tyInit ?_)
  refine wpAny_bind (wpAny_of_eq getInit ?_)
  try wp_delta
  have e : (Value.ref a == Value.ref a) = true := by simp
  rw [e]
  refine wpAny_bind (wpAny_holding (getCall hg fun bm h' n g s => ?_))
  refine wpAny_bind (wpAny_pure ?_)
  refine wpAny_pure ?_
  exact wpAny_pure (hq bm h' n g s)
theorem getSuper {Q : Value → Shared → Prop} (S : Stat w h) (hg : h.get? a = some ⟨.type "type", dd, .cls (kcd a N q), sl⟩) (hso : h.get? so = some { cls := .type "super", data := .fields #[.ref a, .ref a, .ref a] })
    (hq : ∀ bm h' tk', h.get? bm = none → h'.get? bm = some { cls := .type "builtin_function_or_method", data := .fields #[.builtin "object.__init_subclass__", .ref a] } → Sub h h' → Q (.ref bm) (St s₀ h' tk')) :
    wpAny (Md w) A (getAttr (.ref so) "__init_subclass__") Q E (St s₀ h tk) := by
  have hlk := PySem.F.ks_slot_super_ga.lookup
  have hT : ∀ t', (St s₀ h t').TypeIs (.ref so) "super" := fun _ => ⟨_, hso, rfl⟩
  unfold getAttr getAttrBy
  refine wpAny_bind (wpAny_mkText (wpAny_holding (wpAny_bind (wpAny_typeOf (hT _) (wpAny_bind (wpAny_of_eq hlk ?_))))))
  show wpAny _ _ (getAttrByItsOwn (.ref so) (.str "__init_subclass__" tk) (.type "super") (.builtin "super.__getattribute__") true false) _ _ _
  unfold getAttrByItsOwn hookBefore callGetattribute boundAndCalled
  refine wpAny_bind (wpAny_of_eq (show (if onTheHeap (.type "super") then typeLookup (.type "super") "__getattr__" else pure none) = pure none from rfl) ?_)
  refine wpAny_bind (wpAny_attempt (wpAny_holding ?_))
  show wpAny _ _ (bindSpecial (.builtin "super.__getattribute__") (.ref so) >>= _) _ _ _
  refine wpAny_bind (wpAny_of_eq (PySem.F.ks_slot_super_ga.bind _) ?_)
  refine wpAny_call_entry PySem.F.ks_slot_super_ga (hT _) PySem.F.ks_entry_super_ga (superGA (tk := tk + 1) S hg hso fun bm h' n g s => ⟨_, rfl, ?_⟩) (PySem.F.ks_gaArgs_super _ _)
  exact wpAny_pure (hq bm h' (tk + 1) n g s)
end
end Mine

end
section
open PySem PySem.W PyProof.Rows PySem.Calls
set_option Elab.async false
set_option linter.unusedVariables false
set_option maxRecDepth 100000
set_option pp.deepTerms false
set_option pp.maxSteps 1500
namespace Mine
set_option maxHeartbeats 400000 in
theorem tnew {w : World} {s₀ : Shared} {A : Around} {h : Heap} {tk tn nb ep : Nat} {Q : PySem.Fin → Shared → Prop} {E : Value → Shared → Prop} {bt ns sl : Addr} {es : Array DictEntry} {to nl : Nat} {dd : Option Addr} {sls : Array (Option Value)}
    (hbt : h.get? bt = some { cls := .type "tuple", data := .seq #[.type "object"] nb }) (hnd : h.get? ns = some { cls := .type "dict", data := .dict es ep }) (hsk : StrKeys es) (huk : UniqKeys es) (h5 : ns ≠ sysModules) (hes : es.size ≤ 1000)
    (hf : nsFind es "__slots__" = some (.ref sl)) (hno : nsFind es "obj" = none) (hsl : h.get? sl = some ⟨.type "list", dd, .seq #[.str "obj" to] nl, sls⟩) (hmod : (nsFind es "__module__").isSome = true)
    {tq : Tok} (hqn : nsFind es "__qualname__" = some (.str "cmp_to_key.<locals>.K" tq)) (hdoc : nsFind es "__doc__" = none) (hnew : nsFind es "__new__" = none) (hini : nsFind es "__init_subclass__" = none) (hcg : nsFind es "__class_getitem__" = none) (hcc : nsFind es "__classcell__" = none) (hcd : nsFind es "__classdictcell__" = none) (hdl : nsFind es "__del__" = none) (heq : (nsFind es "__eq__").isSome = true) (hha : (nsFind es "__hash__").isSome = true) {W : List Str} (hw : Within (nsFind es) W) (hW : W.length ≤ 100) (hharm : ∀ n v, nsFind es n = some v → Harm h v) (S : Stat w h)
    (hQ : ∀ a N md tO h' tk', h.get? a = none → h.get? N = none → h.get? md = none → Sub h h' → h'.get? a = some ⟨.type "type", none, .cls (kcd a N "cmp_to_key.<locals>.K"), #[some (.ref bt), none, some (.str "K" tn), some (.str "cmp_to_key.<locals>.K" tq), some (.builtin "object.__new__"), some (.bool false)]⟩ →
      h'.get? md = some (mdObj a tO) → h'.Ns1 N (fun x => if x = "__doc__" then some .none else if x = "obj" then some (.ref md) else if x = "__qualname__" then none else nsFind es x) → Q (.done (.ret (.ref a))) (St s₀ h' tk')) :
    wpAny (Md w) A (Builtin.«type.__new__» ⟨[.type "type", .str "K" tn, .ref bt, .ref ns], []⟩) Q E (St s₀ h tk) := by
  delta Builtin.«type.__new__»
  try wp_delta
  refine wpAny_bind (wpAny_of_eq (a := some ("K" : Str)) rfl ?_)
  try wp_delta
  refine wpAny_bind (wpAny_isInstance (T := "tuple") (b := true) ⟨_, hbt, rfl⟩ subTup ?_)
  try wp_delta
  refine wpAny_ite_false rfl ?_
  try wp_delta
  refine wpAny_bind (wpAny_isInstance (T := "dict") (b := true) ⟨_, hnd, rfl⟩ subDic ?_)
  try wp_delta
  refine wpAny_ite_false rfl ?_
  try wp_delta
  refine wpAny_bind (wpAny_seqItems hbt rfl ?_)
  try wp_delta
  refine wpAny_ite_false rfl ?_
  try wp_delta
  refine wpAny_bind ?_
  refine wp_forIn_cons ?_
  refine wpAny_bind (wpAny_of_eq isT1 ?_)
  refine wpAny_ite_false rfl ?_
  refine wpAny_pure ?_
  refine wp_forIn_nil ?_
  refine wpAny_bind ?_
  refine wp_forIn_cons ?_
  refine wpAny_bind (wpAny_of_eq tyO ?_)
  refine wpAny_bind (wpAny_of_eq subTT ?_)
  refine wpAny_ite_true rfl ?_
  refine wpAny_pure ?_
  refine wp_forIn_nil ?_
  try wp_delta
  refine wpAny_ite_false rfl ?_
  try wp_delta
  refine wpAny_bind (wpAny_of_eq notOver ?_)
  refine wpAny_bind (wpAny_of_eq extO ?_)
  try wp_delta
  refine wpAny_ite_false (by simpa using h5) ?_
  try wp_delta
  refine wpAny_bind (wpAny_dictEntries hnd rfl ?_)
  refine wpAny_bind (wpAny_specialOf (T := "dict") ⟨_, hnd, rfl⟩ PySem.F.slot_dict_iter.lookup ?_)
  try wp_delta
  refine wpAny_ite_true (by simp) ?_
  try wp_delta
  refine wpAny_bind (wpAny_pure ?_)
  try wp_delta
  refine wpAny_bind (wpAny_holding (slotsRead hf hno hsl fun h1 k1 => ?_))
  refine wpAny_bind (wp_newObj (by show es.size ≤ _; rw [sizeLine_eq]; lia) rfl fun N h2 nN g2 k2 => ?_)
  have n2 : h2.Ns1 N (nsFind es) := ⟨_, es, _, g2, rfl, hsk, huk, fun _ => rfl⟩
  try wp_delta
  refine wpAny_ite_false (by have e := nsAny (es := es) (x := "__module__"); rw [hmod] at e; show decide ((!es.any _) = true) = false; rw [← e]; rfl) ?_
  try wp_delta
  refine wpAny_bind (wpAny_ite_false (by kernel_rfl) (wpAny_pure ?_))
  try wp_delta
  refine wpAny_ite_false (by kernel_rfl) ?_
  try wp_delta
  refine wpAny_bind (wpAny_nsGet (s := St s₀ h2 tk) n2.ns ?_)
  rw [hqn]
  try wp_delta
  refine wpAny_bind (wpAny_nsGet (s := St s₀ h2 tk) n2.ns ?_)
  rw [hqn]
  try wp_delta
  refine wpAny_bind (wpAny_pure ?_)
  try wp_delta
  refine wpAny_bind (wpAny_pure ?_)
  refine wpAny_bind (wpAny_nsGet (s := St s₀ h2 tk) n2.ns ?_)
  rw [hdoc]
  try wp_delta
  refine wpAny_bind (wp_alloc rfl fun a h3 na g3 k3 => ?_)
  try wp_delta
  refine wpAny_ite_true rfl ?_
  refine wpAny_bind (wp_setSlotAt g3 (by lia) (fun _ => rfl) fun h4 g4 s4 => ?_)
  try wp_delta
  refine wpAny_bind (wp_setSlotAt g4 (by lia) (fun _ => rfl) fun h5 g5 s5 => ?_)
  try wp_delta
  refine wpAny_bind (wp_setSlotAt g5 (by lia) (fun _ => rfl) fun h6 g6 s6 => ?_)
  try wp_delta
  have naN : N ≠ a := by rintro rfl; rw [g2] at na; cases na
  have n6 : h6.Ns1 N (nsFind es) := (((n2.at fun o e => k3 _ o e).sameBut s4 naN).sameBut s5 naN).sameBut s6 naN
  refine wpAny_bind (wpAny_nsDel1 (s := St s₀ h6 tk) n6 fun h7 n7 s7 => ?_)
  have g7 := (s7.2 a naN.symm).trans g6
  obtain ⟨m7, hm7⟩ : ∃ m7, m7 = fun x => if x = ("__qualname__" : Str) then none else nsFind es x := ⟨_, rfl⟩
  rw [← hm7] at n7
  have ne7 : ∀ x : Str, x ≠ "__qualname__" → m7 x = nsFind es x := fun x hx => by rw [hm7]; exact if_neg hx
  refine wpAny_bind (wpAny_nsGet (s := St s₀ h7 tk) n7.ns ?_)
  rw [ne7 _ (by decide), hnew]
  try wp_delta
  refine wpAny_bind (wp_forIn_cons ?_)
  refine wpAny_bind (wpAny_nsGet (s := St s₀ h7 tk) n7.ns ?_)
  rw [ne7 _ (by decide), hini]
  refine wpAny_pure (wp_forIn_cons ?_)
  refine wpAny_bind (wpAny_nsGet (s := St s₀ h7 tk) n7.ns ?_)
  rw [ne7 _ (by decide), hcg]
  refine wpAny_pure (wp_forIn_nil ?_)
  refine wpAny_bind (wpAny_nsGet (s := St s₀ h7 tk) n7.ns ?_)
  rw [ne7 _ (by decide), hcc]
  try wp_delta
  refine wpAny_bind (wpAny_nsGet (s := St s₀ h7 tk) n7.ns ?_)
  rw [ne7 _ (by decide), hcd]
  try wp_delta
  refine wpAny_bind (wpAny_of_eq hookT ?_)
  try wp_delta
  refine wpAny_bind (wpAny_of_eq linO ?_)
  try wp_delta
  refine wpAny_bind (wpAny_pure ?_)
  have hfil : List.filter (fun x => x != Value.ref a) [Value.ref a, Value.type "object"] = [Value.type "object"] := by simp
  refine wpAny_bind (wpAny_of_eq (a := false) (by rw [hfil]; kernel_rfl) ?_)
  refine wpAny_bind (wp_updateCls g7 rfl fun h8 g8 s8 => ?_)
  refine wpAny_bind (wpAny_of_eq madeO ?_)
  refine wpAny_bind (wp_setSlotAt g8 (by lia) (fun _ => rfl) fun h9 g9 s9 => ?_)
  have n9 : h9.Ns1 N m7 := (n7.sameBut s8 naN).sameBut s9 naN
  have hdel : es.any (fun x => x.key.isStr "__del__") = false := by rw [← nsAny, hdl]; rfl
  have g9' : h9.get? a = some ⟨.type "type", none, .cls { name := "K", bases := [.type "object"], mro := [.ref a, .type "object"], ns := N, qualname := "cmp_to_key.<locals>.K", hasDel := (es.any (fun x => x.key.isStr "__del__") || false) }, #[some (.ref bt), none, some (.str "K" tn), some (.str "cmp_to_key.<locals>.K" tq), some (.builtin "object.__new__")]⟩ := g9.trans (by kernel_rfl)
  rw [hdel, Bool.or_false] at g9'
  clear g9 g8 g7 g6 g5 g4 g3
  refine wpAny_bind (wp_refresh g9' rfl n9.ns rfl ((ne7 _ (by decide)).trans hnew) ?_)
  have w7 : Within m7 W := fun y hy => by
    by_cases e : y = "__qualname__"
    · rw [hm7] at hy; exact absurd (if_pos e) hy
    · exact hw y (by rw [← ne7 y e]; exact hy)
  refine wpAny_bind (slotsInstall g9' n9 ((ne7 _ (by decide)).trans hno) naN w7 hW (by kernel_rfl) fun md tO h10 tk10 nmd gmd n10 g10 k10 => ?_)
  refine wpAny_bind (wpAny_of_eq weakO ?_)
  refine wpAny_bind (wp_setSlotAt g10 (by lia) (fun _ => rfl) fun h11 g11 s11 => ?_)
  obtain ⟨m10, hm10⟩ : ∃ m10, m10 = fun x => if x = ("obj" : Str) then some (Value.ref md) else m7 x := ⟨_, rfl⟩
  rw [← hm10] at n10
  have ne10 : ∀ x : Str, x ≠ "obj" → m10 x = m7 x := fun x hx => by rw [hm10]; exact if_neg hx
  have n11 : h11.Ns1 N m10 := n10.sameBut s11 naN
  try wp_delta
  refine wpAny_ite_false rfl ?_
  try wp_delta
  refine wpAny_ite_false rfl ?_
  try wp_delta
  refine wpAny_bind (wpAny_nsGet (s := St s₀ h11 tk10) n11.ns ?_)
  rw [ne10 _ (by decide), ne7 _ (by decide), hdoc]
  try wp_delta
  refine wpAny_ite_true rfl ?_
  refine wpAny_bind (wpAny_nsSet1 (s := St s₀ h11 tk10) n11 fun h12 n12 s12 => ?_)
  have g12 := (s12.2 a naN.symm).trans g11
  obtain ⟨m12, hm12⟩ : ∃ m12, m12 = fun x => if x = ("__doc__" : Str) then some Value.none else m10 x := ⟨_, rfl⟩
  rw [← hm12] at n12
  have ne12 : ∀ x : Str, x ≠ "__doc__" → m12 x = m10 x := fun x hx => by rw [hm12]; exact if_neg hx
  try wp_delta
  refine wpAny_bind (wpAny_nsGet (s := St s₀ h12 (tk10 + 1)) n12.ns ?_)
  rw [ne12 _ (by decide), ne10 _ (by decide), ne7 _ (by decide), heq]
  try wp_delta
  refine wpAny_ite_true rfl ?_
  refine wpAny_bind (wpAny_nsGet (s := St s₀ h12 (tk10 + 1)) n12.ns ?_)
  rw [ne12 _ (by decide), ne10 _ (by decide), ne7 _ (by decide)]
  refine wpAny_ite_false (by cases e : nsFind es "__hash__" with | none => rw [e] at hha; cases hha | some v => rfl) ?_
  try wp_delta
  refine wpAny_bind (wp_forIn_cons ?_)
  try wp_delta
  refine wpAny_bind (wpAny_of_eq (noteO a) ?_)
  refine wpAny_pure (wp_forIn_nil ?_)
  try wp_delta
  have old : ∀ b o, h.get? b = some o → h12.get? b = some o := by
    intro b o e
    have e2 := k2 b o (k1 b o e)
    have e3 := k3 b o e2
    have ba : b ≠ a := by rintro rfl; rw [na] at e2; cases e2
    have bN : b ≠ N := by rintro rfl; have := k1 _ _ e; rw [nN] at this; cases this
    exact (s12.2 b bN).trans ((s11.2 b ba).trans (k10 b o ba bN ((s9.2 b ba).trans ((s8.2 b ba).trans ((s7.2 b bN).trans ((s6.2 b ba).trans ((s5.2 b ba).trans ((s4.2 b ba).trans e3))))))))
  have mdN : md ≠ N := by rintro rfl; obtain ⟨_, _, _, e, _⟩ := n9; rw [nmd] at e; cases e
  have mda : md ≠ a := by rintro rfl; rw [nmd] at g9'; cases g9'
  have gmd12 : h12.get? md = some (mdObj a tO) := (s12.2 md mdN).trans ((s11.2 md mda).trans gmd)
  obtain ⟨o12, es12, ep12, e12, hd12, hk12, hu12, hf12⟩ := id n12
  have harm12 : ∀ e ∈ es12, Harm h12 e.val := by
    intro e he
    obtain ⟨n, hn⟩ := uniq_val hk12 hu12 he
    rw [hf12] at hn
    by_cases c1 : n = "__doc__"
    · rw [hm12] at hn
      have e1 := Option.some.inj ((if_pos c1).symm.trans hn)
      rw [← e1]
      exact .inr ⟨"NoneType", fun id h => (nomatch h), by kernel_rfl, by unfold noSN; rw [typeLookup_type, builtinLookup_eq_fast]; kernel_rfl⟩
    · rw [ne12 n c1] at hn
      by_cases c2 : n = "obj"
      · rw [hm10] at hn
        have e1 := (if_pos c2).symm.trans hn
        have e2 := Option.some.inj e1
        exact .inl ⟨md, _, "member_descriptor", e2.symm, gmd12, rfl, by unfold noSN; rw [typeLookup_type, builtinLookup_eq_fast]; kernel_rfl⟩
      · rw [ne10 n c2] at hn
        by_cases c3 : n = "__qualname__"
        · rw [hm7] at hn; have := (if_pos c3).symm.trans hn; cases this
        · rw [ne7 n c3] at hn
          rcases hharm n _ hn with ⟨b, o, T, e1, e2, r⟩ | r
          · exact .inl ⟨b, o, T, e1, old b o e2, r⟩
          · exact .inr r
  refine wpAny_bind (wpAny_tryCatch (wpAny_holding ?_))
  try wp_delta
  refine wpAny_bind (wpAny_dictEntries e12 hd12 ?_)
  refine wpAny_bind (wp_forIn_arr rfl (wp_forIn_same (fun x hx Q' hq' => ?_) ?_))
  · obtain ⟨n, t, hkey⟩ := hk12 x (by simpa using hx)
    rw [hkey]
    exact wpAny_bind (wpAny_of_eq (a := some n) rfl (wpAny_ite_false rfl (wpAny_pure hq')))
  try wp_delta
  refine wpAny_ite_false rfl ?_
  try wp_delta
  refine wpAny_bind (wpAny_dictEntries e12 hd12 ?_)
  refine wpAny_bind (wp_forIn_arr rfl (wp_forIn_same (fun x hx Q' hq' => ?_) ?_))
  · have hH := harm12 x (by simpa using hx)
    rw [hH.held]
    refine wpAny_ite_false rfl ?_
    refine wpAny_bind (hH.special ?_)
    exact wpAny_pure hq'
  try wp_delta
  have g12' : h12.get? a = some ⟨.type "type", none, .cls (kcd a N "cmp_to_key.<locals>.K"), #[some (.ref bt), none, some (.str "K" tn), some (.str "cmp_to_key.<locals>.K" tq), some (.builtin "object.__new__"), some (.bool false)]⟩ := g12.trans (by kernel_rfl)
  clear g12 g11 g10
  have nah : h.get? a = none := Sub.none (k1.trans k2) na
  have nNh : h.get? N = none := Sub.none k1 nN
  have nmdh : h.get? md = none := by
    cases e : h.get? md with
    | none => rfl
    | some o =>
      have e2 := k2 md o (k1 md o e)
      have := (s9.2 md mda).trans ((s8.2 md mda).trans ((s7.2 md mdN).trans ((s6.2 md mda).trans ((s5.2 md mda).trans ((s4.2 md mda).trans (k3 md o e2))))))
      rw [nmd] at this; cases this
  refine wpAny_bind (superCall g12' rfl fun so h13 nso gso k13 => ?_)
  refine wpAny_bind (wpAny_holding (getSuper ((S.keeps old).keeps k13) (k13 _ _ g12') gso fun bm h14 tk14 nbm gbm k14 => ?_))
  refine wpAny_bind (initCall (k14 _ _ (k13 _ _ g12')) gbm ?_)
  refine wpAny_pure ?_
  refine wpAny_pure ?_
  have e12 : m12 = fun (x : Str) => if x = ("__doc__" : Str) then some Value.none else if x = ("obj" : Str) then some (.ref md) else if x = ("__qualname__" : Str) then none else nsFind es x := by
    rw [hm12, hm10, hm7]
  refine hQ a N md tO h14 tk14 nah nNh nmdh (fun b o e => k14 b o (k13 b o (old b o e))) (k14 _ _ (k13 _ _ g12')) (k14 _ _ (k13 _ _ gmd12)) (e12 ▸ (n12.keeps k13).keeps k14)
end Mine

end
section
open PySem PySem.W PyProof.Rows PySem.Calls
set_option Elab.async false
set_option linter.unusedVariables false
set_option maxRecDepth 100000
set_option pp.deepTerms false
set_option pp.maxSteps 1500
namespace Mine
theorem checkType3 (x y z : Value) : checkTypeCall "type" ⟨[x, y, z], []⟩ = pure () := by kernel_rfl
theorem madeT : Bind.madeBy (.type "type") = pure (some "type.__new__") := by kernel_rfl
theorem mroT : mroOf (.type "type") = pure [.type "type", .type "object"] := by rw [mroOf_type]; kernel_rfl
theorem entryTN : entryFor table "type.__new__" = some Builtin.«type.__new__» := entryFor_of_tree (by kernel_rfl)
theorem plainTN : plainId "type.__new__" = true := by decide +kernel
theorem checkTN (x y z : Value) : checkBuiltinCall "type.__new__" ⟨[.type "type", x, y, z], []⟩ = pure () := by kernel_rfl
theorem slotTI : Slot "type" "__init__" "type.__init__" := .of (owner := "type") (n := "__init__") (by rw [typeLookup_type, builtinLookup_eq_fast]; kernel_rfl) (by decide +kernel) (by decide +kernel) (by decide +kernel)
  (by first | exact .inl (by decide +kernel) | exact .inr (by decide +kernel)) (by rw [isSubtype_type]; kernel_rfl)
theorem entryTI : entryFor table "type.__init__" = some Builtin.«type.__init__» := entryFor_of_tree (by kernel_rfl)
theorem argsTI (x y z u : Value) : argsOk "type.__init__" ⟨[x, y, z, u], []⟩ := by unfold argsOk; kernel_rfl
set_option maxHeartbeats 1000000 in
/-- type(name, bases, ns), the making left to `hn` -/
theorem typeCall {w : World} {A : Around} {E : Value → Shared → Prop} {Q : Value → Shared → Prop} {s : Shared} {x y z : Value}
    (hn : ∀ (Q' : PySem.Fin → Shared → Prop) (A' : Around) (E' : Value → Shared → Prop), (∀ (a : Addr) (s' : Shared), (∃ o, s'.heap.get? a = some o ∧ o.cls = .type "type") → Q (.ref a) s' → Q' (.done (.ret (.ref a))) s') → wpAny (Md w) A' (Builtin.«type.__new__» ⟨[.type "type", x, y, z], []⟩) Q' E' s) :
    wpAny (Md w) A (call (.type "type") [x, y, z]) Q E s := by
  refine wpAny_call (codeAny_of_tree ?_)
  show wpAny _ _ (callAny (.type "type") _) _ _ _
  refine wpAny_pure ⟨Code.quiet_builtin _ (by decide +kernel), codeAny_builtin PySem.F.entry_type_call ?_⟩
  rw [Around.under_plain (weight_type_call_type "type" [x, y, z] []) rfl]
  delta Builtin.«type.__call__»
  try wp_delta
  refine wpAny_ite_true rfl ?_
  try wp_delta
  refine wpAny_ite_false rfl ?_
  try wp_delta
  refine wpAny_ite_false rfl ?_
  try wp_delta
  refine wpAny_ite_false (by kernel_rfl) ?_
  try wp_delta
  refine wpAny_bind (wpAny_of_eq (checkType3 _ _ _) ?_)
  try wp_delta
  refine wpAny_bind (wpAny_of_eq mroT ?_)
  refine wpAny_ite_false rfl ?_
  try wp_delta
  refine wpAny_bind (wpAny_of_eq madeT ?_)
  try wp_delta
  refine wpAny_bind (wpAny_pure ?_)
  try wp_delta
  refine wpAny_bind (wpAny_holding (wpAny_call (codeAny_of_tree ?_)))
  show wpAny _ _ (do checkBuiltinCall "type.__new__" ⟨[.type "type", x, y, z], []⟩; again (.builtin "type.__new__" ⟨[.type "type", x, y, z], []⟩)) _ _ s
  refine wpAny_bind (wpAny_of_eq (checkTN _ _ _) (wpAny_pure ⟨plainId_quiet plainTN _, codeAny_builtin entryTN ?_⟩))
  rw [Around.under_plainId plainTN _]
  refine hn _ _ _ fun a s' hT hq => ?_
  show wpAny _ _ _ _ _ _
  have hTy : s'.TypeIs (.ref a) "type" := hT
  refine wpAny_bind (wpAny_isInstance (T := "type") (b := true) hTy subTT ?_)
  try wp_delta
  refine wpAny_ite_false rfl ?_
  try wp_delta
  refine wpAny_bind (wpAny_holding (wpAny_callSpecial?_slot hTy slotTI (wpAny_call_entry slotTI hTy entryTI ?_ (argsTI _ _ _ _))))
  delta Builtin.«type.__init__»
  try wp_delta
  refine wpAny_ite_false rfl ?_
  try wp_delta
  refine wpAny_ite_false rfl ?_
  try wp_delta
  refine wpAny_pure ⟨_, rfl, ?_⟩
  try wp_delta
  refine wpAny_ite_false rfl ?_
  try wp_delta
  exact wpAny_pure hq
end Mine

end
section
open PySem PySem.W PyProof.Rows PySem.Calls PySem.W.X
set_option Elab.async false
set_option linter.unusedVariables false
set_option maxRecDepth 100000
set_option pp.deepTerms false
set_option pp.maxSteps 1500
namespace Mine
theorem isT2 : isType (.type "type") = pure true := rfl
local macro_rules | `(tactic| x_close) => `(tactic| (first | exact memEnd (by assumption) (by assumption) | assumption | (trace_state; done)))
theorem prepGet {w : World} {A : Around} {E : Value → Shared → Prop} {Q : Value → Shared → Prop} {h : Heap} {g : Array GenState} {d : Drawn} {t t0 : Nat} {os : OsState}
    (hq : ∀ bm h', h.get? bm = none → h'.get? bm = some { cls := .type "builtin_function_or_method", data := .fields #[.builtin "type.__prepare__", .type "type"] } → Sub h h' → Q (.ref bm) ⟨h', g, d, t, os⟩) :
    wpAny (model PySem.Challenge.pw_mr0073_01 w) A (call (.builtin "type.__getattribute__") [.type "type", .str "__prepare__" t0]) Q E ⟨h, g, d, t, os⟩ := by
  x_run
theorem prepCall {w : World} {A : Around} {E : Value → Shared → Prop} {Q : Value → Shared → Prop} {h : Heap} {g : Array GenState} {d : Drawn} {t tn : Nat} {os : OsState} {bm bt : Addr}
    (hb : h.get? bm = some { cls := .type "builtin_function_or_method", data := .fields #[.builtin "type.__prepare__", .type "type"] })
    (hq : ∀ ns h', h.get? ns = none → h'.get? ns = some { cls := .type "dict", data := .dict #[] } → Sub h h' → Q (.ref ns) ⟨h', g, d, t, os⟩) :
    wpAny (model PySem.Challenge.pw_mr0073_01 w) A (call (.ref bm) [.str "K" tn, .ref bt]) Q E ⟨h, g, d, t, os⟩ := by
  x_run
end Mine

end
section
open PySem PySem.W PyProof.Rows PySem.Calls
set_option Elab.async false
set_option linter.unusedVariables false
set_option maxRecDepth 100000
set_option pp.deepTerms false
set_option pp.maxSteps 1500
namespace Mine
theorem slotTGA : Slot "type" "__getattribute__" "type.__getattribute__" := .of (owner := "type") (n := "__getattribute__") (by rw [typeLookup_type, builtinLookup_eq_fast]; kernel_rfl) (by decide +kernel) (by decide +kernel) (by decide +kernel)
  (by first | exact .inl (by decide +kernel) | exact .inr (by decide +kernel)) (by rw [isSubtype_type]; kernel_rfl)
theorem tyT : typeOf (.type "type") = pure (.type "type") := by kernel_rfl
theorem getPrep {w : World} {A : Around} {E : Value → Shared → Prop} {s₀ : Shared} {h : Heap} {tk : Nat} {Q : Option Value → Shared → Prop}
    (hq : ∀ bm h' tk', h.get? bm = none → h'.get? bm = some { cls := .type "builtin_function_or_method", data := .fields #[.builtin "type.__prepare__", .type "type"] } → Sub h h' → Q (some (.ref bm)) (St s₀ h' tk')) :
    wpAny (Md w) A (getAttr? (.type "type") "__prepare__") Q E (St s₀ h tk) := by
  have hlk := slotTGA.lookup
  unfold getAttr? getAttrBy? getAttrBy
  refine wpAny_bind (wpAny_mkText (wpAny_bind (wpAny_attempt (wpAny_holding (wpAny_bind (wpAny_of_eq tyT (wpAny_bind (wpAny_of_eq hlk ?_))))))))
  show wpAny _ _ (getAttrByItsOwn (.type "type") (.str "__prepare__" tk) (.type "type") (.builtin "type.__getattribute__") false false) _ _ _
  unfold getAttrByItsOwn hookBefore callGetattribute boundAndCalled
  refine wpAny_bind (wpAny_of_eq (show (if onTheHeap (.type "type") then typeLookup (.type "type") "__getattr__" else pure none) = pure none from rfl) ?_)
  refine wpAny_bind (wpAny_attempt (wpAny_holding ?_))
  show wpAny _ _ (bindSpecial (.builtin "type.__getattribute__") (.type "type") >>= _) _ _ _
  refine wpAny_bind (wpAny_of_eq (slotTGA.bind _) ?_)
  refine prepGet fun bm h' n g s => ?_
  refine wpAny_pure ?_
  exact wpAny_pure (hq bm h' _ n g s)
end Mine

end
section
open PySem PySem.W PyProof.Rows PySem.Calls
set_option Elab.async false
set_option linter.unusedVariables false
set_option maxRecDepth 100000
namespace Mine
/-- the class's code object -/
theorem classCodeG {M : Model} {A : Around} {E : Value → Shared → Prop} {s : Shared} {env : Env} {c P : Addr} {ps : Array Value} {pos : Pos} {fl : Nat} {name qual : Str} {scope : Scope} {Q : Value → Shared → Prop} (hc : env.code = .ref c) (hok : s.heap.IsCode c P ps) (htab : s.heap.get? P = some (tabObj ps)) (hnf : codeAmong pos ps.toList = none)
    (hQ : ∀ c' P' h' tk, Heap.ExtBut P s.heap h' → s.heap.objs.size ≤ c' → s.heap.objs.size ≤ P' → h'.IsCode c' P' #[] → h'.TableAt c' P' #[] → h'.CodeRec (.ref c') qual → h'.get? P = some (tabObj (ps ++ #[rawInt pos.line, rawInt pos.col, .ref c'])) → Q (.ref c') { s with heap := h', toks := tk }) :
    wpAny M A (classCode env pos fl name qual scope) Q E s := by
  obtain ⟨o, vs, file, tf, flags, tg, inF, text, tt, op, ho, hd, h11, h2, h7, h9, h10, hop, hpd, htr, hne⟩ := id hok
  unfold classCode codeAt
  rw [hc, if_neg (show ¬ ((Value.ref c == Value.none) = true) from Bool.false_ne_true)]
  refine wpAny_bind (wpAny_fieldsOf ho hd ?_)
  rw [h11]
  refine wpAny_bind (wpAny_fieldsOf hop hpd ?_)
  rw [hnf, h2, h7, h9, h10]
  refine wpAny_bind (wpAny_newCodeX fun c' P' h' tk hk hc' hP' hcode' htab' hrec' => ?_)
  have hop' := hk _ _ hop
  refine wpAny_bind (wpAny_updateFieldsOfTheText hop' hpd ?_)
  have hnew : (Obj.mapFields (fun vs => if (codeAmong pos vs.toList).isSome = true then vs else vs ++ #[rawInt pos.line, rawInt pos.col, .ref c']) op).data =
      .fields (ps ++ #[rawInt pos.line, rawInt pos.col, .ref c']) := by
    rw [Obj.data_mapFields hpd, hnf]; rfl
  have hget := Heap.get?_update_self (h := h') (fun o => Obj.mapFields (fun vs => if (codeAmong pos vs.toList).isSome = true then vs else
    vs ++ #[rawInt pos.line, rawInt pos.col, .ref c']) o) hop' (Obj.isFreed_of_fields hnew)
  refine wpAny_bind (wpAny_fieldsOf hget hnew ?_)
  have hl : (ps ++ #[rawInt pos.line, rawInt pos.col, Value.ref c']).toList = ps.toList ++ [rawInt pos.line, rawInt pos.col, .ref c'] := by simp
  rw [hl, codeAmong_snoc _ htr hnf]
  have hcP : c' ≠ P := Nat.ne_of_gt (Nat.lt_of_lt_of_le (Heap.lt_size hop) hc')
  have hPP : P' ≠ P := Nat.ne_of_gt (Nat.lt_of_lt_of_le (Heap.lt_size hop) hP')
  refine wpAny_pure (hQ _ P' _ _ (fun b o' hb e => ((Heap.SameBut.update ..).extBut b o' hb (hk b o' e))) hc' hP' ?_ (htab'.extBut (Heap.SameBut.update ..).extBut hcP hPP) ?_ ?_)
  · obtain ⟨o1, v1, f1, t1, fl1, tg1, i1, x1, tt1, op1, a1, a2, a3, a4, a5, a6, a7, a8, r⟩ := hcode'
    exact ⟨o1, v1, f1, t1, fl1, tg1, i1, x1, tt1, op1, (Heap.SameBut.update ..).extBut _ _ hcP a1, a2, a3, a4, a5, a6, a7, (Heap.SameBut.update ..).extBut _ _ hPP a8, r⟩
  · obtain ⟨c₂, o₂, vs₂, t₂, e₂, g₂, r₂⟩ := hrec'
    cases e₂
    exact ⟨_, o₂, vs₂, t₂, rfl, (Heap.SameBut.update ..).extBut _ _ hcP g₂, r₂⟩
  · rw [htab] at hop; cases hop
    rw [hget]
    show some (tabObj (if (codeAmong pos ps.toList).isSome = true then ps else _)) = _
    rw [hnf]; rfl
end Mine

end
section
open PySem PySem.W PyProof.Rows PySem.Calls
set_option Elab.async false
set_option linter.unusedVariables false
set_option maxRecDepth 100000
namespace Mine
/-- a class's namespace: a plain dict -/
noncomputable def Cn (h : Heap) (ns : Addr) (m : Str → Option Value) : Prop := ∃ es ep, h.get? ns = some { cls := .type "dict", data := .dict es ep } ∧ StrKeys es ∧ UniqKeys es ∧ ∀ x, nsFind es x = m x
theorem Cn.at {h h' : Heap} {ns : Addr} {m : Str → Option Value} (x : Cn h ns m) (k : ∀ o, h.get? ns = some o → h'.get? ns = some o) : Cn h' ns m := let ⟨es, ep, e, r⟩ := x; ⟨es, ep, k _ e, r⟩
theorem wp_nsSetC {M : Model} {A : Around} {E : Value → Shared → Prop} {s₀ : Shared} {h : Heap} {tk : Nat} {ns : Addr} {m : Str → Option Value} {name : Str} {v : Value} {Q : Unit → Shared → Prop} (hn : Cn h ns m)
    (hq : ∀ h' tk', Cn h' ns (fun x => if x = name then some v else m x) → Heap.SameBut ns h h' → Q () (St s₀ h' tk')) : wpAny M A (nsSet ns name v) Q E (St s₀ h tk) := by
  obtain ⟨es, ep, ho, hk, hu, hm⟩ := hn
  intro Γ p _
  simp only [nsSet, strHash, Sem.wp_bind', Sem.wp_cmd_ask, Sem.wp_pure', Sem.wp_cmd_mkText]
  rw [Sem.wp_loadPart_of M Γ _ p { St s₀ h tk with toks := tk + 1 } (o := { cls := .type "dict", data := .dict es ep }) _ ho]
  have hany : es.any (·.refKey) = false := by
    rw [Array.any_eq_false']; intro e he; obtain ⟨n, t, h⟩ := hk e he; simp [DictEntry.refKey, h]
  simp only [aRefKeyMayBeTheName_eq, aRefKeyMayBeTheNameByArray, hany, Bool.and_false, Bool.false_eq_true, if_false, Sem.wp_cmd_updatePart]
  have ho' : (St s₀ h tk).heap.get? ns = some { cls := .type "dict", data := .dict es ep } := ho
  refine ⟨by rw [ho]; rfl, hq _ _ ?_ (Heap.SameBut.update ..)⟩
  cases hi : es.findIdx? (·.key.isStr name) with
  | some i =>
    refine ⟨es.modify i fun e => { e with val := v }, ep, ?_, hk.modify _ _, hu.modify _ _, fun x => ?_⟩
    · rw [Heap.get?_update_self _ ho (by simp only [Obj.putName_eq, Obj.putNameByArray, hi]; rfl)]
      simp only [Obj.putName_eq, Obj.putNameByArray, hi]
    · show _ = if x = name then some v else m x
      rw [← hm]; exact findBy_modify (fun n v => v.isStr n) Value.isStr_inj es name x v i hi
  | none =>
    refine ⟨es.push ⟨if name.cps.isEmpty = true then 0 else reduceHash (M.w.params.strHash name.cps), .str name tk, v⟩, ep + 1, (Heap.get?_update_self _ ho (by simp only [Obj.putName_eq, Obj.putNameByArray, hi]; rfl)).trans (by simp only [Obj.putName_eq, Obj.putNameByArray, hi]), hk.push _ _ _ _, hu.push _ _ _ _ hi, fun x => ?_⟩
    show _ = if x = name then some v else m x
    rw [← hm]
    exact findBy_push (fun n v => v.isStr n) es name x _ _ v (fun y => by
      show (name == y) = decide (y = name)
      by_cases h : y = name
      · subst h; simp
      · have : ¬ name = y := fun e => h e.symm
        simp [h, this]) hi
/-- a store in a class's body -/
theorem wp_stCls {M : Model} {A : Around} {E : Value → Shared → Prop} {s₀ : Shared} {h : Heap} {tk : Nat} {env : Env} {ns : Addr} {m : Str → Option Value} {name : Str} {v : Value} {Q : Unit → Shared → Prop} (hn : Cn h ns m)
    (hq : ∀ h' tk', Cn h' ns (fun x => if x = name then some v else m x) → Heap.SameBut ns h h' → Q () (St s₀ h' tk'))
    (hs : storeName env name v = localSet env name v := by rfl) (hl : env.locals = ns := by rfl) : wpAny M A (storeName env name v) Q E (St s₀ h tk) := by
  rw [hs]
  unfold localSet
  obtain ⟨es, ep, e, r⟩ := id hn
  rw [hl]
  refine wpAny_bind (wpAny_load e ?_)
  refine wpAny_ite_true rfl ?_
  exact wp_nsSetC hn hq
end Mine

end
section
open PySem PySem.W PyProof.Rows PySem.Calls
set_option Elab.async false
set_option linter.unusedVariables false
set_option maxRecDepth 100000
namespace Mine
/-- in a class's body: its names, its code's table -/
structure Cb (w : World) (h : Heap) (ns cc ct : Addr) (m : Str → Option Value) (ps : Array Value) : Prop where
  cn : Cn h ns m
  hd : CodeHd h cc ct
  tab : h.get? ct = some (tabObj ps)
  tri : TriplesOk ps.toList
  st : Stat w h
  big : ∀ a, StA w.params a → a ≠ ns ∧ a ≠ ct
  ap : ns ≠ ct ∧ cc ≠ ns
/-- all but the names' dict and the code's table -/
noncomputable def ExtC (ns ct : Addr) (h h' : Heap) : Prop := ∀ b o, b ≠ ns → b ≠ ct → h.get? b = some o → h'.get? b = some o
theorem defCls {w : World} {A : Around} {E : Value → Shared → Prop} {s₀ : Shared} {h : Heap} {tk : Nat} {env : Env} {ns cc ct : Addr} {m : Str → Option Value} {ps : Array Value} {name : Str} {params : Arguments} {body : List Stmt} {scope : Scope} {pos : Pos} {clos : List (Str × Addr)} {Q : Flow → Shared → Prop}
    (B : Cb w h ns cc ct m ps) (hd0 : params.defaults = []) (hk0 : params.kw_defaults = []) (ha : annTrees params none env = []) (hcl : closureFor scope env = pure clos) (hg : env.globals = mainGlobals) (hcode : env.code = .ref cc) (hl : env.locals = ns)
    (hnf : codeAmong pos ps.toList = none) (hst : ∀ v, storeName env name v = localSet env name v)
    (hq : ∀ fi c' ctv doc pm h' tk', Cb w h' ns cc ct (fun x => if x = name then some (.ref fi) else m x) (ps ++ #[rawInt pos.line, rawInt pos.col, .ref c']) → ExtC ns ct h h' → h'.get? fi = some (fnMade name (qualnameIn env name name) params body scope clos doc pm c' ctv) → h'.CodeRec (.ref c') (qualnameIn env name name) → c' ≠ ns → c' ≠ ct → fi ≠ ns → fi ≠ ct → h.get? fi = none → Q .next (St s₀ h' tk')) :
    wpAny (Md w) A (exec (.FunctionDef name params body [] none [] scope none name pos) env) Q E (St s₀ h tk) := by
  have hsz : ct < h.objs.size := Heap.lt_size B.tab
  have hns : ns < h.objs.size := by obtain ⟨_, _, e, _⟩ := B.cn; exact Heap.lt_size e
  refine nestDef_K hd0 hk0 ha ?_
  refine makeFunction_K (mg := nsFind (es3 w.params)) (s := St s₀ h tk) hcl hg B.st.ns3 hcode B.hd B.tab B.tri hnf ?_ ?_ fun c' ctv doc h' tk' hx hge hlt hrec htb => ?_
  · exact (B.big 3 (.inr (.inr ⟨ob w.params 3, by kernel_rfl⟩))).2
  · obtain ⟨o4, e4, c4, d4, t4⟩ := B.st.2.2
    exact ⟨4, o4, by kernel_rfl, by decide, by decide, (B.big 4 (.inr (.inl rfl))).2, e4, c4, d4, t4⟩
  have hge' : @LE.le Nat _ h.objs.size c' := hge
  have hlt' : @LT.lt Nat _ c' h'.objs.size := hlt
  have hsz' : @LT.lt Nat _ ct h.objs.size := hsz
  have hns' : @LT.lt Nat _ ns h.objs.size := hns
  obtain ⟨fi, hfi⟩ : ∃ fi, fi = h'.objs.size := ⟨_, rfl⟩
  obtain ⟨h2, hh2⟩ : ∃ h2, h2 = h'.push (fnMade name (qualnameIn env name name) params body scope clos doc ((nsFind (es3 w.params) "__name__").getD .none) c' ctv) := ⟨_, rfl⟩
  have g2 : h2.get? fi = some (fnMade name (qualnameIn env name name) params body scope clos doc ((nsFind (es3 w.params) "__name__").getD .none) c' ctv) := by rw [hh2, hfi]; exact Heap.get?_push_size _ rfl
  have k2 : Sub h' h2 := fun b o e => by rw [hh2]; exact Heap.get?_push_of_some _ e
  have n1 : c' ≠ ns := by show @Ne Nat _ _; lia
  have n2 : c' ≠ ct := by show @Ne Nat _ _; lia
  have n3 : fi ≠ ns := by show @Ne Nat _ _; lia
  have n4 : fi ≠ ct := by show @Ne Nat _ _; lia
  have n5 : h.get? fi = none := Heap.get?_none_of_le (by rw [hfi]; exact Nat.le_of_lt (Nat.lt_of_le_of_lt hge' hlt'))
  have x2 : Heap.ExtBut ct h h2 := fun b o hb e => k2 b o (hx b o hb e)
  rw [← hfi, ← hh2]
  refine wp_stCls (B.cn.at fun o e => x2 _ o B.ap.1 e) (fun h3 tk3 n3' s3 => ?_) (hst _) hl
  have e3 : ∀ b o, b ≠ ns → h2.get? b = some o → h3.get? b = some o := fun b o hb e => (s3.2 b hb).trans e
  refine hq fi c' ctv doc _ h3 tk3 ⟨n3', ?_, e3 _ _ B.ap.1.symm (k2 _ _ htb), ?_, ?_, B.big, B.ap⟩ (fun b o p q e => e3 b o p (x2 b o q e)) (e3 _ _ n3 g2) ?_ n1 n2 n3 n4 n5
  · obtain ⟨o, vs, file, tf, flags, tg, inF, text, tt, a1, r⟩ := B.hd
    exact ⟨o, vs, file, tf, flags, tg, inF, text, tt, e3 _ _ B.ap.2 (x2 _ _ (by obtain ⟨_, _, _, _, _, _, _, _, hne⟩ := r; exact hne) a1), r⟩
  · have hl' : (ps ++ #[rawInt pos.line, rawInt pos.col, Value.ref c']).toList = ps.toList ++ [rawInt pos.line, rawInt pos.col, .ref c'] := by simp
    rw [hl']; exact TriplesOk_snoc _ _ _ _ B.tri
  · exact B.st.move fun a o xa ea => e3 a o (B.big a xa).1 (x2 a o (B.big a xa).2 ea)
  · obtain ⟨cx, ox, vx, tx, ex, gx, rx⟩ := hrec
    cases ex
    exact ⟨_, ox, vx, tx, rfl, e3 _ _ n1 (k2 _ _ gx), rx⟩
end Mine

end
section
open PySem PySem.W PyProof.Rows PySem.Calls
set_option Elab.async false
set_option linter.unusedVariables false
set_option maxRecDepth 100000
namespace Mine
/-- the environment of a class's body -/
noncomputable def cenv (scope : Scope) (cl : List (Str × Addr)) (qual : Str) (ns cc fr : Addr) : Env := { scope := scope, locals := ns, globals := 3, cells := cl, qual := qual ++ ".", code := .ref cc, frame := some fr, builtins := 0 }
theorem Cn.empty {h : Heap} {ns : Addr} (e : h.get? ns = some { cls := .type "dict", data := .dict #[] }) : Cn h ns (fun _ => none) := ⟨#[], 0, e, fun e he => by simp at he, by simp [UniqKeys], fun _ => rfl⟩
theorem Cn.ns {h : Heap} {ns : Addr} {m : Str → Option Value} (x : Cn h ns m) : h.Ns ns m := let ⟨es, ep, e, k, _, f⟩ := x; ⟨_, es, ep, e, rfl, k, f⟩
theorem wp_localGet {M : Model} {A : Around} {E : Value → Shared → Prop} {s₀ : Shared} {h : Heap} {tk : Nat} {env : Env} {ns : Addr} {m : Str → Option Value} {name : Str} {Q : Option Value → Shared → Prop} (hn : Cn h ns m) (hq : Q (m name) (St s₀ h tk)) (hl : env.locals = ns := by rfl) : wpAny M A (localGet env name) Q E (St s₀ h tk) := by
  unfold localGet
  obtain ⟨es, ep, e, r⟩ := id hn
  rw [hl]
  refine wpAny_bind (wpAny_load e ?_)
  refine wpAny_ite_true rfl ?_
  exact wpAny_nsGet (s := St s₀ h tk) hn.ns hq
theorem Stat.but30 {w : World} {h h' : Heap} (S : Stat w h) (e : Heap.ExtBut 30 h h') : Stat w h' := by
  refine S.move fun a o x ea => ?_
  exact e a o (of_decide_eq_true (x.of (p := fun a => decide (a ≠ 30)) (by kernel_rfl))) ea
/-- what stands in cmp_to_key's body: the class statement -/
noncomputable def clsOf : List Stmt → List Stmt × Scope
  | .ClassDef _ _ _ b _ _ sc _ _ _ _ :: _ => (b, sc)
  | _ => ([], default)
noncomputable def kBody (P : Params) : List Stmt := (clsOf (bodyOf (fdAt P 35))).1
noncomputable def kScope (P : Params) : Scope := (clsOf (bodyOf (fdAt P 35))).2
end Mine

end
section
open PySem PySem.W PyProof.Rows PySem.Calls
set_option Elab.async false
set_option linter.unusedVariables false
set_option maxRecDepth 100000
set_option pp.deepTerms false
set_option pp.maxSteps 1500
namespace Mine
theorem Cb.change {w : World} {h h' : Heap} {ns cc ct : Addr} {m m' : Str → Option Value} {ps : Array Value} (B : Cb w h ns cc ct m ps) (n : Cn h' ns m') (k : ∀ b o, b ≠ ns → h.get? b = some o → h'.get? b = some o) : Cb w h' ns cc ct m' ps := by
  refine ⟨n, ?_, k _ _ B.ap.1.symm B.tab, B.tri, ?_, B.big, B.ap⟩
  · obtain ⟨o, vs, file, tf, flags, tg, inF, text, tt, a1, r⟩ := B.hd
    exact ⟨o, vs, file, tf, flags, tg, inF, text, tt, k _ _ B.ap.2 a1, r⟩
  · exact B.st.move fun a o xa ea => k a o (B.big a xa).1 ea
/-- a method of K -/
noncomputable def Meth (P : Params) (h : Heap) (f : Addr) (k : Nat) (name qual : Str) (clos : List (Str × Addr)) : Prop :=
  ∃ doc pm c ctv, h.get? f = some (fnMade name qual (defIn ((kBody P).drop k)).1 (defIn ((kBody P).drop k)).2.1 (defIn ((kBody P).drop k)).2.2 clos doc pm c ctv) ∧ h.CodeRec (.ref c) qual
theorem meth_keep {P : Params} {h h' : Heap} {f c ns ct : Addr} {k : Nat} {name qual : Str} {clos : List (Str × Addr)} {doc pm ctv : Value} (g : h.get? f = some (fnMade name qual (defIn ((kBody P).drop k)).1 (defIn ((kBody P).drop k)).2.1 (defIn ((kBody P).drop k)).2.2 clos doc pm c ctv)) (r : h.CodeRec (.ref c) qual)
    (a1 : c ≠ ns) (a2 : c ≠ ct) (a3 : f ≠ ns) (a4 : f ≠ ct) (x : ExtC ns ct h h') : Meth P h' f k name qual clos := by
  obtain ⟨cx, ox, vx, tx, ex, gx, rx⟩ := r
  cases ex
  exact ⟨doc, pm, c, ctv, x _ _ a3 a4 g, _, ox, vx, tx, rfl, x _ _ a1 a2 gx, rx⟩
theorem ExtC.trans {ns ct : Addr} {a b c : Heap} (x : ExtC ns ct a b) (y : ExtC ns ct b c) : ExtC ns ct a c := fun k o p q e => y k o p q (x k o p q e)
set_option maxHeartbeats 1000000 in
theorem clsBody {w : World} {A : Around} {E : Value → Shared → Prop} {s₀ : Shared} {h : Heap} {tk : Nat} {ns cc ct fr mc : Addr} {m : Str → Option Value} {Q : Flow → Shared → Prop}
    (B : Cb w h ns cc ct m #[])
    (hq : ∀ f0 f1 f2 f3 f4 f5 sl tm to m' ps h' tk', Cb w h' ns cc ct m' ps → ExtC ns ct h h' →
      (m' = fun x => if x = ("__hash__" : Str) then some .none else if x = ("__ge__" : Str) then some (.ref f5) else if x = ("__le__" : Str) then some (.ref f4) else if x = ("__eq__" : Str) then some (.ref f3) else if x = ("__gt__" : Str) then some (.ref f2) else if x = ("__lt__" : Str) then some (.ref f1) else if x = ("__init__" : Str) then some (.ref f0) else if x = ("__slots__" : Str) then some (.ref sl) else if x = ("__module__" : Str) then some (.str "cpy313.functools" tm) else m x) →
      Meth w.params h' f0 2 "__init__" "cmp_to_key.<locals>.K.__init__" [] → Meth w.params h' f1 3 "__lt__" "cmp_to_key.<locals>.K.__lt__" [("mycmp", mc)] → Meth w.params h' f2 4 "__gt__" "cmp_to_key.<locals>.K.__gt__" [("mycmp", mc)] →
      Meth w.params h' f3 5 "__eq__" "cmp_to_key.<locals>.K.__eq__" [("mycmp", mc)] → Meth w.params h' f4 6 "__le__" "cmp_to_key.<locals>.K.__le__" [("mycmp", mc)] → Meth w.params h' f5 7 "__ge__" "cmp_to_key.<locals>.K.__ge__" [("mycmp", mc)] →
      h'.get? sl = some { cls := .type "list", data := .seq #[.str "obj" to] } → Q .next (St s₀ h' tk')) : wpAny (Md w) A (execs (kBody w.params) (cenv (kScope w.params) [("mycmp", mc)] "cmp_to_key.<locals>.K" ns cc fr)) Q E (St s₀ h tk) := by
  refine wpAny_execs_cons (wpAny_Assign_Name ?_)
  refine wpAny_Constant_str ?_
  refine wp_stCls B.cn (fun h1 tk1 n1 s1 => ?_) rfl rfl
  have B1 := B.change n1 fun b o hb e => (s1.2 b hb).trans e
  refine wpAny_execs_cons (wpAny_Assign_Name (List_ (spliced_evArgs [_] _ _ (wpAny_Constant_str ?_))))
  refine wp_newObj (by show 1 ≤ _; rw [sizeLine_eq]; lia) rfl fun sl h2 nsl gsl k2 => ?_
  have B2 := B1.change (B1.cn.at fun o e => k2 _ _ e) fun b o _ e => k2 b o e
  refine wp_stCls B2.cn (fun h3 tk3 n3 s3 => ?_) rfl rfl
  have B3 := B2.change n3 fun b o hb e => (s3.2 b hb).trans e
  refine wpAny_execs_cons (defCls B3 rfl rfl rfl rfl rfl rfl rfl (by kernel_rfl) (fun _ => rfl) fun f0 c0 ctv0 doc0 pm0 h4 tk4 B4 x4 g0 r0 a1 a2 a3 a4 a5 => ?_)
  refine wpAny_execs_cons (defCls B4 rfl rfl rfl rfl rfl rfl rfl (by kernel_rfl) (fun _ => rfl) fun f1 c1 ctv1 doc1 pm1 h5 tk5 B5 x5 g1 r1 b1 b2 b3 b4 b5 => ?_)
  refine wpAny_execs_cons (defCls B5 rfl rfl rfl rfl rfl rfl rfl (by kernel_rfl) (fun _ => rfl) fun f2 c2 ctv2 doc2 pm2 h6 tk6 B6 x6 g2 r2 d1 d2 d3 d4 d5 => ?_)
  refine wpAny_execs_cons (defCls B6 rfl rfl rfl rfl rfl rfl rfl (by kernel_rfl) (fun _ => rfl) fun f3 c3 ctv3 doc3 pm3 h7 tk7 B7 x7 g3 r3 e1 e2 e3 e4 e5 => ?_)
  refine wpAny_execs_cons (defCls B7 rfl rfl rfl rfl rfl rfl rfl (by kernel_rfl) (fun _ => rfl) fun f4 c4 ctv4 doc4 pm4 h8 tk8 B8 x8 g4 r4 i1 i2 i3 i4 i5 => ?_)
  refine wpAny_execs_cons (defCls B8 rfl rfl rfl rfl rfl rfl rfl (by kernel_rfl) (fun _ => rfl) fun f5 c5 ctv5 doc5 pm5 h9 tk9 B9 x9 g5 r5 j1 j2 j3 j4 j5 => ?_)
  refine wpAny_execs_cons (wpAny_Assign_Name (wpAny_Constant_none ?_))
  refine wp_stCls B9.cn (fun h10 tk10 n10 s10 => ?_) rfl rfl
  have B10 := B9.change n10 fun b o hb e => (s10.2 b hb).trans e
  refine wpAny_execs_nil ?_
  have x10 : ExtC ns ct h9 h10 := fun b o p q e => (s10.2 b p).trans e
  have y9 := x9.trans x10
  have y8 := x8.trans y9
  have y7 := x7.trans y8
  have y6 := x6.trans y7
  have y5 := x5.trans y6
  have y4 := x4.trans y5
  have nsl' : sl ≠ ns := by rintro rfl; obtain ⟨_, _, e, _⟩ := B1.cn; rw [nsl] at e; cases e
  have nct' : sl ≠ ct := by rintro rfl; have := B1.tab; rw [nsl] at this; cases this
  refine hq f0 f1 f2 f3 f4 f5 sl _ _ _ _ h10 tk10 B10 (fun b o p q e => y4 b o p q ((s3.2 b p).trans (k2 b o ((s1.2 b p).trans e)))) rfl ?_ ?_ ?_ ?_ ?_ ?_ (y4 _ _ nsl' nct' ((s3.2 sl nsl').trans gsl))
  · exact meth_keep g0 r0 a1 a2 a3 a4 y5
  · exact meth_keep g1 r1 b1 b2 b3 b4 y6
  · exact meth_keep g2 r2 d1 d2 d3 d4 y7
  · exact meth_keep g3 r3 e1 e2 e3 e4 y8
  · exact meth_keep g4 r4 i1 i2 i3 i4 y9
  · exact meth_keep g5 r5 j1 j2 j3 j4 x10
end Mine

end
section
open PySem PySem.W PyProof.Rows PySem.Calls
set_option Elab.async false
set_option linter.unusedVariables false
set_option maxRecDepth 100000
set_option pp.deepTerms false
set_option pp.maxSteps 1500
namespace Mine
/-- the names in K's namespace -/
noncomputable def kNames : List Str := ["__doc__", "obj", "__static_attributes__", "__hash__", "__ge__", "__le__", "__eq__", "__gt__", "__lt__", "__init__", "__slots__", "__module__", "__firstlineno__", "__qualname__"]
/-- the class that cmp_to_key makes -/
structure KCls (P : Params) (h : Heap) (a N md mc f0 f1 f2 : Addr) : Prop where
  cls : ∃ s0 s1 s2 s3 s5, h.get? a = some ⟨.type "type", none, .cls (kcd a N "cmp_to_key.<locals>.K"), #[s0, s1, s2, s3, some (.builtin "object.__new__"), s5]⟩
  mem : ∃ tO, h.get? md = some (mdObj a tO)
  ns : ∃ m, h.Ns1 N m ∧ m "__init__" = some (.ref f0) ∧ m "__lt__" = some (.ref f1) ∧ m "__gt__" = some (.ref f2) ∧ m "obj" = some (.ref md) ∧ ∀ x, x ∉ kNames → m x = none
  init : Meth P h f0 2 "__init__" "cmp_to_key.<locals>.K.__init__" []
  lt : Meth P h f1 3 "__lt__" "cmp_to_key.<locals>.K.__lt__" [("mycmp", mc)]
  gt : Meth P h f2 4 "__gt__" "cmp_to_key.<locals>.K.__gt__" [("mycmp", mc)]
theorem noSN_none : noSN "NoneType" := by unfold noSN; rw [typeLookup_type, builtinLookup_eq_fast]; kernel_rfl
theorem noSN_func : noSN "function" := by unfold noSN; rw [typeLookup_type, builtinLookup_eq_fast]; kernel_rfl
theorem noSN_list : noSN "list" := by unfold noSN; rw [typeLookup_type, builtinLookup_eq_fast]; kernel_rfl
theorem noSN_tuple : noSN "tuple" := by unfold noSN; rw [typeLookup_type, builtinLookup_eq_fast]; kernel_rfl
theorem noSN_str : noSN "str" := by unfold noSN; rw [typeLookup_type, builtinLookup_eq_fast]; kernel_rfl
theorem noSN_int : noSN "int" := by unfold noSN; rw [typeLookup_type, builtinLookup_eq_fast]; kernel_rfl
theorem Meth.harm {P : Params} {h : Heap} {f : Addr} {k : Nat} {name qual : Str} {clos : List (Str × Addr)} (x : Meth P h f k name qual clos) : Harm h (.ref f) :=
  let ⟨_, _, _, _, e, _⟩ := x; .inl ⟨_, _, "function", rfl, e, rfl, noSN_func⟩
theorem Meth.keeps {P : Params} {h h' : Heap} {f : Addr} {k : Nat} {name qual : Str} {clos : List (Str × Addr)} (x : Meth P h f k name qual clos) (s : Sub h h') : Meth P h' f k name qual clos :=
  let ⟨doc, pm, c, ctv, e, r⟩ := x; ⟨doc, pm, c, ctv, s _ _ e, r.keeps s⟩
theorem KCls.keeps {P : Params} {h h' : Heap} {a N md mc f0 f1 f2 : Addr} (x : KCls P h a N md mc f0 f1 f2) (s : Sub h h') : KCls P h' a N md mc f0 f1 f2 := by
  obtain ⟨⟨s0, s1, s2, s3, s5, c⟩, ⟨tO, d⟩, ⟨m, n, r⟩, i, l, g⟩ := x
  exact ⟨⟨s0, s1, s2, s3, s5, s _ _ c⟩, ⟨tO, s _ _ d⟩, ⟨m, n.keeps s, r⟩, i.keeps s, l.keeps s, g.keeps s⟩
/-- a namespace as a list -/
noncomputable def nsl : List (Str × Value) → Str → Option Value
  | [], _ => none
  | (n, v) :: r, x => if x = n then some v else nsl r x
def allV (p : Value → Prop) : List (Str × Value) → Prop
  | [] => True
  | (_, v) :: r => p v ∧ allV p r
theorem nsl_all {p : Value → Prop} {x : Str} {v : Value} : ∀ {L : List (Str × Value)}, allV p L → nsl L x = some v → p v
  | [], _, h => nomatch h
  | (n, u) :: r, a, h => by
    unfold nsl at h
    by_cases c : x = n
    · rw [if_pos c] at h; cases h; exact a.1
    · rw [if_neg c] at h; exact nsl_all a.2 h
theorem nsl_out {x : Str} {W : List Str} (hx : x ∉ W) : ∀ {L : List (Str × Value)}, (L.map (·.1)).all (fun n => decide (n ∈ W)) = true → nsl L x = none
  | [], _ => rfl
  | (n, u) :: r, a => by
    rw [List.map_cons, List.all_cons, Bool.and_eq_true] at a
    unfold nsl
    have ne : x ≠ n := fun c => hx (c ▸ of_decide_eq_true a.1)
    rw [if_neg ne]
    exact nsl_out hx a.2
theorem nm3 (P : Params) : ∃ x t, nsFind (es3 P) "__name__" = some (.str x t) := by
  have h : (match nsFind (es3 P) "__name__" with | some (.str _ _) => true | _ => false) = true := by kernel_rfl
  split at h
  · exact ⟨_, _, by assumption⟩
  · cases h
theorem out3 {f : Str → Option Value} {md : Addr} {x : Str} (h1 : x ≠ "__doc__") (h2 : x ≠ "obj") (h3 : f x = none) : (if x = "__doc__" then some .none else if x = "obj" then some (.ref md) else if x = "__qualname__" then none else f x) = none := by
  rw [if_neg h1, if_neg h2, h3]; exact ite_self _
set_option maxHeartbeats 1000000 in
theorem bc {w : World} {s₀ : Shared} {env : Env} {fl : Nat} {pos : Pos} {mc : Addr}
    {A : Around} {h : Heap} {tk : Nat} {Q : Value → Shared → Prop} {E : Value → Shared → Prop} (hh : A.handled = none) (hdep : A.depth < recursionLimit) (S : Stat w h)
    (hg : env.globals = 3) (hb0 : env.builtins = 0) (hcode : env.code = .ref 34) (hok : h.IsCode 34 30 #[]) (htab : h.get? 30 = some (tabObj #[])) (hsm : In sysModules h) (hclo : closureFor (kScope w.params) env = pure [(("mycmp" : Str), mc)])
    (hQ : ∀ a N md f0 f1 f2 h' tk', Heap.ExtBut 30 h h' → (∃ ps, h'.get? 30 = some (tabObj ps)) → h.get? a = none → h.get? N = none → h.get? md = none → KCls w.params h' a N md mc f0 f1 f2 → Q (.ref a) (St s₀ h' tk')) :
    wpAny (Md w) A (buildClass "K" "cmp_to_key.<locals>.K" [.type "object"] [] (kBody w.params) (kScope w.params) ["obj"] fl env pos none) Q E (St s₀ h tk) := by
  delta buildClass
  refine wpAny_bind (wp_newObj (by show 1 ≤ _; rw [sizeLine_eq]; lia) rfl fun bt h1 nbt gbt k1 => ?_)
  try wp_delta
  refine wpAny_bind (wp_forIn_cons ?_)
  refine wpAny_bind (wpAny_of_eq isT1 ?_)
  refine wpAny_ite_true rfl ?_
  try wp_delta
  refine wpAny_ite_false rfl ?_
  try wp_delta
  refine wpAny_pure (wp_forIn_nil ?_)
  try wp_delta
  refine wpAny_bind (wpAny_of_eq tyO ?_)
  try wp_delta
  refine wpAny_bind (wpAny_of_eq isT2 ?_)
  try wp_delta
  refine wpAny_ite_true rfl ?_
  refine wpAny_bind (wp_forIn_cons ?_)
  refine wpAny_bind (wpAny_of_eq tyO ?_)
  refine wpAny_bind (wpAny_of_eq subTT ?_)
  refine wpAny_ite_true rfl ?_
  refine wpAny_pure (wp_forIn_nil ?_)
  try wp_delta
  refine wpAny_bind (wpAny_mkText ?_)
  try wp_delta
  refine wpAny_ite_false rfl ?_
  refine wpAny_bind (wpAny_pure ?_)
  refine wpAny_holding ?_
  refine wpAny_bind (getPrep fun bm h2 tk2 nbm gbm k2 => ?_)
  try wp_delta
  refine wpAny_bind (prepCall gbm fun ns h3 nns gns k3 => ?_)
  try wp_delta
  have S3 : Stat w h3 := ((S.keeps k1).keeps k2).keeps k3
  have newNs : ∀ b, In b h → b ≠ ns := by
    rintro b hb rfl
    obtain ⟨o, e⟩ := hb.get
    rw [k2 _ _ (k1 _ _ e)] at nns; cases nns
  have hns5 : ns ≠ sysModules := (newNs _ hsm).symm
  refine wpAny_bind (m := notTheModulesDict _ _) (wpAny_ite_false (by simpa using hns5) (wpAny_pure ?_))
  refine wpAny_bind (wpAny_specialOf (T := "dict") ⟨_, gns, rfl⟩ PySem.F.slot_dict_getitem.lookup ?_)
  try wp_delta
  refine wpAny_ite_false rfl ?_
  try wp_delta
  refine wpAny_holding ?_
  try wp_delta
  refine wpAny_ite_false rfl ?_
  refine wpAny_bind (wpAny_pure ?_)
  try wp_delta
  refine wpAny_ite_false rfl ?_
  refine wpAny_bind (wpAny_pure ?_)
  try wp_delta
  have k03 : Sub h h3 := (k1.trans k2).trans k3
  refine wpAny_bind (classCodeG (s := St s₀ h3 tk2) hcode (hok.keeps k03) (k03 _ _ htab) rfl fun cc ct h4 tk4 x4 ge1 ge2 ok4 tb4 rec4 t30 => ?_)
  try wp_delta
  have S4 : Stat w h4 := S3.but30 x4
  rw [hg, hb0]
  obtain ⟨o4, e4, c4, d4, dt4⟩ := S4.2.2
  refine wpAny_bind (wpAny_builtinsFor S4.ns3 (by kernel_rfl) (by decide) e4 c4 d4 dt4 ?_)
  refine wpAny_bind (m := newBodyFrame _ _ _ _) (wpAny_bind (wpAny_nsGet (s := St s₀ h4 tk4) S4.ns3 (wp_alloc rfl fun fr h5 nfr gfr k5 => ?_)))
  refine wpAny_bind (wpAny_of_eq hclo ?_)
  try wp_delta
  refine wpAny_holding ?_
  have S5 : Stat w h5 := S4.keeps k5
  refine wpAny_bind (wpAny_enterFrame S5.noLimit hdep ?_)
  have n5 : Cn h5 ns (fun _ => none) := Cn.empty (k5 _ _ (x4 _ _ (newNs 30 (In.of htab)).symm gns))
  refine wpAny_bind (wpAny_onRaise ?_)
  show wpAny _ _ (loadName (cenv (kScope w.params) [("mycmp", mc)] "cmp_to_key.<locals>.K" ns cc fr) "__name__" >>= _) _ _ _
  show wpAny _ _ ((do let r ← localGet (cenv (kScope w.params) [("mycmp", mc)] "cmp_to_key.<locals>.K" ns cc fr) "__name__"; match r with | some v => pure v | _ => loadGlobal (cenv (kScope w.params) [("mycmp", mc)] "cmp_to_key.<locals>.K" ns cc fr) "__name__") >>= _) _ _ _
  refine wpAny_bind (wpAny_bind (wp_localGet n5 ?_))
  obtain ⟨nmx, nmt, hnm⟩ := nm3 w.params
  refine wpAny_bind (m := nsGet (cenv (kScope w.params) [("mycmp", mc)] "cmp_to_key.<locals>.K" ns cc fr).globals _) (wpAny_nsGet (s := St s₀ h5 tk4) S5.ns3 ?_)
  rw [hnm]
  refine wpAny_pure ?_
  refine wpAny_bind (wp_stCls (env := cenv (kScope w.params) [("mycmp", mc)] "cmp_to_key.<locals>.K" ns cc fr) n5 (fun h6 tk6 n6 s6 => ?_) rfl rfl)
  refine wpAny_bind (wpAny_mkText ?_)
  refine wpAny_bind (wp_stCls (env := cenv (kScope w.params) [("mycmp", mc)] "cmp_to_key.<locals>.K" ns cc fr) n6 (fun h7 tk7 n7 s7 => ?_) rfl rfl)
  refine wpAny_bind (wpAny_mkInt ?_)
  refine wpAny_bind (wp_stCls (env := cenv (kScope w.params) [("mycmp", mc)] "cmp_to_key.<locals>.K" ns cc fr) n7 (fun h8 tk8 n8 s8 => ?_) rfl rfl)
  try wp_delta
  refine wpAny_pure ?_
  try wp_delta
  refine wpAny_bind (wpAny_run ?_)
  have ge1' : h3.objs.size ≤ cc := ge1
  have ge2' : h3.objs.size ≤ ct := ge2
  have nct : ∀ b, In b h3 → b ≠ ct := fun b hb => by obtain ⟨o, e⟩ := hb.get; exact Nat.ne_of_lt (Nat.lt_of_lt_of_le (Heap.lt_size e) ge2')
  have ncc : ∀ b, In b h3 → b ≠ cc := fun b hb => by obtain ⟨o, e⟩ := hb.get; exact Nat.ne_of_lt (Nat.lt_of_lt_of_le (Heap.lt_size e) ge1')
  have B5 : Cb w h5 ns cc ct (fun _ => none) #[] := by
    refine ⟨n5, ?_, k5 _ _ tb4.2, trivial, S5, fun a xa => ⟨newNs a (let ⟨_, e⟩ := S.has xa; In.of e), nct a (let ⟨_, e⟩ := S3.has xa; In.of e)⟩, nct _ (In.of gns), (ncc _ (In.of gns)).symm⟩
    obtain ⟨o, vs, file, tf, flags, tg, inF, text, tt, a1, r⟩ := CodeHd.of ok4 tb4
    exact ⟨o, vs, file, tf, flags, tg, inF, text, tt, k5 _ _ a1, r⟩
  have B8 := ((B5.change n6 fun b o hb e => (s6.2 b hb).trans e).change n7 fun b o hb e => (s7.2 b hb).trans e).change n8 fun b o hb e => (s8.2 b hb).trans e
  refine codeAny_body (by kernel_rfl) (by kernel_rfl) (clsBody B8 fun f0 f1 f2 f3 f4 f5 sl tm to m9 ps h9 tk9 B9 x9 hm9 M0 M1 M2 M3 M4 M5 gsl => ?_)
  try dsimp only
  refine wpAny_bind (wpAny_onRaise (wpAny_bind (wpAny_mkStrs fun fs => ?_)))
  refine wpAny_bind (wpAny_newTextTuple ?_)
  obtain ⟨st, hst⟩ : ∃ st, st = h9.objs.size := ⟨_, rfl⟩
  obtain ⟨h10, hh10⟩ : ∃ h10, h10 = h9.push { cls := .type "tuple", data := .seq fs.toArray } := ⟨_, rfl⟩
  have k10 : Sub h9 h10 := fun b o e => by rw [hh10]; exact Heap.get?_push_of_some _ e
  have gst : h10.get? st = some { cls := .type "tuple", data := .seq fs.toArray } := by rw [hh10, hst]; exact Heap.get?_push_size _ rfl
  have nst : h9.get? st = none := by rw [hst]; exact Heap.get?_none_of_le (Nat.le_refl _)
  dsimp only
  rw [← hst, ← hh10]
  have n10 : Cn h10 ns m9 := B9.cn.at fun o e => k10 _ _ e
  refine wpAny_bind (wp_stCls (env := cenv (kScope w.params) [("mycmp", mc)] "cmp_to_key.<locals>.K" ns cc fr) n10 (fun h11 tk11 n11 s11 => ?_) rfl rfl)
  refine wpAny_pure ?_
  refine wpAny_ite_false rfl ?_
  have e11 : ∀ b o, b ≠ ns → h10.get? b = some o → h11.get? b = some o := fun b o hb e => (s11.2 b hb).trans e
  have stn : st ≠ ns := by rintro rfl; obtain ⟨_, _, e, _⟩ := B9.cn; rw [nst] at e; cases e
  obtain ⟨es, ep, ges, sk, uk, hes⟩ := id n11
  obtain ⟨L, hL⟩ : ∃ L : List (Str × Value), L = ([("__static_attributes__", .ref st), ("__hash__", .none), ("__ge__", .ref f5), ("__le__", .ref f4), ("__eq__", .ref f3), ("__gt__", .ref f2), ("__lt__", .ref f1), ("__init__", .ref f0), ("__slots__", .ref sl), ("__module__", .str "cpy313.functools" tm), ("__firstlineno__", .int fl tk7), ("__qualname__", .str "cmp_to_key.<locals>.K" tk6), ("__module__", .str nmx nmt)] : List (Str × Value)) := ⟨_, rfl⟩
  have hes : ∀ x, nsFind es x = nsl L x := by rw [hm9] at hes; rw [hL]; exact hes
  have oldC : ∀ b o, b ≠ ns → b ≠ ct → h5.get? b = some o → h11.get? b = some o := fun b o p q e =>
    e11 b o p (k10 b o (x9 b o p q ((s8.2 b p).trans ((s7.2 b p).trans ((s6.2 b p).trans e)))))
  have old : ∀ b o, b ≠ 30 → h.get? b = some o → h11.get? b = some o := fun b o p e => by
    have e3 := k03 b o e
    exact oldC b o (newNs b (In.of e)) (nct b (In.of e3)) (k5 b o (x4 b o p e3))
  have S11 : Stat w h11 := S.move fun a o x ea => old a o (of_decide_eq_true (x.of (p := fun a => decide (a ≠ 30)) (by kernel_rfl))) ea
  have b3 := k3 _ _ (k2 _ _ gbt)
  have gbt11 : h11.get? bt = some { cls := .type "tuple", data := .seq #[.type "object"] } := by
    refine oldC bt _ ?_ (nct _ (In.of b3)) (k5 _ _ (x4 _ _ ?_ b3))
    · rintro rfl; have := k2 _ _ gbt; rw [nns] at this; cases this
    · rintro rfl; rw [htab] at nbt; cases nbt
  have up : ∀ b o T, h9.get? b = some o → o.cls = .type T → T ≠ "dict" → h11.get? b = some o := fun b o T e hc hT => by
    refine e11 b o ?_ (k10 b o e)
    rintro rfl
    obtain ⟨_, _, e', _⟩ := B9.cn
    rw [e'] at e; cases e
    injection hc with hc'
    exact hT hc'.symm
  have upM : ∀ {f : Addr} {k : Nat} {name qual : Str} {clos : List (Str × Addr)}, Meth w.params h9 f k name qual clos → Meth w.params h11 f k name qual clos := by
    rintro f k name qual clos ⟨doc, pm, c, ctv, e, cx, ox, vx, tx, ex, gx, hdx, rx⟩
    cases ex
    refine ⟨doc, pm, c, ctv, up _ _ "function" e rfl (by decide), _, ox, vx, tx, rfl, ?_, hdx, rx⟩
    refine e11 _ _ ?_ (k10 _ _ gx)
    rintro rfl
    obtain ⟨_, _, e', _⟩ := B9.cn
    rw [e'] at gx; cases gx
    cases hdx
  have hsl := up _ _ "list" gsl rfl (by decide)
  have gst11 := e11 _ _ stn gst
  have hin : (L.map (·.1)).all (fun n => decide (n ∈ kNames)) = true := by rw [hL]; kernel_rfl
  have hw : Within (nsFind es) kNames := by
    intro y hy
    rw [hes] at hy
    by_cases c1 : y ∈ kNames
    · exact c1
    · exact absurd (nsl_out c1 hin) hy
  have hgo : ∀ {x : Str} {r : Option Value}, nsl _ x = r → nsFind es x = r := fun {x r} e => (hes x).trans (hL ▸ e)
  have hcount : es.size ≤ 1000 := by
    obtain ⟨o', es', ep', e', hd', hc⟩ := Heap.Ns1.count (h := h11) (a := ns) ⟨_, es, ep, ges, rfl, sk, uk, fun _ => rfl⟩ hw
    rw [ges] at e'; cases e'
    cases hd'
    exact Nat.le_trans hc (by decide)
  refine wpAny_bind (typeCall fun Q' A' E' hq' => ?_)
  refine tnew (tq := tk6) gbt11 ges sk uk hns5 hcount (hgo (by kernel_rfl)) (hgo (by kernel_rfl)) hsl (by rw [hgo rfl]; kernel_rfl) (hgo (by kernel_rfl)) (hgo (by kernel_rfl)) (hgo (by kernel_rfl))
    (hgo (by kernel_rfl)) (hgo (by kernel_rfl)) (hgo (by kernel_rfl)) (hgo (by kernel_rfl)) (hgo (by kernel_rfl)) (by rw [hgo rfl]; kernel_rfl) (by rw [hgo rfl]; kernel_rfl) hw (by decide) ?_ S11 ?_
  · intro n v hv
    rw [hes] at hv
    have tup : Harm h11 (.ref st) := .inl ⟨_, _, "tuple", rfl, gst11, rfl, noSN_tuple⟩
    have non : Harm h11 .none := .inr ⟨"NoneType", fun id h => (nomatch h), by kernel_rfl, noSN_none⟩
    have str : ∀ x t, Harm h11 (.str x t) := fun x t => .inr ⟨"str", fun id h => (nomatch h), by kernel_rfl, noSN_str⟩
    refine nsl_all (p := Harm h11) (hL ▸ ?_) hv
    exact ⟨tup, non, (upM M5).harm, (upM M4).harm, (upM M3).harm, (upM M2).harm, (upM M1).harm, (upM M0).harm, .inl ⟨_, _, "list", rfl, hsl, rfl, noSN_list⟩, str _ _, .inr ⟨"int", fun id h => (nomatch h), by kernel_rfl, noSN_int⟩, str _ _, str _ _, trivial⟩
  · intro a N md tO h' tk' na nN nmd s' ga gmd gN
    refine hq' a _ ⟨_, ga, rfl⟩ (wpAny_pure ?_)
    have no : ∀ b, h11.get? b = none → b ≠ 30 → h.get? b = none := fun b e p => by
      cases x : h.get? b with
      | none => rfl
      | some o => rw [old b o p x] at e; cases e
    have e30 := oldC 30 _ (newNs 30 (In.of htab)) (nct 30 (In.of (k03 _ _ htab))) (k5 _ _ t30)
    have n30 : ∀ b, h11.get? b = none → b ≠ 30 := by
      rintro b e rfl
      rw [e30] at e; cases e
    refine hQ a N md f0 f1 f2 h' tk' (fun b o p e => s' b o (old b o p e)) ⟨_, s' _ _ e30⟩ (no _ na (n30 _ na)) (no _ nN (n30 _ nN)) (no _ nmd (n30 _ nmd)) ⟨⟨_, _, _, _, _, ga⟩, ⟨tO, gmd⟩, ⟨_, gN, ?_, ?_, ?_, ?_, ?_⟩, (upM M0).keeps s', (upM M1).keeps s', (upM M2).keeps s'⟩
    · exact hgo (by kernel_rfl)
    · exact hgo (by kernel_rfl)
    · exact hgo (by kernel_rfl)
    · kernel_rfl
    · intro x hx
      exact out3 (fun e => hx (e ▸ by decide)) (fun e => hx (e ▸ by decide)) ((hes x).trans (nsl_out hx hin))
end Mine

end
section
open PySem PySem.W PyProof.Rows PySem.Calls
set_option Elab.async false
set_option linter.unusedVariables false
set_option maxRecDepth 100000
set_option pp.deepTerms false
set_option pp.maxSteps 1500
namespace Mine
theorem gl_object (P : Params) : nsFind (es3 P) "object" = none ∧ bootBuiltins "object" = some (.type "object") := ⟨by kernel_rfl, by kernel_rfl⟩
theorem gl_bc (P : Params) : bootBuiltins "__build_class__" = some (.builtin "__build_class__") := by kernel_rfl
theorem wp_ClassDef {M : Model} {A : Around} {E : Value → Shared → Prop} {s : Shared} {env : Env} {name bind : Str} {base : Expr} {body : List Stmt} {scope : Scope} {x1 : Option Scope} {statics : List Str} {pos : Pos} {Q : Flow → Shared → Prop}
    (h : wpAny M A (buildClassGuard env) (fun _ s1 => wpAny M A (eval base env) (fun v s2 => wpAny M A (buildClass name (qualnameIn env name bind) [v] [] body scope statics (firstLineOf [] pos) env pos none) (fun c s3 => wpAny M A (storeName env bind c) (fun _ s4 => Q .next s4) E s3) E s2) E s1) E s)
    (hs : backTo pos (starEach [base] env) = [(false, eval base env)] := by rfl) : wpAny M A (exec (.ClassDef name [base] [] body [] [] scope x1 bind statics pos) env) Q E s := by
  rw [arm_exec_ClassDef]
  refine wpAny_bind (wpAny_pure (wpAny_bind (wpAny_standAt (wpAny_bind (wpAny_mono h (fun _ s1 h1 => ?_) fun _ _ e => e)))))
  refine wpAny_bind (wpAny_holding (wpAny_bind ?_))
  rw [hs]
  unfold evalArgs
  show wpAny M A (spliced [(false, eval base env)] >>= _) _ E s1
  refine wpAny_bind (spliced_cons (wpAny_mono h1 (fun v s2 h2 => spliced_nil ?_) fun _ _ e => e))
  refine wpAny_holding (wpAny_bind (wpAny_pure (wpAny_bind (wpAny_pure (wpAny_pure ?_)))))
  refine wpAny_bind (wpAny_standAt (wpAny_holding (wpAny_mono h2 (fun c s3 h3 => ?_) fun _ _ e => e)))
  refine wpAny_bind (wpAny_pure (wpAny_bind (wpAny_standAt (wpAny_bind (wpAny_bindName (wpAny_mono h3 (fun _ s4 h4 => wpAny_pure h4) fun _ _ e => e))))))
theorem code34 {w : World} {h : Heap} (S : Stat w h) (htab : h.get? 30 = some (tabObj #[])) : h.IsCode 34 30 #[] := ⟨_, _, _, _, _, _, _, _, _, _, S.1 34 _ rfl, rfl, rfl, rfl, rfl, rfl, rfl, htab, rfl, trivial, by decide⟩
noncomputable def kgood (o : Obj) : Prop := (∃ cd, o.data = .cls cd) ∨ (∃ fd, o.data = .func fd) ∨ (∃ vs q t, o.data = .fields vs ∧ vs[1]? = some (.str q t))
theorem Meth.move {P : Params} {h h' : Heap} {f : Addr} {k : Nat} {name qual : Str} {clos : List (Str × Addr)} (x : Meth P h f k name qual clos) (k1 : ∀ b o, kgood o → h.get? b = some o → h'.get? b = some o) : Meth P h' f k name qual clos := by
  obtain ⟨doc, pm, c, ctv, e, cx, ox, vx, tx, ex, gx, hdx, rx⟩ := x
  exact ⟨doc, pm, c, ctv, k1 _ _ (.inr (.inl ⟨_, rfl⟩)) e, cx, ox, vx, tx, ex, k1 _ _ (.inr (.inr ⟨_, _, _, hdx, rx⟩)) gx, hdx, rx⟩
theorem KCls.move {P : Params} {h h' : Heap} {a N md mc f0 f1 f2 : Addr} (x : KCls P h a N md mc f0 f1 f2) (k1 : ∀ b o, kgood o → h.get? b = some o → h'.get? b = some o) (k2 : ∀ o, h.get? N = some o → h'.get? N = some o) (k3 : ∀ o, h.get? md = some o → h'.get? md = some o) : KCls P h' a N md mc f0 f1 f2 := by
  obtain ⟨⟨s0, s1, s2, s3, s5, c⟩, ⟨tO, d⟩, ⟨m, n, r⟩, i, l, g⟩ := x
  exact ⟨⟨s0, s1, s2, s3, s5, k1 _ _ (.inl ⟨_, rfl⟩) c⟩, ⟨tO, k3 _ d⟩, ⟨m, n.at fun o e => k2 o e, r⟩, i.move k1, l.move k1, g.move k1⟩
set_option maxHeartbeats 1000000 in
theorem cmpToKey {w : World} {s₀ : Shared} {lam : Addr} {A : Around} {h : Heap} {tk : Nat} {Q : Value → Shared → Prop} {E : Value → Shared → Prop} (hh : A.handled = none) (hdep : A.depth + 10 < recursionLimit) (S : Stat w h) (T : Tab h)
    (htab : h.get? 30 = some (tabObj #[])) (hsm : In sysModules h)
    (hQ : ∀ a N md mc f0 f1 f2 h' tk', Heap.ExtBut 30 h h' → (∃ ps, h'.get? 30 = some (tabObj ps)) → h.get? a = none → h.get? N = none → h.get? md = none → h.get? mc = none → KCls w.params h' a N md mc f0 f1 f2 → h'.IsCell mc (some (.ref lam)) → Q (.ref a) (St s₀ h' tk')) :
    wpAny (Md w) A (call (.ref 35) [.ref lam]) Q E (St s₀ h tk) := by
  refine wpAny_call (enterC (binds := [("mycmp", .ref lam)]) (m := fun _ => none) (cm := upd (fun _ => none) "mycmp" (.ref lam)) (cs := fun L => [("mycmp", L + 1)])
    (by lia) S T (S.1 35 _ rfl) rfl rfl (codeRec_of' S (by kernel_rfl)) rfl rfl (fun L => rfl) rfl rfl ?_)
  intro L h1 tk1 hk hL F
  have S1 : Stat w h1 := S.keeps hk
  refine wpAny_execs_cons ?_
  refine wp_ClassDef ?_
  unfold buildClassGuard
  obtain ⟨mb, nb, hb0⟩ := S1.2.1
  refine wpAny_bind (wpAny_nsGet (s := St s₀ h1 tk1) nb ?_)
  rw [hb0 _ (by decide), gl_bc w.params]
  refine wpAny_pure ?_
  refine EvV.run (evB S1 (gl_object _)) fun tk2 => ?_
  have X1 : ∀ b, In b h → b ≠ L := by
    rintro b hb rfl
    obtain ⟨o, e⟩ := hb.get
    exact Nat.lt_irrefl _ (Nat.lt_of_lt_of_le (Heap.lt_size e) hL)
  refine bc (mc := L + 1) hh (by show A.depth + 1 < _; lia) S1 rfl rfl rfl (code34 S1 (hk _ _ htab)) (hk _ _ htab) (hsm.sub hk) rfl ?_
  intro a N md f0 f1 f2 h2 tk3 x2 ht30 na nN nmd C
  obtain ⟨ps30, e30⟩ := ht30
  obtain ⟨oL, esL, epL, eL, hdL, rL⟩ := F.ns
  have L30 : L ≠ 30 := (X1 30 (In.of htab)).symm
  have nsL : h2.Ns L (fun _ => none) := ⟨oL, esL, epL, x2 _ _ L30 eL, hdL, rL⟩
  refine wpAny_storeName_local (s := St s₀ h2 tk3) rfl nsL fun h3 n3 s3 => ?_
  refine wpAny_execs_cons (wpAny_Return_some (wpAny_Name (wpAny_loadName_local (s := St s₀ h3 (tk3 + 1)) rfl rfl n3 rfl ?_) (by decide)))
  have NL : N ≠ L := by rintro rfl; rw [nN] at eL; cases eL
  have mdL : md ≠ L := by rintro rfl; rw [nmd] at eL; cases eL
  have C3 : KCls w.params h3 a N md (L + 1) f0 f1 f2 := by
    refine C.move (fun b o g e => (s3.2 b ?_).trans e) (fun o e => (s3.2 N NL).trans e) (fun o e => (s3.2 md mdL).trans e)
    rintro rfl
    have e' := x2 _ _ L30 eL
    rw [show h2.get? _ = some o from e] at e'
    cases e'
    rcases g with ⟨_, g⟩ | ⟨_, g⟩ | ⟨_, _, _, g, _⟩ <;> rw [hdL] at g <;> cases g
  have nmc : h.get? (L + 1) = none := Heap.get?_none_of_le (Nat.le_succ_of_le hL)
  have cell1 := F.cell "mycmp" (L + 1) rfl
  have mcL : L + 1 ≠ L := Nat.succ_ne_self L
  have mc30 : L + 1 ≠ 30 := by intro e; rw [e, htab] at nmc; cases nmc
  have cell3 : h3.IsCell (L + 1) (some (.ref lam)) := by
    obtain ⟨o, e, hd⟩ := cell1
    exact ⟨o, (s3.2 _ mcL).trans (x2 _ _ mc30 e), hd⟩
  refine hQ a N md (L + 1) f0 f1 f2 h3 _ (fun b o p e => (s3.2 b (X1 b (In.of e))).trans (x2 b o p (hk b o e))) ⟨ps30, (s3.2 30 L30.symm).trans e30⟩ (Sub.none hk na) (Sub.none hk nN) (Sub.none hk nmd) nmc C3 cell3
end Mine

end
section
open PySem PySem.W PyProof.Rows PySem.Calls
set_option Elab.async false
set_option linter.unusedVariables false
set_option maxRecDepth 100000
set_option pp.deepTerms false
set_option pp.maxSteps 1500
namespace Mine
theorem nsIn_of {F : Frag} {N : Addr} {c : Value} {d : Option Addr} {es : Array DictEntry} {ep : Nat} {sl : Array (Option Value)} {x : Str} {r : Option Value} (hl : F.lookup N = some ⟨c, d, .dict es ep, sl⟩) (hk : StrKeys es) (hf : nsFind es x = r) : nsIn F N x = some r := by
  unfold nsIn
  rw [hl]
  dsimp only
  unfold nsFind findBy at hf
  rw [← Array.find?_toList] at hf
  have hany : (es.toList.any (·.refKey)) = false := by
    rw [List.any_eq_false]
    intro e he
    obtain ⟨n, t, h⟩ := hk e (by simpa using he)
    simp [DictEntry.refKey, h]
  cases e : es.toList.find? (fun e => e.key.isStr x) with
  | some en => rw [e] at hf; simp only [Option.map_some] at hf; rw [← hf]
  | none => rw [e] at hf; simp only [Option.map_none] at hf; rw [← hf, hany]; rfl
structure KFr (F : Frag) (a md f0 f1 f2 : Addr) : Prop where
  makes : makesIn F a = true
  init : findIn F (.ref a) "__init__" = some (some (.ref f0))
  fn0 : isFn F (.ref f0) = true
  lt : findIn F (.ref a) "__lt__" = some (some (.ref f1))
  fn1 : isFn F (.ref f1) = true
  gt : findIn F (.ref a) "__gt__" = some (some (.ref f2))
  fn2 : isFn F (.ref f2) = true
  plain : plainOver F a = true
  obj : findIn F (.ref a) "obj" = some (some (.ref md))
  get : specialIn F (.ref md) "__get__" = some (some (.builtin "member_descriptor.__get__"))
  takes : takesIn F (.ref md) = some true
  mdt : typeIn F (.ref md) = some (.type "member_descriptor")
  slot : slotIn F md a = some 0
  cls : isClsIn F a = true
  seta : findIn F (.ref a) "__setattr__" = some (some (.builtin "object.__setattr__"))
  gets : plainGet F a "obj" = true
theorem KFr.taker {F : Frag} {a md f0 f1 f2 : Addr} (x : KFr F a md f0 f1 f2) : takerIn F a "obj" = some (some (.ref md)) := by
  unfold takerIn
  rw [x.obj, Option.bind_some]
  dsimp only
  rw [x.takes]; rfl
theorem KCls.frag {P : Params} {h : Heap} {a N md mc f0 f1 f2 : Addr} (C : KCls P h a N md mc f0 f1 f2) : ∃ F : Frag, F.In h ∧ KFr F a md f0 f1 f2 := by
  obtain ⟨⟨s0, s1, s2, s3, s5, ca⟩, ⟨tO, gm⟩, ⟨m, ⟨oN, es, ep, gN, hdN, kN, uN, fN⟩, m0, m1, m2, m3, m4⟩, M0, M1, M2⟩ := C
  obtain ⟨d0, p0, c0, t0, g0, r0⟩ := M0
  obtain ⟨d1, p1, c1, t1, g1, r1⟩ := M1
  obtain ⟨d2, p2, c2, t2, g2, r2⟩ := M2
  obtain ⟨oc, od, odt, osl⟩ := oN
  dsimp only at hdN
  subst hdN
  have ne : ∀ {x y : Addr} {ox oy : Obj}, h.get? x = some ox → h.get? y = some oy → ox.data ≠ oy.data → (x == y) = false := fun e1 e2 hd => by
    simpa using ne_of_data e1 e2 hd
  have nNa : (N == a) = false := ne gN ca (fun h => nomatch h)
  have nma : (md == a) = false := ne gm ca (fun h => nomatch h)
  have nmN : (md == N) = false := ne gm gN (fun h => nomatch h)
  have n0a : (f0 == a) = false := ne g0 ca (fun h => nomatch h)
  have n0N : (f0 == N) = false := ne g0 gN (fun h => nomatch h)
  have n0m : (f0 == md) = false := ne g0 gm (fun h => nomatch h)
  have n1a : (f1 == a) = false := ne g1 ca (fun h => nomatch h)
  have n1N : (f1 == N) = false := ne g1 gN (fun h => nomatch h)
  have n1m : (f1 == md) = false := ne g1 gm (fun h => nomatch h)
  have n2a : (f2 == a) = false := ne g2 ca (fun h => nomatch h)
  have n2N : (f2 == N) = false := ne g2 gN (fun h => nomatch h)
  have n2m : (f2 == md) = false := ne g2 gm (fun h => nomatch h)
  obtain ⟨F, hF⟩ : ∃ F : Frag, F = [(a, _), (N, _), (md, _), (f0, _), (f1, _), (f2, _)] := ⟨[(a, ⟨.type "type", none, .cls (kcd a N "cmp_to_key.<locals>.K"), #[s0, s1, s2, s3, some (.builtin "object.__new__"), s5]⟩), (N, ⟨oc, od, .dict es ep, osl⟩), (md, mdObj a tO),
    (f0, fnMade "__init__" "cmp_to_key.<locals>.K.__init__" (defIn ((kBody P).drop 2)).1 (defIn ((kBody P).drop 2)).2.1 (defIn ((kBody P).drop 2)).2.2 [] d0 p0 c0 t0),
    (f1, fnMade "__lt__" "cmp_to_key.<locals>.K.__lt__" (defIn ((kBody P).drop 3)).1 (defIn ((kBody P).drop 3)).2.1 (defIn ((kBody P).drop 3)).2.2 [("mycmp", mc)] d1 p1 c1 t1),
    (f2, fnMade "__gt__" "cmp_to_key.<locals>.K.__gt__" (defIn ((kBody P).drop 4)).1 (defIn ((kBody P).drop 4)).2.1 (defIn ((kBody P).drop 4)).2.2 [("mycmp", mc)] d2 p2 c2 t2)], rfl⟩
  have la : F.lookup a = some ⟨.type "type", none, .cls (kcd a N "cmp_to_key.<locals>.K"), #[s0, s1, s2, s3, some (.builtin "object.__new__"), s5]⟩ := by rw [hF]; simp [List.lookup]
  have lN : F.lookup N = some ⟨oc, od, .dict es ep, osl⟩ := by rw [hF]; simp [List.lookup, nNa]
  have lm : F.lookup md = some (mdObj a tO) := by rw [hF]; simp [List.lookup, nma, nmN]
  have fT : ∀ {f : Addr} {name qual : Str} {pr : Arguments} {b : List Stmt} {sc : Scope} {cl : List (Str × Addr)} {d p : Value} {c : Addr} {t : Value}, h.get? f = some (fnMade name qual pr b sc cl d p c t) → (f == a) = false → (f == N) = false → (f == md) = false → f = f0 ∨ f = f1 ∨ f = f2 → isFn F (.ref f) = true := by
    intro f name qual pr b sc cl d p c t g n1 n2 n3 hf
    show ((F.lookup f).map (·.cls) == some (.type "function")) = true
    have : ∃ nm q pr b sc cl d p c t, F.lookup f = some (fnMade nm q pr b sc cl d p c t) := by
      rw [hF]
      simp only [List.lookup, n1, n2, n3]
      by_cases e0 : f = f0
      · subst e0; simp only [beq_self_eq_true]; exact ⟨_, _, _, _, _, _, _, _, _, _, rfl⟩
      · have e0' : (f == f0) = false := by simpa using e0
        simp only [e0']
        by_cases e1 : f = f1
        · subst e1; simp only [beq_self_eq_true]; exact ⟨_, _, _, _, _, _, _, _, _, _, rfl⟩
        · have e1' : (f == f1) = false := by simpa using e1
          simp only [e1']
          have e2 : f = f2 := by rcases hf with h | h | h <;> first | exact absurd h e0 | exact absurd h e1 | exact h
          subst e2; simp only [beq_self_eq_true]; exact ⟨_, _, _, _, _, _, _, _, _, _, rfl⟩
    obtain ⟨nm, q, pr, b, sc, cl, d, p, c, t, e⟩ := this
    rw [e]; rfl
  have fin : ∀ x, findIn F (.ref a) x = match m x with | some v => some (some v) | none => some (fastBuiltinOwn "object" x) := by
    intro x
    have e1 : findIn F (.ref a) x = alongIn F x [.ref a, .type "object"] := by show (match F.lookup a with | some ⟨_, _, .cls cd, _⟩ => alongIn F x cd.mro | _ => none) = _; rw [la]; rfl
    have e2 : ownIn F x (.ref a) = some (m x) := by
      show (match F.lookup a with | some ⟨_, _, .cls cd, _⟩ => nsIn F cd.ns x | _ => none) = _
      rw [la]
      exact nsIn_of lN kN (fN x)
    rw [e1]
    show (match ownIn F x (.ref a) with | some (some v) => some (some v) | some none => alongIn F x [.type "object"] | none => none) = _
    rw [e2]
    cases m x with
    | some v => rfl
    | none =>
      show (match some (fastBuiltinOwn "object" x) with | some (some v) => some (some v) | some none => some none | none => none) = some (fastBuiltinOwn "object" x)
      cases fastBuiltinOwn "object" x <;> rfl
  have ck : ∀ x, x ∉ kNames → ∀ r, fastBuiltinOwn "object" x = r → findIn F (.ref a) x = some r := fun x hx r hr => by rw [fin, m4 x hx]; dsimp only; rw [hr]
  have hcls : clsIn F a = some (kcd a N "cmp_to_key.<locals>.K") := by unfold clsIn; rw [la]
  have tmd : typeIn F (.ref md) = some (.type "member_descriptor") := by show (F.lookup md).map (·.cls) = _; rw [lm]; rfl
  have ta : typeIn F (.ref a) = some (.type "type") := by show (F.lookup a).map (·.cls) = _; rw [la]; rfl
  refine ⟨F, ?_, ?_, ?_, ?_, ?_, ?_, ?_, ?_, ?_, ?_, ?_, ?_, ?_, ?_, ?_, ?_, ?_⟩
  · intro x o e
    rw [hF] at e
    have st : ∀ {y : Addr} {oy : Obj} {r : Frag}, h.get? y = some oy → (r.lookup x = some o → h.get? x = some o) → List.lookup x ((y, oy) :: r) = some o → h.get? x = some o := by
      intro y oy r gy hr e
      by_cases c : x = y
      · subst c
        simp only [List.lookup, beq_self_eq_true] at e
        cases e; exact gy
      · have c' : (x == y) = false := by simpa using c
        simp only [List.lookup, c'] at e
        exact hr e
    exact st ca (st gN (st gm (st g0 (st g1 (st g2 (fun e => by cases e)))))) e
  · unfold makesIn
    rw [la]
    have e1 : specialIn F (.ref a) "__call__" = some (some (.builtin "type.__call__")) := by unfold specialIn; rw [ta, Option.bind_some]; kernel_rfl
    have e2 : instIn F (.ref a) (.type "type") = some true := by unfold instIn; rw [ta, Option.bind_some]; kernel_rfl
    simp [e1, e2, kcd]
  · rw [fin, m0]
  · exact fT g0 n0a n0N n0m (.inl rfl)
  · rw [fin, m1]
  · exact fT g1 n1a n1N n1m (.inr (.inl rfl))
  · rw [fin, m2]
  · exact fT g2 n2a n2N n2m (.inr (.inr rfl))
  · unfold plainOver; rw [hcls]; rfl
  · rw [fin, m3]
  · unfold specialIn; rw [tmd, Option.bind_some]; kernel_rfl
  · unfold takesIn
    have : specialIn F (.ref md) "__set__" = some (some (.builtin "member_descriptor.__set__")) := by unfold specialIn; rw [tmd, Option.bind_some]; kernel_rfl
    rw [this]
  · exact tmd
  · unfold slotIn
    have : recIn F md "member_descriptor" = some [.str "obj" tO, .ref a, .builtin "proto.slot", .builtin "proto.slot#set", rawInt 0] := by unfold recIn; rw [lm]; rfl
    rw [this, hcls]
    simp [rawInt, kcd]
  · unfold isClsIn; rw [hcls]; rfl
  · exact ck _ (by decide) _ (by kernel_rfl)
  · unfold plainGet
    rw [ck "__getattribute__" (by decide) (some (.builtin "object.__getattribute__")) (by kernel_rfl), ck "__getattr__" (by decide) none (by kernel_rfl)]
    rfl
end Mine

end
section
open PySem PySem.W PyProof.Rows PySem.Calls
set_option Elab.async false
set_option linter.unusedVariables false
set_option maxRecDepth 100000
set_option pp.deepTerms false
set_option pp.maxSteps 1500
namespace Mine
/-- a made K that holds v -/
noncomputable def KIns (h : Heap) (a x : Addr) (v : Value) : Prop := ∃ dx, h.get? x = some ⟨.ref a, some dx, .plain, #[some v]⟩ ∧ h.get? dx = some emptyDict
theorem KIns.keeps {h h' : Heap} {a x : Addr} {v : Value} (i : KIns h a x v) (s : Sub h h') : KIns h' a x v := let ⟨dx, e1, e2⟩ := i; ⟨dx, s _ _ e1, s _ _ e2⟩
theorem KIns.inst {h : Heap} {a x : Addr} {v : Value} (i : KIns h a x v) : ∃ dx, InstAt h x ⟨.ref a, some dx, .plain, #[some v]⟩ a (some emptyDict) := let ⟨dx, e1, e2⟩ := i; ⟨dx, e1, rfl, rfl, e2⟩
set_option maxHeartbeats 1000000 in
theorem kCall {w : World} {s₀ : Shared} {A : Around} {h : Heap} {tk : Nat} {Q : Value → Shared → Prop} {E : Value → Shared → Prop} {a N md mc f0 f1 f2 : Addr} {v : Value} (hdep : A.depth + 10 < recursionLimit) (S : Stat w h) (T : Tab h) (C : KCls w.params h a N md mc f0 f1 f2)
    (hQ : ∀ x h' tk', h.get? x = none → Sub h h' → KIns h' a x v → Q (.ref x) (St s₀ h' tk')) : wpAny (Md w) A (call (.ref a) [v]) Q E (St s₀ h tk) := by
  obtain ⟨F, X, K⟩ := C.frag
  refine wpAny_call (make_core (makes_of X K.makes) (looks_findIn X K.init) (fun self => bind_fn X self (beq_iff_eq.mp K.fn0)) (.inl rfl) ?_)
  obtain ⟨h1, hh1⟩ : ∃ h1, h1 = (h.push emptyDict).push (instObj a h.objs.size) := ⟨_, rfl⟩
  have k1 : Sub h h1 := fun b o e => by rw [hh1]; exact Heap.get?_push_of_some _ (Heap.get?_push_of_some _ e)
  obtain ⟨x, hx⟩ : ∃ x, x = h.objs.size + 1 := ⟨_, rfl⟩
  have gx : h1.get? x = some (instObj a h.objs.size) := by rw [hh1, hx]; have := Heap.get?_push_size (h := h.push emptyDict) (o := instObj a h.objs.size) rfl; rwa [Heap.size_push] at this
  have gd : h1.get? h.objs.size = some emptyDict := by rw [hh1]; exact Heap.get?_push_of_some _ (Heap.get?_push_size _ rfl)
  have nx : h.get? x = none := by rw [hx]; exact Heap.get?_none_of_le (Nat.le_succ _)
  rw [← hh1, ← hx]
  obtain ⟨doc, pm, c, ctv, g0, r0⟩ := C.init
  have hf : h1.get? f0 = some (fnMade "__init__" "cmp_to_key.<locals>.K.__init__" ⟨_, _, _, _, _, _, _⟩ (_ :: _) ⟨_, _, _, _, _⟩ [] doc pm c ctv) := k1 _ _ g0
  have S1 : Stat w h1 := S.keeps k1
  have T1 : Tab h1 := T.keeps fun b o _ _ e => k1 b o e
  show codeAny (Md w) _ _ _ (St s₀ h1 tk)
  refine enterF (ex := [x]) (binds := [("self", .ref x), ("obj", v)]) (by show A.depth + 1 < _; lia) S1 T1 hf rfl (r0.keeps k1) rfl rfl rfl ?_
  intro L h2 tk2 hk hL Fn2
  refine wpAny_execs_cons (plainObj_wpAny_Assign_Attribute ?_ rfl)
  refine EvV.run (evL Fn2 rfl) fun tk3 => ?_
  refine EvV.run (evL Fn2 rfl) fun tk4 => ?_
  have xL : x ≠ L := Nat.ne_of_lt (Nat.lt_of_lt_of_le (Heap.lt_size gx) hL)
  have hX : F.In (hideAll h1 [x]) := X.keeps fun b o e => hideAll_get _ (k1 b o e) (by simp; rintro rfl; rw [nx] at e; cases e)
  have hFr : Fr (hideAll h1 [x]) L h2 (fun y => [(("self" : Str), Value.ref x), ("obj", v)].reverse.lookup y) := ⟨Fn2.ns, fun b o e => hk b o (of_hideAll _ e), by rw [hideAll_size]; exact hL⟩
  have hN : News (hideAll h1 [x]) L h2 [(x, instObj a h.objs.size)] := by
    intro p hp
    rw [List.mem_singleton] at hp; subst hp
    exact ⟨hk _ _ gx, xL, hideAll_none _ (by simp)⟩
  refine set_slot (s := St s₀ h2 tk4) (i := 0) (od := emptyDict) hFr hX hN ⟨hk _ _ gx, rfl, rfl, hk _ _ gd⟩ K.seta K.plain K.taker K.mdt K.slot (by lia) rfl rfl (.head (fun _ h => nomatch h)) fun h3 F3 N3 => ?_
  refine wpAny_execs_nil ?_
  refine ⟨rfl, hQ x h3 _ nx (fun b o e => F3.keep b o (hideAll_get _ (k1 b o e) (by simp; rintro rfl; rw [nx] at e; cases e))) ⟨h.objs.size, (N3 _ (.head _)).1, F3.keep _ _ (hideAll_get _ gd ?_)⟩⟩
  simp
  rw [hx]; exact Nat.ne_of_lt (Nat.lt_succ_self _)
end Mine

end
section
open PySem PySem.W PyProof.Rows PySem.Calls
set_option Elab.async false
set_option linter.unusedVariables false
set_option maxRecDepth 100000
set_option pp.deepTerms false
set_option pp.maxSteps 1500
namespace Mine
theorem Tab1.good {h : Heap} {P b : Addr} {pos : Pos} {q : Str} {o : Obj} (x : Tab1 h P pos q) (e : h.get? b = some o) (g : kgood o) : b ≠ P := by
  rintro rfl
  obtain ⟨ps, e', r⟩ := x
  rw [e] at e'; cases e'
  rcases g with ⟨_, g⟩ | ⟨_, g⟩ | ⟨vs, s, t, g, gv⟩
  · cases g
  · cases g
  · cases g
    rcases r with rfl | ⟨c, rfl, _⟩
    · simp at gv
    · simp [rawInt] at gv
theorem Tab.good {h : Heap} {b : Addr} {o : Obj} (x : Tab h) (e : h.get? b = some o) (g : kgood o) : b ≠ 16 ∧ b ≠ 23 := ⟨x.t16.good e g, x.t23.good e g⟩
theorem Tab1.md {h : Heap} {P b a : Addr} {tO : Tok} {pos : Pos} {q : Str} (x : Tab1 h P pos q) (e : h.get? b = some (mdObj a tO)) : b ≠ P := by
  rintro rfl
  obtain ⟨ps, e', r⟩ := x
  rw [e] at e'
  rcases r with rfl | ⟨c, rfl, _⟩
  · simp [mdObj, tabObj] at e'
  · simp [mdObj, tabObj, rawInt] at e'
/-- what the lambda of law is -/
noncomputable def lamIn : List Stmt → Arguments × Expr × Scope
  | .Assign _ (.Call _ [.Lambda ps b sc _] _ _) _ :: _ => (ps, b, sc)
  | _ :: r => lamIn r
  | [] => default
noncomputable def lamP (P : Params) : Arguments × Expr × Scope := lamIn (bodyOf (fdAt P 62))
noncomputable def Lam (P : Params) (h : Heap) (lam cw : Addr) : Prop := ∃ pm c ctv, h.get? lam = some (kla_obj "<lambda>" "law.<locals>.<lambda>" (lamP P).1 (lamP P).2.1 (lamP P).2.2 [("wide", cw)] pm c ctv) ∧ h.CodeRec (.ref c) "law.<locals>.<lambda>"
theorem Lam.move {P : Params} {h h' : Heap} {lam cw : Addr} (x : Lam P h lam cw) (k1 : ∀ b o, kgood o → h.get? b = some o → h'.get? b = some o) : Lam P h' lam cw := by
  obtain ⟨pm, c, ctv, e, cx, ox, vx, tx, ex, gx, hdx, rx⟩ := x
  exact ⟨pm, c, ctv, k1 _ _ (.inr (.inl ⟨_, rfl⟩)) e, cx, ox, vx, tx, ex, k1 _ _ (.inr (.inr ⟨_, _, _, hdx, rx⟩)) gx, hdx, rx⟩
theorem Lam.keeps {P : Params} {h h' : Heap} {lam cw : Addr} (x : Lam P h lam cw) (k : Sub h h') : Lam P h' lam cw := x.move fun b o _ e => k b o e
/-- all that the key needs -/
structure Key (P : Params) (h : Heap) (nn : Nat) (a N md mc f0 f1 f2 lam cw : Addr) : Prop where
  cls : KCls P h a N md mc f0 f1 f2
  cell : h.IsCell mc (some (.ref lam))
  lamb : Lam P h lam cw
  wide : ∃ t, h.IsCell cw (some (.int nn t))
section
variable {P : Params} {h h' : Heap} {nn : Nat} {a N md mc f0 f1 f2 lam cw : Addr}
theorem Key.keeps (x : Key P h nn a N md mc f0 f1 f2 lam cw) (s : Sub h h') : Key P h' nn a N md mc f0 f1 f2 lam cw :=
  ⟨x.cls.keeps s, x.cell.keeps s, x.lamb.keeps s, let ⟨t, e⟩ := x.wide; ⟨t, e.keeps s⟩⟩
theorem Key.ext (x : Key P h nn a N md mc f0 f1 f2 lam cw) (T : Tab h) (e : Ext h h') : Key P h' nn a N md mc f0 f1 f2 lam cw := by
  have k1 : ∀ b o, kgood o → h.get? b = some o → h'.get? b = some o := fun b o g eb => e b o (T.good eb g).1 (T.good eb g).2 eb
  refine ⟨x.cls.move k1 (fun o eo => ?_) (fun o eo => ?_), IsCell.ext x.cell T e, x.lamb.move k1, let ⟨t, c⟩ := x.wide; ⟨t, IsCell.ext c T e⟩⟩
  · obtain ⟨m, ⟨oN, es, ep, gN, hd, _⟩, _⟩ := x.cls.ns
    rw [gN] at eo; cases eo
    exact e _ _ (T.t16.ne gN (by rw [hd]; intro vs h; cases h)) (T.t23.ne gN (by rw [hd]; intro vs h; cases h)) gN
  · obtain ⟨tO, gm⟩ := x.cls.mem
    rw [gm] at eo; cases eo
    exact e _ _ (T.t16.md gm) (T.t23.md gm) gm
end
theorem KIns.ext {h h' : Heap} {a x : Addr} {v : Value} (i : KIns h a x v) (T : Tab h) (e : Ext h h') : KIns h' a x v :=
  let ⟨dx, e1, e2⟩ := i; ⟨dx, e _ _ (T.t16.ne e1 (fun _ h => nomatch h)) (T.t23.ne e1 (fun _ h => nomatch h)) e1, e _ _ (T.t16.ne e2 (fun _ h => nomatch h)) (T.t23.ne e2 (fun _ h => nomatch h)) e2⟩
/-- a thing: a point's list and a place -/
noncomputable def Thing (h : Heap) (t : Addr) (ps : List Nat) (i : Nat) : Prop := ∃ p u, IsTup h t #[.ref p, .int i u] ∧ LI h p (ps.map Int.ofNat)
theorem Thing.keeps {h h' : Heap} {t : Addr} {ps : List Nat} {i : Nat} (x : Thing h t ps i) (s : Sub h h') : Thing h' t ps i := let ⟨p, u, e, l⟩ := x; ⟨p, u, e.keeps s, l.keeps s⟩
section
variable {w : World} {A : Around} {s₀ : Shared} {h : Heap} {tk : Nat} {R : Result → Shared → Prop}
/-- a call of a lambda -/
theorem enterL {a : Addr} {oc : Value} {od : Option Addr} {sl : Array (Option Value)} {fd : FuncData} {body : Expr} {args : Args} {binds : List (Str × Value)}
    (hroom : A.depth < recursionLimit) (S : Stat w h) (T : Tab h) (ho : h.get? a = some ⟨oc, od, .func fd, sl⟩) (hbody : fd.body = .expr body) (hcd : h.CodeRec fd.code fd.qualname)
    (hbind : bindArgs fd args = pure binds) (hcell : (fd.scope.names.all fun x => !(x.2 == .cell)) = true) (hloc : (binds.all fun x => fd.scope.names.lookup x.1 == some .local) = true)
    (hq : ∀ L h' tk', (∀ b o, h.get? b = some o → h'.get? b = some o) → h.objs.size ≤ L →
      Fn (hideAll h [16, 23]) L (fun x => binds.reverse.lookup x) [] (fun _ => none) h' →
      wpAny (Md w) (A.deeper (callEnv fd L a)) (eval body (callEnv fd L a)) (fun v s' => R (.ok (.ret v)) s') (fun _ _ => False) (St s₀ h' tk'))
    (hco : fd.scope.isCoroutine = false := by rfl) (hgen : fd.scope.isGenerator = false := by rfl) (hk : fd.scope.kind = .function := by rfl) :
    codeAny (Md w) A (.call (.ref a) args) R (St s₀ h tk) := by
  refine kla_callFunE hroom ho rfl hco hgen hbody hcd ?_
  rw [hbind]
  refine wpAny_pure (wpAny_newFunctionEnv (fun x hx e => by have := List.all_eq_true.mp hcell x hx; rw [e] at this; cases this) (fun x hx => beq_iff_eq.mp (List.all_eq_true.mp hloc x hx)) (fun h₁ hns hsb => ⟨S.noLimit.fresh _ hsb, ?_⟩) hk)
  have hk₁ : ∀ b o, h.get? b = some o → h₁.get? b = some o := fun b o e => hsb.extBut b o (Nat.ne_of_lt (Heap.lt_size e)) (Heap.get?_push_of_some _ e)
  refine kla_codeExpr (wpAny_mono (hq h.objs.size h₁ _ hk₁ (Nat.le_refl _) ⟨hns, fun n c hc => (nomatch hc), List.Pairwise.nil, fun b o e => hk₁ b o (of_hideAll _ e), ?_, fun n c hc => (nomatch hc), hideAll_none _ (by simp), hideAll_none _ (by simp), T.keeps fun b o _ _ e => hk₁ b o e⟩) (fun fl s' h' => h') fun _ _ h' => h'.elim)
  exact Heap.get?_none_of_le (Nat.le_of_eq (hideAll_size _ _))
end
/-- what _law_order tells -/
noncomputable def Ordv (nn : Nat) (as bs : List Nat) (r : Int) : Prop := ∃ d, d < as.length ∧ (∀ j, j < as.length → sp nn as bs j ≤ sp nn as bs d) ∧ (∀ j, j < d → sp nn as bs j ≠ sp nn as bs d) ∧ r = (as.getD d 0 : Int) - (bs.getD d 0 : Int)
end Mine

end
section
open PySem PySem.W PyProof.Rows PySem.Calls
set_option Elab.async false
set_option linter.unusedVariables false
set_option maxRecDepth 100000
set_option pp.deepTerms false
set_option pp.maxSteps 1500
namespace Mine
theorem IsTup.ext {h h' : Heap} {c : Addr} {v : Array Value} (x : IsTup h c v) (T : Tab h) (e : Ext h h') : IsTup h' c v :=
  let ⟨o, ho, hc, n, hd⟩ := x; ⟨o, e _ _ (T.t16.ne ho (by rw [hd]; intro vs h; cases h)) (T.t23.ne ho (by rw [hd]; intro vs h; cases h)) ho, hc, n, hd⟩
theorem Thing.ext {h h' : Heap} {t : Addr} {ps : List Nat} {i : Nat} (x : Thing h t ps i) (T : Tab h) (e : Ext h h') : Thing h' t ps i := let ⟨p, u, t, l⟩ := x; ⟨p, u, IsTup.ext t T e, l.ext T e⟩
theorem seqIdx {k n : Nat} (hk : k < n) : seqIndex? (k : Int) n = some k := by
  unfold seqIndex?
  have h1 : ¬ ((k : Int) < 0) := by lia
  simp only [h1, if_false]
  have h2 : (decide ((0 : Int) ≤ (k : Int)) && decide ((k : Int) < (n : Int))) = true := by simp; lia
  rw [h2]; simp
section
variable {w : World} {A : Around} {env : Env} {s₀ : Shared} {h : Heap}
/-- an item of a tuple -/
theorem evTup {value slice : Expr} {pos : Pos} {l : Addr} {items : Array Value} {k : Nat} {x : Value} (hv : EvV w A env s₀ h value (.ref l)) (hi : EvI w A env s₀ h slice k) (hl : IsTup h l items) (hk : k < items.size) (hfit : k < 1000) (hx : items[k]? = some x)
    (hs : ∀ t, subscripted slice false (.ref l) (.int k t) = operate [.ref l, .int k t] (getItem (.ref l) (.int k t)) := by intro _; with_unfolding_all rfl) : EvV w A env s₀ h (.Subscript value slice pos) x :=
  fun tk Q E hq => Subscript_ (hv tk _ E fun tk₁ => hi tk₁ _ E fun t tk₂ => tail_any (s := St s₀ h tk₂) (IsTup.typeIs hl) slot_tuple_getitem.lookup (getItem_tuple (j := k) hl (by lia) (by lia) (seqIdx hk) hx (hq _)) (hs t))
end
structure Pts (nn : Nat) (as bs : List Nat) : Prop where
  len : as.length = bs.length
  pos : 0 < as.length
  small : as.length ≤ 100
  bits : ∀ i, i < as.length → Builtin.Int.intBits ((as.getD i 0 ^^^ bs.getD i 0 : Nat) : Int) + nn ≤ 60
set_option maxHeartbeats 1000000 in
theorem lamCall {w : World} {s₀ : Shared} {A : Around} {h : Heap} {tk : Nat} {Q : Value → Shared → Prop} {E : Value → Shared → Prop} {nn : Nat} {a N md mc f0 f1 f2 lam cw p q : Addr} {as bs : List Nat} {i j : Nat} (hn : 1 ≤ nn) (hp : Pts nn as bs) (hdep : A.depth + 90 < recursionLimit) (hh : A.handled = none) (S : Stat w h) (T : Tab h)
    (C : Key w.params h nn a N md mc f0 f1 f2 lam cw) (tp : Thing h p as i) (tq : Thing h q bs j)
    (hQ : ∀ r t h' tk', Ordv nn as bs r → Ext h h' → Tab h' → Q (.int r t) (St s₀ h' tk')) : wpAny (Md w) A (call (.ref lam) [.ref p, .ref q]) Q E (St s₀ h tk) := by
  obtain ⟨pm, c, ctv, g, r⟩ := C.lamb
  have hf : h.get? lam = some (kla_obj "<lambda>" "law.<locals>.<lambda>" ⟨_, _, _, _, _, _, _⟩ (.Call _ _ _ _) ⟨_, _, _, _, _⟩ [("wide", cw)] pm c ctv) := g
  refine wpAny_call (enterL (binds := [("first", .ref p), ("second", .ref q)]) (by lia) S T hf rfl r rfl rfl rfl ?_)
  intro L h1 tk1 hk hL F
  have S1 : Stat w h1 := S.keeps hk
  obtain ⟨pp, u1, e1, l1⟩ := tp.keeps hk
  obtain ⟨qq, u2, e2, l2⟩ := tq.keeps hk
  obtain ⟨tw, cwd⟩ := C.wide
  refine callF (evG S1 (gl_order _)) fun tk2 => ?_
  refine EvV.run (evTup (k := 0) (evL F rfl) evK e1 (by show 0 < 2; lia) (by lia) rfl) fun tk3 => ?_
  refine EvV.run (evTup (k := 0) (evL F rfl) evK e2 (by show 0 < 2; lia) (by lia) rfl) fun tk4 => ?_
  refine EvV.run (evF (cwd.keeps hk)) fun tk5 => ⟨⟨_, _, _, _, S1.1 57 _ rfl⟩, ?_⟩
  refine law_order hn hp.len hp.pos hp.small hp.bits (by show A.depth + 1 + 80 < _; lia) hh S1 F.tab l1 l2 fun d t h2 tk6 h_1 h_2 h_3 X2 T2 => ?_
  exact hQ _ t h2 tk6 ⟨d, h_1, h_2, h_3, rfl⟩ (fun b o p q e => X2 b o p q (hk b o e)) T2
end Mine

end
section
open PySem PySem.W PyProof.Rows PySem.Calls
set_option Elab.async false
set_option linter.unusedVariables false
set_option maxRecDepth 100000
set_option pp.deepTerms false
set_option pp.maxSteps 1500
namespace Mine
section
variable {w : World} {A : Around} {env : Env} {s₀ : Shared} {h : Heap}
theorem evObj {n : Str} {np pos : Pos} {a N md mc f0 f1 f2 x p : Addr} {P : Params} (hx : EvV w A env s₀ h (.Name n np) (.ref x)) (C : KCls P h a N md mc f0 f1 f2) (i : KIns h a x (.ref p)) : EvV w A env s₀ h (.Attribute (.Name n np) "obj" pos) (.ref p) := by
  intro tk Q E hq
  obtain ⟨F, X, K⟩ := C.frag
  obtain ⟨dx, I⟩ := i.inst
  refine Attribute_name (hx tk _ E fun tk1 => ?_)
  exact get_bind (s := St s₀ h tk1) X I (plainGet_of K.gets).1 (findObj_data K.cls K.obj K.get K.takes) (plainGet_of K.gets).2 (wpAny_call (slot_get (s := St s₀ h (tk1 + 1)) (i := 0) X I K.slot rfl (handed_on rfl (hq _))))
end
section
variable {w : World} {s₀ : Shared} {A : Around} {h : Heap} {tk : Nat} {Q : Value → Shared → Prop} {E : Value → Shared → Prop} {nn : Nat} {a N md mc f0 f1 f2 lam cw p q x y : Addr} {as bs : List Nat} {i j : Nat}
set_option maxHeartbeats 1000000 in
theorem kLt (hn : 1 ≤ nn) (hp : Pts nn as bs) (hdep : A.depth + 100 < recursionLimit) (hh : A.handled = none) (S : Stat w h) (T : Tab h)
    (C : Key w.params h nn a N md mc f0 f1 f2 lam cw) (ix : KIns h a x (.ref p)) (iy : KIns h a y (.ref q)) (tp : Thing h p as i) (tq : Thing h q bs j)
    (hQ : ∀ r h' tk', Ordv nn as bs r → Ext h h' → Tab h' → Q (.bool (decide (r < 0))) (St s₀ h' tk')) : wpAny (Md w) A (call (.ref f1) [.ref x, .ref y]) Q E (St s₀ h tk) := by
  obtain ⟨doc, pm, c, ctv, g, r⟩ := C.cls.lt
  have hf : h.get? f1 = some (fnMade "__lt__" "cmp_to_key.<locals>.K.__lt__" ⟨_, _, _, _, _, _, _⟩ (_ :: _) ⟨_, _, _, _, _⟩ [("mycmp", mc)] doc pm c ctv) := g
  refine wpAny_call (enterF (ex := []) (binds := [("self", .ref x), ("other", .ref y)]) (by lia) S T hf rfl r rfl rfl rfl ?_)
  intro L h1 tk1 hk hL F
  have S1 : Stat w h1 := S.keeps hk
  have C1 := C.keeps hk
  refine wpAny_execs_cons (wpAny_Return_some (wpAny_Compare1 ?_))
  refine callF (evF C1.cell) fun tk2 => ?_
  refine EvV.run (evObj (evL F rfl) C1.cls (ix.keeps hk)) fun tk3 => ?_
  refine EvV.run (evObj (evL F rfl) C1.cls (iy.keeps hk)) fun tk4 => ⟨?_, ?_⟩
  · obtain ⟨_, _, _, e, _⟩ := C1.lamb
    exact ⟨_, _, _, _, e⟩
  refine lamCall (s₀ := s₀) hn hp (by show A.depth + 1 + 90 < _; lia) hh S1 F.tab C1 (tp.keeps hk) (tq.keeps hk) fun r t h2 tk5 ho X2 T2 => ?_
  refine EvI.run evK fun t6 tk6 => ?_
  exact lt_int (hQ r h2 tk6 ho (fun b o p q e => X2 b o p q (hk b o e)) T2)
set_option maxHeartbeats 1000000 in
theorem kGt (hn : 1 ≤ nn) (hp : Pts nn as bs) (hdep : A.depth + 100 < recursionLimit) (hh : A.handled = none) (S : Stat w h) (T : Tab h)
    (C : Key w.params h nn a N md mc f0 f1 f2 lam cw) (ix : KIns h a x (.ref p)) (iy : KIns h a y (.ref q)) (tp : Thing h p as i) (tq : Thing h q bs j)
    (hQ : ∀ r h' tk', Ordv nn as bs r → Ext h h' → Tab h' → Q (.bool (decide (r > 0))) (St s₀ h' tk')) : wpAny (Md w) A (call (.ref f2) [.ref x, .ref y]) Q E (St s₀ h tk) := by
  obtain ⟨doc, pm, c, ctv, g, r⟩ := C.cls.gt
  have hf : h.get? f2 = some (fnMade "__gt__" "cmp_to_key.<locals>.K.__gt__" ⟨_, _, _, _, _, _, _⟩ (_ :: _) ⟨_, _, _, _, _⟩ [("mycmp", mc)] doc pm c ctv) := g
  refine wpAny_call (enterF (ex := []) (binds := [("self", .ref x), ("other", .ref y)]) (by lia) S T hf rfl r rfl rfl rfl ?_)
  intro L h1 tk1 hk hL F
  have S1 : Stat w h1 := S.keeps hk
  have C1 := C.keeps hk
  refine wpAny_execs_cons (wpAny_Return_some (wpAny_Compare1 ?_))
  refine callF (evF C1.cell) fun tk2 => ?_
  refine EvV.run (evObj (evL F rfl) C1.cls (ix.keeps hk)) fun tk3 => ?_
  refine EvV.run (evObj (evL F rfl) C1.cls (iy.keeps hk)) fun tk4 => ⟨?_, ?_⟩
  · obtain ⟨_, _, _, e, _⟩ := C1.lamb
    exact ⟨_, _, _, _, e⟩
  refine lamCall (s₀ := s₀) hn hp (by show A.depth + 1 + 90 < _; lia) hh S1 F.tab C1 (tp.keeps hk) (tq.keeps hk) fun r t h2 tk5 ho X2 T2 => ?_
  refine EvI.run evK fun t6 tk6 => ?_
  exact gt_int (hQ r h2 tk6 ho (fun b o p q e => X2 b o p q (hk b o e)) T2)
end
end Mine

end
section
open PySem PySem.W PyProof.Rows PySem.Calls
set_option Elab.async false
set_option linter.unusedVariables false
namespace Mine
/-- a tree of questions, answered -/
noncomputable def krun {α : Type} (lt : Nat → Nat → Bool) : KasT α → α
  | .ret a => a
  | .ask i j k => krun lt (k (lt i j))
theorem krun_bind {α β : Type} (lt : Nat → Nat → Bool) (f : α → KasT β) : ∀ t : KasT α, krun lt (t.bind f) = krun lt (f (krun lt t))
  | .ret _ => rfl
  | .ask i j k => krun_bind lt f (k (lt i j))
section
variable (key : Nat → Int)
noncomputable def before (x y : Nat) : Prop := key x < key y ∨ (key x = key y ∧ x < y)
abbrev ltk (i j : Nat) : Bool := decide (key i < key j)
/-- the first k stand in order, the others where they were -/
structure Pf (p : Array Nat) (k N : Nat) : Prop where
  size : p.size = N
  le : k ≤ N
  lt : ∀ i, i < k → p.getD i 0 < k
  same : ∀ i, k ≤ i → i < N → p.getD i 0 = i
  ord : ∀ i j, i < j → j < k → before key (p.getD i 0) (p.getD j 0)
variable {key}
theorem Pf.step {p : Array Nat} {k N : Nat} (x : Pf key p k N) (hk : 1 ≤ k) (hN : k < N) (h : ¬ key k < key (p.getD (k - 1) 0)) : Pf key p (k + 1) N := by
  refine ⟨x.size, hN, fun i hi => ?_, fun i h1 h2 => x.same i (by lia) h2, fun i j hij hj => ?_⟩
  · by_cases c : i < k
    · have := x.lt i c; lia
    · have := x.same i (by lia) (by lia); lia
  · by_cases c : j < k
    · exact x.ord i j hij c
    · have ej : j = k := by lia
      subst ej
      rw [x.same j (Nat.le_refl _) hN]
      have hi := x.lt i hij
      by_cases e : i = j - 1
      · subst e; unfold before; lia
      · have := x.ord i (j - 1) (by lia) (by lia)
        unfold before at *; lia
theorem asc_run {p : Array Nat} {N : Nat} : ∀ f k, Pf key p k N → 1 ≤ k → k + f ≤ N → ∃ m, krun (ltk key) (kas_asc p f k) = m ∧ k ≤ m ∧ m ≤ k + f ∧ Pf key p m N ∧ (m < k + f → key (p.getD m 0) < key (p.getD (m - 1) 0))
  | 0, k, x, hk, hN => ⟨k, rfl, Nat.le_refl _, Nat.le_refl _, x, fun h => absurd h (by lia)⟩
  | f + 1, k, x, hk, hN => by
    show ∃ m, krun (ltk key) (if ltk key (p.getD k 0) (p.getD (k - 1) 0) = true then KasT.ret k else kas_asc p f (k + 1)) = m ∧ _
    by_cases c : key (p.getD k 0) < key (p.getD (k - 1) 0)
    · rw [if_pos (by simpa using c)]
      exact ⟨k, rfl, Nat.le_refl _, by lia, x, fun _ => c⟩
    · rw [if_neg (by simpa using c)]
      have x' := x.step hk (by lia) (by rw [x.same k (Nat.le_refl _) (by lia)] at c; exact c)
      obtain ⟨m, e, h1, h2, h3, h4⟩ := asc_run f (k + 1) x' (by lia) (by lia)
      exact ⟨m, e, by lia, by lia, h3, fun h => h4 (by lia)⟩
theorem place_run {p : Array Nat} {k N : Nat} (x : Pf key p k N) : ∀ f l r, l ≤ r → r ≤ k → r - l ≤ f → (∀ i, i < l → ¬ key (p.getD k 0) < key (p.getD i 0)) → (∀ i, r ≤ i → i < k → key (p.getD k 0) < key (p.getD i 0)) →
    ∃ m, krun (ltk key) (kas_place p k f l r) = m ∧ m ≤ k ∧ (∀ i, i < m → ¬ key (p.getD k 0) < key (p.getD i 0)) ∧ (∀ i, m ≤ i → i < k → key (p.getD k 0) < key (p.getD i 0))
  | 0, l, r, h1, h2, h3, h4, h5 => ⟨l, rfl, by lia, h4, fun i hi => h5 i (by lia)⟩
  | f + 1, l, r, h1, h2, h3, h4, h5 => by
    unfold kas_place
    by_cases c : l ≥ r
    · rw [if_pos c]
      exact ⟨l, rfl, by lia, h4, fun i hi => h5 i (by lia)⟩
    · rw [if_neg c]
      show ∃ m, krun (ltk key) (if ltk key (p.getD k 0) (p.getD ((l + r) / 2) 0) = true then kas_place p k f l ((l + r) / 2) else kas_place p k f ((l + r) / 2 + 1) r) = m ∧ _
      have ord : ∀ i j, i ≤ j → j < k → key (p.getD i 0) ≤ key (p.getD j 0) := fun i j hij hj => by
        rcases Nat.lt_or_eq_of_le hij with h | h
        · have := x.ord i j h hj; unfold before at this; lia
        · subst h; exact Int.le_refl _
      by_cases d : key (p.getD k 0) < key (p.getD ((l + r) / 2) 0)
      · rw [if_pos (by simpa using d)]
        refine place_run x f l ((l + r) / 2) (by lia) (by lia) (by lia) h4 fun i hi hik => ?_
        have := ord ((l + r) / 2) i hi hik; lia
      · rw [if_neg (by simpa using d)]
        refine place_run x f ((l + r) / 2 + 1) r (by lia) h2 (by lia) (fun i hi => ?_) h5
        have := ord i ((l + r) / 2) (by lia) (by lia); lia
end
end Mine

end
section
open PySem PySem.W PyProof.Rows PySem.Calls
set_option Elab.async false
set_option linter.unusedVariables false
namespace Mine
section
variable {key : Nat → Int}
theorem getD_bubble {p : Array Nat} {k d : Nat} (hk : k < p.size) (hd : d ≤ k) (i : Nat) (hi : i < p.size) : (bubble p k d).getD i 0 = if i = k - d then p.getD k 0 else if k - d < i ∧ i ≤ k then p.getD (i - 1) 0 else p.getD i 0 := by
  simp only [Array.getD_eq_getD_getElem?]
  rw [getElem?_bubble hk d hd]
  by_cases c : i = k - d
  · rw [if_pos c, if_pos c]
  · rw [if_neg c, if_neg c]
    by_cases e : k - d < i ∧ i ≤ k
    · rw [if_pos e, if_pos e]
    · rw [if_neg e, if_neg e]
theorem getD_rev {p : Array Nat} {i j : Nat} (hj : j ≤ p.size) (k : Nat) : (kas_rev p i j).getD k 0 = if i ≤ k ∧ k < j then p.getD (i + j - 1 - k) 0 else p.getD k 0 := by
  unfold kas_rev
  rw [Array.getD_eq_getD_getElem?, getElem?_mirror_all hj]
  split <;> simp [Array.getD_eq_getD_getElem?]
theorem Pf.insert {p : Array Nat} {k N l : Nat} (x : Pf key p k N) (hN : k < N) (hl : l ≤ k) (h1 : ∀ i, i < l → ¬ key (p.getD k 0) < key (p.getD i 0)) (h2 : ∀ i, l ≤ i → i < k → key (p.getD k 0) < key (p.getD i 0)) : Pf key (bubble p k (k - l)) (k + 1) N := by
  have hs := x.size
  have e : k - (k - l) = l := by lia
  have hk := x.same k (Nat.le_refl _) hN
  have g : ∀ i, i < N → (bubble p k (k - l)).getD i 0 = if i = l then k else if l < i ∧ i ≤ k then p.getD (i - 1) 0 else p.getD i 0 := fun i hi => by
    rw [getD_bubble (by lia) (by lia) i (by lia), e, hk]
  refine ⟨(bubble_size _ _ _).trans hs, hN, fun i hi => ?_, fun i hi hi' => ?_, fun i j hij hj => ?_⟩
  · rw [g i (by lia)]
    split
    · lia
    · split
      · have := x.lt (i - 1) (by lia); lia
      · have := x.lt i (by lia); lia
  · rw [g i hi', if_neg (by lia), if_neg (by lia)]
    exact x.same i (by lia) hi'
  · rw [g i (by lia), g j (by lia)]
    rw [hk] at h1 h2
    by_cases c1 : i = l
    · rw [if_pos c1, if_neg (by lia), if_pos (by lia)]
      have := h2 (j - 1) (by lia) (by lia)
      exact .inl this
    · rw [if_neg c1]
      by_cases c2 : j = l
      · rw [if_pos c2, if_neg (by lia)]
        have := h1 i (by lia)
        have := x.lt i (by lia)
        unfold before; lia
      · rw [if_neg c2]
        by_cases c3 : l < i ∧ i ≤ k
        · rw [if_pos c3, if_pos (by lia)]
          exact x.ord (i - 1) (j - 1) (by lia) (by lia)
        · rw [if_neg c3]
          by_cases c4 : l < j ∧ j ≤ k
          · rw [if_pos c4]
            by_cases c5 : i = j - 1
            · lia
            · exact x.ord i (j - 1) (by lia) (by lia)
          · rw [if_neg c4]
            exact x.ord i j hij (by lia)
theorem bin_run {N : Nat} : ∀ f p k, Pf key p k N → k + f = N → Pf key (krun (ltk key) (kas_bin f p k)) N N
  | 0, p, k, x, h => by obtain rfl : k = N := by lia
                        exact x
  | f + 1, p, k, x, h => by
    show Pf key (krun (ltk key) ((kas_place p k k 0 k).bind fun l => kas_bin f (bubble p k (k - l)) (k + 1))) N N
    rw [krun_bind]
    obtain ⟨m, e, h1, h2, h3⟩ := place_run x k 0 k (Nat.zero_le _) (Nat.le_refl _) (by lia) (fun i hi => by lia) (fun i h1 h2 => by lia)
    rw [e]
    exact bin_run f _ (k + 1) (x.insert (by lia) h1 h2 h3) (by lia)
/-- a falling run: its last like ones still as they stood -/
structure Dn (key : Nat → Int) (p : Array Nat) (m q N : Nat) : Prop where
  size : p.size = N
  le : m ≤ N
  qm : q + 1 ≤ m
  lt : ∀ i, i < m → p.getD i 0 < m
  same : ∀ i, m ≤ i → i < N → p.getD i 0 = i
  down : ∀ i j, i < j → j < m - (q + 1) → before key (p.getD j 0) (p.getD i 0)
  run : ∀ i j, m - (q + 1) ≤ i → i < j → j < m → key (p.getD i 0) = key (p.getD j 0) ∧ p.getD i 0 < p.getD j 0
  cross : ∀ i j, i < m - (q + 1) → m - (q + 1) ≤ j → j < m → key (p.getD j 0) < key (p.getD i 0)
/-- all stand falling -/
structure Un (key : Nat → Int) (p : Array Nat) (m N : Nat) : Prop where
  size : p.size = N
  le : m ≤ N
  lt : ∀ i, i < m → p.getD i 0 < m
  same : ∀ i, m ≤ i → i < N → p.getD i 0 = i
  down : ∀ i j, i < j → j < m → before key (p.getD j 0) (p.getD i 0)
theorem Dn.un {p : Array Nat} {m q N : Nat} (x : Dn key p m q N) : Un key (if q > 0 then kas_rev p (m - (q + 1)) m else p) m N := by
  have hs := x.size
  have hm := x.le
  have hq := x.qm
  have g : ∀ k, (if q > 0 then kas_rev p (m - (q + 1)) m else p).getD k 0 = if m - (q + 1) ≤ k ∧ k < m then p.getD (m - (q + 1) + m - 1 - k) 0 else p.getD k 0 := fun k => by
    by_cases c : q > 0
    · rw [if_pos c, getD_rev (by lia)]
    · rw [if_neg c]
      split
      · congr 1; lia
      · rfl
  refine ⟨?_, hm, fun i hi => ?_, fun i hi hi' => ?_, fun i j hij hj => ?_⟩
  · split
    · exact (kas_rev_size _ _).trans hs
    · exact hs
  · rw [g]
    split
    · exact x.lt _ (by lia)
    · exact x.lt i hi
  · rw [g, if_neg (by lia)]
    exact x.same i hi hi'
  · rw [g, g]
    by_cases c1 : m - (q + 1) ≤ i ∧ i < m
    · rw [if_pos c1, if_pos (by lia)]
      have := x.run (m - (q + 1) + m - 1 - j) (m - (q + 1) + m - 1 - i) (by lia) (by lia) (by lia)
      exact .inr this
    · rw [if_neg c1]
      by_cases c2 : m - (q + 1) ≤ j ∧ j < m
      · rw [if_pos c2]
        exact .inl (x.cross i _ (by lia) (by lia) (by lia))
      · rw [if_neg c2]
        exact x.down i j hij (by lia)
theorem Un.step {p : Array Nat} {m N : Nat} (x : Un key p m N) (hm : 1 ≤ m) (hN : m < N) (h : ∀ i, i < m → key m < key (p.getD i 0)) : Dn key p (m + 1) 0 N := by
  refine ⟨x.size, hN, by lia, fun i hi => ?_, fun i h1 h2 => x.same i (by lia) h2, fun i j hij hj => x.down i j hij (by lia), fun i j h1 h2 h3 => absurd h2 (by lia), fun i j h1 h2 h3 => ?_⟩
  · by_cases c : i < m
    · have := x.lt i c; lia
    · have := x.same i (by lia) (by lia); lia
  · obtain rfl : j = m := by lia
    rw [x.same j (Nat.le_refl _) hN]
    exact h i (by lia)
theorem desc_run {N : Nat} : ∀ f p m q, Dn key p m q N → m + f ≤ N → ∃ p' m' q', krun (ltk key) (kas_desc f p m q) = (p', m', q') ∧ Dn key p' m' q' N ∧ m' ≤ m + f
  | 0, p, m, q, x, h => ⟨p, m, q, rfl, x, Nat.le_refl _⟩
  | f + 1, p, m, q, x, h => by
    have hs := x.size
    have hq := x.qm
    have em := x.same m (Nat.le_refl _) (by lia)
    have low : ∀ i, i < m → key (p.getD (m - 1) 0) ≤ key (p.getD i 0) := fun i hi => by
      by_cases c : i < m - (q + 1)
      · have := x.cross i (m - 1) c (by lia) (by lia); lia
      · by_cases d : i = m - 1
        · subst d; exact Int.le_refl _
        · have := (x.run i (m - 1) (by lia) (by lia) (by lia)).1; lia
    show ∃ p' m' q', krun (ltk key) (if ltk key (p.getD m 0) (p.getD (m - 1) 0) = true then (if q > 0 then kas_desc f (kas_rev p (m - (q + 1)) m) (m + 1) 0 else kas_desc f p (m + 1) 0)
      else .ask (p.getD (m - 1) 0) (p.getD m 0) fun d => if d = true then .ret (p, m, q) else kas_desc f p (m + 1) (q + 1)) = (p', m', q') ∧ _
    by_cases c : key (p.getD m 0) < key (p.getD (m - 1) 0)
    · rw [if_pos (by simpa using c)]
      have u := x.un
      have h1 : ∀ i, i < m → key m < key ((if q > 0 then kas_rev p (m - (q + 1)) m else p).getD i 0) := fun i hi => by
        rw [em] at c
        by_cases cq : q > 0
        · rw [if_pos cq, getD_rev (by lia)]
          split
          · have := low (m - (q + 1) + m - 1 - i) (by lia); lia
          · have := low i hi; lia
        · rw [if_neg cq]
          have := low i hi; lia
      have d := u.step (by lia) (by lia) h1
      by_cases cq : q > 0
      · rw [if_pos cq] at d ⊢
        obtain ⟨p', m', q', e, r, s⟩ := desc_run f _ (m + 1) 0 d (by lia)
        exact ⟨p', m', q', e, r, by lia⟩
      · rw [if_neg cq] at d ⊢
        obtain ⟨p', m', q', e, r, s⟩ := desc_run f _ (m + 1) 0 d (by lia)
        exact ⟨p', m', q', e, r, by lia⟩
    · rw [if_neg (by simpa using c)]
      show ∃ p' m' q', krun (ltk key) (if ltk key (p.getD (m - 1) 0) (p.getD m 0) = true then .ret (p, m, q) else kas_desc f p (m + 1) (q + 1)) = (p', m', q') ∧ _
      by_cases d : key (p.getD (m - 1) 0) < key (p.getD m 0)
      · rw [if_pos (by simpa using d)]
        exact ⟨p, m, q, rfl, x, by lia⟩
      · rw [if_neg (by simpa using d)]
        have y : Dn key p (m + 1) (q + 1) N := by
          have ee : m + 1 - (q + 1 + 1) = m - (q + 1) := by lia
          refine ⟨hs, by lia, by lia, fun i hi => ?_, fun i h1 h2 => x.same i (by lia) h2, ?_, ?_, ?_⟩
          · by_cases c : i < m
            · have := x.lt i c; lia
            · have := x.same i (by lia) (by lia); lia
          · rw [ee]; exact x.down
          · rw [ee]
            intro i j h1 h2 h3
            by_cases cj : j < m
            · exact x.run i j h1 h2 cj
            · obtain rfl : j = m := by lia
              have := x.lt i (by lia)
              refine ⟨?_, by lia⟩
              by_cases ci : i = j - 1
              · subst ci; lia
              · have := (x.run i (j - 1) h1 (by lia) (by lia)).1; lia
          · rw [ee]
            intro i j h1 h2 h3
            by_cases cj : j < m
            · exact x.cross i j h1 h2 cj
            · obtain rfl : j = m := by lia
              have := x.cross i (j - 1) h1 (by lia) (by lia); lia
        obtain ⟨p', m', q', e, r, s⟩ := desc_run f p (m + 1) (q + 1) y (by lia)
        exact ⟨p', m', q', e, r, by lia⟩
theorem Un.rev {p : Array Nat} {m N : Nat} (x : Un key p m N) : Pf key (kas_rev p 0 m) m N := by
  have hs := x.size
  have hm := x.le
  refine ⟨(kas_rev_size _ _).trans hs, hm, fun i hi => ?_, fun i hi hi' => ?_, fun i j hij hj => ?_⟩
  · rw [getD_rev (by lia), if_pos (by lia)]; exact x.lt _ (by lia)
  · rw [getD_rev (by lia), if_neg (by lia)]; exact x.same i hi hi'
  · rw [getD_rev (by lia), getD_rev (by lia), if_pos (by lia), if_pos (by lia)]
    exact x.down _ _ (by lia) (by lia)
theorem descPart_run {p : Array Nat} {n N : Nat} (hn : n + 1 ≤ N) (x : Dn key p (n + 1) 0 N) : ∃ m p', krun (ltk key) (kas_descPart n N p) = (m, p') ∧ 1 ≤ m ∧ m ≤ N ∧ Pf key p' m N := by
  unfold kas_descPart
  rw [krun_bind]
  obtain ⟨p', m', q', e, r, s⟩ := desc_run (N - (n + 1)) p (n + 1) 0 x (by lia)
  rw [e]
  have hqm := r.qm
  have u := r.un
  have fin : ∀ p'', Un key p'' m' N → ∃ m p', krun (ltk key) (kas_tail3 m' N p'') = (m, p') ∧ 1 ≤ m ∧ m ≤ N ∧ Pf key p' m N := by
    intro p'' u
    unfold kas_tail3
    rw [krun_bind]
    have hm := u.le
    obtain ⟨m, e, h1, h2, h3, _⟩ := asc_run (N - m') m' u.rev (by lia) (by lia)
    rw [e]
    exact ⟨m, _, rfl, by lia, by lia, h3⟩
  dsimp only
  by_cases c : q' > 0
  · rw [if_pos c] at u ⊢; exact fin _ u
  · rw [if_neg c] at u ⊢; exact fin _ u
theorem Pf.id (N k : Nat) (hk : k ≤ 1) (hN : k ≤ N) : Pf key (List.toArray (List.range N)) k N := by
  have g : ∀ i, i < N → (List.toArray (List.range N)).getD i 0 = i := fun i hi => by simp [Array.getD_eq_getD_getElem?, hi]
  exact ⟨by simp, hN, fun i hi => by rw [g i (by lia)]; exact hi, fun i _ h => g i h, fun i j h1 h2 => by lia⟩
theorem sort_run (N : Nat) (hN : 1 ≤ N) : Pf key (krun (ltk key) (kas_sort N)) N N := by
  have g : ∀ i, i < N → (List.toArray (List.range N)).getD i 0 = i := fun i hi => by simp [Array.getD_eq_getD_getElem?, hi]
  have main : ∃ m p', krun (ltk key) (kas_count N (List.toArray (List.range N))) = (m, p') ∧ 1 ≤ m ∧ m ≤ N ∧ Pf key p' m N := by
    unfold kas_count
    rw [krun_bind]
    obtain ⟨n, e, h1, h2, h3, h4⟩ := asc_run (key := key) (N - 1) 1 (Pf.id N 1 (Nat.le_refl _) hN) (Nat.le_refl _) (by lia)
    rw [e]
    by_cases c : (n == N) = true
    · rw [if_pos c]
      exact ⟨n, _, rfl, h1, by lia, h3⟩
    · rw [if_neg c]
      have hlt : n < N := by have : n ≠ N := by simpa using c
                             lia
      have h4' := h4 (by lia)
      rw [g n hlt, g (n - 1) (by lia)] at h4'
      by_cases d : n > 1
      · rw [if_pos d]
        show ∃ m p', krun (ltk key) (if ltk key ((List.toArray (List.range N)).getD 0 0) ((List.toArray (List.range N)).getD (n - 1) 0) = true then .ret (n, (List.toArray (List.range N))) else kas_descPart n N (kas_rev (List.toArray (List.range N)) 0 n)) = (m, p') ∧ _
        rw [g 0 (by lia), g (n - 1) (by lia)]
        by_cases b : key 0 < key (n - 1)
        · rw [if_pos (by simpa using b)]
          exact ⟨n, _, rfl, by lia, by lia, h3⟩
        · rw [if_neg (by simpa using b)]
          refine descPart_run (by lia) ?_
          have all : ∀ i, i < n → key i = key 0 := fun i hi => by
            have a1 : key 0 ≤ key i := by
              by_cases c0 : i = 0
              · subst c0; exact Int.le_refl _
              · have := h3.ord 0 i (by lia) hi; rw [g 0 (by lia), g i (by lia)] at this; unfold before at this; lia
            have a2 : key i ≤ key (n - 1) := by
              by_cases c0 : i = n - 1
              · subst c0; exact Int.le_refl _
              · have := h3.ord i (n - 1) (by lia) (by lia); rw [g i (by lia), g (n - 1) (by lia)] at this; unfold before at this; lia
            lia
          have hsz : (List.toArray (List.range N)).size = N := by simp
          have gr : ∀ i, i < N → (kas_rev (List.toArray (List.range N)) 0 n).getD i 0 = if i < n then n - 1 - i else i := fun i hi => by
            rw [getD_rev (by lia)]
            by_cases ci : i < n
            · rw [if_pos (by lia), if_pos ci, g _ (by lia)]; lia
            · rw [if_neg (by lia), if_neg ci, g _ hi]
          have u : Un key (kas_rev (List.toArray (List.range N)) 0 n) n N := by
            refine ⟨(kas_rev_size _ _).trans hsz, by lia, fun i hi => ?_, fun i h1 h2 => ?_, fun i j hij hj => ?_⟩
            · rw [gr i (by lia), if_pos hi]; lia
            · rw [gr i h2, if_neg (by lia)]
            · rw [gr i (by lia), gr j (by lia), if_pos (show i < n by lia), if_pos hj]
              have := all (n - 1 - i) (by lia)
              have := all (n - 1 - j) (by lia)
              exact .inr ⟨by lia, by lia⟩
          refine u.step (by lia) hlt fun i hi => ?_
          rw [gr i (by lia), if_pos hi]
          have := all (n - 1 - i) (by lia)
          have := all (n - 1) (by lia)
          lia
      · rw [if_neg d]
        obtain rfl : n = 1 := by lia
        refine descPart_run (by lia) ?_
        have u : Un key (List.toArray (List.range N)) 1 N := ⟨by simp, hN, fun i hi => by rw [g i (by lia)]; exact hi, fun i _ h => g i h, fun i j h1 h2 => by lia⟩
        refine u.step (Nat.le_refl _) hlt fun i hi => ?_
        obtain rfl : i = 0 := by lia
        rw [g 0 (by lia)]
        exact h4'
  obtain ⟨m, p', e, h1, h2, h3⟩ := main
  unfold kas_sort
  rw [krun_bind, e]
  dsimp only
  by_cases c : m < N
  · rw [if_pos c]
    have : max m 1 = m := by lia
    rw [this]
    exact bin_run _ _ _ h3 (by lia)
  · rw [if_neg c]
    obtain rfl : m = N := by lia
    exact h3
end
end Mine

end
section
open PySem PySem.W PyProof.Rows PySem.Calls
set_option Elab.async false
set_option linter.unusedVariables false
namespace Mine
/-- every question asks below n -/
noncomputable def KBp {α : Type} (n : Nat) (P : α → Prop) : KasT α → Prop
  | .ret a => P a
  | .ask i j k => i < n ∧ j < n ∧ ∀ b, KBp n P (k b)
theorem KBp.bind {α β : Type} {n : Nat} {P : α → Prop} {R : β → Prop} {f : α → KasT β} (hf : ∀ a, P a → KBp n R (f a)) : ∀ t : KasT α, KBp n P t → KBp n R (t.bind f)
  | .ret a, h => hf a h
  | .ask i j k, h => ⟨h.1, h.2.1, fun b => KBp.bind hf (k b) (h.2.2 b)⟩
noncomputable def AllLt (p : Array Nat) (N : Nat) : Prop := 0 < N ∧ ∀ x ∈ p, x < N
theorem AllLt.get {p : Array Nat} {N : Nat} (h : AllLt p N) (i : Nat) : p.getD i 0 < N := by
  rw [Array.getD_eq_getD_getElem?]
  cases e : p[i]? with
  | none => exact h.1
  | some x => exact h.2 x (Array.mem_of_getElem? e)
theorem AllLt.rev {p : Array Nat} {N i j : Nat} (h : AllLt p N) : AllLt (kas_rev p i j) N := ⟨h.1, fun x hx => h.2 x ((mirror_perm p i j _).mem_iff.mp hx)⟩
theorem AllLt.bub {p : Array Nat} {N i j : Nat} (h : AllLt p N) : AllLt (bubble p i j) N := ⟨h.1, fun x hx => h.2 x ((bubble_perm p i j).mem_iff.mp hx)⟩
theorem ite_kb {α : Type} {n : Nat} {P : α → Prop} {c : Prop} [Decidable c] {x y : KasT α} (h1 : KBp n P x) (h2 : KBp n P y) : KBp n P (if c then x else y) := by
  by_cases h : c
  · rw [if_pos h]; exact h1
  · rw [if_neg h]; exact h2
theorem ret_kb {α : Type} {n : Nat} {P : α → Prop} {a : α} (h : P a) : KBp n P (.ret a) := h
theorem ask_kb {α : Type} {n : Nat} {P : α → Prop} {i j : Nat} {k : Bool → KasT α} (h1 : i < n) (h2 : j < n) (h : ∀ b, KBp n P (k b)) : KBp n P (.ask i j k) := ⟨h1, h2, h⟩
section
variable {N : Nat}
theorem asc_kb {p : Array Nat} (h : AllLt p N) : ∀ f n, KBp N (fun _ => True) (kas_asc p f n)
  | 0, _ => trivial
  | f + 1, n => ⟨h.get _, h.get _, fun b => ite_kb trivial (asc_kb h f (n + 1))⟩
theorem desc_kb : ∀ f (p : Array Nat) n q, AllLt p N → KBp N (fun r => AllLt r.1 N) (kas_desc f p n q)
  | 0, p, _, _, h => h
  | f + 1, p, n, q, h => ⟨h.get _, h.get _, fun b => ite_kb (ite_kb (desc_kb f _ _ _ h.rev) (desc_kb f _ _ _ h)) ⟨h.get _, h.get _, fun d => ite_kb h (desc_kb f _ _ _ h)⟩⟩
theorem tail3_kb {p : Array Nat} (h : AllLt p N) (n m : Nat) : KBp N (fun r => AllLt r.2 N) (kas_tail3 n m p) := by
  unfold kas_tail3
  exact KBp.bind (fun a _ => ret_kb (P := fun r : Nat × Array Nat => AllLt r.2 N) h.rev) _ (asc_kb h.rev _ _)
theorem descPart_kb {p : Array Nat} (h : AllLt p N) (n m : Nat) : KBp N (fun r => AllLt r.2 N) (kas_descPart n m p) := by
  unfold kas_descPart
  exact KBp.bind (fun r hr => ite_kb (tail3_kb hr.rev _ _) (tail3_kb hr _ _)) _ (desc_kb _ _ _ _ h)
theorem count_kb {p : Array Nat} (h : AllLt p N) (m : Nat) : KBp N (fun r => AllLt r.2 N) (kas_count m p) := by
  unfold kas_count
  exact KBp.bind (fun n _ => ite_kb (ret_kb (P := fun r : Nat × Array Nat => AllLt r.2 N) h) (ite_kb (ask_kb (h.get _) (h.get _) fun b => ite_kb (ret_kb (P := fun r : Nat × Array Nat => AllLt r.2 N) h) (descPart_kb h.rev _ _)) (descPart_kb h _ _))) _ (asc_kb h _ _)
theorem place_kb {p : Array Nat} (h : AllLt p N) (k : Nat) : ∀ f l r, KBp N (fun _ => True) (kas_place p k f l r)
  | 0, _, _ => trivial
  | f + 1, l, r => by
    unfold kas_place
    exact ite_kb trivial ⟨h.get _, h.get _, fun b => ite_kb (place_kb h k f _ _) (place_kb h k f _ _)⟩
theorem bin_kb : ∀ f (p : Array Nat) k, AllLt p N → KBp N (fun p => AllLt p N) (kas_bin f p k)
  | 0, p, _, h => h
  | f + 1, p, k, h => KBp.bind (fun l _ => bin_kb f _ _ h.bub) _ (place_kb h k _ _ _)
theorem sort_kb (hN : 0 < N) : KBp N (fun p => AllLt p N) (kas_sort N) := by
  have h0 : AllLt (List.toArray (List.range N)) N := ⟨hN, fun x hx => by simpa using hx⟩
  unfold kas_sort
  exact KBp.bind (fun r hr => ite_kb (bin_kb _ _ _ hr) (ret_kb hr)) _ (count_kb h0 N)
end
/-- a tree of questions by answers that a rule knows -/
theorem kas_go {α : Type} {n : Nat} {P : α → Prop} {lt : Nat → Nat → Bool} {cmp : Nat → Nat → (Bool → Shared → Prop) → Shared → Prop} {I : Shared → Prop} {Q : α → Shared → Prop}
    (hc : ∀ i j (C : Bool → Shared → Prop) s, i < n → j < n → I s → (∀ s', I s' → C (lt i j) s') → cmp i j C s) : ∀ (t : KasT α) (s : Shared), KBp n P t → I s → (∀ s', I s' → Q (krun lt t) s') → t.kasWp cmp Q s
  | .ret a, s, _, hi, hq => hq s hi
  | .ask i j k, s, hb, hi, hq => hc i j _ s hb.1 hb.2.1 hi fun s' hi' => kas_go hc (k (lt i j)) s' (hb.2.2 _) hi' hq
/-- what a stable sort by keys gives -/
structure Stab (key : Nat → Int) (N : Nat) (l : List Nat) : Prop where
  len : l.length = N
  lt : ∀ x ∈ l, x < N
  ord : l.Pairwise (before key)
theorem Pf.stab {key : Nat → Int} {p : Array Nat} {N : Nat} (x : Pf key p N N) : Stab key N p.toList := by
  have hs := x.size
  have g : ∀ i (hi : i < p.toList.length), p.toList[i] = p.getD i 0 := fun i hi => by
    have hi' : i < p.size := by simpa using hi
    simp [Array.getD, hi']
  refine ⟨by simpa using hs, fun y hy => ?_, ?_⟩
  · obtain ⟨i, hi, rfl⟩ := List.mem_iff_getElem.mp hy
    rw [g]
    exact x.lt i (by rw [Array.length_toList] at hi; lia)
  · rw [List.pairwise_iff_getElem]
    intro i j hi hj hij
    rw [g, g]
    exact x.ord i j hij (by rw [Array.length_toList] at hj; lia)
theorem before.irr {key : Nat → Int} {x : Nat} : ¬ before key x x := by unfold before; lia
theorem before.asym {key : Nat → Int} {x y : Nat} (h : before key x y) : ¬ before key y x := by unfold before at *; lia
theorem nodup_of {key : Nat → Int} {l : List Nat} (h : l.Pairwise (before key)) : l.Nodup := h.imp fun {a b} hab e => by subst e; exact before.irr hab
theorem nodup_len : ∀ (N : Nat) (l : List Nat), l.Nodup → (∀ x ∈ l, x < N) → l.length ≤ N
  | 0, l, _, h => by
    cases l with
    | nil => exact Nat.le_refl _
    | cons a r => exact absurd (h a (.head _)) (by lia)
  | N + 1, l, nd, h => by
    by_cases c : N ∈ l
    · have e := List.length_erase_of_mem c
      have := nodup_len N (l.erase N) (nd.erase N) fun x hx => by
        have hx' := (List.Nodup.mem_erase_iff nd).mp hx
        have := h x hx'.2
        lia
      lia
    · have := nodup_len N l nd fun x hx => by
        have h1 := h x hx
        have h2 : x ≠ N := fun e => c (e ▸ hx)
        lia
      lia
theorem Stab.perm {key : Nat → Int} {N : Nat} {l : List Nat} (x : Stab key N l) : l.Perm (List.range N) := by
  have nd := nodup_of x.ord
  refine (List.perm_ext_iff_of_nodup nd List.nodup_range).mpr fun a => ?_
  rw [List.mem_range]
  refine ⟨x.lt a, fun ha => ?_⟩
  apply Classical.byContradiction
  intro hn
  have h1 := nodup_len N (a :: l) (List.nodup_cons.mpr ⟨hn, nd⟩) fun y hy => by
    rcases List.mem_cons.mp hy with rfl | hy
    · exact ha
    · exact x.lt y hy
  rw [List.length_cons, x.len] at h1
  lia
/-- the same keys' order: one list alone -/
theorem stab_unique {key : Nat → Int} : ∀ {l l' : List Nat}, l.Perm l' → l.Pairwise (before key) → l'.Pairwise (before key) → l = l'
  | [], l', hp, _, _ => (List.nil_perm.mp hp).symm ▸ rfl
  | a :: r, [], hp, _, _ => by simp at hp
  | a :: r, b :: r', hp, h, h' => by
    have e : a = b := by
      rcases List.mem_cons.mp (hp.mem_iff.mp (.head _)) with e | hm
      · exact e
      · rcases List.mem_cons.mp (hp.mem_iff.mpr (.head _ : b ∈ b :: r')) with e | hm'
        · exact e.symm
        · exact absurd ((List.pairwise_cons.mp h').1 a hm) ((List.pairwise_cons.mp h).1 b hm').asym
    subst e
    rw [stab_unique ((List.perm_cons a).mp hp) (List.pairwise_cons.mp h).2 (List.pairwise_cons.mp h').2]
theorem Stab.unique {key : Nat → Int} {N : Nat} {l l' : List Nat} (x : Stab key N l) (y : Stab key N l') : l = l' := stab_unique (x.perm.trans y.perm.symm) x.ord y.ord
/-- keys that tell the places too: the same order -/
theorem Stab.lex {key key' : Nat → Int} {N : Nat} {l : List Nat} (h : ∀ i j, i < N → j < N → (key' i < key' j ↔ before key i j)) (x : Stab key' N l) : Stab key N l := by
  refine ⟨x.len, x.lt, ?_⟩
  refine (List.Pairwise.and_mem.mp x.ord).imp fun {a b} ⟨ha, hb, hab⟩ => ?_
  have la := x.lt a ha
  have lb := x.lt b hb
  rcases hab with hab | ⟨hab, hlt⟩
  · exact (h a b la lb).mp hab
  · have n1 : ¬ before key a b := fun q => by have := (h a b la lb).mpr q; lia
    have n2 : ¬ before key b a := fun q => by have := (h b a lb la).mpr q; lia
    unfold before at n1 n2
    lia
end Mine

end
section
open PySem PySem.W PyProof.Rows PySem.Calls
set_option Elab.async false
set_option linter.unusedVariables false
set_option maxRecDepth 100000
set_option pp.deepTerms false
set_option pp.maxSteps 1500
namespace Mine
/-- at work: the frozen part stands -/
structure Wk (G h : Heap) : Prop where
  sub : Sub G h
  tab : Tab h
  no16 : G.get? 16 = none
  no23 : G.get? 23 = none
theorem Wk.ext {G h h' : Heap} (x : Wk G h) (e : Ext h h') (T : Tab h') : Wk G h' :=
  ⟨fun b o eb => e b o (by rintro rfl; rw [x.no16] at eb; cases eb) (by rintro rfl; rw [x.no23] at eb; cases eb) (x.sub b o eb), T, x.no16, x.no23⟩
theorem Wk.grow {G h h' : Heap} (x : Wk G h) (e : Sub h h') : Wk G h' := x.ext (Ext.of_keeps e) (x.tab.keeps fun b o _ _ e' => e b o e')
theorem Wk.upd {G h h' : Heap} {a : Addr} {c : String} {xs : Array Value} {n : Nat} (x : Wk G h) (s : Heap.SameBut a h h') (ea : h.get? a = some (seqObj c xs n)) (hG : G.get? a = none) : Wk G h' :=
  ⟨fun b o eb => (s.2 b (by rintro rfl; rw [hG] at eb; cases eb)).trans (x.sub b o eb), x.tab.keeps fun b o us hu e => (s.2 b (ne_of_data e ea (by rw [hu]; intro h; cases h))).trans e, x.no16, x.no23⟩
theorem Wk.freeze {h : Heap} (T : Tab h) : Wk (hideAll h [16, 23]) h := ⟨fun b o e => of_hideAll _ e, T, hideAll_none _ (by simp), hideAll_none _ (by simp)⟩
section
variable {M : Model} {A : Around} {E : Value → Shared → Prop} {s₀ : Shared} {h : Heap} {tk : Nat}
theorem wp_listUpdate {a : Addr} {c : String} {xs : Array Value} {n : Nat} {f : Array Value → Array Value} {Q : Unit → Shared → Prop} (ho : h.get? a = some (seqObj c xs n)) (h1 : xs.size ≤ 1000) (h2 : (f xs).size ≤ 1000)
    (hq : ∀ h' n', h'.get? a = some (seqObj c (f xs) n') → Heap.SameBut a h h' → Q () (St s₀ h' tk)) : wpAny M A (Builtin.List.listUpdate (.ref a) f) Q E (St s₀ h tk) :=
  listUpdate_at (s := St s₀ h tk) ho rfl (hq _ _ (get?_update_seq ho f) (Heap.SameBut.update ..)) (by rw [sizeLine_eq]; lia) (by rw [sizeLine_eq]; lia)
end
/-- the things of a list -/
structure Things (h : Heap) (n : Nat) (vs : List Value) (pts : Nat → List Nat) : Prop where
  len : vs.length = n
  at_ : ∀ i, i < n → ∃ t, vs[i]? = some (.ref t) ∧ Thing h t (pts i) i
theorem Things.keeps {h h' : Heap} {n : Nat} {vs : List Value} {pts : Nat → List Nat} (x : Things h n vs pts) (s : Sub h h') : Things h' n vs pts := ⟨x.len, fun i hi => let ⟨t, e, r⟩ := x.at_ i hi; ⟨t, e, r.keeps s⟩⟩
/-- a key that the comparison tells -/
structure Tells (nn n : Nat) (pts : Nat → List Nat) (key : Nat → Int) : Prop where
  nn1 : 1 ≤ nn
  two : ∀ i j, i < n → j < n → Pts nn (pts i) (pts j)
  lt : ∀ i j r, i < n → j < n → Ordv nn (pts i) (pts j) r → (r < 0 ↔ key i < key j)
  gt : ∀ i j r, i < n → j < n → Ordv nn (pts i) (pts j) r → (r > 0 ↔ key i > key j)
/-- the keys made so far -/
noncomputable def Kys (h : Heap) (a : Addr) (vs ks : List Value) : Prop := ∀ (i : Nat) (k : Value), ks[i]? = some k → ∃ x t : Addr, k = Value.ref x ∧ vs[i]? = some (Value.ref t) ∧ KIns h a x (.ref t)
theorem Kys.keeps {h h' : Heap} {a : Addr} {vs ks : List Value} (x : Kys h a vs ks) (s : Sub h h') : Kys h' a vs ks := fun i k e => let ⟨y, t, e1, e2, r⟩ := x i k e; ⟨y, t, e1, e2, r.keeps s⟩
theorem Kys.ext {h h' : Heap} {a : Addr} {vs ks : List Value} (x : Kys h a vs ks) (T : Tab h) (e : Ext h h') : Kys h' a vs ks := fun i k e' => let ⟨y, t, e1, e2, r⟩ := x i k e'; ⟨y, t, e1, e2, r.ext T e⟩
theorem KIns.upd {h h' : Heap} {a x b : Addr} {v : Value} {c : String} {xs : Array Value} {n : Nat} (i : KIns h a x v) (s : Heap.SameBut b h h') (eb : h.get? b = some (seqObj c xs n)) : KIns h' a x v :=
  let ⟨dx, e1, e2⟩ := i; ⟨dx, (s.2 _ (ne_of_data e1 eb (fun h => nomatch h))).trans e1, (s.2 _ (ne_of_data e2 eb (fun h => nomatch h))).trans e2⟩
theorem Kys.upd {h h' : Heap} {a b : Addr} {vs ks : List Value} {c : String} {xs : Array Value} {n : Nat} (x : Kys h a vs ks) (s : Heap.SameBut b h h') (eb : h.get? b = some (seqObj c xs n)) : Kys h' a vs ks := fun i k e' => let ⟨y, t, e1, e2, r⟩ := x i k e'; ⟨y, t, e1, e2, r.upd s eb⟩
section
variable {w : World} {s₀ : Shared} {A : Around} {G h : Heap} {tk : Nat} {nn n : Nat} {a N md mc f0 f1 f2 lam cw : Addr} {vs ks : List Value} {pts : Nat → List Nat} {key : Nat → Int}
/-- a question of the sort -/
theorem askK {E : Value → Shared → Prop} {C : Bool → Shared → Prop} {i j : Nat} (hdep : A.depth + 100 < recursionLimit) (hh : A.handled = none) (hu : A.units < cLine) (S : Stat w G) (W : Wk G h) (Kx : Key w.params G nn a N md mc f0 f1 f2 lam cw) (Th : Things G n vs pts) (Te : Tells nn n pts key)
    (hk : Kys h a vs ks) (hlen : ks.length = n) (hi : i < n) (hj : j < n) (hQ : ∀ h' tk', Ext h h' → Tab h' → C (ltk key i j) (St s₀ h' tk')) : wpAny (Md w) A (keyLt' oneType' (ks.getD i Value.none) (ks.getD j Value.none)) C E (St s₀ h tk) := by
  have gi : ks[i]? = some (ks.getD i Value.none) := by simp [List.getD, hlen ▸ hi]
  have gj : ks[j]? = some (ks.getD j Value.none) := by simp [List.getD, hlen ▸ hj]
  obtain ⟨x, t, ex, et, ix⟩ := hk _ _ gi
  obtain ⟨y, u, ey, eu, iy⟩ := hk _ _ gj
  rw [ex, ey]
  obtain ⟨t', et', tt⟩ := Th.at_ i hi
  obtain ⟨u', eu', tu⟩ := Th.at_ j hj
  rw [et] at et'; cases et'
  rw [eu] at eu'; cases eu'
  have K1 := Kx.keeps W.sub
  obtain ⟨F, X, KF⟩ := K1.cls.frag
  obtain ⟨dx, I⟩ := ix.inst
  rw [keyLt'_oneType, oneLt'_eq]
  simp only [if_true]
  refine wpAny_bind (wpAny_cRoomFor hu ?_)
  refine wpAny_bind (ifBound_K (s := St s₀ h tk) X I KF.lt KF.fn1 ?_)
  refine kLt Te.nn1 (Te.two i j hi hj) hdep hh (S.keeps W.sub) W.tab K1 ix iy (tt.keeps W.sub) (tu.keeps W.sub) fun r h' tk' ho X' T' => ?_
  have e : decide (r < 0) = ltk key i j := by
    have := Te.lt i j r hi hj ho
    unfold ltk
    by_cases c : r < 0
    · rw [decide_eq_true c, decide_eq_true (this.mp c)]
    · rw [decide_eq_false c, decide_eq_false (fun q => c (this.mpr q))]
  rw [e]
  exact wpAny_truthy_bool (hQ h' tk' X' T')
end
end Mine

end
section
open PySem PySem.W PyProof.Rows PySem.Calls
set_option Elab.async false
set_option linter.unusedVariables false
set_option maxRecDepth 100000
set_option pp.deepTerms false
set_option pp.maxSteps 1500
namespace Mine
theorem sub_none {G h : Heap} (s : Sub G h) {b : Addr} (e : h.get? b = none) : G.get? b = none := Sub.none s e
section
variable {w : World} {s₀ : Shared} {A : Around} {G h : Heap} {tk : Nat} {nn n : Nat} {a N md mc f0 f1 f2 lam cw : Addr} {vs : List Value} {pts : Nat → List Nat} {key : Nat → Int}
set_option maxHeartbeats 1000000 in
theorem kSort {E : Value → Shared → Prop} {P : PySem.Fin → Shared → Prop} {D : Addr} {ep : Nat} (hdep : A.depth + 100 < recursionLimit) (hh : A.handled = none) (hu : A.units < cLine) (S : Stat w G) (W : Wk G h) (Kx : Key w.params G nn a N md mc f0 f1 f2 lam cw) (Th : Things G n vs pts) (Te : Tells nn n pts key)
    (h2 : 2 ≤ n) (h64 : n < 64) (gD : h.get? D = some (seqObj "list" vs.toArray ep)) (nD : G.get? D = none)
    (hQ : ∀ l h' c tk', Stab key n l → Wk G h' → h'.get? D = some (seqObj "list" (l.map fun i => vs.getD i Value.none).toArray c) → P (.done (.ret .none)) (St s₀ h' tk')) :
    wpAny (Md w) A (ksk_tree D (.ref a) false) P E (St s₀ h tk) := by
  have hvl := Th.len
  unfold ksk_tree
  refine wpAny_bind (listItems_at (s := St s₀ h tk) gD rfl ?_)
  refine wpAny_bind (wp_listUpdate gD (by rw [List.size_toArray]; lia) (by show 0 ≤ _; lia) fun h1 e1 g1 s1 => ?_)
  have W1 := W.upd s1 gD nD
  refine wpAny_bind (seqEpoch_at (s := St s₀ h1 tk) g1 rfl ?_)
  refine wpAny_bind (wp_newObj (by show vs.toArray.size ≤ _; rw [List.size_toArray, sizeLine_eq]; lia) rfl fun hd h2' nhd ghd k2 => ?_)
  refine wpAny_bind (wp_newObj (by show 0 ≤ _; lia) rfl fun kS h3 nkS gkS k3 => ?_)
  refine wpAny_holding ?_
  have W3 := (W1.grow k2).grow k3
  have gD3 := k3 _ _ (k2 _ _ g1)
  have nkG : G.get? kS = none := sub_none ((W1.grow k2).sub) nkS
  have kD : kS ≠ D := by rintro rfl; have := k2 _ _ g1; rw [nkS] at this; cases this
  unfold ksk_rest
  refine wpAny_bind (wpAny_rule ?_)
  first
    | rw [List.forIn_toArray]
    | (rw [← Array.forIn_toList]; simp only [List.toList_toArray])
  refine wpAny_bind (ksk_fold (fun i s' => ∃ h' tk' ks e, s' = St s₀ h' tk' ∧ Wk G h' ∧ h'.get? D = some (seqObj "list" #[] e1) ∧ h'.get? kS = some (seqObj "list" (List.toArray ks) e) ∧ ks.length = i ∧ Kys h' a vs ks) vs 0 (St s₀ h3 tk)
    ⟨h3, tk, [], 0, rfl, W3, gD3, gkS, rfl, fun i k e => by simp at e⟩ ?step ?done)
  case step =>
    rintro j x s' hx ⟨h', tk', ks, e, rfl, W', gD', gk', hl', hk'⟩
    simp only [Nat.zero_add] at hl' ⊢
    have hj : j < n := by have := (List.getElem?_eq_some_iff.mp hx).1; lia
    obtain ⟨t, et, tt⟩ := Th.at_ j hj
    rw [hx] at et; cases et
    refine wpAny_bind (wpAny_attempt ?_)
    refine kCall (by lia) (S.keeps W'.sub) W'.tab (Kx.cls.keeps W'.sub) fun y h4 tk4 ny k4 iy => ?_
    try dsimp only
    refine wpAny_bind (wp_listUpdate (k4 _ _ gk') (by rw [List.size_toArray]; lia) (by rw [Array.size_push, List.size_toArray]; lia) fun h5 e5 g5 s5 => ?_)
    have W4 := W'.grow k4
    refine wpAny_pure ⟨rfl, h5, tk4, ks ++ [.ref y], e5, rfl, W4.upd s5 (k4 _ _ gk') nkG, (s5.2 D kD.symm).trans (k4 _ _ gD'), by simpa using g5, by simp [hl'], ?_⟩
    have hk5 : Kys h5 a vs ks := (hk'.keeps k4).upd s5 (k4 _ _ gk')
    intro i k ek
    by_cases c : i < ks.length
    · rw [List.getElem?_append_left c] at ek
      exact hk5 i k ek
    · have ci : i = ks.length := by
        have := (List.getElem?_eq_some_iff.mp ek).1
        rw [List.length_append, List.length_singleton] at this
        lia
      subst ci
      simp at ek
      subst ek
      exact ⟨y, t, rfl, by rw [hl']; exact hx, iy.upd s5 (k4 _ _ gk')⟩
  case done =>
    rintro s' ⟨h', tk', ks, e, rfl, W', gD', gk', hl', hk'⟩
    have hln : ks.length = n := by lia
    try dsimp only
    refine wpAny_bind (listItems_at (s := St s₀ h' tk') gk' rfl ?_)
    have hn2 : ¬ vs.toArray.size < 2 := by rw [List.size_toArray]; lia
    unfold ksk_end
    try dsimp only
    refine wpAny_ite_false rfl ?_
    rw [if_neg hn2, if_neg hn2]
    refine wpAny_bind (kas_kind (s := St s₀ h' tk') (T := .ref a) (by lia) (fun v hv => ?_) rfl (by simp) ?_)
    · obtain ⟨i, hi, rfl⟩ := List.mem_iff_getElem.mp hv
      obtain ⟨x, t, ex, _, ix⟩ := hk' i _ (List.getElem?_eq_getElem hi)
      rw [ex]
      obtain ⟨dx, I⟩ := ix.inst
      exact I.type
    have run : (kas_sort vs.length).kasWp (kas_ask pw w A oneType' ks) (fun p s'' => ∃ h'' tk'', s'' = St s₀ h'' tk'' ∧ Stab key n p.toList ∧ Wk G h'' ∧ h''.get? D = some (seqObj "list" #[] e1) ∧ h''.get? kS = some (seqObj "list" (List.toArray ks) e)) (St s₀ h' tk') := by
      refine kas_go (n := vs.length) (lt := ltk key) (I := fun s'' => ∃ h'' tk'', s'' = St s₀ h'' tk'' ∧ Wk G h'' ∧ h''.get? D = some (seqObj "list" #[] e1) ∧ h''.get? kS = some (seqObj "list" (List.toArray ks) e) ∧ Kys h'' a vs ks) ?_ _ _ (sort_kb (by lia)) ⟨h', tk', rfl, W', gD', gk', hk'⟩ ?_
      · rintro i j C s'' hi hj ⟨h'', tk'', rfl, W'', gD'', gk'', hk''⟩ hC
        refine askK hdep hh hu S W'' Kx Th Te hk'' hln (by lia) (by lia) fun h5 tk5 X5 T5 => hC _ ⟨h5, tk5, rfl, W''.ext X5 T5, ?_, ?_, hk''.ext W''.tab X5⟩
        · exact X5 _ _ (W''.tab.t16.ne gD'' (fun _ h => nomatch h)) (W''.tab.t23.ne gD'' (fun _ h => nomatch h)) gD''
        · exact X5 _ _ (W''.tab.t16.ne gk'' (fun _ h => nomatch h)) (W''.tab.t23.ne gk'' (fun _ h => nomatch h)) gk''
      · rintro s'' ⟨h'', tk'', rfl, W'', gD'', gk'', hk''⟩
        have := (sort_run (key := key) vs.length (by lia)).stab
        rw [hvl] at this ⊢
        exact ⟨h'', tk'', rfl, this, W'', gD'', gk''⟩
    refine wpAny_bind (wpAny_mono (kat_run (Q := fun st' s' => ∃ p : Array Nat, p.size = vs.length ∧ arrOf st' = p.map (kas_item (ks.toArray.zip vs.toArray)) ∧ failedOf st' = none ∧ ∃ h'' tk'', s' = St s₀ h'' tk'' ∧ Stab key n p.toList ∧ Wk G h'' ∧ h''.get? D = some (seqObj "list" #[] e1) ∧ h''.get? kS = some (seqObj "list" (List.toArray ks) e))
      (hln.trans hvl.symm) (by lia) (by lia) (fun p' st' s' a1 a2 a3 a4 => ⟨p', a1, a2, a3, a4⟩) run) ?_ fun _ _ e => e)
    rintro ⟨⟨⟩, st'⟩ s'' ⟨p, hp, har, hf, h6, tk6, rfl, hst, W6, gD6, gk6⟩
    have hout := kat_snds (hln.trans hvl.symm) har
    unfold ksk_tail
    try dsimp only
    rw [hout]
    refine wpAny_bind (wp_listUpdate gk6 (by rw [List.size_toArray]; lia) (by show 0 ≤ _; lia) fun h7 e7 g7 s7 => ?_)
    refine wpAny_bind (wpAny_letGo ?_)
    have gD7 := (s7.2 D kD.symm).trans gD6
    have W7 := W6.upd s7 gk6 nkG
    refine wpAny_bind (seqEpoch_at (s := St s₀ h7 tk6) gD7 rfl ?_)
    refine wpAny_bind (wp_listUpdate gD7 (by show 0 ≤ _; lia) (by simp only [Bool.false_eq_true, if_false, List.size_toArray, List.length_map, Array.length_toList]; lia) fun h8 e8 g8 s8 => ?_)
    have W8 := W7.upd s8 gD7 nD
    rw [hf]
    simp only [bne_self_eq_false, Bool.false_eq_true, if_false]
    exact wpAny_pure (hQ p.toList h8 e8 tk6 hst W8 (by simpa using g8))
end
end Mine

end
section
open PySem PySem.W PyProof.Rows PySem.Calls
set_option Elab.async false
set_option linter.unusedVariables false
set_option maxRecDepth 100000
set_option pp.deepTerms false
set_option pp.maxSteps 1500
namespace Mine
section
variable {w : World} {s₀ : Shared} {A : Around} {G h : Heap} {tk : Nat} {nn n : Nat} {a N md mc f0 f1 f2 lam cw : Addr} {vs : List Value} {pts : Nat → List Nat} {key : Nat → Int}
set_option maxHeartbeats 1000000 in
theorem sortedK {E : Value → Shared → Prop} {Q : Value → Shared → Prop} {l : Addr} (hdep : A.depth + 100 < recursionLimit) (hh : A.handled = none) (hu : A.units + 10 < cLine) (S : Stat w G) (W : Wk G h) (Kx : Key w.params G nn a N md mc f0 f1 f2 lam cw) (Th : Things G n vs pts) (Te : Tells nn n pts key)
    (h2 : 2 ≤ n) (h64 : n < 64) (hl : h.IsList l vs.toArray)
    (hQ : ∀ D ps h' tk', Stab key n ps → Wk G h' → h.get? D = none → h'.IsList D (ps.map fun i => vs.getD i Value.none).toArray → Q (.ref D) (St s₀ h' tk')) :
    wpAny (Md w) A (call (.builtin "sorted") [.ref l] [(Str.ofString "key", .ref a)]) Q E (St s₀ h tk) := by
  have hvl := Th.len
  refine call_function_entry_kw kind_sorted plain_sorted entry_sorted (ksk_s1 _ _) ?_
  unfold Builtin.«sorted»
  refine wpAny_bind (m := checkCount "sorted" 1 1 _) (wpAny_pure ?_)
  refine wpAny_bind (collect_list (s := St s₀ h tk) hl ?_ (by rw [sizeLine_eq]; lia))
  obtain ⟨h1, hh1⟩ : ∃ h1, h1 = ((h.push (seqObj "list" #[] 0)).update h.objs.size (Obj.mapSeq (· ++ vs.toArray))) := ⟨_, rfl⟩
  have k1 : Sub h h1 := fun b o e => by
    have hlt : b < h.objs.size := Heap.lt_size e
    rw [hh1, Heap.get?_update_ne _ _ _ _ (Nat.ne_of_lt hlt)]
    exact Heap.get?_push_of_some _ e
  show wpAny _ _ _ _ _ (St s₀ ((h.push (seqObj "list" #[] 0)).update h.objs.size (Obj.mapSeq (· ++ vs.toArray))) tk)
  rw [← hh1]
  refine wpAny_bind (wp_newObj (by show vs.toArray.size ≤ _; rw [List.size_toArray, sizeLine_eq]; lia) rfl fun D h2' nD gD k2 => ?_)
  have W2 := (W.grow k1).grow k2
  refine wpAny_bind (wpAny_holding (wpAny_call_entry_kw slot_list_sort ⟨_, gD, rfl⟩ entry_list_sort ?body (ksk_l1 _ _)))
  case body =>
    show wpAny (Md w) A.in1.in1 (Builtin.«list.sort» ⟨[.ref D], [(Str.ofString "key", .ref a)]⟩) _ _ _
    rw [ksk_t1]
    refine kSort hdep hh (by show A.units + 1 + 1 < _; lia) S W2 Kx Th Te h2 h64 gD (sub_none (W.grow k1).sub nD) fun ps h' c tk' st W' g' => ⟨_, rfl, wpAny_pure ⟨_, rfl, ?_⟩⟩
    exact hQ D ps h' tk' st W' (sub_none k1 nD) ⟨_, g', rfl, c, rfl⟩
end
end Mine

end
section
open PySem PySem.W PyProof.Rows PySem.Calls
set_option Elab.async false
set_option linter.unusedVariables false
set_option maxRecDepth 100000
set_option pp.deepTerms false
set_option pp.maxSteps 1500
namespace Mine
/-- pairs of a number and its place -/
structure Pairs (h : Heap) (n : Nat) (vs : List Value) (num : Nat → Int) : Prop where
  len : vs.length = n
  at_ : ∀ i, i < n → ∃ t u1 u2, vs[i]? = some (.ref t) ∧ IsTup h t #[.int (num i) u1, .int i u2]
theorem Pairs.keeps {h h' : Heap} {n : Nat} {vs : List Value} {num : Nat → Int} (x : Pairs h n vs num) (s : Sub h h') : Pairs h' n vs num := ⟨x.len, fun i hi => let ⟨t, u1, u2, e, r⟩ := x.at_ i hi; ⟨t, u1, u2, e, r.keeps s⟩⟩
noncomputable def key2 (num : Nat → Int) (i : Nat) : Int := num i * 64 + i
theorem key2_lt {num : Nat → Int} {i j : Nat} (hi : i < 64) (hj : j < 64) : key2 num i < key2 num j ↔ before num i j := by
  unfold key2 before; lia
section
variable {w : World} {s₀ : Shared} {A : Around} {G h : Heap} {tk : Nat} {n : Nat} {vs : List Value} {num : Nat → Int}
theorem askT {E : Value → Shared → Prop} {C : Bool → Shared → Prop} {i j : Nat} (Pr : Pairs h n vs num) (h64 : n < 64) (hi : i < n) (hj : j < n) (hQ : C (ltk (key2 num) i j) (St s₀ h tk)) : wpAny (Md w) A (keyLt' (tuples' true) (vs.getD i Value.none) (vs.getD j Value.none)) C E (St s₀ h tk) := by
  have hlen := Pr.len
  have gi : vs[i]? = some (vs.getD i Value.none) := by simp [List.getD, hlen ▸ hi]
  have gj : vs[j]? = some (vs.getD j Value.none) := by simp [List.getD, hlen ▸ hj]
  obtain ⟨t, a1, a2, et, o1, e1, c1, n1, d1⟩ := Pr.at_ i hi
  obtain ⟨u, b1, b2, eu, o2, e2, c2, n2, d2⟩ := Pr.at_ j hj
  rw [gi] at et; rw [gj] at eu
  rw [Option.some.inj et, Option.some.inj eu]
  have k2 := key2_lt (num := num) (i := i) (j := j) (by lia) (by lia)
  refine kat_lt (s := St s₀ h tk) e1 d1 e2 d2 ?_
  show KatLex _ _ _ _ _ _ [(Value.int (num i) a1, Value.int (num j) b1), (Value.int i a2, Value.int j b2)] 0 _
  refine kat_cons (wpAny_eqBool_int ?_)
  by_cases c : num i = num j
  · have hb : (num i == num j) = true := by simpa using c
    rw [hb]
    refine kat_yes (kat_cons (wpAny_eqBool_int ?_))
    by_cases d : i = j
    · have hb : ((i : Int) == (j : Int)) = true := by rw [d]; simp
      rw [hb]
      refine kat_yes (kat_nil ?_)
      have e : ltk (key2 num) i j = decide ((#[Value.int (num i) a1, Value.int i a2] : Array Value).size < (#[Value.int (num j) b1, Value.int j b2] : Array Value).size) := by
        unfold ltk
        subst d
        rw [decide_eq_false (by lia)]
        rfl
      rw [← e]; exact hQ
    · have hb : ((i : Int) == (j : Int)) = false := by rw [beq_eq_false_iff_ne]; lia
      rw [hb]
      refine kat_no ?_
      show wpAny _ _ (oneLt' false _ _) _ _ _
      refine kat_one _ _ (lt_int ?_)
      show C (decide ((i : Int) < (j : Int))) _
      have e : ltk (key2 num) i j = decide ((i : Int) < (j : Int)) := by
        unfold ltk
        rw [decide_eq_decide, k2]
        unfold before; lia
      rw [← e]; exact hQ
  · have hb : (num i == num j) = false := by simpa using c
    rw [hb]
    refine kat_no ?_
    show wpAny _ _ (oneLt' true _ _) _ _ _
    refine oneLt_int ?_
    have e : ltk (key2 num) i j = decide (num i < num j) := by
      unfold ltk
      rw [decide_eq_decide, k2]
      unfold before; lia
    rw [← e]; exact hQ
theorem Pairs.tups {h : Heap} : ∀ {vs : List Value} {num : Nat → Int} {n k : Nat}, vs.length = n → (∀ i, i < n → ∃ t u1 u2, vs[i]? = some (.ref t) ∧ IsTup h t #[.int (num (k + i)) u1, .int (k + i : Nat) u2]) → ∃ fs, KatTups h vs fs ∧ fs.length = n ∧ ∀ v ∈ fs, ∃ x t, v = Value.int x t
  | [], num, n, k, hl, _ => ⟨[], KatTups.nil, hl, fun v hv => nomatch hv⟩
  | v :: r, num, n, k, hl, hx => by
    obtain ⟨n, rfl⟩ : ∃ m, n = m + 1 := ⟨r.length, by simpa using hl.symm⟩
    obtain ⟨t, u1, u2, e, o, e1, c1, m1, d1⟩ := hx 0 (by lia)
    simp at e
    subst e
    obtain ⟨fs, a, b, c⟩ := Pairs.tups (vs := r) (num := num) (n := n) (k := k + 1) (by simpa using hl) fun i hi => by
      obtain ⟨t, u1, u2, e, r⟩ := hx (i + 1) (by lia)
      have ek : k + (i + 1) = k + 1 + i := by lia
      rw [ek] at r
      exact ⟨t, u1, u2, by simpa using e, r⟩
    exact ⟨.int (num (k + 0)) u1 :: fs, KatTups.cons e1 c1 d1 rfl a, by simp [b], fun v hv => by
      rcases List.mem_cons.mp hv with rfl | hv
      · exact ⟨_, _, rfl⟩
      · exact c v hv⟩
set_option maxHeartbeats 1000000 in
theorem sortedT {E : Value → Shared → Prop} {Q : Value → Shared → Prop} {l : Addr} (W : Wk G h) (Pr : Pairs G n vs num) (h2 : 2 ≤ n) (h64 : n < 64) (hl : h.IsList l vs.toArray)
    (hQ : ∀ D ps h' tk', Stab num n ps → Wk G h' → Sub h h' → h.get? D = none → h'.IsList D (ps.map fun i => vs.getD i Value.none).toArray → Q (.ref D) (St s₀ h' tk')) :
    wpAny (Md w) A (call (.builtin "sorted") [.ref l]) Q E (St s₀ h tk) := by
  have hvl := Pr.len
  refine Calls.call_function_entry kind_sorted plain_sorted entry_sorted (args_sorted1 _) ?_
  unfold Builtin.«sorted»
  refine wpAny_bind (m := checkCount "sorted" 1 1 _) (wpAny_pure ?_)
  refine wpAny_bind (collect_list (s := St s₀ h tk) hl ?_ (by rw [sizeLine_eq]; lia))
  obtain ⟨h1, hh1⟩ : ∃ h1, h1 = ((h.push (seqObj "list" #[] 0)).update h.objs.size (Obj.mapSeq (· ++ vs.toArray))) := ⟨_, rfl⟩
  have k1 : Sub h h1 := fun b o e => by
    have hlt : b < h.objs.size := Heap.lt_size e
    rw [hh1, Heap.get?_update_ne _ _ _ _ (Nat.ne_of_lt hlt)]
    exact Heap.get?_push_of_some _ e
  show wpAny _ _ _ _ _ (St s₀ ((h.push (seqObj "list" #[] 0)).update h.objs.size (Obj.mapSeq (· ++ vs.toArray))) tk)
  rw [← hh1]
  refine wpAny_bind (wp_newObj (by show vs.toArray.size ≤ _; rw [List.size_toArray, sizeLine_eq]; lia) rfl fun D h2' nD gD k2 => ?_)
  have W2 := (W.grow k1).grow k2
  refine wpAny_bind (wpAny_holding (wpAny_call_entry slot_list_sort ⟨_, gD, rfl⟩ entry_list_sort ?body (args_list_sort _)))
  case body =>
    rw [list_sort_plain]
    refine wpAny_bind (listItems_at (s := St s₀ h2' tk) gD rfl ?_)
    refine wpAny_bind (wp_listUpdate gD (by rw [List.size_toArray]; lia) (by show 0 ≤ _; lia) fun h3 e3 g3 s3 => ?_)
    have nDG : G.get? D = none := sub_none (W.grow k1).sub nD
    have W3 := W2.upd s3 gD nDG
    refine wpAny_bind (seqEpoch_at (s := St s₀ h3 tk) g3 rfl ?_)
    refine wpAny_bind (wp_newObj (by show vs.toArray.size ≤ _; rw [List.size_toArray, sizeLine_eq]; lia) rfl fun hd h4 nhd ghd k4 => ?_)
    refine wpAny_bind (wp_newObj (by show 0 ≤ _; lia) rfl fun kS h5 nkS gkS k5 => ?_)
    refine wpAny_holding ?_
    have W5 := (W3.grow k4).grow k5
    have gD5 := k5 _ _ (k4 _ _ g3)
    have Pr5 := Pr.keeps W5.sub
    dsimp only
    have hn2 : ¬ vs.toArray.size < 2 := by rw [List.size_toArray]; lia
    rw [if_neg hn2, if_neg hn2]
    obtain ⟨fs, ft, fl, fi⟩ := Pairs.tups (k := 0) Pr5.len (fun i hi => by simpa using Pr5.at_ i hi)
    refine wpAny_bind (kat_kind (s := St s₀ h5 tk) (T := .type "int") ft (by lia) (fun v hv => ?_) rfl ?_)
    · obtain ⟨x, t, rfl⟩ := fi v hv
      exact Looks.of_pure rfl
    have run : (kas_sort vs.length).kasWp (kas_ask pw w A.in1.in1 (tuples' true) vs) (fun p s'' => s'' = St s₀ h5 tk ∧ Stab num n p.toList) (St s₀ h5 tk) := by
      refine kas_go (n := vs.length) (lt := ltk (key2 num)) (I := fun s'' => s'' = St s₀ h5 tk) ?_ _ _ (sort_kb (by lia)) rfl ?_
      · rintro i j C s'' hi hj rfl hC
        exact askT Pr5 h64 (by lia) (by lia) (hC _ rfl)
      · rintro s'' rfl
        have := (sort_run (key := key2 num) vs.length (by lia)).stab
        rw [hvl] at this ⊢
        exact ⟨rfl, this.lex fun i j hi hj => key2_lt (by lia) (by lia)⟩
    refine wpAny_bind (wpAny_mono (kat_run (Q := fun st' s' => ∃ p : Array Nat, p.size = vs.length ∧ arrOf st' = p.map (kas_item (vs.toArray.zip vs.toArray)) ∧ failedOf st' = none ∧ s' = St s₀ h5 tk ∧ Stab num n p.toList)
      rfl (by lia) (by lia) (fun p' st' s' a1 a2 a3 a4 => ⟨p', a1, a2, a3, a4⟩) run) ?_ fun _ _ e => e)
    rintro ⟨⟨⟩, st'⟩ s'' ⟨p, hp, har, hf, rfl, hst⟩
    have hout := kat_snds rfl har
    dsimp only
    rw [hout]
    refine wpAny_bind (seqEpoch_at (s := St s₀ h5 tk) gD5 rfl ?_)
    refine wpAny_bind (wp_listUpdate gD5 (by show 0 ≤ _; lia) (by simp only [List.size_toArray, List.length_map, Array.length_toList]; lia) fun h8 e8 g8 s8 => ?_)
    have W8 := W5.upd s8 gD5 nDG
    rw [hf]
    simp only [bne_self_eq_false, Bool.false_eq_true, if_false]
    refine wpAny_pure ⟨_, rfl, wpAny_pure ⟨_, rfl, ?_⟩⟩
    have nDh : h.get? D = none := sub_none k1 nD
    refine hQ D p.toList h8 tk hst W8 (fun b o e => ?_) nDh ⟨_, g8, rfl, e8, rfl⟩
    have bD : b ≠ D := by rintro rfl; rw [nDh] at e; cases e
    exact (s8.2 b bD).trans (k5 _ _ (k4 _ _ ((s3.2 b bD).trans (k2 _ _ (k1 _ _ e)))))
end
end Mine

end
section
open PySem PySem.W PyProof.Rows PySem.Calls
set_option Elab.async false
set_option linter.unusedVariables false
set_option maxRecDepth 100000
set_option pp.deepTerms false
set_option pp.maxSteps 1500
namespace Mine
theorem argsKey_min (a v : Value) : argsOk "min" ⟨[a], [(Str.ofString "key", v)]⟩ := by unfold argsOk; kernel_rfl
theorem argsKey_max (a v : Value) : argsOk "max" ⟨[a], [(Str.ofString "key", v)]⟩ := by unfold argsOk; kernel_rfl
theorem iter_wr {h : Heap} {I l : Addr} {j : Nat} (T : Tab h) (hit : h.IsListIter I l j) : I ≠ 16 ∧ I ≠ 23 ∧ WrOk [I] h := by
  obtain ⟨o, e, hc, hd⟩ := hit
  have ne : ∀ {P : Addr} {pos : Pos} {q : Str}, Tab1 h P pos q → I ≠ P := by
    rintro P pos q ⟨ps, e', r⟩ rfl
    rw [e] at e'; cases e'
    have hps : ps = #[.ref l, .int j 0] := by injection hd
    rcases r with rfl | ⟨c, rfl, _⟩
    · simp at hps
    · simp at hps
  refine ⟨ne T.t16, ne T.t23, fun b hb => ?_⟩
  rw [List.mem_singleton] at hb
  subst hb
  exact ⟨ne T.t16, ne T.t23, o, e, .inl ⟨_, hd, fun q t h => by simp at h⟩⟩
theorem Wk.iter {G h h' : Heap} {I l : Addr} {j : Nat} (x : Wk G h) (hit : h.IsListIter I l j) (k : ∀ b o, b ∉ [I] → h.get? b = some o → h'.get? b = some o) (hG : G.get? I = none) : Wk G h' :=
  ⟨fun b o eb => k b o (by rw [List.mem_singleton]; rintro rfl; rw [hG] at eb; cases eb) (x.sub b o eb), x.tab.wr (iter_wr x.tab hit).2.2 k, x.no16, x.no23⟩
theorem IsListIter.ext {h h' : Heap} {I l : Addr} {j : Nat} (hit : h.IsListIter I l j) (T : Tab h) (e : Ext h h') : h'.IsListIter I l j := by
  obtain ⟨h1, h2, _⟩ := iter_wr T hit
  obtain ⟨o, g, r⟩ := hit
  exact ⟨o, e _ _ h1 h2 g, r⟩
theorem KIns.iter {h h' : Heap} {a x I l : Addr} {v : Value} {j : Nat} (i : KIns h a x v) (hit : h.IsListIter I l j) (k : ∀ b o, b ∉ [I] → h.get? b = some o → h'.get? b = some o) : KIns h' a x v := by
  obtain ⟨dx, e1, e2⟩ := i
  obtain ⟨o, g, hc, hd⟩ := hit
  exact ⟨dx, k _ _ (by rw [List.mem_singleton]; exact ne_of_data e1 g (by rw [hd]; intro h; cases h)) e1, k _ _ (by rw [List.mem_singleton]; exact ne_of_data e2 g (by rw [hd]; intro h; cases h)) e2⟩
section
variable {w : World} {s₀ : Shared} {A : Around} {G h : Heap} {tk : Nat} {nn n : Nat} {a N md mc f0 f1 f2 lam cw : Addr} {vs : List Value} {pts : Nat → List Nat} {key : Nat → Int} {l I S : Addr} {R : Result → Shared → Prop}

theorem cmpLtK {E : Value → Shared → Prop} {Q : Value → Shared → Prop} {i j : Nat} {x y t u : Addr} (hdep : A.depth + 100 < recursionLimit) (hh : A.handled = none) (hu : A.units < cLine) (S : Stat w G) (W : Wk G h) (Kx : Key w.params G nn a N md mc f0 f1 f2 lam cw) (Th : Things G n vs pts) (Te : Tells nn n pts key)
    (hi : i < n) (hj : j < n) (et : vs[i]? = some (.ref t)) (eu : vs[j]? = some (.ref u)) (ix : KIns h a x (.ref t)) (iy : KIns h a y (.ref u)) (hQ : ∀ h' tk', Ext h h' → Tab h' → Q (.bool (decide (key i < key j))) (St s₀ h' tk')) :
    wpAny (Md w) A (richCompare .Lt (.ref x) (.ref y)) Q E (St s₀ h tk) := by
  obtain ⟨t', et', tt⟩ := Th.at_ i hi
  obtain ⟨u', eu', tu⟩ := Th.at_ j hj
  rw [et] at et'; cases et'
  rw [eu] at eu'; cases eu'
  have K1 := Kx.keeps W.sub
  obtain ⟨F, X, KF⟩ := K1.cls.frag
  obtain ⟨dx, I1⟩ := ix.inst
  obtain ⟨dy, I2⟩ := iy.inst
  unfold richCompare
  simp only [oneThing_ref]
  refine wpAny_holding (wpAny_bind (wpAny_cRoomFor hu ?_))
  refine wpAny_bind (Looks.here (s := St s₀ h tk) I1.type (wpAny_bind (Looks.here (s := St s₀ h tk) I2.type ?_)))
  have hne : ((Value.ref a != Value.ref a) = true) = False := by simp
  simp only [hne, if_false]
  refine wpAny_bind (wpAny_pure ?_)
  simp only [Bool.false_eq_true, if_false]
  refine wpAny_bind ?_
  unfold tryCompare
  refine wpAny_bind (ifBound_K (s := St s₀ h tk) X I1 KF.lt KF.fn1 ?_)
  refine kLt Te.nn1 (Te.two i j hi hj) hdep hh (S.keeps W.sub) W.tab K1 ix iy (tt.keeps W.sub) (tu.keeps W.sub) fun r h' tk' ho X' T' => ?_
  have e : decide (r < 0) = decide (key i < key j) := by
    have := Te.lt i j r hi hj ho
    exact decide_eq_decide.mpr this
  rw [e]
  exact wpAny_pure (wpAny_pure (hQ h' tk' X' T'))
set_option maxHeartbeats 1000000 in
theorem minLoopK (hdep : A.depth + 110 < recursionLimit) (hh : A.handled = none) (hu : A.units + 10 < cLine) (St0 : Stat w G) (Kx : Key w.params G nn a N md mc f0 f1 f2 lam cw) (Th : Things G n vs pts) (Te : Tells nn n pts key)
    (hl : G.IsList l vs.toArray) (nI : G.get? I = none) (nS : G.get? S = none) (hSI : S ≠ I) (hlI : l ≠ I) (hn64 : n < 64)
    (hR : ∀ i v h' tk', i < n → vs[i]? = some v → (∀ j, j < n → key i ≤ key j ∧ (j < i → key i < key j)) → Wk G h' → R (.ok (.ret v)) (St s₀ h' tk')) :
    ∀ (r j i : Nat) (h : Heap) (tk : Nat) (xb t : Addr) (c : Nat), n - (j + 1) = r → j + 1 ≤ n → Wk G h → h.IsListIter I l (j + 1) → h.get? S = some (seqObj "list" #[.ref t, .ref xb] c) → vs[i]? = some (.ref t) → KIns h a xb (.ref t) → i ≤ j →
      (∀ j', j' ≤ j → key i ≤ key j' ∧ (j' < i → key i < key j')) → codeAny (Md w) A (.builtin "min.loop" ⟨[.ref I, .ref a, .ref S], []⟩) R (St s₀ h tk) := by
  have hname : (toString "min" ++ toString ".loop" : String) = "min.loop" := by decide
  have Wl := Walks.list (prog := pw) (w := w) (A := A.in1) hh I l hlI vs.toArray
  have hsz : vs.toArray.size = n := by rw [List.size_toArray]; exact Th.len
  intro r
  induction r with
  | zero =>
    intro j i h tk xb t c hr hj W hit gS ei ix hij hbest
    have hin : j + 1 = n := by lia
    refine codeAny_builtin PySem.F.entry_min_loop ?_
    rw [Around.under_plainId PySem.F.plain_min_loop _]
    show wpAny _ A.in1 (seqItems? (.ref S) >>= _) _ _ _
    refine wpAny_bind (wpAny_seqItems (s := St s₀ h tk) gS rfl ?_)
    show wpAny _ A.in1 (tryCatch (pyNext (.ref I)) _ >>= _) _ _ _
    refine wpAny_bind (wpAny_tryCatch (Wl.done (St s₀ h tk) _ _ ⟨by rw [hsz, ← hin]; exact hit, IsList.keeps hl W.sub⟩ fun h' tk' hk' => ?_))
    have gS' := hk' S _ (by simpa using hSI) gS
    have W1 := W.iter hit hk' nI
    show wpAny _ A.in1 (updateSeq S (fun _ => #[]) >>= _) _ _ _
    refine wpAny_bind ?_
    refine wp_listUpdate gS' (by show 2 ≤ _; lia) (by show 0 ≤ _; lia) fun h2 c2 g2 s2 => ?_
    refine wpAny_bind (wpAny_letGo (wpAny_pure ?_))
    exact hR i _ h2 tk' (by lia) ei (fun j' hj' => hbest j' (by lia)) (W1.upd s2 gS' nS)
  | succ r ih =>
    intro j i h tk xb t c hr hj W hit gS ei ix hij hbest
    have hlt : j + 1 < n := by lia
    refine codeAny_builtin PySem.F.entry_min_loop ?_
    rw [Around.under_plainId PySem.F.plain_min_loop _]
    show wpAny _ A.in1 (seqItems? (.ref S) >>= _) _ _ _
    refine wpAny_bind (wpAny_seqItems (s := St s₀ h tk) gS rfl ?_)
    show wpAny _ A.in1 (tryCatch (pyNext (.ref I)) _ >>= _) _ _ _
    refine wpAny_bind (wpAny_tryCatch (Wl.item (j + 1) (St s₀ h tk) _ _ (by lia) ⟨hit, IsList.keeps hl W.sub⟩ fun v h' tk' hP hst' hk' => ?_))
    have gS' := hk' S _ (by simpa using hSI) gS
    have W1 := W.iter hit hk' nI
    have ix1 := ix.iter hit hk'
    have hv : vs[j + 1]? = some v := by simpa using hP
    obtain ⟨t2, et2, _⟩ := Th.at_ (j + 1) hlt
    rw [hv] at et2; cases et2
    show wpAny _ A.in1 (tryCatch (holding [.ref t2] (call (.ref a) [.ref t2])) _ >>= _) _ _ _
    refine wpAny_bind (wpAny_tryCatch (wpAny_holding (kCall (by show A.depth + 10 < _; lia) (St0.keeps W1.sub) W1.tab (Kx.cls.keeps W1.sub) fun y h2 tk2 ny k2 iy => ?_)))
    have W2 := W1.grow k2
    show wpAny _ A.in1 (tryCatch (holding [.ref t2, .ref y] (richCompare .Lt (.ref y) (.ref xb) >>= _)) _ >>= _) _ _ _
    refine wpAny_bind (wpAny_tryCatch (wpAny_holding (wpAny_bind (cmpLtK (by show A.depth + 100 < _; lia) hh (by show A.units + 1 < _; lia) St0 W2 Kx Th Te hlt (by lia) hv ei iy (ix1.keeps k2) fun h3 tk3 X3 T3 => ?_))))
    refine wpAny_bind (wpAny_holding (wpAny_truthy_bool ?_))
    refine wpAny_bind (wpAny_letGo (wpAny_pure ?_))
    have W3 := W2.ext X3 T3
    have gS2 := k2 _ _ gS'
    have gS3 := X3 _ _ (W2.tab.t16.ne gS2 (fun _ h => nomatch h)) (W2.tab.t23.ne gS2 (fun _ h => nomatch h)) gS2
    have hit2 : h2.IsListIter I l (j + 1 + 1) := let ⟨o, e, r⟩ := hst'.1; ⟨o, k2 _ _ e, r⟩
    have hit3 := IsListIter.ext hit2 W2.tab X3
    by_cases hb : key (j + 1) < key i
    · rw [decide_eq_true hb]
      simp only [if_true]
      refine wpAny_bind ?_
      refine wp_listUpdate gS3 (by show 2 ≤ _; lia) (by show 2 ≤ _; lia) fun h4 c4 g4 s4 => ?_
      refine wpAny_bind (wpAny_letGo ?_)
      rw [hname]
      have hit4 : h4.IsListIter I l (j + 1 + 1) := by
        obtain ⟨o, e, r⟩ := hit3
        exact ⟨o, (s4.2 I hSI.symm).trans e, r⟩
      refine wpAny_pure ⟨plainId_quiet PySem.F.plain_min_loop _, ih (j + 1) (j + 1) h4 tk3 y t2 c4 (by lia) hlt (W3.upd s4 gS3 nS) hit4 g4 hv ((iy.ext W2.tab X3).upd s4 gS3) (Nat.le_refl _) fun j' hj' => ?_⟩
      by_cases cj : j' = j + 1
      · subst cj; exact ⟨by lia, fun h => by lia⟩
      · have := hbest j' (by lia)
        exact ⟨by lia, fun _ => by lia⟩
    · rw [decide_eq_false hb]
      simp only [Bool.false_eq_true, if_false]
      refine wpAny_bind (wpAny_letGo ?_)
      rw [hname]
      refine wpAny_pure ⟨plainId_quiet PySem.F.plain_min_loop _, ih (j + 1) i h3 tk3 xb t c (by lia) hlt W3 hit3 gS3 ei ((ix1.keeps k2).ext W2.tab X3) (by lia) fun j' hj' => ?_⟩
      by_cases cj : j' = j + 1
      · subst cj; exact ⟨by lia, fun h => by lia⟩
      · exact hbest j' (by lia)
set_option maxHeartbeats 1000000 in
theorem minK {E : Value → Shared → Prop} {Q : Value → Shared → Prop} (hdep : A.depth + 110 < recursionLimit) (hh : A.handled = none) (hu : A.units + 10 < cLine) (St0 : Stat w G) (W : Wk G h) (Kx : Key w.params G nn a N md mc f0 f1 f2 lam cw) (Th : Things G n vs pts) (Te : Tells nn n pts key)
    (hl : G.IsList l vs.toArray) (hn : 0 < n) (hn64 : n < 64)
    (hQ : ∀ i v h' tk', i < n → vs[i]? = some v → (∀ j, j < n → key i ≤ key j ∧ (j < i → key i < key j)) → Wk G h' → Q v (St s₀ h' tk')) :
    wpAny (Md w) A (call (.builtin "min") [.ref l] [(Str.ofString "key", .ref a)]) Q E (St s₀ h tk) := by
  have hname : (toString "min" ++ toString ".loop" : String) = "min.loop" := by decide
  refine kmk_tree PySem.F.kind_min PySem.F.plain_min PySem.F.entry_min (argsKey_min _ _) ?_
  show wpAny _ A.in1 (Builtin.Builtins.bindParams "min" ["key", "default"] 0 ⟨[], [(Str.ofString "key", .ref a)]⟩ >>= _) _ _ _
  refine wpAny_bind (wpAny_of_eq (show Builtin.Builtins.bindParams "min" ["key", "default"] 0 ⟨[], [(Str.ofString "key", .ref a)]⟩ = pure [some (.ref a), none] from rfl) ?_)
  refine wpAny_bind (wpAny_pure ?_)
  have hl1 := IsList.keeps hl W.sub
  refine wpAny_bind (wpAny_pyIter_list (s := St s₀ h tk) hl1 ?_)
  obtain ⟨I, hI⟩ : ∃ I, I = h.objs.size := ⟨_, rfl⟩
  obtain ⟨h1, hh1⟩ : ∃ h1, h1 = h.push { cls := .type "list_iterator", data := .fields #[.ref l, .int 0 0] } := ⟨_, rfl⟩
  have k1 : Sub h h1 := fun b o e => by rw [hh1]; exact Heap.get?_push_of_some _ e
  have gI : h1.get? I = some { cls := .type "list_iterator", data := .fields #[.ref l, .int 0 0] } := by rw [hh1, hI]; exact Heap.get?_push_size _ rfl
  have nIh : h.get? I = none := by rw [hI]; exact Heap.get?_none_of_le (Nat.le_refl _)
  dsimp only
  rw [← hI, ← hh1]
  refine wpAny_bind (wp_newObj (s₀ := s₀) (h := h1) (tk := tk) (by show 0 ≤ _; lia) rfl fun S h2 nS gS k2 => ?_)
  have W2 := (W.grow k1).grow k2
  have nI : G.get? I = none := sub_none W.sub nIh
  have nSG : G.get? S = none := sub_none (W.grow k1).sub nS
  have hSI : S ≠ I := by rintro rfl; rw [nS] at gI; cases gI
  have hlI : l ≠ I := by
    rintro rfl
    obtain ⟨o, e, _⟩ := hl1
    rw [nIh] at e; cases e
  have Wl := Walks.list (prog := pw) (w := w) (A := A.in1) hh I l hlI vs.toArray
  have hsz : vs.toArray.size = n := by rw [List.size_toArray]; exact Th.len
  have hit : h2.IsListIter I l 0 := ⟨_, k2 _ _ gI, rfl, rfl⟩
  rw [hname]
  refine wpAny_pure ⟨plainId_quiet PySem.F.plain_min_loop _, ?_⟩
  refine codeAny_builtin PySem.F.entry_min_loop ?_
  rw [Around.under_plainId PySem.F.plain_min_loop _]
  show wpAny _ A.in1 (seqItems? (.ref S) >>= _) _ _ _
  refine wpAny_bind (wpAny_seqItems (s := St s₀ h2 tk) gS rfl ?_)
  show wpAny _ A.in1 (tryCatch (pyNext (.ref I)) _ >>= _) _ _ _
  refine wpAny_bind (wpAny_tryCatch (Wl.item 0 (St s₀ h2 tk) _ _ (by lia) ⟨hit, IsList.keeps hl W2.sub⟩ fun v h' tk' hP hst' hk' => ?_))
  have gS' := hk' S _ (by simpa using hSI) gS
  have W3 := W2.iter hit hk' nI
  have hv : vs[0]? = some v := by simpa using hP
  obtain ⟨t2, et2, _⟩ := Th.at_ 0 hn
  rw [hv] at et2; cases et2
  show wpAny _ A.in1 (tryCatch (holding [.ref t2] (call (.ref a) [.ref t2])) _ >>= _) _ _ _
  refine wpAny_bind (wpAny_tryCatch (wpAny_holding (kCall (by show A.depth + 10 < _; lia) (St0.keeps W3.sub) W3.tab (Kx.cls.keeps W3.sub) fun y h4 tk4 ny k4 iy => ?_)))
  have W4 := W3.grow k4
  show wpAny _ A.in1 (updateSeq S (fun _ => #[.ref t2, .ref y]) >>= _) _ _ _
  refine wpAny_bind ?_
  refine wp_listUpdate (k4 _ _ gS') (by show 0 ≤ _; lia) (by show 2 ≤ _; lia) fun h5 c5 g5 s5 => ?_
  rw [hname]
  have hit5 : h5.IsListIter I l (0 + 1) := by
    obtain ⟨o, e, r⟩ := hst'.1
    exact ⟨o, (s5.2 I hSI.symm).trans (k4 _ _ e), r⟩
  refine wpAny_pure ⟨plainId_quiet PySem.F.plain_min_loop _, minLoopK hdep hh hu St0 Kx Th Te hl nI nSG hSI hlI hn64 (fun i v h' tk' h_1 h_2 h_3 h_4 => hQ i v h' tk' h_1 h_2 h_3 h_4) (n - 1) 0 0 h5 tk4 y t2 c5 rfl hn (W4.upd s5 (k4 _ _ gS') nSG) hit5 g5 hv (iy.upd s5 (k4 _ _ gS')) (Nat.le_refl _) fun j' hj' => ?_⟩
  obtain rfl : j' = 0 := by lia
  exact ⟨by lia, fun h => by lia⟩

theorem cmpGtK {E : Value → Shared → Prop} {Q : Value → Shared → Prop} {i j : Nat} {x y t u : Addr} (hdep : A.depth + 100 < recursionLimit) (hh : A.handled = none) (hu : A.units < cLine) (S : Stat w G) (W : Wk G h) (Kx : Key w.params G nn a N md mc f0 f1 f2 lam cw) (Th : Things G n vs pts) (Te : Tells nn n pts key)
    (hi : i < n) (hj : j < n) (et : vs[i]? = some (.ref t)) (eu : vs[j]? = some (.ref u)) (ix : KIns h a x (.ref t)) (iy : KIns h a y (.ref u)) (hQ : ∀ h' tk', Ext h h' → Tab h' → Q (.bool (decide (key i > key j))) (St s₀ h' tk')) :
    wpAny (Md w) A (richCompare .Gt (.ref x) (.ref y)) Q E (St s₀ h tk) := by
  obtain ⟨t', et', tt⟩ := Th.at_ i hi
  obtain ⟨u', eu', tu⟩ := Th.at_ j hj
  rw [et] at et'; cases et'
  rw [eu] at eu'; cases eu'
  have K1 := Kx.keeps W.sub
  obtain ⟨F, X, KF⟩ := K1.cls.frag
  obtain ⟨dx, I1⟩ := ix.inst
  obtain ⟨dy, I2⟩ := iy.inst
  unfold richCompare
  simp only [oneThing_ref]
  refine wpAny_holding (wpAny_bind (wpAny_cRoomFor hu ?_))
  refine wpAny_bind (Looks.here (s := St s₀ h tk) I1.type (wpAny_bind (Looks.here (s := St s₀ h tk) I2.type ?_)))
  have hne : ((Value.ref a != Value.ref a) = true) = False := by simp
  simp only [hne, if_false]
  refine wpAny_bind (wpAny_pure ?_)
  simp only [Bool.false_eq_true, if_false]
  refine wpAny_bind ?_
  unfold tryCompare
  refine wpAny_bind (ifBound_K (s := St s₀ h tk) X I1 KF.gt KF.fn2 ?_)
  refine kGt Te.nn1 (Te.two i j hi hj) hdep hh (S.keeps W.sub) W.tab K1 ix iy (tt.keeps W.sub) (tu.keeps W.sub) fun r h' tk' ho X' T' => ?_
  have e : decide (r > 0) = decide (key i > key j) := by
    have := Te.gt i j r hi hj ho
    exact decide_eq_decide.mpr this
  rw [e]
  exact wpAny_pure (wpAny_pure (hQ h' tk' X' T'))
set_option maxHeartbeats 1000000 in
theorem maxLoopK (hdep : A.depth + 110 < recursionLimit) (hh : A.handled = none) (hu : A.units + 10 < cLine) (St0 : Stat w G) (Kx : Key w.params G nn a N md mc f0 f1 f2 lam cw) (Th : Things G n vs pts) (Te : Tells nn n pts key)
    (hl : G.IsList l vs.toArray) (nI : G.get? I = none) (nS : G.get? S = none) (hSI : S ≠ I) (hlI : l ≠ I) (hn64 : n < 64)
    (hR : ∀ i v h' tk', i < n → vs[i]? = some v → (∀ j, j < n → key i ≥ key j ∧ (j < i → key i > key j)) → Wk G h' → R (.ok (.ret v)) (St s₀ h' tk')) :
    ∀ (r j i : Nat) (h : Heap) (tk : Nat) (xb t : Addr) (c : Nat), n - (j + 1) = r → j + 1 ≤ n → Wk G h → h.IsListIter I l (j + 1) → h.get? S = some (seqObj "list" #[.ref t, .ref xb] c) → vs[i]? = some (.ref t) → KIns h a xb (.ref t) → i ≤ j →
      (∀ j', j' ≤ j → key i ≥ key j' ∧ (j' < i → key i > key j')) → codeAny (Md w) A (.builtin "max.loop" ⟨[.ref I, .ref a, .ref S], []⟩) R (St s₀ h tk) := by
  have hname : (toString "max" ++ toString ".loop" : String) = "max.loop" := by decide
  have Wl := Walks.list (prog := pw) (w := w) (A := A.in1) hh I l hlI vs.toArray
  have hsz : vs.toArray.size = n := by rw [List.size_toArray]; exact Th.len
  intro r
  induction r with
  | zero =>
    intro j i h tk xb t c hr hj W hit gS ei ix hij hbest
    have hin : j + 1 = n := by lia
    refine codeAny_builtin PySem.F.entry_max_loop ?_
    rw [Around.under_plainId PySem.F.plain_max_loop _]
    show wpAny _ A.in1 (seqItems? (.ref S) >>= _) _ _ _
    refine wpAny_bind (wpAny_seqItems (s := St s₀ h tk) gS rfl ?_)
    show wpAny _ A.in1 (tryCatch (pyNext (.ref I)) _ >>= _) _ _ _
    refine wpAny_bind (wpAny_tryCatch (Wl.done (St s₀ h tk) _ _ ⟨by rw [hsz, ← hin]; exact hit, IsList.keeps hl W.sub⟩ fun h' tk' hk' => ?_))
    have gS' := hk' S _ (by simpa using hSI) gS
    have W1 := W.iter hit hk' nI
    show wpAny _ A.in1 (updateSeq S (fun _ => #[]) >>= _) _ _ _
    refine wpAny_bind ?_
    refine wp_listUpdate gS' (by show 2 ≤ _; lia) (by show 0 ≤ _; lia) fun h2 c2 g2 s2 => ?_
    refine wpAny_bind (wpAny_letGo (wpAny_pure ?_))
    exact hR i _ h2 tk' (by lia) ei (fun j' hj' => hbest j' (by lia)) (W1.upd s2 gS' nS)
  | succ r ih =>
    intro j i h tk xb t c hr hj W hit gS ei ix hij hbest
    have hlt : j + 1 < n := by lia
    refine codeAny_builtin PySem.F.entry_max_loop ?_
    rw [Around.under_plainId PySem.F.plain_max_loop _]
    show wpAny _ A.in1 (seqItems? (.ref S) >>= _) _ _ _
    refine wpAny_bind (wpAny_seqItems (s := St s₀ h tk) gS rfl ?_)
    show wpAny _ A.in1 (tryCatch (pyNext (.ref I)) _ >>= _) _ _ _
    refine wpAny_bind (wpAny_tryCatch (Wl.item (j + 1) (St s₀ h tk) _ _ (by lia) ⟨hit, IsList.keeps hl W.sub⟩ fun v h' tk' hP hst' hk' => ?_))
    have gS' := hk' S _ (by simpa using hSI) gS
    have W1 := W.iter hit hk' nI
    have ix1 := ix.iter hit hk'
    have hv : vs[j + 1]? = some v := by simpa using hP
    obtain ⟨t2, et2, _⟩ := Th.at_ (j + 1) hlt
    rw [hv] at et2; cases et2
    show wpAny _ A.in1 (tryCatch (holding [.ref t2] (call (.ref a) [.ref t2])) _ >>= _) _ _ _
    refine wpAny_bind (wpAny_tryCatch (wpAny_holding (kCall (by show A.depth + 10 < _; lia) (St0.keeps W1.sub) W1.tab (Kx.cls.keeps W1.sub) fun y h2 tk2 ny k2 iy => ?_)))
    have W2 := W1.grow k2
    show wpAny _ A.in1 (tryCatch (holding [.ref t2, .ref y] (richCompare .Gt (.ref y) (.ref xb) >>= _)) _ >>= _) _ _ _
    refine wpAny_bind (wpAny_tryCatch (wpAny_holding (wpAny_bind (cmpGtK (by show A.depth + 100 < _; lia) hh (by show A.units + 1 < _; lia) St0 W2 Kx Th Te hlt (by lia) hv ei iy (ix1.keeps k2) fun h3 tk3 X3 T3 => ?_))))
    refine wpAny_bind (wpAny_holding (wpAny_truthy_bool ?_))
    refine wpAny_bind (wpAny_letGo (wpAny_pure ?_))
    have W3 := W2.ext X3 T3
    have gS2 := k2 _ _ gS'
    have gS3 := X3 _ _ (W2.tab.t16.ne gS2 (fun _ h => nomatch h)) (W2.tab.t23.ne gS2 (fun _ h => nomatch h)) gS2
    have hit2 : h2.IsListIter I l (j + 1 + 1) := let ⟨o, e, r⟩ := hst'.1; ⟨o, k2 _ _ e, r⟩
    have hit3 := IsListIter.ext hit2 W2.tab X3
    by_cases hb : key (j + 1) > key i
    · rw [decide_eq_true hb]
      simp only [if_true]
      refine wpAny_bind ?_
      refine wp_listUpdate gS3 (by show 2 ≤ _; lia) (by show 2 ≤ _; lia) fun h4 c4 g4 s4 => ?_
      refine wpAny_bind (wpAny_letGo ?_)
      rw [hname]
      have hit4 : h4.IsListIter I l (j + 1 + 1) := by
        obtain ⟨o, e, r⟩ := hit3
        exact ⟨o, (s4.2 I hSI.symm).trans e, r⟩
      refine wpAny_pure ⟨plainId_quiet PySem.F.plain_max_loop _, ih (j + 1) (j + 1) h4 tk3 y t2 c4 (by lia) hlt (W3.upd s4 gS3 nS) hit4 g4 hv ((iy.ext W2.tab X3).upd s4 gS3) (Nat.le_refl _) fun j' hj' => ?_⟩
      by_cases cj : j' = j + 1
      · subst cj; exact ⟨by lia, fun h => by lia⟩
      · have := hbest j' (by lia)
        exact ⟨by lia, fun _ => by lia⟩
    · rw [decide_eq_false hb]
      simp only [Bool.false_eq_true, if_false]
      refine wpAny_bind (wpAny_letGo ?_)
      rw [hname]
      refine wpAny_pure ⟨plainId_quiet PySem.F.plain_max_loop _, ih (j + 1) i h3 tk3 xb t c (by lia) hlt W3 hit3 gS3 ei ((ix1.keeps k2).ext W2.tab X3) (by lia) fun j' hj' => ?_⟩
      by_cases cj : j' = j + 1
      · subst cj; exact ⟨by lia, fun h => by lia⟩
      · exact hbest j' (by lia)
set_option maxHeartbeats 1000000 in
theorem maxK {E : Value → Shared → Prop} {Q : Value → Shared → Prop} (hdep : A.depth + 110 < recursionLimit) (hh : A.handled = none) (hu : A.units + 10 < cLine) (St0 : Stat w G) (W : Wk G h) (Kx : Key w.params G nn a N md mc f0 f1 f2 lam cw) (Th : Things G n vs pts) (Te : Tells nn n pts key)
    (hl : G.IsList l vs.toArray) (hn : 0 < n) (hn64 : n < 64)
    (hQ : ∀ i v h' tk', i < n → vs[i]? = some v → (∀ j, j < n → key i ≥ key j ∧ (j < i → key i > key j)) → Wk G h' → Q v (St s₀ h' tk')) :
    wpAny (Md w) A (call (.builtin "max") [.ref l] [(Str.ofString "key", .ref a)]) Q E (St s₀ h tk) := by
  have hname : (toString "max" ++ toString ".loop" : String) = "max.loop" := by decide
  refine kmk_tree PySem.F.kind_max PySem.F.plain_max PySem.F.entry_max (argsKey_max _ _) ?_
  show wpAny _ A.in1 (Builtin.Builtins.bindParams "max" ["key", "default"] 0 ⟨[], [(Str.ofString "key", .ref a)]⟩ >>= _) _ _ _
  refine wpAny_bind (wpAny_of_eq (show Builtin.Builtins.bindParams "max" ["key", "default"] 0 ⟨[], [(Str.ofString "key", .ref a)]⟩ = pure [some (.ref a), none] from rfl) ?_)
  refine wpAny_bind (wpAny_pure ?_)
  have hl1 := IsList.keeps hl W.sub
  refine wpAny_bind (wpAny_pyIter_list (s := St s₀ h tk) hl1 ?_)
  obtain ⟨I, hI⟩ : ∃ I, I = h.objs.size := ⟨_, rfl⟩
  obtain ⟨h1, hh1⟩ : ∃ h1, h1 = h.push { cls := .type "list_iterator", data := .fields #[.ref l, .int 0 0] } := ⟨_, rfl⟩
  have k1 : Sub h h1 := fun b o e => by rw [hh1]; exact Heap.get?_push_of_some _ e
  have gI : h1.get? I = some { cls := .type "list_iterator", data := .fields #[.ref l, .int 0 0] } := by rw [hh1, hI]; exact Heap.get?_push_size _ rfl
  have nIh : h.get? I = none := by rw [hI]; exact Heap.get?_none_of_le (Nat.le_refl _)
  dsimp only
  rw [← hI, ← hh1]
  refine wpAny_bind (wp_newObj (s₀ := s₀) (h := h1) (tk := tk) (by show 0 ≤ _; lia) rfl fun S h2 nS gS k2 => ?_)
  have W2 := (W.grow k1).grow k2
  have nI : G.get? I = none := sub_none W.sub nIh
  have nSG : G.get? S = none := sub_none (W.grow k1).sub nS
  have hSI : S ≠ I := by rintro rfl; rw [nS] at gI; cases gI
  have hlI : l ≠ I := by
    rintro rfl
    obtain ⟨o, e, _⟩ := hl1
    rw [nIh] at e; cases e
  have Wl := Walks.list (prog := pw) (w := w) (A := A.in1) hh I l hlI vs.toArray
  have hsz : vs.toArray.size = n := by rw [List.size_toArray]; exact Th.len
  have hit : h2.IsListIter I l 0 := ⟨_, k2 _ _ gI, rfl, rfl⟩
  rw [hname]
  refine wpAny_pure ⟨plainId_quiet PySem.F.plain_max_loop _, ?_⟩
  refine codeAny_builtin PySem.F.entry_max_loop ?_
  rw [Around.under_plainId PySem.F.plain_max_loop _]
  show wpAny _ A.in1 (seqItems? (.ref S) >>= _) _ _ _
  refine wpAny_bind (wpAny_seqItems (s := St s₀ h2 tk) gS rfl ?_)
  show wpAny _ A.in1 (tryCatch (pyNext (.ref I)) _ >>= _) _ _ _
  refine wpAny_bind (wpAny_tryCatch (Wl.item 0 (St s₀ h2 tk) _ _ (by lia) ⟨hit, IsList.keeps hl W2.sub⟩ fun v h' tk' hP hst' hk' => ?_))
  have gS' := hk' S _ (by simpa using hSI) gS
  have W3 := W2.iter hit hk' nI
  have hv : vs[0]? = some v := by simpa using hP
  obtain ⟨t2, et2, _⟩ := Th.at_ 0 hn
  rw [hv] at et2; cases et2
  show wpAny _ A.in1 (tryCatch (holding [.ref t2] (call (.ref a) [.ref t2])) _ >>= _) _ _ _
  refine wpAny_bind (wpAny_tryCatch (wpAny_holding (kCall (by show A.depth + 10 < _; lia) (St0.keeps W3.sub) W3.tab (Kx.cls.keeps W3.sub) fun y h4 tk4 ny k4 iy => ?_)))
  have W4 := W3.grow k4
  show wpAny _ A.in1 (updateSeq S (fun _ => #[.ref t2, .ref y]) >>= _) _ _ _
  refine wpAny_bind ?_
  refine wp_listUpdate (k4 _ _ gS') (by show 0 ≤ _; lia) (by show 2 ≤ _; lia) fun h5 c5 g5 s5 => ?_
  rw [hname]
  have hit5 : h5.IsListIter I l (0 + 1) := by
    obtain ⟨o, e, r⟩ := hst'.1
    exact ⟨o, (s5.2 I hSI.symm).trans (k4 _ _ e), r⟩
  refine wpAny_pure ⟨plainId_quiet PySem.F.plain_max_loop _, maxLoopK hdep hh hu St0 Kx Th Te hl nI nSG hSI hlI hn64 (fun i v h' tk' h_1 h_2 h_3 h_4 => hQ i v h' tk' h_1 h_2 h_3 h_4) (n - 1) 0 0 h5 tk4 y t2 c5 rfl hn (W4.upd s5 (k4 _ _ gS') nSG) hit5 g5 hv (iy.upd s5 (k4 _ _ gS')) (Nat.le_refl _) fun j' hj' => ?_⟩
  obtain rfl : j' = 0 := by lia
  exact ⟨by lia, fun h => by lia⟩
end
end Mine

end
section
open PySem PySem.W PyProof.Rows PySem.Calls
set_option Elab.async false
set_option linter.unusedVariables false
namespace Mine
/-- the digit of a at place i -/
noncomputable def dgt (nn a i : Nat) : Nat := a / 2 ^ (nn * i) % 2 ^ nn
theorem dgt_lt (nn a i : Nat) : dgt nn a i < 2 ^ nn := Nat.mod_lt _ (Nat.two_pow_pos _)
theorem nd_le_iff {nn a t : Nat} (hn : 1 ≤ nn) : nd nn a ≤ t ↔ a < 2 ^ (nn * t) := by
  constructor
  · intro h
    exact Nat.lt_of_lt_of_le (lt_nd hn) (Nat.pow_le_pow_right (by decide) (Nat.mul_le_mul_left _ h))
  · intro h
    have h1 : Builtin.Int.intBits (a : Int) ≤ nn * t := (intBits_le_iff (m := nn * t) (x := (a : Int))).mpr (by simpa using h)
    unfold nd
    rw [Nat.div_le_iff_le_mul_add_pred (by lia)]
    lia
theorem dgt_zero {nn a i : Nat} (h : a < 2 ^ (nn * i)) : dgt nn a i = 0 := by
  unfold dgt; rw [Nat.div_eq_of_lt h]; simp
theorem dgt_zero_ge {nn a i j : Nat} (h : a < 2 ^ (nn * i)) (hij : i ≤ j) : dgt nn a j = 0 := dgt_zero (Nat.lt_of_lt_of_le h (Nat.pow_le_pow_right (by decide) (Nat.mul_le_mul_left _ hij)))
theorem dg_get (nn : Nat) : ∀ k x i, i < k → (dg nn k x)[i]? = some ((dgt nn x i : Nat) : Int)
  | 0, _, _, h => by lia
  | k + 1, x, 0, _ => by simp [dg, dgt]
  | k + 1, x, i + 1, h => by
    rw [dg, List.getElem?_cons_succ, dg_get nn k _ i (by lia)]
    unfold dgt
    rw [Nat.div_div_eq_div_mul, ← Nat.pow_add, Nat.mul_add, Nat.mul_one, Nat.add_comm nn]
theorem at0_digs {nn a : Nat} (hn : 1 ≤ nn) (i : Nat) : at0 (digs nn a) i = ((dgt nn a i : Nat) : Int) := by
  unfold at0 digs
  by_cases h : i < nd nn a
  · rw [List.getD_eq_getElem?_getD, dg_get nn _ _ _ h]; rfl
  · rw [List.getD_eq_getElem?_getD, List.getElem?_eq_none (by rw [dg_length]; lia), dgt_zero_ge (lt_nd hn) (by lia)]; rfl
theorem weave_wv {nn : Nat} (hn : 1 ≤ nn) (ps : List Nat) : ∀ k, weave (ps.map (digs nn)) k = wv nn ps k
  | 0 => rfl
  | k + 1 => by
    rw [weave, wv, weave_wv hn ps k]
    congr 1
    rw [← List.map_reverse, List.map_map]
    unfold rnd
    refine List.map_congr_left fun a _ => ?_
    exact at0_digs hn k
noncomputable def top (nn : Nat) (ps : List Nat) : Nat := maxLen (ps.map (digs nn))
theorem maxLen_ge {r : List Int} : ∀ {rs : List (List Int)}, r ∈ rs → r.length ≤ maxLen rs
  | a :: b, h => by
    rcases List.mem_cons.mp h with rfl | h
    · exact Nat.le_max_left _ _
    · exact Nat.le_trans (maxLen_ge h) (Nat.le_max_right _ _)
theorem top_lt {nn : Nat} (hn : 1 ≤ nn) {ps : List Nat} {a : Nat} (h : a ∈ ps) : a < 2 ^ (nn * top nn ps) := by
  refine (nd_le_iff hn).mp ?_
  have := maxLen_ge (List.mem_map_of_mem (f := digs nn) h)
  unfold digs at this
  rw [dg_length] at this
  exact this
theorem top_le {nn t : Nat} (hn : 1 ≤ nn) {ps : List Nat} (h : ∀ a ∈ ps, a < 2 ^ (nn * t)) : top nn ps ≤ t := by
  refine maxLen_le fun r hr => ?_
  obtain ⟨a, ha, rfl⟩ := List.mem_map.mp hr
  unfold digs
  rw [dg_length]
  exact (nd_le_iff hn).mpr (h a ha)
theorem wv_digs (nn : Nat) (ps : List Nat) : ∀ k, Digs nn (wv nn ps k)
  | 0 => fun d hd => by simp [wv] at hd
  | k + 1 => fun d hd => by
    rw [wv, List.mem_append] at hd
    rcases hd with hd | hd
    · exact wv_digs nn ps k d hd
    · unfold rnd at hd
      obtain ⟨a, _, rfl⟩ := List.mem_map.mp hd
      have := dgt_lt nn a k
      unfold dgt at this
      rw [two_pow]; lia
/-- the digit in a round's list -/
theorem wv_get {nn : Nat} {ps : List Nat} (hl : 0 < ps.length) : ∀ J m, m < J * ps.length → (wv nn ps J)[m]? = some ((dgt nn (ps.getD (ps.length - 1 - m % ps.length) 0) (m / ps.length) : Nat) : Int)
  | 0, m, h => by lia
  | J + 1, m, h => by
    rw [wv]
    by_cases c : m < J * ps.length
    · rw [List.getElem?_append_left (by rw [wv_length]; exact c)]
      exact wv_get hl J m c
    · rw [List.getElem?_append_right (by rw [wv_length]; lia), wv_length]
      have hm : m = J * ps.length + (m - J * ps.length) := by lia
      have hlt : m - J * ps.length < ps.length := by rw [Nat.succ_mul] at h; lia
      have e1 : m / ps.length = J := Nat.div_eq_of_lt_le (by lia) h
      have e2 : m % ps.length = m - J * ps.length := by
        have := Nat.div_add_mod m ps.length
        rw [e1] at this
        rw [Nat.mul_comm] at this
        lia
      unfold rnd
      rw [List.getElem?_map, List.getElem?_reverse hlt, e1, e2]
      have hx : ps.length - 1 - (m - J * ps.length) < ps.length := by lia
      rw [List.getElem?_eq_getElem hx]
      simp [dgt, List.getD, List.getElem?_eq_getElem hx]
/-- the number of a point -/
noncomputable def num (nn : Nat) (ps : List Nat) : Int := und nn (wv nn ps (top nn ps))
theorem num_bound (nn : Nat) (ps : List Nat) : 0 ≤ num nn ps ∧ num nn ps < 2 ^ (nn * (top nn ps * ps.length)) := by
  have := und_bound nn (wv nn ps (top nn ps)) (wv_digs nn ps _)
  rw [wv_length] at this
  exact this
theorem num_at {nn J : Nat} (hn : 1 ≤ nn) {ps : List Nat} (h : top nn ps ≤ J) : und nn (wv nn ps J) = num nn ps := by
  obtain ⟨d, rfl⟩ : ∃ d, J = top nn ps + d := ⟨J - top nn ps, by lia⟩
  exact wv_more (fun a ha => Nat.div_eq_of_lt (top_lt hn ha)) d
end Mine

end
section
open PySem PySem.W PyProof.Rows PySem.Calls
set_option Elab.async false
set_option linter.unusedVariables false
namespace Mine
theorem und_lex {nn : Nat} {l1 l2 H : List Int} {x y : Int} (h1 : Digs nn l1) (h2 : Digs nn l2) (hl : l1.length = l2.length) (hxy : x < y) : und nn (l1 ++ x :: H) < und nn (l2 ++ y :: H) := by
  rw [und_append, und_append, und, und, hl]
  have b1 := und_bound nn l1 h1
  have b2 := und_bound nn l2 h2
  rw [hl] at b1
  have hp : (0 : Int) < 2 ^ (nn * l2.length) := Int.pow_pos (by decide)
  generalize (2 : Int) ^ (nn * l2.length) = B at *
  have : B * (x + 2 ^ nn * und nn H) + B ≤ B * (y + 2 ^ nn * und nn H) := by
    have e : B * (x + 2 ^ nn * und nn H) + B = B * (x + 1 + 2 ^ nn * und nn H) := by rw [Int.mul_add, Int.mul_add, Int.mul_add]; lia
    rw [e]
    exact Int.mul_le_mul_of_nonneg_left (by lia) (Int.le_of_lt hp)
  lia
theorem split_at {l : List Int} {m : Nat} {x : Int} (h : l[m]? = some x) : l = l.take m ++ x :: l.drop (m + 1) := by
  obtain ⟨hm, e⟩ := List.getElem?_eq_some_iff.mp h
  have := List.take_append_drop m l
  rw [List.drop_eq_getElem_cons hm, e] at this
  exact this.symm
theorem xor_zero_eq {a b : Nat} (h : a ^^^ b = 0) : a = b := by
  have : (a ^^^ b) ^^^ b = b := by rw [h, Nat.zero_xor]
  rwa [Nat.xor_assoc, Nat.xor_self, Nat.xor_zero] at this
theorem xor_same {a b k : Nat} (h : a ^^^ b < 2 ^ k) : a / 2 ^ k = b / 2 ^ k := by
  have h1 : (a ^^^ b) / 2 ^ k = 0 := Nat.div_eq_of_lt h
  rw [← Nat.shiftRight_eq_div_pow, Nat.shiftRight_xor_distrib] at h1
  rw [← Nat.shiftRight_eq_div_pow, ← Nat.shiftRight_eq_div_pow]
  exact xor_zero_eq h1
theorem xor_of_same {a b k : Nat} (h : a / 2 ^ k = b / 2 ^ k) : a ^^^ b < 2 ^ k := by
  have h1 : (a ^^^ b) / 2 ^ k = 0 := by
    rw [← Nat.shiftRight_eq_div_pow, Nat.shiftRight_xor_distrib, Nat.shiftRight_eq_div_pow, Nat.shiftRight_eq_div_pow, h, Nat.xor_self]
  rcases Nat.div_eq_zero_iff.mp h1 with h | h
  · have := Nat.two_pow_pos k; lia
  · exact h
theorem dgt_same {nn a b t i : Nat} (h : a / 2 ^ (nn * t) = b / 2 ^ (nn * t)) (hi : t ≤ i) : dgt nn a i = dgt nn b i := by
  unfold dgt
  obtain ⟨e, rfl⟩ : ∃ e, i = t + e := ⟨i - t, by lia⟩
  rw [Nat.mul_add, Nat.pow_add, ← Nat.div_div_eq_div_mul, ← Nat.div_div_eq_div_mul, h]
/-- a's and b's digit at t decides -/
theorem dgt_lt_of {nn a b t : Nat} (h1 : a / 2 ^ (nn * (t + 1)) = b / 2 ^ (nn * (t + 1))) (h : a < b) (h2 : a / 2 ^ (nn * t) ≠ b / 2 ^ (nn * t)) : dgt nn a t < dgt nn b t := by
  have hle : a / 2 ^ (nn * t) ≤ b / 2 ^ (nn * t) := Nat.div_le_div_right (Nat.le_of_lt h)
  have e : ∀ x, x / 2 ^ (nn * (t + 1)) = x / 2 ^ (nn * t) / 2 ^ nn := fun x => by rw [Nat.mul_add, Nat.mul_one, Nat.pow_add, Nat.div_div_eq_div_mul]
  rw [e, e] at h1
  unfold dgt
  have d1 := Nat.div_add_mod (a / 2 ^ (nn * t)) (2 ^ nn)
  have d2 := Nat.div_add_mod (b / 2 ^ (nn * t)) (2 ^ nn)
  rw [h1] at d1
  lia
section
variable {nn : Nat} {as bs : List Nat}
/-- the first side with the longest differing digits decides between the numbers -/
theorem num_lt (hn : 1 ≤ nn) (hl : as.length = bs.length) {d : Nat} (hd : d < as.length) (hmax : ∀ j, j < as.length → sp nn as bs j ≤ sp nn as bs d) (hfirst : ∀ j, j < d → sp nn as bs j ≠ sp nn as bs d)
    (hlt : as.getD d 0 < bs.getD d 0) : num nn as < num nn bs := by
  have hpos : 0 < as.length := by lia
  have hne : as.getD d 0 ^^^ bs.getD d 0 ≠ 0 := fun e => by have := xor_zero_eq e; lia
  obtain ⟨t, ht⟩ : ∃ t, sp nn as bs d = t + 1 := by
    cases e : sp nn as bs d with
    | zero =>
      have : as.getD d 0 ^^^ bs.getD d 0 < 2 ^ (nn * 0) := (nd_le_iff hn).mp (by unfold sp at e; lia)
      rw [Nat.mul_zero, Nat.pow_zero] at this
      lia
    | succ t => exact ⟨t, rfl⟩
  have up : ∀ j, j < as.length → as.getD j 0 / 2 ^ (nn * (t + 1)) = bs.getD j 0 / 2 ^ (nn * (t + 1)) := fun j hj => xor_same ((nd_le_iff hn).mp (by have := hmax j hj; unfold sp at this ht; lia))
  have at_ : ∀ j, j < d → as.getD j 0 / 2 ^ (nn * t) = bs.getD j 0 / 2 ^ (nn * t) := fun j hj => xor_same ((nd_le_iff hn).mp (by
    have h1 := hmax j (by lia)
    have h2 := hfirst j hj
    unfold sp at h1 h2 ht; lia))
  have ne_ : as.getD d 0 / 2 ^ (nn * t) ≠ bs.getD d 0 / 2 ^ (nn * t) := fun e => by
    have := (nd_le_iff hn).mpr (xor_of_same e)
    unfold sp at ht; lia
  have hx := dgt_lt_of (up d hd) hlt ne_
  -- a common height
  obtain ⟨J, hJ⟩ : ∃ J, J = max (max (top nn as) (top nn bs)) (t + 1) := ⟨_, rfl⟩
  rw [← num_at (J := J) hn (by lia), ← num_at (J := J) hn (by lia)]
  obtain ⟨m, hm⟩ : ∃ m, m = t * as.length + (as.length - 1 - d) := ⟨_, rfl⟩
  have hmJ : m < J * as.length := by
    have : (t + 1) * as.length ≤ J * as.length := Nat.mul_le_mul_right _ (by lia)
    rw [Nat.succ_mul] at this
    lia
  have e1 : m / as.length = t := Nat.div_eq_of_lt_le (by lia) (by rw [Nat.succ_mul]; lia)
  have e2 : m % as.length = as.length - 1 - d := by
    have := Nat.div_add_mod m as.length
    rw [e1, Nat.mul_comm] at this; lia
  have ga := wv_get (nn := nn) hpos J m hmJ
  have gb := wv_get (nn := nn) (ps := bs) (by lia) J m (by rw [← hl]; exact hmJ)
  rw [← hl] at gb
  rw [e1, e2] at ga gb
  have ed : as.length - 1 - (as.length - 1 - d) = d := by lia
  rw [ed] at ga gb
  rw [split_at ga, split_at gb]
  have hH : (wv nn as J).drop (m + 1) = (wv nn bs J).drop (m + 1) := by
    apply List.ext_getElem?
    intro i
    rw [List.getElem?_drop, List.getElem?_drop]
    by_cases c : m + 1 + i < J * as.length
    · rw [wv_get hpos J _ c, wv_get (ps := bs) (by lia) J _ (by rw [← hl]; exact c), ← hl]
      congr 2
      have q := Nat.div_add_mod (m + 1 + i) as.length
      have r := Nat.mod_lt (m + 1 + i) hpos
      generalize hk : (m + 1 + i) / as.length = k at *
      generalize hr : (m + 1 + i) % as.length = s at *
      rw [Nat.mul_comm] at q
      by_cases ck : t + 1 ≤ k
      · exact dgt_same (up _ (by lia)) ck
      · have hkt : k ≤ t := by lia
        have hkt' : k * as.length ≤ t * as.length := Nat.mul_le_mul_right _ hkt
        have hkk : k = t := by
          apply Classical.byContradiction
          intro hne
          have : (k + 1) * as.length ≤ t * as.length := Nat.mul_le_mul_right _ (by lia)
          rw [Nat.succ_mul] at this
          lia
        subst hkk
        exact dgt_same (at_ _ (by lia)) (Nat.le_refl _)
    · rw [List.getElem?_eq_none (by rw [wv_length]; lia), List.getElem?_eq_none (by rw [wv_length, ← hl]; lia)]
  rw [hH]
  refine und_lex (fun d hd => wv_digs nn as J d (List.mem_of_mem_take hd)) (fun d hd => wv_digs nn bs J d (List.mem_of_mem_take hd)) ?_ (by lia)
  rw [List.length_take, List.length_take, wv_length, wv_length, hl]
theorem sp_comm (nn : Nat) (as bs : List Nat) (j : Nat) : sp nn as bs j = sp nn bs as j := by unfold sp; rw [Nat.xor_comm]
theorem num_eq (hn : 1 ≤ nn) (hl : as.length = bs.length) {d : Nat} (hd : d < as.length) (hmax : ∀ j, j < as.length → sp nn as bs j ≤ sp nn as bs d) (he : as.getD d 0 = bs.getD d 0) : num nn as = num nn bs := by
  have z : sp nn as bs d = 0 := by unfold sp; rw [he, Nat.xor_self]; exact nd_zero hn
  have : as = bs := by
    apply List.ext_getElem hl
    intro j h1 h2
    have h3 := hmax j h1
    rw [z] at h3
    have h4 : as.getD j 0 ^^^ bs.getD j 0 < 2 ^ (nn * 0) := (nd_le_iff hn).mp (by unfold sp at h3; lia)
    have h5 : as.getD j 0 ^^^ bs.getD j 0 = 0 := by rw [Nat.mul_zero, Nat.pow_zero] at h4; lia
    have h6 := xor_zero_eq h5
    simpa [List.getD, h1, h2] using h6
  rw [this]
theorem ordv_sign (hn : 1 ≤ nn) (hl : as.length = bs.length) {r : Int} (h : Ordv nn as bs r) : (r < 0 ↔ num nn as < num nn bs) ∧ (r > 0 ↔ num nn as > num nn bs) := by
  obtain ⟨d, hd, hmax, hfirst, rfl⟩ := h
  rcases Nat.lt_trichotomy (as.getD d 0) (bs.getD d 0) with c | c | c
  · have := num_lt hn hl hd hmax hfirst c; lia
  · have := num_eq hn hl hd hmax c; lia
  · have := num_lt (nn := nn) (as := bs) (bs := as) hn hl.symm (d := d) (by lia) (fun j hj => by rw [sp_comm nn bs as, sp_comm nn bs as]; exact hmax j (by lia)) (fun j hj => by rw [sp_comm nn bs as, sp_comm nn bs as]; exact hfirst j hj) c
    lia
end
end Mine

end
section
open PySem PySem.W PyProof.Rows PySem.Calls
set_option Elab.async false
set_option linter.unusedVariables false
namespace Mine
theorem dgt_und {nn : Nat} : ∀ (ds : List Int) (m : Nat), Digs nn ds → ((dgt nn (und nn ds).toNat m : Nat) : Int) = ds.getD m 0
  | [], m, _ => by simp [und, dgt]
  | d :: r, m, h => by
    have hd := h d (.head _)
    have hr : Digs nn r := fun x hx => h x (.tail _ hx)
    have b := und_bound nn r hr
    obtain ⟨x, rfl⟩ : ∃ x : Nat, d = x := ⟨d.toNat, by lia⟩
    obtain ⟨y, hy⟩ : ∃ y : Nat, und nn r = y := ⟨(und nn r).toNat, by lia⟩
    have ih := fun m => dgt_und r m hr
    rw [hy, Int.toNat_natCast] at ih
    have e : (und nn ((x : Int) :: r)).toNat = x + 2 ^ nn * y := by
      rw [und, hy, two_pow, ← Int.natCast_mul, ← Int.natCast_add, Int.toNat_natCast]
    rw [e]
    have hx : x < 2 ^ nn := by have := hd.2; rw [two_pow] at this; lia
    cases m with
    | zero =>
      unfold dgt
      simp [Nat.mod_eq_of_lt hx]
    | succ m =>
      have := ih m
      rw [List.getD_cons_succ, ← this]
      unfold dgt
      rw [Nat.mul_add, Nat.mul_one, Nat.add_comm (nn * m), Nat.pow_add, ← Nat.div_div_eq_div_mul, Nat.add_mul_div_left _ _ (Nat.two_pow_pos _), Nat.div_eq_of_lt hx, Nat.zero_add]
theorem small_of_digits {nn a c : Nat} (hn : 1 ≤ nn) (h : ∀ i, c ≤ i → dgt nn a i = 0) : a < 2 ^ (nn * c) := by
  refine (nd_le_iff hn).mp ?_
  apply Classical.byContradiction
  intro hc
  obtain ⟨t, ht⟩ : ∃ t, nd nn a = t + 1 := ⟨nd nn a - 1, by lia⟩
  have h0 := h t (by lia)
  have h1 := lt_nd (n := nn) (a := a) hn
  rw [ht, Nat.mul_add, Nat.mul_one, Nat.pow_add] at h1
  have h2 : a / 2 ^ (nn * t) < 2 ^ nn := Nat.div_lt_of_lt_mul h1
  unfold dgt at h0
  rw [Nat.mod_eq_of_lt h2] at h0
  have h3 : a < 2 ^ (nn * t) := by
    rcases Nat.div_eq_zero_iff.mp h0 with h | h
    · have := Nat.two_pow_pos (nn * t); lia
    · exact h
  have := (nd_le_iff hn).mpr h3
  lia
theorem cnt_ge {k n sd i : Nat} (hs : 1 ≤ sd) (h : cnt k n sd ≤ i) : n ≤ k + i * sd := by
  unfold cnt at h
  by_cases c : k < n
  · rw [if_pos c] at h
    have d := Nat.div_add_mod (n - k - 1) sd
    have r := Nat.mod_lt (n - k - 1) (show 0 < sd by lia)
    have : (((n - k - 1) / sd) + 1) * sd ≤ i * sd := Nat.mul_le_mul_right _ h
    rw [Nat.succ_mul, Nat.mul_comm] at this
    lia
  · lia
theorem deal_num {nn : Nat} (hn : 1 ≤ nn) {ps : List Nat} (hl : 0 < ps.length) : deal nn (digs nn (num nn ps).toNat) ps.length ps.length = ps.map Int.ofNat := by
  apply List.ext_getElem?
  intro j
  unfold deal
  rw [List.getElem?_map, List.getElem?_map]
  by_cases hj : j < ps.length
  · rw [List.getElem?_range hj, List.getElem?_eq_getElem hj]
    simp only [Option.map_some]
    congr 1
    have hdig : ∀ i, at0 (digs nn (num nn ps).toNat) (ps.length - 1 - j + i * ps.length) = ((dgt nn ps[j] i : Nat) : Int) := by
      intro i
      rw [at0_digs hn]
      unfold num
      rw [dgt_und _ _ (wv_digs nn ps _), List.getD_eq_getElem?_getD]
      by_cases c : i < top nn ps
      · have hm : ps.length - 1 - j + i * ps.length < top nn ps * ps.length := by
          have : (i + 1) * ps.length ≤ top nn ps * ps.length := Nat.mul_le_mul_right _ c
          rw [Nat.succ_mul] at this
          lia
        rw [wv_get hl _ _ hm]
        have e1 : (ps.length - 1 - j + i * ps.length) / ps.length = i := Nat.div_eq_of_lt_le (by lia) (by rw [Nat.succ_mul]; lia)
        have e2 : (ps.length - 1 - j + i * ps.length) % ps.length = ps.length - 1 - j := by rw [Nat.add_mul_mod_self_right]; exact Nat.mod_eq_of_lt (by lia)
        rw [e1, e2]
        have e3 : ps.length - 1 - (ps.length - 1 - j) = j := by lia
        rw [e3]
        simp [List.getD, hj]
      · have hm : top nn ps * ps.length ≤ ps.length - 1 - j + i * ps.length := by
          have : top nn ps * ps.length ≤ i * ps.length := Nat.mul_le_mul_right _ (by lia)
          lia
        rw [List.getElem?_eq_none (by rw [wv_length]; exact hm), dgt_zero_ge (top_lt hn (List.getElem_mem hj)) (by lia)]
        rfl
    obtain ⟨c, hc⟩ : ∃ c, c = cnt (ps.length - 1 - j) (digs nn (num nn ps).toNat).length ps.length := ⟨_, rfl⟩
    have he : every (digs nn (num nn ps).toNat) (ps.length - 1 - j) ps.length = dg nn c ps[j] := by
      apply List.ext_getElem?
      intro i
      unfold every
      rw [← hc, List.getElem?_map]
      by_cases hi : i < c
      · rw [List.getElem?_range hi, dg_get nn _ _ _ hi]
        simp only [Option.map_some]
        rw [hdig]
      · rw [List.getElem?_eq_none (by rw [List.length_range]; lia), List.getElem?_eq_none (by rw [dg_length]; lia)]; rfl
    rw [he]
    refine und_dg nn c _ (small_of_digits hn fun i hi => ?_)
    have h1 := cnt_ge (show 1 ≤ ps.length by lia) (show cnt (ps.length - 1 - j) (digs nn (num nn ps).toNat).length ps.length ≤ i by lia)
    have h2 := hdig i
    unfold at0 at h2
    rw [List.getD_eq_getElem?_getD, List.getElem?_eq_none h1] at h2
    simp at h2
    lia
  · rw [List.getElem?_eq_none (by rw [List.length_range]; lia), List.getElem?_eq_none (by lia)]; rfl
end Mine

end
section
open PySem PySem.W PyProof.Rows PySem.Calls
set_option Elab.async false
set_option linter.unusedVariables false
set_option maxRecDepth 100000
set_option pp.deepTerms false
set_option pp.maxSteps 1500
namespace Mine
theorem take_clip {α : Type} (l : List α) (a b : Nat) (hab : a ≤ b) : (l.drop (min a l.length)).take (min b l.length - min a l.length) = (l.drop a).take (b - a) := by
  by_cases h : l.length ≤ a
  · rw [List.drop_of_length_le (by lia), List.drop_of_length_le h]; simp
  · by_cases h2 : l.length ≤ b
    · rw [show min a l.length = a by lia, show min b l.length = l.length by lia, List.take_of_length_le (by rw [List.length_drop]; lia), List.take_of_length_le (by rw [List.length_drop]; lia)]
    · rw [show min a l.length = a by lia, show min b l.length = b by lia]
theorem slicePick_clip (items : Array Value) (a b : Nat) (hab : a ≤ b) : slicePick items (some (a : Int)) (some (b : Int)) none = ((items.toList.drop a).take (b - a)).toArray := by
  have e : slicePick items (some (a : Int)) (some (b : Int)) none = slicePick items (some ((min a items.size : Nat) : Int)) (some ((min b items.size : Nat) : Int)) none := by
    unfold slicePick sliceBounds
    congr 1
    simp only [Option.getD_none]
    have h1 : ¬ ((a : Int) < 0) := by lia
    have h2 : ¬ ((b : Int) < 0) := by lia
    have h3 : ¬ (((min a items.size : Nat) : Int) < 0) := by lia
    have h4 : ¬ (((min b items.size : Nat) : Int) < 0) := by lia
    simp [h1, h2, h3, h4]
    congr 2 <;> lia
  rw [e, slicePick_run items _ _ (Nat.min_le_right _ _) (by lia)]
  congr 1
  have := take_clip items.toList a b hab
  rw [Array.length_toList] at this
  exact this
theorem slicePick_none (items : Array Value) (b : Option Int) : slicePick items none b none = slicePick items (some 0) b none := by
  unfold slicePick sliceBounds
  congr 2
section
variable {w : World} {A : Around} {E : Value → Shared → Prop} {env : Env} {s₀ : Shared} {h : Heap} {tk : Nat} {Q : Value → Shared → Prop}
/-- a bound of a slice -/
noncomputable def EvP (w : World) (A : Around) (env : Env) (s₀ : Shared) (h : Heap) (e : Option Expr) (k : Option Int) : Prop :=
  ∀ (tk : Nat) (Q : Value → Shared → Prop) (E : Value → Shared → Prop), (∀ v tk', IsPart v k → Q v (St s₀ h tk')) → wpAny (Md w) A (evalPart e env) Q E (St s₀ h tk)
theorem evPn : EvP w A env s₀ h none none := fun tk Q E hq => by rw [evalPart_none]; exact wpAny_pure (hq _ tk .none)
theorem EvI.part {e : Expr} {i : Int} (x : EvI w A env s₀ h e i) : EvP w A env s₀ h (some e) (some i) := fun tk Q E hq => by rw [evalPart_some]; exact x tk Q E fun t tk' => hq _ tk' (.int i t)
theorem sliceL {value : Expr} {lower upper : Option Expr} {p pos : Pos} {l : Addr} {items : Array Value} {lo hi : Option Int} (hv : EvV w A env s₀ h value (.ref l)) (hlo : EvP w A env s₀ h lower lo) (hhi : EvP w A env s₀ h upper hi) (hl : h.IsList l items) (hsz : items.size ≤ 1000)
    (hq : ∀ D h' tk', h.get? D = none → Sub h h' → h'.IsList D (slicePick items lo hi none) → Q (.ref D) (St s₀ h' tk')) (ht : ∀ o r, letTemporaryGo value o r = pure () := by intro _ _; rfl) :
    wpAny (Md w) A (eval (.Subscript value (.Slice lower upper none p) pos) env) Q E (St s₀ h tk) := by
  refine wpAny_Subscript_list_slice (hv tk _ E fun tk1 => hlo tk1 _ E fun vl tk2 pl => hhi tk2 _ E fun vu tk3 pu => ⟨l, items, lo, hi, rfl, hl, by rw [sizeLine_eq]; lia, pl, pu, ?_⟩) ht
  refine hq _ _ tk3 (Heap.get?_none_of_le (Nat.le_succ _)) (fun b o e => Heap.get?_push_of_some _ (Heap.get?_push_of_some _ e)) ⟨{ cls := .type "list", data := .seq (slicePick items lo hi none) }, ?_, rfl, 0, rfl⟩
  have := Heap.get?_push_size (h := h.push { cls := .type "slice", data := .fields #[vl, vu, .none] }) (o := { cls := .type "list", data := .seq (slicePick items lo hi none) }) rfl
  rw [Heap.size_push] at this
  exact this
theorem sumLI {l : Addr} {ns : List Int} (hh : A.handled = none) (hl : LI h l ns) (hq : ∀ h' t tk', Sub h h' → Q (.int ns.sum t) (St s₀ h' tk')) : wpAny (Md w) A (call (.builtin "sum") [.ref l]) Q E (St s₀ h tk) := by
  obtain ⟨vs, hl, hi⟩ := hl
  obtain ⟨xs, e⟩ := hi.allInts.items
  have hns : ns = xs.toList.map (·.1) := by rw [← hi.numsOf, ← nums_intItems, ← e]
  rw [e] at hl
  refine sum_intListG (s := St s₀ h tk) hh hl fun h' tk' t' hk => ?_
  have := hq h' t' tk' hk
  rw [hns] at this
  rw [preSum_eq, List.take_of_length_le (by simp)]
  exact this
theorem addL {l b : Addr} {vs ws : List Value} (hl : h.IsList l vs.toArray) (hb : h.IsList b ws.toArray) (hsz : vs.length + ws.length ≤ 1000)
    (hq : ∀ D h' tk', h.get? D = none → Sub h h' → h'.IsList D (vs ++ ws).toArray → Q (.ref D) (St s₀ h' tk')) : wpAny (Md w) A (binaryOp .Add (.ref l) (.ref b)) Q E (St s₀ h tk) := by
  obtain ⟨⟨cls, dd, data, sl⟩, ho, hc, n, hd⟩ := id hl
  obtain ⟨⟨cls2, dd2, data2, sl2⟩, ho2, hc2, n2, hd2⟩ := id hb
  simp only at hc hd hc2 hd2
  subst hc hd hc2 hd2
  have e : vs.toArray ++ ws.toArray = (vs ++ ws).toArray := by simp
  refine concat_meets (s := St s₀ h tk) ⟨_, ho, rfl⟩ ⟨_, ho2, rfl⟩ noFill_list_add seq_list_add PySem.F.slot_list_add PySem.F.entry_list_add (PySem.F.args_list_add_2 _ _) (list_addW l b vs.toArray ws.toArray n n2 dd dd2 sl sl2 (by rw [sizeLine_eq]; simp; lia)) ⟨ho, ho2, ?_⟩
  rw [e]
  exact hq _ _ _ (Heap.get?_none_of_le (Nat.le_refl _)) (fun b o e => Heap.get?_push_of_some _ e) ⟨_, Heap.get?_push_size _ rfl, rfl, 0, rfl⟩
theorem EvI.mod {a b : Expr} {i j : Int} {pos : Pos} (x : EvI w A env s₀ h a i) (y : EvI w A env s₀ h b j) (h1 : j ≠ 0) : EvI w A env s₀ h (.BinOp a .Mod b pos) (i.fmod j) := x.bin y fun _ _ _ _ _ hq => mod_int h1 (hq _ _)
theorem EvI.pow {a b : Expr} {i j : Int} {pos : Pos} (x : EvI w A env s₀ h a i) (y : EvI w A env s₀ h b j) (h1 : 0 ≤ j) (h2 : (Builtin.Int.intBits i : Int) * j ≤ 2 ^ 27) : EvI w A env s₀ h (.BinOp a .Pow b pos) (i ^ j.toNat) := x.bin y fun _ _ _ _ _ hq => pow_int h1 h2 (hq _ _)
end
/-- an int list as data -/
theorem reads_ints {h : Heap} : ∀ {vs : List Value} {ns : List Int}, IntsAre vs ns → ReadsAll h vs (ns.map .int) []
  | _, _, .nil => .nil
  | _, _, .cons n t r => by
    have := ReadsAll.cons (Reads.int (h := h) n t) (reads_ints r)
    simpa using this
theorem LI.reads {h : Heap} {l : Addr} {ns : List Int} (x : LI h l ns) : Reads h (.ref l) (.list (ns.map .int)) [l] := by
  obtain ⟨vs, ⟨o, e, hc, n, hd⟩, hi⟩ := x
  exact .list e hc hd (by simpa using reads_ints hi)
theorem canInts : ∀ ns : List Int, PyData.canLayAll0 (ns.map .int) = true
  | [] => rfl
  | n :: r => by simp [PyData.canLayAll0, PyData.canLay0, canInts r]
theorem depInts : ∀ ns : List Int, PyData.depthAll (ns.map .int) = 0
  | [] => rfl
  | n :: r => by simp [PyData.depthAll, PyData.depth, depInts r]
section
variable {w : World} {A : Around} {E : Value → Shared → Prop} {s₀ : Shared} {h : Heap} {tk : Nat} {Q : Value → Shared → Prop}
theorem ne_same {a b : Value} {d : PyData} {as bs : List Addr} (ra : Reads h a d as) (rb : Reads h b d bs) (hc : d.canLay0 = true) (hd : d.depth ≤ 10) (hu : A.units + 10 < cLine) (hq : Q (.bool false) (St s₀ h tk)) : wpAny (Md w) A (compareOp .NotEq a b) Q E (St s₀ h tk) := by
  refine SeqAt.compareNe_reads (s := St s₀ h tk) ra rb hc hc (by rw [Nat.min_self]; lia) ?_
  rw [SeqAt.eqv_refl d hc]; exact hq
theorem eq_same {a b : Value} {d : PyData} {as bs : List Addr} (ra : Reads h a d as) (rb : Reads h b d bs) (hc : d.canLay0 = true) (hd : d.depth ≤ 10) (hu : A.units + 10 < cLine) (hq : Q (.bool true) (St s₀ h tk)) : wpAny (Md w) A (compareOp .Eq a b) Q E (St s₀ h tk) := by
  refine SeqAt.compareEq_reads (s := St s₀ h tk) ra rb hc hc (by rw [Nat.min_self]; lia) ?_
  rw [SeqAt.eqv_refl d hc]; exact hq
end
end Mine

end
section
open PySem PySem.W PyProof.Rows PySem.Calls
set_option Elab.async false
set_option linter.unusedVariables false
set_option maxRecDepth 100000
set_option pp.deepTerms false
set_option pp.maxSteps 1500
namespace Mine
noncomputable def lawB (P : Params) : List Stmt := bodyOf (fdAt P 62)
noncomputable def lcs (L : Addr) : List (Str × Addr) := [("wide", L + 1 + 1 + 1 + 1 + 1 + 1), ("things", L + 1 + 1 + 1 + 1 + 1), ("numbers", L + 1 + 1 + 1 + 1), ("points", L + 1 + 1 + 1), ("values", L + 1 + 1), ("many", L + 1)]
noncomputable def lenv (P : Params) (L : Addr) : Env := newEnv (fdAt P 62).scope L (fdAt P 62).globals (lcs L) ((fdAt P 62).qualname ++ ".<locals>.") (some 62) (fdAt P 62).code none (fdAt P 62).builtins
theorem lcs_nd (L : Addr) : ((lcs L).map (·.1)).Nodup := by
  show (["wide", "things", "numbers", "points", "values", "many"] : List Str).Nodup
  decide
noncomputable def wideOf (ns : List Int) : Nat := (((ns.take 1).sum + 1) % 3 + 1).toNat
noncomputable def manyOf (ns : List Int) : Nat := ((((ns.drop 1).take 1).sum) % 2 + 2).toNat
theorem wide_eq (ns : List Int) : (((ns.take 1).sum + 1).fmod 3 + 1) = (wideOf ns : Int) ∧ 1 ≤ wideOf ns ∧ wideOf ns ≤ 3 := by
  unfold wideOf
  rw [Int.fmod_eq_emod_of_nonneg _ (by decide)]
  lia
theorem many_eq (ns : List Int) : ((((ns.drop 1).take 1).sum).fmod 2 + 2) = (manyOf ns : Int) ∧ 2 ≤ manyOf ns ∧ manyOf ns ≤ 3 := by
  unfold manyOf
  rw [Int.fmod_eq_emod_of_nonneg _ (by decide)]
  lia
theorem LI.slice {h : Heap} {l : Addr} {vs : List Value} {ns : List Int} {a b : Nat} (hab : a ≤ b) (hi : IntsAre vs ns) (hl : h.IsList l (slicePick vs.toArray (some (a : Int)) (some (b : Int)) none)) : LI h l ((ns.drop a).take (b - a)) := by
  rw [slicePick_clip _ _ _ hab] at hl
  exact ⟨_, hl, by simpa using (hi.drop a).take (b - a)⟩
/-- law's frame at work, before the key is made -/
structure LX (w : World) (G f : Heap) (L : Addr) (m cm : Str → Option Value) (h : Heap) : Prop where
  F : Fn f L m (lcs L) cm h
  sub : Sub G f
  st : Stat w f
  t30 : h.get? 30 = some (tabObj #[])
  t59 : h.get? 59 = some (tabObj #[])
  n30 : f.get? 30 = none
  n59 : f.get? 59 = none
  big : 62 < L
section
variable {w : World} {s₀ : Shared} {A : Around} {G f h h' : Heap} {L : Addr} {m cm : Str → Option Value} {tk : Nat} {E : Value → Shared → Prop}
theorem still_tab {ps : Array Value} : still (tabObj ps) := still_fields
theorem LX.stat (X : LX w G f L m cm h) : Stat w h := X.st.keeps X.F.keep
theorem LX.ext (X : LX w G f L m cm h) (e : Ext h h') (T : Tab h') : LX w G f L m cm h' := ⟨X.F.ext e T, X.sub, X.st, e _ _ (by decide) (by decide) X.t30, e _ _ (by decide) (by decide) X.t59, X.n30, X.n59, X.big⟩
theorem LX.keeps (X : LX w G f L m cm h) (k : Sub h h') : LX w G f L m cm h' := X.ext (Ext.of_keeps k) (X.F.tab.keeps fun b o _ _ e => k b o e)
theorem LX.stC {x : Str} {v : Value} {c : Addr} {Q : Unit → Shared → Prop} (X : LX w G f L m cm h) (hc : (lcs L).lookup x = some c)
    (hq : ∀ h' tk', LX w G f L m (upd cm x v) h' → (∀ b o, still o → h.get? b = some o → h'.get? b = some o) → Q () (St s₀ h' tk'))
    (hl : (lenv w.params L).kindOf x = some .cell := by rfl) : wpAny (Md w) A (storeName (lenv w.params L) x v) Q E (St s₀ h tk) :=
  Mine.stC X.F hc (fun h' tk' F' k => hq h' tk' ⟨F', X.sub, X.st, k _ _ still_tab X.t30, k _ _ still_tab X.t59, X.n30, X.n59, X.big⟩ k) rfl rfl hl
/-- more is frozen: the lists and tuples that stand -/
theorem LX.more (X : LX w G f L m cm h) : ∃ f', Sub f f' ∧ LX w G f' L m cm h ∧ ∀ b o xs n, o.data = .seq xs n → h.get? b = some o → f'.get? b = some o := by
  have F := X.F
  have hmu : ∀ b ∈ ([30, 59] : List Addr), f.get? b = none := fun b hb => by
    rcases List.mem_cons.mp hb with rfl | hb
    · exact X.n30
    · rw [List.mem_singleton] at hb; subst hb; exact X.n59
  have s1 := F.subFz (lcs_nd L) hmu
  refine ⟨fz h L (lcs L) [30, 59], s1, ⟨F.refreeze _, X.sub.trans s1, X.st.keeps s1, X.t30, X.t59, hideAll_none _ (by simp), hideAll_none _ (by simp), X.big⟩, fun b o xs n hd e => hideAll_get _ e ?_⟩
  simp only [List.mem_cons, List.mem_append, not_or, List.not_mem_nil, or_false]
  refine ⟨F.tab.t16.ne e (by rw [hd]; intro q h; cases h), F.tab.t23.ne e (by rw [hd]; intro q h; cases h), ?_, ?_, ?_, ?_⟩
  · rintro rfl; obtain ⟨o', _, _, e', hd', _⟩ := F.ns; rw [e] at e'; cases e'; rw [hd] at hd'; cases hd'
  · intro hm
    obtain ⟨n', hmem⟩ := lookup_of_mem hm
    have := (F.cells (lcs_nd L) b hm)
    obtain ⟨p, hp, rfl⟩ := List.mem_map.mp hm
    have hlk : (lcs L).lookup p.1 = some p.2 := by
      simp only [lcs, List.mem_cons, List.not_mem_nil, or_false] at hp
      rcases hp with rfl | rfl | rfl | rfl | rfl | rfl <;> rfl
    obtain ⟨o', e', hd'⟩ := F.cell _ _ hlk
    rw [e] at e'; cases e'; rw [hd] at hd'; cases hd'
  · rintro rfl; have := X.t30; rw [e] at this; cases this; cases hd
  · rintro rfl; have := X.t59; rw [e] at this; cases this; cases hd
theorem LX.freezeL (X : LX w G f L m cm h) {l : Addr} {vs : Array Value} (hl : h.IsList l vs) : ∃ f', Sub f f' ∧ LX w G f' L m cm h ∧ f'.IsList l vs := by
  obtain ⟨f', s, X', k⟩ := X.more
  obtain ⟨o, e, hc, n, hd⟩ := hl
  exact ⟨f', s, X', o, k l o _ n hd e, hc, n, hd⟩
end
theorem IsList.still {h h' : Heap} {l : Addr} {vs : Array Value} (x : h.IsList l vs) (k : ∀ b o, still o → h.get? b = some o → h'.get? b = some o) : h'.IsList l vs :=
  let ⟨o, e, hc, n, hd⟩ := x; ⟨o, k _ _ ⟨fun _ _ h => (nomatch hd.symm.trans h), fun _ h => (nomatch hd.symm.trans h)⟩ e, hc, n, hd⟩
section
variable {w : World} {s₀ : Shared} {A : Around} {G f h : Heap} {L : Addr} {m cm : Str → Option Value} {tk : Nat} {Q : Flow → Shared → Prop} {E : Value → Shared → Prop}
variable {sc : Addr} {vs : List Value} {ns : List Int}
set_option maxHeartbeats 1000000 in
theorem law0 (hh : A.handled = none) (X : LX w G f L m cm h) (hm : m "script" = some (.ref sc)) (hl : f.IsList sc vs.toArray) (hi : IntsAre vs ns) (hb : ns.length ≤ 63)
    (next : ∀ t h' tk', LX w G f L m (upd cm "wide" (.int (wideOf ns) t)) h' → wpAny (Md w) A (execs ((lawB w.params).drop 1) (lenv w.params L)) Q E (St s₀ h' tk')) :
    wpAny (Md w) A (execs (lawB w.params) (lenv w.params L)) Q E (St s₀ h tk) := by
  refine wpAny_execs_cons (wpAny_Assign_Name ?_)
  refine wpAny_BinOp (wpAny_BinOp (wpAny_BinOp ?_))
  refine callB (evB X.stat (gl_sum _)) fun tk1 => ?_
  refine sliceL (evL X.F hm) evPn evK.part (IsList.keeps hl X.F.keep) (by rw [List.size_toArray, hi.length]; lia) fun D h1 tk2 nD k1 hD => ?_
  rw [slicePick_none] at hD
  have hLI := LI.slice (a := 0) (b := 1) (by lia) hi hD
  refine sumLI hh hLI fun h2 t2 tk3 k2 => ?_
  have X2 := (X.keeps k1).keeps k2
  refine EvI.run evK fun t3 tk4 => ?_
  refine add_int ?_
  refine EvI.run evK fun t4 tk5 => ?_
  refine mod_int (by decide) ?_
  refine EvI.run evK fun t5 tk6 => ?_
  refine add_int ?_
  have e : (((List.take (1 - 0) (List.drop 0 ns)).sum + 1).fmod 3 + 1) = (wideOf ns : Int) := (wide_eq ns).1
  rw [e]
  exact X2.stC rfl fun h3 tk7 X3 k3 => next _ h3 tk7 X3
set_option maxHeartbeats 1000000 in
theorem law1 (hh : A.handled = none) (X : LX w G f L m cm h) (hm : m "script" = some (.ref sc)) (hl : f.IsList sc vs.toArray) (hi : IntsAre vs ns) (hb : ns.length ≤ 63)
    (next : ∀ t h' tk', LX w G f L m (upd cm "many" (.int (manyOf ns) t)) h' → wpAny (Md w) A (execs ((lawB w.params).drop 2) (lenv w.params L)) Q E (St s₀ h' tk')) :
    wpAny (Md w) A (execs ((lawB w.params).drop 1) (lenv w.params L)) Q E (St s₀ h tk) := by
  refine wpAny_execs_cons (wpAny_Assign_Name ?_)
  refine wpAny_BinOp (wpAny_BinOp ?_)
  refine callB (evB X.stat (gl_sum _)) fun tk1 => ?_
  refine sliceL (evL X.F hm) evK.part evK.part (IsList.keeps hl X.F.keep) (by rw [List.size_toArray, hi.length]; lia) fun D h1 tk2 nD k1 hD => ?_
  have hLI := LI.slice (a := 1) (b := 2) (by lia) hi hD
  refine sumLI hh hLI fun h2 t2 tk3 k2 => ?_
  have X2 := (X.keeps k1).keeps k2
  refine EvI.run evK fun t3 tk4 => ?_
  refine mod_int (by decide) ?_
  refine EvI.run evK fun t5 tk6 => ?_
  refine add_int ?_
  have e : ((((List.take (2 - 1) (List.drop 1 ns)).sum).fmod 2 + 2)) = (manyOf ns : Int) := (many_eq ns).1
  rw [e]
  exact X2.stC rfl fun h3 tk7 X3 k3 => next _ h3 tk7 X3
noncomputable def vals (ns : List Int) : List Nat := ((ns.drop 2).take 6).map (fun x => (x % 24).toNat) ++ [5, 18, 9, 12, 3, 18]
set_option maxHeartbeats 1000000 in
theorem law2 (hh : A.handled = none) (X : LX w G f L m cm h) (hm : m "script" = some (.ref sc)) (hl : f.IsList sc vs.toArray) (hi : IntsAre vs ns) (hb : ns.length ≤ 63)
    (next : ∀ V f' h' tk', Sub f f' → LX w G f' L m (upd cm "values" (.ref V)) h' → LI f' V ((vals ns).map Int.ofNat) → wpAny (Md w) A (execs ((lawB w.params).drop 3) (lenv w.params L)) Q E (St s₀ h' tk')) :
    wpAny (Md w) A (execs ((lawB w.params).drop 2) (lenv w.params L)) Q E (St s₀ h tk) := by
  refine wpAny_execs_cons (wpAny_Assign_Name ?_)
  refine wpAny_BinOp ?_
  refine compV (mu := [30, 59]) X.F (lcs_nd L) (fun b hb => ?_) ?_ rfl
  · rcases List.mem_cons.mp hb with rfl | hb
    · exact ⟨X.n30, In.of X.t30⟩
    · rw [List.mem_singleton] at hb; subst hb; exact ⟨X.n59, In.of X.t59⟩
  refine sliceL (evL X.F hm) evK.part evK.part (IsList.keeps hl X.F.keep) (by rw [List.size_toArray, hi.length]; lia) fun D h1 tk2 nD k1 hD => ?_
  obtain ⟨us, hus, hui⟩ := LI.slice (a := 2) (b := 8) (by lia) hi hD
  have X1 := X.keeps k1
  refine wpAny_pyIter_list hus ?_
  have hul := hui.length
  rw [List.length_take] at hul
  refine ⟨_, _, _, _, _, h1, _, _, fun i v y g => ∃ x t, (List.take (8 - 2) (List.drop 2 ns))[i]? = some x ∧ y = .int ((x % 24).toNat : Int) t, rfl, rfl, X1.F, Ext.of_keeps k1, Src.list hh X1.F.tab hus (by simp; lia), ?_, ?_, ?_⟩
  · rintro i v y g g' ⟨x, t, e1, e2⟩ k
    exact ⟨x, t, e1, e2⟩
  · intro C i v h' tk' mC hid Q E hi hP hns hx F' X' T' hhid hq
    have hP' : us[i]? = some v := by simpa using hP
    obtain ⟨d, t, hd, rfl⟩ := ints_get hui hP'
    refine EvI.run ((evX hns hx).i.mod evK (by decide)) fun t3 tk3 => ?_
    rw [Int.fmod_eq_emod_of_nonneg _ (by decide)]
    have e : d % 24 = ((d % 24).toNat : Int) := by lia
    rw [e]
    exact hq _ _ _ (Ext.refl _) T' ⟨d, t3, hd, rfl⟩
  intro D2 f2 h2 tk3 ys vs2 sf F2 X2 hmu hD2 h1' h2' h3' h4' hDn
  have hn : ys.length = (List.take (8 - 2) (List.drop 2 ns)).length := by rw [h2']; simp [hui.length]
  have hys : IntsAre ys (((List.take (8 - 2) (List.drop 2 ns)).map fun x => (x % 24).toNat).map Int.ofNat) := by
    refine ints_of (by simp [hn]) fun j d hd => ?_
    rw [List.getElem?_map, List.getElem?_map, Option.map_map, Option.map_eq_some_iff] at hd
    obtain ⟨x, hx, rfl⟩ := hd
    have hj : j < ys.length := by rw [hn]; exact (List.getElem?_eq_some_iff.mp hx).1
    obtain ⟨x', t, e1, e2⟩ := h4' j _ _ (List.getElem?_eq_getElem (by lia)) (List.getElem?_eq_getElem hj)
    rw [hx] at e1; cases e1
    exact ⟨t, by rw [List.getElem?_eq_getElem hj, e2]; rfl⟩
  have XX : LX w G f2 L m cm h2 := ⟨F2, X.sub.trans sf, X.st.keeps sf, X2 _ _ (by decide) (by decide) X.t30, X2 _ _ (by decide) (by decide) X.t59, hmu 30 (by simp), hmu 59 (by simp), X.big⟩
  refine List_ (spliced_evArgs [_, _, _, _, _, _] _ _ ?_)
  refine EvI.run evK fun t1 k1 => ?_
  refine EvI.run evK fun t2 k2 => ?_
  refine EvI.run evK fun t3 k3 => ?_
  refine EvI.run evK fun t4 k4 => ?_
  refine EvI.run evK fun t5 k5 => ?_
  refine EvI.run evK fun t6 k6 => ?_
  refine wp_newObj (by show 6 ≤ _; rw [sizeLine_eq]; lia) rfl fun R h3 nR gR k7 => ?_
  have X3 := XX.keeps k7
  have hD3 : h3.IsList D2 ys.toArray := IsList.keeps hD2.isList X3.F.keep
  have hR3 : h3.IsList R [Value.int 5 t1, .int 18 t2, .int 9 t3, .int 12 t4, .int 3 t5, .int 18 t6].toArray := ⟨_, gR, rfl, 0, rfl⟩
  refine addL hD3 hR3 (by show ys.length + 6 ≤ 1000; rw [hn, List.length_take]; lia) fun V h4 tk4 nV k8 hV => ?_
  have X4 := X3.keeps k8
  refine X4.stC rfl fun h5 tk5 X5 k9 => ?_
  obtain ⟨f6, s6, X6, hV6⟩ := X5.freezeL (IsList.still hV k9)
  refine next V f6 h5 tk5 (sf.trans s6) X6 ⟨_, hV6, ?_⟩
  unfold vals
  rw [List.map_append]
  exact ints_append hys (.cons 5 t1 (.cons 18 t2 (.cons 9 t3 (.cons 12 t4 (.cons 3 t5 (.cons 18 t6 .nil))))))
end
end Mine

end
section
open PySem PySem.W PyProof.Rows PySem.Calls
set_option Elab.async false
set_option linter.unusedVariables false
set_option maxRecDepth 100000
set_option pp.deepTerms false
set_option pp.maxSteps 1500
namespace Mine
noncomputable def np (ns : List Int) : Nat := cnt 0 ((vals ns).length - manyOf ns + 1) (manyOf ns)
noncomputable def pt (ns : List Int) (i : Nat) : List Nat := ((vals ns).drop (i * manyOf ns)).take (manyOf ns)
theorem vals_len (ns : List Int) : 6 ≤ (vals ns).length ∧ (vals ns).length ≤ 12 := by
  unfold vals
  rw [List.length_append, List.length_map, List.length_take]
  simp only [List.length_cons, List.length_nil]
  lia
theorem vals_lt {ns : List Int} {a : Nat} (h : a ∈ vals ns) : a < 24 := by
  unfold vals at h
  rw [List.mem_append] at h
  rcases h with h | h
  · obtain ⟨x, _, rfl⟩ := List.mem_map.mp h; lia
  · simp only [List.mem_cons, List.not_mem_nil, or_false] at h; lia
theorem np_bounds (ns : List Int) : 2 ≤ np ns ∧ np ns ≤ 12 := by
  have h1 := vals_len ns
  have h2 := (many_eq ns).2
  unfold np
  constructor
  · unfold cnt
    rw [if_pos (by lia)]
    have : 1 ≤ ((vals ns).length - manyOf ns + 1 - 0 - 1) / manyOf ns := by
      rw [Nat.le_div_iff_mul_le (by lia)]; lia
    lia
  · exact Nat.le_trans cnt_le (by lia)
theorem pt_in {ns : List Int} {i : Nat} (h : i < np ns) : i * manyOf ns + manyOf ns ≤ (vals ns).length := by
  have h1 := vals_len ns
  have h2 := (many_eq ns).2
  have := cnt_lt (show 1 ≤ manyOf ns by lia) h
  lia
theorem pt_len {ns : List Int} {i : Nat} (h : i < np ns) : (pt ns i).length = manyOf ns := by
  have := pt_in h
  unfold pt
  rw [List.length_take, List.length_drop]; lia
theorem pt_lt {ns : List Int} {i a : Nat} (h : a ∈ pt ns i) : a < 24 := vals_lt (List.mem_of_mem_drop (List.mem_of_mem_take h))
theorem bits5 {a : Nat} (h : a < 32) : Builtin.Int.intBits (a : Int) ≤ 5 := (intBits_le_iff (m := 5) (x := (a : Int))).mpr (by simpa using h)
theorem pt_bits {ns : List Int} {i a : Nat} (h : a ∈ pt ns i) : Builtin.Int.intBits (a : Int) + wideOf ns ≤ 60 := by
  have h1 := bits5 (a := a) (by have := pt_lt h; lia)
  have h2 := (wide_eq ns).2
  lia
theorem top_pt {ns : List Int} {i : Nat} : wideOf ns * top (wideOf ns) (pt ns i) ≤ 7 := by
  have h2 := (wide_eq ns).2
  have h3 : top (wideOf ns) (pt ns i) ≤ (5 + wideOf ns - 1) / wideOf ns := by
    refine top_le h2.1 fun a ha => ?_
    refine (nd_le_iff h2.1).mp ?_
    unfold nd
    exact Nat.div_le_div_right (by have := bits5 (a := a) (by have := pt_lt ha; lia); lia)
  have h4 : wideOf ns * top (wideOf ns) (pt ns i) ≤ wideOf ns * ((5 + wideOf ns - 1) / wideOf ns) := Nat.mul_le_mul_left _ h3
  have h5 := Nat.mul_div_le (5 + wideOf ns - 1) (wideOf ns)
  lia
theorem num_bits {ns : List Int} {i : Nat} (h : i < np ns) : Builtin.Int.intBits (((num (wideOf ns) (pt ns i)).toNat : Nat) : Int) + wideOf ns ≤ 60 := by
  have h2 := (wide_eq ns).2
  have h3 := (many_eq ns).2
  have b := num_bound (wideOf ns) (pt ns i)
  rw [pt_len h] at b
  have h4 : wideOf ns * (top (wideOf ns) (pt ns i) * manyOf ns) ≤ 21 := by
    rw [← Nat.mul_assoc]
    exact Nat.le_trans (Nat.mul_le_mul top_pt h3.2) (by lia)
  have h5 : num (wideOf ns) (pt ns i) < 2 ^ 21 := Int.lt_of_lt_of_le b.2 (pow2_le h4)
  have h6 : Builtin.Int.intBits (((num (wideOf ns) (pt ns i)).toNat : Nat) : Int) ≤ 21 := (intBits_le_iff (m := 21)).mpr (by
    rw [Int.natAbs_natCast]
    have : (2 : Int) ^ 21 = 2097152 := by decide
    have : (2 : Nat) ^ 21 = 2097152 := by decide
    lia)
  lia
section
variable {w : World} {s₀ : Shared} {A : Around} {G f h : Heap} {L : Addr} {m cm : Str → Option Value} {tk : Nat} {Q : Flow → Shared → Prop} {E : Value → Shared → Prop}
variable {ns : List Int}
theorem LX.mu (X : LX w G f L m cm h) : ∀ b ∈ ([30, 59] : List Addr), f.get? b = none ∧ In b h := fun b hb => by
  rcases List.mem_cons.mp hb with rfl | hb
  · exact ⟨X.n30, In.of X.t30⟩
  · rw [List.mem_singleton] at hb; subst hb; exact ⟨X.n59, In.of X.t59⟩
theorem LX.ofB {f2 h2 : Heap} {m2 cm2 : Str → Option Value} {N : List Addr} (X : LX w G f L m cm h) (F2 : Fn f2 L m2 (lcs L) cm2 h2) (sf : Sub f f2) (X2 : ExtB N h h2) (hN : ∀ b ∈ N, 62 < b) (hmu : ∀ b ∈ ([30, 59] : List Addr), f2.get? b = none) : LX w G f2 L m2 cm2 h2 :=
  ⟨F2, X.sub.trans sf, X.st.keeps sf, X2 _ _ (by decide) (by decide) (fun hm => absurd (hN _ hm) (by decide)) X.t30, X2 _ _ (by decide) (by decide) (fun hm => absurd (hN _ hm) (by decide)) X.t59, hmu 30 (by simp), hmu 59 (by simp), X.big⟩
theorem LX.ofV {f2 h2 : Heap} {m2 cm2 : Str → Option Value} (X : LX w G f L m cm h) (F2 : Fn f2 L m2 (lcs L) cm2 h2) (sf : Sub f f2) (X2 : Ext h h2) (hmu : ∀ b ∈ ([30, 59] : List Addr), f2.get? b = none) : LX w G f2 L m2 cm2 h2 :=
  X.ofB (N := []) F2 sf X2.b (fun b hb => nomatch hb) hmu
/-- a cell of the frame, read in a comprehension -/
theorem evYF {env : Env} {f h : Heap} {L : Addr} {m cm : Str → Option Value} {cs : List (Str × Addr)} {x : Str} {pos : Pos} {v : Value} {c : Addr} (F : Fn f L m cs cm h) (hc : cs.lookup x = some c) (hv : cm x = some v) (hcc : env.cells.lookup x = some c := by rfl)
    (hk : env.scope.kind = .function := by rfl) (hl : env.kindOf x = some .cell := by rfl) (hd : (x == ("__debug__" : Str)) = false := by decide) : EvV w A env s₀ h (.Name x pos) v := evY (hv ▸ F.cell x c hc) hcc hk hl hd
/-- the points' lists -/
noncomputable def rws (ns : List Int) : List (List Int) := (List.range (np ns)).map fun i => (pt ns i).map Int.ofNat
theorem rws_get {ns : List Int} {i : Nat} (h : i < np ns) : (rws ns)[i]? = some ((pt ns i).map Int.ofNat) := by unfold rws; rw [List.getElem?_map, List.getElem?_range h]; rfl
theorem rws_len (ns : List Int) : (rws ns).length = np ns := by unfold rws; simp
set_option maxHeartbeats 1000000 in
theorem law3 {V : Addr} {tm : Tok} (hh : A.handled = none) (X : LX w G f L m cm h) (hv : cm "values" = some (.ref V)) (hmn : cm "many" = some (.int (manyOf ns) tm)) (hV : LI f V ((vals ns).map Int.ofNat))
    (next : ∀ D ys f' h' tk', Sub f f' → LX w G f' L m (upd cm "points" (.ref D)) h' → f'.PlainList D ys.toArray → Rows f' ys (rws ns) → wpAny (Md w) A (execs ((lawB w.params).drop 4) (lenv w.params L)) Q E (St s₀ h' tk')) :
    wpAny (Md w) A (execs ((lawB w.params).drop 3) (lenv w.params L)) Q E (St s₀ h tk) := by
  have h1 := vals_len ns
  have h2 := (many_eq ns).2
  have h3 := np_bounds ns
  obtain ⟨us, hus, hui⟩ := hV
  have hul : us.length = (vals ns).length := by rw [hui.length, List.length_map]
  refine wpAny_execs_cons (wpAny_Assign_Name ?_)
  refine compV (mu := [30, 59]) X.F (lcs_nd L) X.mu ?_ rfl
  refine callT (evB X.stat (gl_range _)) fun tk1 => ?_
  refine EvI.run evK fun t2 tk2 => ?_
  refine EvI.run ((((evLen (evB X.stat (gl_len _)) (evC X.F rfl hv) (IsList.keeps hus X.F.keep) (by rw [List.size_toArray]; lia)).sub (evC X.F rfl hmn).i).add evK).eq (r := (((vals ns).length - manyOf ns + 1 : Nat) : Int)) (by rw [List.size_toArray, hul]; lia)) fun t3 tk3 => ?_
  refine EvV.run (evC X.F rfl hmn) fun tk4 => ?_
  refine iterRange3 (k := 0) X.F.tab (by lia) (by lia) (by lia) (by lia) hh fun h₁ h₂ tk5 I k1 T1 hI Sr => ?_
  refine ⟨_, _, _, _, _, h₁, _, _, fun i v y g => ∃ l, y = .ref l ∧ LI g l ((pt ns i).map Int.ofNat), rfl, rfl, X.F.keeps k1, Ext.of_keeps k1, Sr, ?_, ?_, ?_⟩
  · rintro i v y g g' ⟨l, e1, e2⟩ k
    exact ⟨l, e1, e2.keeps k⟩
  · intro C i v h' tk' mC hid Q E hi hP hns hx F' X' T' hhid hq
    obtain ⟨t, rfl⟩ := hP
    have hin := pt_in (ns := ns) (i := i) hi
    refine sliceL (evYF F' rfl hv) (evX hns hx).i.part (((evX hns hx).i.add (evYF F' rfl hmn).i).part) (IsList.keeps hus F'.keep) (by rw [List.size_toArray]; lia) fun D h2 tk2 nD k2 hD => ?_
    have e : ((0 + i * manyOf ns : Nat) : Int) + (manyOf ns : Int) = ((0 + i * manyOf ns + manyOf ns : Nat) : Int) := by push_cast; rfl
    rw [e] at hD
    have hLI := LI.slice (by lia) hui hD
    refine hq _ _ _ (Ext.of_keeps k2) (T'.keeps fun b o _ _ e => k2 b o e) ⟨D, rfl, LI.hide ?_ fun hm => hhid D hm nD⟩
    have e2 : (pt ns i).map Int.ofNat = List.take (0 + i * manyOf ns + manyOf ns - (0 + i * manyOf ns)) (List.drop (0 + i * manyOf ns) ((vals ns).map Int.ofNat)) := by
      unfold pt
      rw [← List.map_drop, ← List.map_take, Nat.zero_add, Nat.add_sub_cancel_left]
    rw [e2]; exact hLI
  intro D2 f2 h2 tk3 ys vs2 sf F2 X2 hmu hD2 h1' h2' h3' h4' hDn
  have XX := X.ofV F2 sf X2 hmu
  refine XX.stC rfl fun h3 tk4 X3 k3 => ?_
  refine next D2 ys f2 h3 tk4 sf X3 hD2 ⟨by rw [h2', rws_len]; rfl, fun j r hr => ?_⟩
  have hj : j < np ns := by have := (List.getElem?_eq_some_iff.mp hr).1; rwa [rws_len] at this
  rw [rws_get hj] at hr; cases hr
  have hjy : j < ys.length := by rw [h2']; exact hj
  obtain ⟨l, e1, e2⟩ := h4' j _ _ (List.getElem?_eq_getElem (by rw [h1']; exact hj)) (List.getElem?_eq_getElem hjy)
  exact ⟨l, by rw [List.getElem?_eq_getElem hjy, e1], e2⟩
end
end Mine

end
section
open PySem PySem.W PyProof.Rows PySem.Calls
set_option Elab.async false
set_option linter.unusedVariables false
set_option maxRecDepth 100000
set_option pp.deepTerms false
set_option pp.maxSteps 1500
namespace Mine
noncomputable def nms (ns : List Int) : List Int := (List.range (np ns)).map fun i => num (wideOf ns) (pt ns i)
theorem nms_get {ns : List Int} {i : Nat} (h : i < np ns) : (nms ns)[i]? = some (num (wideOf ns) (pt ns i)) := by unfold nms; rw [List.getElem?_map, List.getElem?_range h]; rfl
theorem nms_len (ns : List Int) : (nms ns).length = np ns := by unfold nms; simp
theorem reads_rows {h : Heap} : ∀ {ys : List Value} {rs : List (List Int)}, Rows h ys rs → ∃ as, ReadsAll h ys (rs.map fun r => .list (r.map .int)) as
  | [], [], _ => ⟨_, .nil⟩
  | [], _ :: _, x => by have := x.1; simp at this
  | _ :: _, [], x => by have := x.1; simp at this
  | y :: ys, r :: rs, x => by
    obtain ⟨l, e, hl⟩ := x.2 0 r (by simp)
    simp at e; subst e
    obtain ⟨as, ih⟩ := reads_rows (ys := ys) (rs := rs) ⟨by simpa using x.1, fun j r hr => by simpa using x.2 (j + 1) r (by simpa using hr)⟩
    exact ⟨_, .cons hl.reads ih⟩
theorem Rows.reads {h : Heap} {D : Addr} {ys : List Value} {rs : List (List Int)} (x : Rows h ys rs) (hD : h.IsList D ys.toArray) : ∃ as, Reads h (.ref D) (.list (rs.map fun r => .list (r.map .int))) as := by
  obtain ⟨as, ra⟩ := reads_rows x
  obtain ⟨o, e, hc, n, hd⟩ := hD
  exact ⟨_, .list e hc hd (by simpa using ra)⟩
theorem canRows : ∀ rs : List (List Int), PyData.canLayAll0 (rs.map fun r => .list (r.map .int)) = true
  | [] => rfl
  | r :: rs => by simp [PyData.canLayAll0, PyData.canLay0, canInts r, canRows rs]
theorem depRows : ∀ rs : List (List Int), PyData.depthAll (rs.map fun r => .list (r.map .int)) ≤ 1
  | [] => by simp [PyData.depthAll]
  | r :: rs => by
    have := depRows rs
    simp only [List.map_cons, PyData.depthAll, PyData.depth, depInts r]
    lia
section
variable {w : World} {s₀ : Shared} {A : Around} {G f h : Heap} {L : Addr} {m cm : Str → Option Value} {tk : Nat} {Q : Flow → Shared → Prop} {E : Value → Shared → Prop}
variable {ns : List Int} {D : Addr} {ys : List Value} {tw tm : Tok}
set_option maxHeartbeats 1000000 in
theorem law4 (hh : A.handled = none) (hdep : A.depth + 90 < recursionLimit) (X : LX w G f L m cm h) (hp : cm "points" = some (.ref D)) (hw : cm "wide" = some (.int (wideOf ns) tw)) (hD : f.PlainList D ys.toArray) (hR : Rows f ys (rws ns))
    (next : ∀ Nm us f' h' tk', Sub f f' → LX w G f' L m (upd cm "numbers" (.ref Nm)) h' → f'.PlainList Nm us.toArray → IntsAre us (nms ns) → wpAny (Md w) A (execs ((lawB w.params).drop 5) (lenv w.params L)) Q E (St s₀ h' tk')) :
    wpAny (Md w) A (execs ((lawB w.params).drop 4) (lenv w.params L)) Q E (St s₀ h tk) := by
  have hb := np_bounds ns
  have hw2 := (wide_eq ns).2
  have hm2 := (many_eq ns).2
  have hyl : ys.length = np ns := by rw [hR.1, rws_len]
  have hD1 : h.IsList D ys.toArray := IsList.keeps hD.isList X.F.keep
  refine wpAny_execs_cons (wpAny_Assign_Name ?_)
  refine compV (mu := [30, 59]) X.F (lcs_nd L) X.mu ?_ rfl
  refine EvV.run (evC X.F rfl hp) fun tk1 => ?_
  refine wpAny_pyIter_list hD1 ?_
  refine ⟨_, _, _, _, _, h, _, _, fun i v y g => ∃ t, y = .int (num (wideOf ns) (pt ns i)) t, rfl, rfl, X.F, Ext.refl _, Src.list hh X.F.tab hD1 (by simp; lia), ?_, ?_, ?_⟩
  · rintro i v y g g' ⟨t, e⟩ k
    exact ⟨t, e⟩
  · intro C i v h' tk' mC hid Q E hi hP hns hx F' X' T' hhid hq
    have hi' : i < np ns := by simp at hi; lia
    have hP' : ys[i]? = some v := by simpa using hP
    obtain ⟨l, el, hl⟩ := hR.2 i _ (rws_get hi')
    rw [hP'] at el; cases el
    have S' : Stat w h' := X.stat.ext X'
    have hpl := pt_len hi'
    refine callF (evG S' (gl_d2i _)) fun tk2 => ?_
    refine callF (evG S' (gl_woven _)) fun tk3 => ?_
    refine EvV.run (evX hns hx) fun tk4 => ?_
    refine EvV.run (evYF F' rfl hw) fun tk5 => ⟨⟨_, _, _, _, S'.1 40 _ rfl⟩, ?_⟩
    refine law_woven (s₀ := s₀) hw2.1 (by intro e; rw [e] at hpl; simp at hpl; lia) (by lia) (fun a ha => pt_bits ha) (by lia) hh S' T' (hl.keeps F'.keep) fun l2 h2 tk6 X2 T2 n2 hl2 => ?_
    have F2 := F'.ext X2 T2
    have S2 := S'.ext X2
    refine EvV.run (evYF F2 rfl hw) fun tk7 => ⟨⟨_, _, _, _, S2.1 28 _ rfl⟩, ?_⟩
    rw [weave_wv hw2.1] at hl2
    obtain ⟨us, hu1, hu2⟩ := hl2
    refine digits2int (s₀ := s₀) hw2.1 hu2 (wv_digs _ _ _) ?_ (by lia) S2 T2 hu1 fun t h3 tk8 X3 T3 => ?_
    · rw [wv_length, hpl]
      have := top_pt (ns := ns) (i := i)
      have h4 : wideOf ns * (top (wideOf ns) (pt ns i) * manyOf ns) ≤ 21 := by
        rw [← Nat.mul_assoc]
        exact Nat.le_trans (Nat.mul_le_mul this hm2.2) (by lia)
      show wideOf ns * (top (wideOf ns) (pt ns i) * manyOf ns) ≤ 60
      lia
    · exact hq _ _ _ (X2.trans X3) T3 ⟨t, rfl⟩
  intro D2 f2 h2 tk3 us vs2 sf F2 X2 hmu hD2 h1' h2' h3' h4' hDn
  have XX := X.ofV F2 sf X2 hmu
  refine XX.stC rfl fun h3 tk4 X3 k3 => ?_
  have hul : us.length = np ns := by rw [h2']; simp [hyl]
  refine next D2 us f2 h3 tk4 sf X3 hD2 (ints_of (by rw [hul, nms_len]) fun j d hd => ?_)
  have hj : j < np ns := by have := (List.getElem?_eq_some_iff.mp hd).1; rwa [nms_len] at this
  rw [nms_get hj] at hd; cases hd
  obtain ⟨t, e1⟩ := h4' j _ _ (List.getElem?_eq_getElem (by rw [h1']; simp; lia)) (List.getElem?_eq_getElem (by lia))
  exact ⟨t, by rw [List.getElem?_eq_getElem (by lia), e1]⟩
set_option maxHeartbeats 1000000 in
theorem law5 {Nm : Addr} {us : List Value} (hh : A.handled = none) (hdep : A.depth + 90 < recursionLimit) (hu : A.units + 10 < cLine) (X : LX w G f L m cm h) (hp : cm "points" = some (.ref D)) (hw : cm "wide" = some (.int (wideOf ns) tw)) (hN : cm "numbers" = some (.ref Nm)) (hD : f.PlainList D ys.toArray) (hR : Rows f ys (rws ns)) (hNm : f.PlainList Nm us.toArray) (hus : IntsAre us (nms ns))
    (next : ∀ f' h' tk', Sub f f' → LX w G f' L m cm h' → wpAny (Md w) A (execs ((lawB w.params).drop 6) (lenv w.params L)) Q E (St s₀ h' tk')) :
    wpAny (Md w) A (execs ((lawB w.params).drop 5) (lenv w.params L)) Q E (St s₀ h tk) := by
  have hb := np_bounds ns
  have hw2 := (wide_eq ns).2
  have hm2 := (many_eq ns).2
  have hyl : ys.length = np ns := by rw [hR.1, rws_len]
  have hD1 : h.IsList D ys.toArray := IsList.keeps hD.isList X.F.keep
  refine wpAny_execs_cons (wpAny_If (wpAny_isTrue_Compare1 ?_))
  refine EvV.run (evC X.F rfl hN) fun tk0 => ?_
  refine compV (mu := [30, 59]) X.F (lcs_nd L) X.mu ?_ rfl
  refine EvV.run (evC X.F rfl hp) fun tk1 => ?_
  refine wpAny_pyIter_list hD1 ?_
  refine ⟨_, _, _, _, _, h, _, _, fun i v y g => ∃ t, y = .int (num (wideOf ns) (pt ns i)) t, rfl, rfl, X.F, Ext.refl _, Src.list hh X.F.tab hD1 (by simp; lia), ?_, ?_, ?_⟩
  · rintro i v y g g' ⟨t, e⟩ k
    exact ⟨t, e⟩
  · intro C i v h' tk' mC hid Q E hi hP hns hx F' X' T' hhid hq
    have hi' : i < np ns := by simp at hi; lia
    have hP' : ys[i]? = some v := by simpa using hP
    obtain ⟨l, el, hl⟩ := hR.2 i _ (rws_get hi')
    rw [hP'] at el; cases el
    have S' : Stat w h' := X.stat.ext X'
    have hpl := pt_len hi'
    refine callF (evG S' (gl_worth _)) fun tk2 => ?_
    refine EvV.run (evX hns hx) fun tk3 => ?_
    have hb2 : (Builtin.Int.intBits 2 : Int) = 2 := by decide
    refine EvI.run (evK.pow (evYF F' rfl hw).i (by lia) (by rw [hb2]; have : (2 : Int) ^ 27 = 134217728 := (by decide); lia)) fun t4 tk4 => ⟨⟨_, _, _, _, S'.1 47 _ rfl⟩, ?_⟩
    rw [Int.toNat_natCast]
    refine law_worth (s₀ := s₀) (J := top (wideOf ns) (pt ns i)) hw2.1 (by lia) (by intro e; rw [e] at hpl; simp at hpl; lia) (by lia) (fun a ha => top_lt hw2.1 ha) (by lia) hh S' T' (hl.keeps F'.keep) fun t h2 tk6 X2 T2 => ?_
    exact hq _ _ _ X2 T2 ⟨t, rfl⟩
  intro D2 f2 h2 tk3 vs vs2 sf F2 X2 hmu hD2 h1' h2' h3' h4' hDn
  have XX := X.ofV F2 sf X2 hmu
  have hul : vs.length = np ns := by rw [h2']; simp [hyl]
  have hvs : IntsAre vs (nms ns) := ints_of (by rw [hul, nms_len]) fun j d hd => by
    have hj : j < np ns := by have := (List.getElem?_eq_some_iff.mp hd).1; rwa [nms_len] at this
    rw [nms_get hj] at hd; cases hd
    obtain ⟨t, e1⟩ := h4' j _ _ (List.getElem?_eq_getElem (by rw [h1']; simp; lia)) (List.getElem?_eq_getElem (by lia))
    exact ⟨t, by rw [List.getElem?_eq_getElem (by lia), e1]⟩
  have r1 : LI h2 Nm (nms ns) := ⟨us, IsList.keeps (IsList.keeps hNm.isList sf) F2.keep, hus⟩
  have r2 : LI h2 D2 (nms ns) := ⟨vs, IsList.keeps hD2.isList F2.keep, hvs⟩
  refine ne_same r1.reads r2.reads (canInts _) (by show PyData.depthAll _ + 1 ≤ 10; rw [depInts]; lia) hu ?_
  refine wpAny_truthy_bool ?_
  exact wpAny_execs_nil (next f2 h2 _ sf XX)
end
end Mine

end
section
open PySem PySem.W PyProof.Rows PySem.Calls
set_option Elab.async false
set_option linter.unusedVariables false
set_option maxRecDepth 100000
set_option pp.deepTerms false
set_option pp.maxSteps 1500
namespace Mine
section
variable {w : World} {s₀ : Shared} {A : Around} {G f h : Heap} {L : Addr} {m cm : Str → Option Value} {tk : Nat} {Q : Flow → Shared → Prop} {E : Value → Shared → Prop}
variable {ns : List Int} {D Nm : Addr} {ys us : List Value} {tw tm : Tok}
set_option maxHeartbeats 1000000 in
theorem law6 (hh : A.handled = none) (hdep : A.depth + 90 < recursionLimit) (hu : A.units + 10 < cLine) (X : LX w G f L m cm h) (hp : cm "points" = some (.ref D)) (hw : cm "wide" = some (.int (wideOf ns) tw)) (hmn : cm "many" = some (.int (manyOf ns) tm)) (hN : cm "numbers" = some (.ref Nm)) (hD : f.PlainList D ys.toArray) (hR : Rows f ys (rws ns)) (hNm : f.PlainList Nm us.toArray) (hus : IntsAre us (nms ns))
    (next : ∀ f' h' tk', Sub f f' → LX w G f' L m cm h' → wpAny (Md w) A (execs ((lawB w.params).drop 7) (lenv w.params L)) Q E (St s₀ h' tk')) :
    wpAny (Md w) A (execs ((lawB w.params).drop 6) (lenv w.params L)) Q E (St s₀ h tk) := by
  have hb := np_bounds ns
  have hw2 := (wide_eq ns).2
  have hm2 := (many_eq ns).2
  have hyl : ys.length = np ns := by rw [hR.1, rws_len]
  have hul : us.length = np ns := by rw [hus.length, nms_len]
  have hN1 : h.IsList Nm us.toArray := IsList.keeps hNm.isList X.F.keep
  refine wpAny_execs_cons (wpAny_If (wpAny_isTrue_Compare1 ?_))
  refine compV (mu := [30, 59]) X.F (lcs_nd L) X.mu ?_ rfl
  refine EvV.run (evC X.F rfl hN) fun tk1 => ?_
  refine wpAny_pyIter_list hN1 ?_
  refine ⟨_, _, _, _, _, h, _, _, fun i v y g => ∃ l, y = .ref l ∧ LI g l ((pt ns i).map Int.ofNat), rfl, rfl, X.F, Ext.refl _, Src.list hh X.F.tab hN1 (by simp; lia), ?_, ?_, ?_⟩
  · rintro i v y g g' ⟨l, e, hl⟩ k
    exact ⟨l, e, hl.keeps k⟩
  · intro C i v h' tk' mC hid Q E hi hP hns hx F' X' T' hhid hq
    have hi' : i < np ns := by simp at hi; lia
    have hP' : us[i]? = some v := by simpa using hP
    obtain ⟨d, t, hd, rfl⟩ := ints_get hus hP'
    rw [nms_get hi'] at hd; cases hd
    have S' : Stat w h' := X.stat.ext X'
    have hpl := pt_len hi'
    have e : num (wideOf ns) (pt ns i) = (((num (wideOf ns) (pt ns i)).toNat : Nat) : Int) := by have := (num_bound (wideOf ns) (pt ns i)).1; lia
    refine callF (evG S' (gl_dealt _)) fun tk2 => ?_
    refine EvV.run (evX hns hx) fun tk3 => ?_
    refine EvV.run (evYF F' rfl hmn) fun tk4 => ?_
    refine EvV.run (evYF F' rfl hw) fun tk5 => ⟨⟨_, _, _, _, S'.1 52 _ rfl⟩, ?_⟩
    rw [e]
    refine law_dealt (s₀ := s₀) hw2.1 (num_bits hi') (by lia) (by lia) (by lia) hh S' T' fun l h2 tk6 X2 T2 nl hl => ?_
    have e2 := deal_num (nn := wideOf ns) hw2.1 (ps := pt ns i) (by lia)
    rw [hpl] at e2
    rw [e2] at hl
    exact hq _ _ _ X2 T2 ⟨l, rfl, hl.hide fun hm => hhid l hm nl⟩
  intro D2 f2 h2 tk3 vs vs2 sf F2 X2 hmu hD2 h1' h2' h3' h4' hDn
  have XX := X.ofV F2 sf X2 hmu
  have hvl : vs.length = np ns := by rw [h2']; simp [hul]
  have hvs : Rows f2 vs (rws ns) := by
    refine ⟨by rw [hvl, rws_len], fun j r hr => ?_⟩
    have hj : j < np ns := by have := (List.getElem?_eq_some_iff.mp hr).1; rwa [rws_len] at this
    rw [rws_get hj] at hr; cases hr
    obtain ⟨l, e1, e2⟩ := h4' j _ _ (List.getElem?_eq_getElem (by rw [h1']; simp; lia)) (List.getElem?_eq_getElem (by lia))
    exact ⟨l, by rw [List.getElem?_eq_getElem (by lia), e1], e2⟩
  refine EvV.run (evC F2 rfl hp) fun tk4 => ?_
  obtain ⟨as1, r1⟩ := (hvs.sub F2.keep).reads (IsList.keeps hD2.isList F2.keep)
  obtain ⟨as2, r2⟩ := ((hR.sub sf).sub F2.keep).reads (IsList.keeps (IsList.keeps hD.isList sf) F2.keep)
  refine ne_same r1 r2 (canRows _) (by show PyData.depthAll _ + 1 ≤ 10; have := depRows (rws ns); lia) hu ?_
  refine wpAny_truthy_bool ?_
  exact wpAny_execs_nil (next f2 h2 _ sf XX)
set_option maxHeartbeats 1000000 in
theorem law7 (hh : A.handled = none) (hdep : A.depth + 90 < recursionLimit) (X : LX w G f L m cm h) (hp : cm "points" = some (.ref D)) (hD : f.PlainList D ys.toArray) (hR : Rows f ys (rws ns))
    (next : ∀ Tg ts f' h' tk', Sub f f' → LX w G f' L m (upd cm "things" (.ref Tg)) h' → f'.PlainList Tg ts.toArray → Things f' (np ns) ts (pt ns) → wpAny (Md w) A (execs ((lawB w.params).drop 8) (lenv w.params L)) Q E (St s₀ h' tk')) :
    wpAny (Md w) A (execs ((lawB w.params).drop 7) (lenv w.params L)) Q E (St s₀ h tk) := by
  have hb := np_bounds ns
  have hyl : ys.length = np ns := by rw [hR.1, rws_len]
  have hD1 : h.IsList D ys.toArray := IsList.keeps hD.isList X.F.keep
  refine wpAny_execs_cons (wpAny_Assign_Name ?_)
  refine compV (mu := [30, 59]) X.F (lcs_nd L) X.mu ?_ rfl
  refine callT (evB X.stat (gl_range _)) fun tk1 => ?_
  refine EvI.run ((evLen (evB X.stat (gl_len _)) (evC X.F rfl hp) hD1 (by rw [List.size_toArray]; lia)).eq (r := ((np ns : Nat) : Int)) (by rw [List.size_toArray, hyl])) fun t2 tk2 => ?_
  refine iterRange X.F.tab (by lia) hh fun h₁ h₂ tk5 I k1 T1 hI Sr => ?_
  refine ⟨_, _, _, _, _, h₁, _, _, fun i v y g => ∃ t u p, y = .ref t ∧ IsTup g t #[.ref p, .int i u] ∧ ys[i]? = some (.ref p), rfl, rfl, X.F.keeps k1, Ext.of_keeps k1, Sr, ?_, ?_, ?_⟩
  · rintro i v y g g' ⟨t, u, p, e1, e2, e3⟩ k
    exact ⟨t, u, p, e1, e2.keeps k, e3⟩
  · intro C i v h' tk' mC hid Q E hi hP hns hx F' X' T' hhid hq
    obtain ⟨t, rfl⟩ := hP
    obtain ⟨l, el, hl⟩ := hR.2 i _ (rws_get hi)
    refine Tuple_ (spliced_evArgs [_, _] _ _ ?_)
    refine EvV.run (evItem (evYF F' rfl hp) (evX hns hx).i (IsList.keeps hD.isList F'.keep) (by lia) (by lia) (x := .ref l) (by simpa using el)) fun tk3 => ?_
    refine EvV.run (evX hns hx) fun tk4 => ?_
    refine wp_newObj (by show 2 ≤ _; rw [sizeLine_eq]; lia) rfl fun T h2 nT gT k2 => ?_
    refine hq _ _ _ (Ext.of_keeps k2) (T'.keeps fun b o _ _ e => k2 b o e) ⟨T, t, l, rfl, ?_, el⟩
    exact ⟨_, hideAll_get _ gT fun hm => hhid T hm nT, rfl, 0, rfl⟩
  intro D2 f2 h2 tk3 ts vs2 sf F2 X2 hmu hD2 h1' h2' h3' h4' hDn
  have XX := X.ofV F2 sf X2 hmu
  refine XX.stC rfl fun h3 tk4 X3 k3 => ?_
  refine next D2 ts f2 h3 tk4 sf X3 hD2 ⟨h2', fun i hi => ?_⟩
  obtain ⟨t, u, p, e1, e2, e3⟩ := h4' i _ _ (List.getElem?_eq_getElem (by lia)) (List.getElem?_eq_getElem (by lia))
  obtain ⟨l, el, hl⟩ := hR.2 i _ (rws_get hi)
  rw [e3] at el; cases el
  exact ⟨t, by rw [List.getElem?_eq_getElem (by lia), e1], p, u, e2, hl.keeps sf⟩
end
end Mine

end
section
open PySem PySem.W PyProof.Rows PySem.Calls
set_option Elab.async false
set_option linter.unusedVariables false
set_option maxRecDepth 100000
set_option pp.deepTerms false
set_option pp.maxSteps 1500
namespace Mine
theorem Tab1.but {h h' : Heap} {P Pt : Addr} {pos : Pos} {q : Str} {ps : Array Value} (x : Tab1 h Pt pos q) (hP : h.get? P = some (tabObj ps)) (hs : ∀ q t, ps[1]? ≠ some (.str q t)) (e : Heap.ExtBut P h h') (hne : Pt ≠ P) : Tab1 h' Pt pos q := by
  obtain ⟨qs, e1, r⟩ := x
  refine ⟨qs, e _ _ hne e1, r.imp id ?_⟩
  rintro ⟨c, e2, e3, e4, c', o, vs, t, e5, e6, e7, e8⟩
  cases e5
  refine ⟨c, e2, e3, e4, c, o, vs, t, rfl, e _ _ ?_ e6, e7, e8⟩
  rintro rfl
  rw [hP] at e6; cases e6
  cases e7
  exact hs _ _ e8
theorem Fn.but {f h h' : Heap} {L P : Addr} {m cm : Str → Option Value} {cs : List (Str × Addr)} {ps : Array Value} (F : Fn f L m cs cm h) (hP : h.get? P = some (tabObj ps)) (hs : ∀ q t, ps[1]? ≠ some (.str q t)) (e : Heap.ExtBut P h h') (nP : f.get? P = none) (h16 : 16 ≠ P) (h23 : 23 ≠ P) : Fn f L m cs cm h' := by
  refine ⟨?_, fun n c hc => ?_, F.apart, fun b o eb => e b o ?_ (F.keep b o eb), F.noL, F.noC, F.no16, F.no23, ⟨F.tab.t16.but hP hs e h16, F.tab.t23.but hP hs e h23⟩⟩
  · obtain ⟨o, es, ep, eo, hd, r⟩ := F.ns
    exact ⟨o, es, ep, e _ _ (ne_of_data eo hP (by rw [hd]; intro h; cases h)) eo, hd, r⟩
  · obtain ⟨o, eo, hd⟩ := F.cell n c hc
    exact ⟨o, e _ _ (ne_of_data eo hP (by rw [hd]; intro h; cases h)) eo, hd⟩
  · rintro rfl; rw [nP] at eb; cases eb
/-- law's frame once the key is made -/
structure LY (w : World) (G f : Heap) (L : Addr) (m cm : Str → Option Value) (h : Heap) : Prop where
  F : Fn f L m (lcs L) cm h
  sub : Sub G f
  st : Stat w f
  t30 : ∃ ps, h.get? 30 = some (tabObj ps)
  t59 : ∃ ps, h.get? 59 = some (tabObj ps)
  big : 62 < L
theorem hd61 {w : World} {h : Heap} (S : Stat w h) : CodeHd h 61 59 := ⟨_, _, _, _, _, _, _, _, _, S.1 61 _ rfl, rfl, rfl, rfl, rfl, rfl, rfl, rfl, rfl, by decide⟩
theorem builtinsAt59 {w : World} {h : Heap} (S : Stat w h) : h.BuiltinsAt (nsFind (es3 w.params)) 59 :=
  let ⟨o4, e4, c4, d4, t4⟩ := S.2.2
  ⟨4, o4, by kernel_rfl, by decide, by decide, by decide, e4, c4, d4, t4⟩
theorem Stat.but59 {w : World} {h h' : Heap} (S : Stat w h) (e : Heap.ExtBut 59 h h') : Stat w h' := by
  refine S.move fun a o x ea => ?_
  exact e a o (of_decide_eq_true (x.of (p := fun a => decide (a ≠ 59)) (by kernel_rfl))) ea
section
variable {w : World} {s₀ : Shared} {A : Around} {G f h : Heap} {L : Addr} {m cm : Str → Option Value} {tk : Nat} {Q : Flow → Shared → Prop} {E : Value → Shared → Prop}
variable {ns : List Int} {tw : Tok}
set_option maxHeartbeats 1000000 in
theorem law8 (hh : A.handled = none) (hdep : A.depth + 90 < recursionLimit) (X : LX w G f L m cm h) (hw : cm "wide" = some (.int (wideOf ns) tw)) (hsm : In sysModules G)
    (next : ∀ a N md mc f0 f1 f2 lam h' tk', LY w G f L (upd m "told_key" (.ref a)) cm h' → Key w.params h' (wideOf ns) a N md mc f0 f1 f2 lam (L + 1 + 1 + 1 + 1 + 1 + 1) → N ≠ L → wpAny (Md w) A (execs ((lawB w.params).drop 9) (lenv w.params L)) Q E (St s₀ h' tk')) :
    wpAny (Md w) A (execs ((lawB w.params).drop 8) (lenv w.params L)) Q E (St s₀ h tk) := by
  refine wpAny_execs_cons (wpAny_Assign_Name ?_)
  refine callF (evG X.stat (gl_c2k _)) fun tk1 => ?_
  refine kla_eval rfl ?_
  refine kla_makeFunction (mg := nsFind (es3 w.params)) (s := St s₀ h tk1) (clos := [("wide", L + 1 + 1 + 1 + 1 + 1 + 1)]) rfl rfl X.stat.ns3 rfl (hd61 X.stat) X.t59 trivial (by kernel_rfl) (by decide) (builtinsAt59 X.stat) fun c' ctv h1 tk2 hx hge hlt hrec htb => ?_
  have hx' : Heap.ExtBut 59 h h1 := hx
  obtain ⟨lam, hlam⟩ : ∃ lam, lam = h1.objs.size := ⟨_, rfl⟩
  obtain ⟨h2, hh2⟩ : ∃ h2, h2 = h1.push (kla_obj "<lambda>" ((lenv w.params L).qual ++ "<lambda>") (lamP w.params).1 (lamP w.params).2.1 (lamP w.params).2.2 [("wide", L + 1 + 1 + 1 + 1 + 1 + 1)] ((nsFind (es3 w.params) "__name__").getD .none) c' ctv) := ⟨_, rfl⟩
  show FnAt 35 _ ∧ wpAny _ _ (call (.ref 35) [.ref h1.objs.size]) _ _ (St s₀ (h1.push (kla_obj "<lambda>" ((lenv w.params L).qual ++ "<lambda>") (lamP w.params).1 (lamP w.params).2.1 (lamP w.params).2.2 [("wide", L + 1 + 1 + 1 + 1 + 1 + 1)] ((nsFind (es3 w.params) "__name__").getD .none) c' ctv)) tk2)
  rw [← hlam, ← hh2]
  have k2 : Sub h1 h2 := fun b o e => by rw [hh2]; exact Heap.get?_push_of_some _ e
  have glam : h2.get? lam = some (kla_obj "<lambda>" ((lenv w.params L).qual ++ "<lambda>") (lamP w.params).1 (lamP w.params).2.1 (lamP w.params).2.2 [("wide", L + 1 + 1 + 1 + 1 + 1 + 1)] ((nsFind (es3 w.params) "__name__").getD .none) c' ctv) := by rw [hh2, hlam]; exact Heap.get?_push_size _ rfl
  have F1 : Fn f L m (lcs L) cm h1 := X.F.but X.t59 (fun q t h => by simp at h) hx' X.n59 (by decide) (by decide)
  have F2 := F1.keeps k2
  have S2 : Stat w h2 := X.st.keeps F2.keep
  have hq : (lenv w.params L).qual ++ ("<lambda>" : Str) = ("law.<locals>.<lambda>" : Str) := by kernel_rfl
  rw [hq] at glam hrec
  have Lm2 : Lam w.params h2 lam (L + 1 + 1 + 1 + 1 + 1 + 1) := ⟨_, c', ctv, glam, hrec.keeps k2⟩
  have t30 : h2.get? 30 = some (tabObj #[]) := k2 _ _ (hx' _ _ (by decide) X.t30)
  have t59 : h2.get? 59 = some (tabObj (#[] ++ #[rawInt _, rawInt _, .ref c'])) := k2 _ _ htb
  have g35 := S2.1 35 _ rfl
  refine ⟨⟨_, _, _, _, by rw [hh2] at g35; exact g35⟩, ?_⟩
  refine cmpToKey hh (by lia) S2 F2.tab t30 ((hsm.sub X.sub).sub F2.keep) fun a N md mc f0 f1 f2 h3 tk3 x3 ht30 na nN nmd nmc C Cmc => ?_
  obtain ⟨ps30, e30⟩ := ht30
  have F3 : Fn f L m (lcs L) cm h3 := F2.but t30 (fun q t h => by simp at h) x3 X.n30 (by decide) (by decide)
  have good30 : ∀ b o, kgood o → h2.get? b = some o → b ≠ 30 := by
    rintro b o g e rfl
    rw [t30] at e; cases e
    rcases g with ⟨_, g⟩ | ⟨_, g⟩ | ⟨_, _, _, g, gv⟩ <;> cases g
    simp at gv
  have Lm3 : Lam w.params h3 lam (L + 1 + 1 + 1 + 1 + 1 + 1) := Lm2.move fun b o g e => x3 b o (good30 b o g e) e
  have NL : N ≠ L := by
    rintro rfl
    obtain ⟨o, _, _, e, _⟩ := F2.ns
    rw [nN] at e; cases e
  have mdL : md ≠ L := by
    rintro rfl
    obtain ⟨o, _, _, e, _⟩ := F2.ns
    rw [nmd] at e; cases e
  have cw3 : h3.IsCell (L + 1 + 1 + 1 + 1 + 1 + 1) (some (.int (wideOf ns) tw)) := hw ▸ F3.cell "wide" _ rfl
  have K3 : Key w.params h3 (wideOf ns) a N md mc f0 f1 f2 lam (L + 1 + 1 + 1 + 1 + 1 + 1) := ⟨C, Cmc, Lm3, tw, cw3⟩
  refine stL' F3 fun h4 tk4 F4 s4 => ?_
  obtain ⟨oL, esL, epL, eL, hdL, _⟩ := F3.ns
  have up : ∀ b o, (∀ es n, o.data ≠ .dict es n) → h3.get? b = some o → h4.get? b = some o := fun b o hd e => (s4.2 b (ne_of_data e eL (by rw [hdL]; exact hd _ _))).trans e
  have kg : ∀ b o, kgood o → h3.get? b = some o → h4.get? b = some o := fun b o g e => up b o (fun es n hd => by
    rcases g with ⟨_, g⟩ | ⟨_, g⟩ | ⟨_, _, _, g, _⟩ <;> rw [hd] at g <;> cases g) e
  have cl : ∀ {c : Addr} {v : Option Value}, h3.IsCell c v → h4.IsCell c v := fun {c v} x => let ⟨o, e, hd⟩ := x; ⟨o, up _ _ (fun es n hd' => by rw [hd] at hd'; cases hd') e, hd⟩
  have K4 : Key w.params h4 (wideOf ns) a N md mc f0 f1 f2 lam (L + 1 + 1 + 1 + 1 + 1 + 1) := by
    refine ⟨C.move kg (fun o e => (s4.2 N NL).trans e) (fun o e => (s4.2 md mdL).trans e), cl Cmc, Lm3.move kg, tw, cl cw3⟩
  refine next a N md mc f0 f1 f2 lam h4 tk4 ⟨F4, X.sub, X.st, ⟨ps30, up _ _ (fun _ _ h => nomatch h) e30⟩, ⟨_, up _ _ (fun _ _ h => nomatch h) (x3 _ _ (by decide) t59)⟩, X.big⟩ K4 NL
end
end Mine

end
section
open PySem PySem.W PyProof.Rows PySem.Calls
set_option Elab.async false
set_option linter.unusedVariables false
set_option maxRecDepth 100000
set_option pp.deepTerms false
set_option pp.maxSteps 1500
namespace Mine
section
variable {w : World} {A : Around} {E : Value → Shared → Prop} {env : Env} {s₀ : Shared} {f h : Heap} {L : Addr} {m cm : Str → Option Value} {cs : List (Str × Addr)} {tk : Nat}
variable {elt iter : Expr} {x : Str} {px : Pos} {scope : Scope} {cl : List (Str × Addr)} {pos : Pos} {mu : List Addr}
/-- a comprehension that a local name takes -/
theorem compAL2 {y : Str} {py spos : Pos} {Q : Flow → Shared → Prop} (F₀ : Fn f L m cs cm h) (nd : (cs.map (·.1)).Nodup) (hmu : ∀ b ∈ mu, f.get? b = none ∧ In b h)
    (hq : wpAny (Md w) A (eval iter env) (fun xv s₁ => wpAny (Md w) A (pyIter xv) (fun it s₂ => ∃ I fp n P Z h₁ h₂ tk₂ G, s₂ = St s₀ h₂ tk₂ ∧ it = .ref I ∧ Fn f L m cs cm h₁ ∧ Ext h h₁ ∧ Src w A h₁ I fp n P Z h₂ ∧ Mono G ∧
      Elt w A s₀ env scope cl elt x n P h₁ (Fn f L m cs cm) G ∧
      (∀ D f' h' tk' (ys vs : List Value), Sub f f' → Fn f' L (upd m y (.ref D)) cs cm h' → ExtB [L] h h' → (∀ b ∈ mu, f'.get? b = none) → f'.PlainList D ys.toArray → vs.length = n → ys.length = n → (∀ j v, vs[j]? = some v → P j v) → (∀ j v y, vs[j]? = some v → ys[j]? = some y → G j v y f') →
        h.get? D = none → Q .next (St s₀ h' tk'))) E s₁) E (St s₀ h tk))
    (hsw : swapsWith (.ListComp elt [⟨.Name x px, iter, [], 0⟩] scope pos) (some (.Name y py)) spos.line env = pure true)
    (hclos : closureFor scope env = pure cl) (hcell : (scope.names.all fun y => !(y.2 == .cell)) = true := by rfl) (hkind : scope.kind = .function := by rfl)
    (hnames : (scope.names.all fun y => !(y.2 == .local) || scope.names.lookup y.1 == some .local) = true := by rfl) (hx : scope.names.lookup x = some .local := by rfl)
    (hs : ∀ x, foldedSetIterable iter env x = pure x := by intro _; rfl)
    (hk : env.scope.kind = .function := by rfl) (hl : env.kindOf y = some .local := by rfl) (hL : env.locals = L := by rfl) :
    wpAny (Md w) A (exec (.Assign [.Name y py] (.ListComp elt [⟨.Name x px, iter, [], 0⟩] scope pos) spos) env) Q E (St s₀ h tk) := by
  refine compA hsw hclos hcell hkind hnames hx (wpAny_mono hq (fun xv s₁ h₁ => wpAny_mono h₁ (fun it s₂ h₂ => ?_) fun _ _ e => e) fun _ _ e => e) hs
  obtain ⟨I, fp, n, P, Z, h₁, h₂, tk₂, G, rfl, rfl, F, X, Sr, mono, helt, hQ⟩ := h₂
  have ce := F.cells nd
  have fI : ∀ b o, h₁.get? b = some o → b ∉ [I] := fun b o e hm => by rw [List.mem_singleton] at hm; subst hm; rw [Sr.new] at e; cases e
  have F₂ : Fn f L m cs cm h₂ := F.keeps Sr.sub
  refine ⟨I, fp, [I], L :: (cs.map (·.2) ++ mu), n, P, Z, h₂, tk₂, G, rfl, rfl, Sr.walks, Sr.small, Sr.start, Sr.fpOk, Sr.wrOk, F₂.tab, mono, helt.ok F (Ext.refl _) Sr ?_, ?_⟩
  · intro b hb
    rcases List.mem_cons.mp hb with rfl | hb
    · exact F.inL
    · rcases List.mem_append.mp hb with hb | hb
      · exact (ce b hb).1
      · exact (hmu b hb).2.ext X F.tab
  · intro D C h' tk' m' ys vs hD hC hDC hCw hDw hcp h1 h2 h3 h4
    refine compStL F₂ hcp (fun b hb => ?_) (Sr.wrOk _ _ Sr.start) hC hD hDC (fun h3' tk3 F3 k3 pl3 => ?_) hk hl hL
    · rw [List.mem_singleton] at hb; subst hb
      cases e : f.get? b with
      | none => rfl
      | some o => exact absurd (List.mem_singleton.mpr rfl) (fI b o (F.keep b o e))
    have hne : ∀ (D : Addr), h₂.get? D = none → ∀ b, In b h₁ → D ≠ b := by
      rintro D hD b hb rfl
      obtain ⟨o, e⟩ := hb.get
      rw [Sr.sub _ _ e] at hD; cases hD
    refine hQ D (fz h3' L cs mu) h3' tk3 ys vs (F3.subFz nd fun b hb => (hmu b hb).1) (F3.refreeze mu) (fun b o p q r e => ?_) (fun b hb => hideAll_none _ (by simp [hb])) ?_ h1 h2 h3 ?_ ?_
    · have e1 := X b o p q e
      exact k3 b o (by simpa using r) (Ne.symm (hne C hC b (In.of e1))) (hcp.keep b o (fI b o e1) p q (Sr.sub _ _ e1))
    · obtain ⟨k, e⟩ := pl3
      refine ⟨k, hideAll_get _ e ?_⟩
      simp only [List.mem_cons, List.mem_append, not_or]
      exact ⟨hne D hD _ F.tab.t16.in, hne D hD _ F.tab.t23.in, hne D hD _ F.inL, fun hm => hne D hD _ (ce _ hm).1 rfl, fun hm => hne D hD _ ((hmu _ hm).2.ext X F.tab) rfl⟩
    · intro j v y hj hy
      refine mono _ _ _ _ _ (h4 j v y hj hy) fun b o e => ?_
      have h1 : b ∉ (16 :: 23 :: C :: D :: ([I] ++ (L :: (cs.map (·.2) ++ mu)))) := fun hm => by rw [hideAll_none _ hm] at e; cases e
      simp only [List.mem_cons, List.mem_append, not_or, List.not_mem_nil, not_false_iff, and_true] at h1
      refine hideAll_get _ (k3 b o h1.2.2.2.2.2.1 h1.2.2.1 (of_hideAll _ e)) ?_
      simp only [List.mem_cons, List.mem_append, not_or]
      exact ⟨h1.1, h1.2.1, h1.2.2.2.2.2.1, h1.2.2.2.2.2.2.1, h1.2.2.2.2.2.2.2⟩
    · cases e : h.get? D with
      | none => rfl
      | some o => exact absurd rfl (hne D hD D ((In.of e).ext X F.tab))
end
section
variable {w : World} {s₀ : Shared} {A : Around} {G f h : Heap} {L : Addr} {m cm : Str → Option Value} {tk : Nat} {Q : Flow → Shared → Prop} {E : Value → Shared → Prop}
variable {ns : List Int} {Nm Tg : Addr} {us ts : List Value}
theorem LY.stat (X : LY w G f L m cm h) : Stat w h := X.st.keeps X.F.keep
noncomputable def numf (ns : List Int) (i : Nat) : Int := num (wideOf ns) (pt ns i)
set_option maxHeartbeats 1000000 in
theorem law9 (hh : A.handled = none) (hdep : A.depth + 90 < recursionLimit) (X : LY w G f L m cm h) (hN : cm "numbers" = some (.ref Nm)) (hT : cm "things" = some (.ref Tg)) (hNm : f.PlainList Nm us.toArray) (hus : IntsAre us (nms ns)) (hTg : f.PlainList Tg ts.toArray) (hts : ts.length = np ns)
    (next : ∀ Du qs f' h' tk', Sub f f' → LY w G f' L (upd m "due" (.ref Du)) cm h' → ExtB [L] h h' → f'.IsList Du (qs.map fun i => ts.getD i Value.none).toArray → Stab (numf ns) (np ns) qs → wpAny (Md w) A (execs ((lawB w.params).drop 10) (lenv w.params L)) Q E (St s₀ h' tk')) :
    wpAny (Md w) A (execs ((lawB w.params).drop 9) (lenv w.params L)) Q E (St s₀ h tk) := by
  have hb := np_bounds ns
  have hul : us.length = np ns := by rw [hus.length, nms_len]
  have hN1 : h.IsList Nm us.toArray := IsList.keeps hNm.isList X.F.keep
  refine wpAny_execs_cons (compAL2 (mu := []) X.F (lcs_nd L) (by simp) ?_ rfl rfl)
  refine callB (evB X.stat (gl_sorted _)) fun tk1 => ?_
  refine compV (mu := []) X.F (lcs_nd L) (by simp) ?_ rfl
  refine callT (evB X.stat (gl_range _)) fun tk1 => ?_
  refine EvI.run ((evLen (evB X.stat (gl_len _)) (evC X.F rfl hN) hN1 (by rw [List.size_toArray]; lia)).eq (r := ((np ns : Nat) : Int)) (by rw [List.size_toArray, hul])) fun t2 tk2 => ?_
  refine iterRange X.F.tab (by lia) hh fun h₁ h₂ tk5 I k1 T1 hI Sr => ?_
  refine ⟨_, _, _, _, _, h₁, _, _, fun i v y g => ∃ t u1 u2, y = .ref t ∧ IsTup g t #[.int (numf ns i) u1, .int i u2], rfl, rfl, X.F.keeps k1, Ext.of_keeps k1, Sr, ?_, ?_, ?_⟩
  · rintro i v y g g' ⟨t, u, p, e1, e2⟩ k
    exact ⟨t, u, p, e1, e2.keeps k⟩
  · intro C i v h' tk' mC hid Q E hi hP hns hx F' X' T' hhid hq
    obtain ⟨t, rfl⟩ := hP
    obtain ⟨u1, eu⟩ := ints_at hus (nms_get hi)
    refine Tuple_ (spliced_evArgs [_, _] _ _ ?_)
    refine EvV.run (evItem (evYF F' rfl hN) (evX hns hx).i (IsList.keeps hNm.isList F'.keep) (by lia) (by lia) (x := .int (num (wideOf ns) (pt ns i)) u1) (by simpa using eu)) fun tk3 => ?_
    refine EvV.run (evX hns hx) fun tk4 => ?_
    refine wp_newObj (by show 2 ≤ _; rw [sizeLine_eq]; lia) rfl fun T h2 nT gT k2 => ?_
    refine hq _ _ _ (Ext.of_keeps k2) (T'.keeps fun b o _ _ e => k2 b o e) ⟨T, u1, t, rfl, ?_⟩
    exact ⟨_, hideAll_get _ gT fun hm => hhid T hm nT, rfl, 0, rfl⟩
  intro D2 f2 h2 tk3 ps vs2 sf F2 X2 hmu hD2 h1' h2' h3' h4' hDn
  have Pf2 : Pairs f2 (np ns) ps (numf ns) := by
    refine ⟨h2', fun i hi => ?_⟩
    obtain ⟨t, u1, u2, e1, e2⟩ := h4' i _ _ (List.getElem?_eq_getElem (by lia)) (List.getElem?_eq_getElem (by lia))
    exact ⟨t, u1, u2, by rw [List.getElem?_eq_getElem (by lia), e1], e2⟩
  have Ph2 := Pf2.keeps F2.keep
  have Pz : Pairs (hideAll h2 [16, 23]) (np ns) ps (numf ns) := ⟨Ph2.len, fun i hi => let ⟨t, u1, u2, e, r⟩ := Ph2.at_ i hi; ⟨t, u1, u2, e, IsTup.ext r F2.tab (ext_frozen h2)⟩⟩
  refine sortedT (Wk.freeze F2.tab) Pz hb.1 (by lia) (IsList.keeps hD2.isList F2.keep) fun D3 qs h3 tk4 hst W3 s3 nD3 hD3 => ?_
  have F3 : Fn f L m (lcs L) cm h3 := (F2.keeps s3).down sf
  have Ph3 := Ph2.keeps s3
  have hql : qs.length = np ns := hst.len
  refine wpAny_pyIter_list hD3 ?_
  refine ⟨_, _, _, _, _, h3, _, _, fun i v y g => ∃ q, qs[i]? = some q ∧ y = ts.getD q Value.none, rfl, rfl, F3, X2.trans (Ext.of_keeps s3), Src.list hh F3.tab hD3 (by simp [hql]; lia), ?_, ?_, ?_⟩
  · rintro i v y g g' ⟨q, e1, e2⟩ k
    exact ⟨q, e1, e2⟩
  · intro C i v h' tk' mC hid Q E hi hP hns hx F' X' T' hhid hq
    have hi' : i < qs.length := by simpa using hi
    obtain ⟨q, hqi⟩ : ∃ q, qs[i]? = some q := ⟨_, List.getElem?_eq_getElem hi'⟩
    have hqn : q < np ns := hst.lt q (List.mem_of_getElem? hqi)
    have hv : v = ps.getD q Value.none := by
      have : (qs.map fun i => ps.getD i Value.none)[i]? = some v := by simpa using hP
      rw [List.getElem?_map, hqi] at this
      exact (Option.some.inj this).symm
    obtain ⟨t, u1, u2, et, tup⟩ := Ph3.at_ q hqn
    have hvt : v = .ref t := by rw [hv, List.getD_eq_getElem?_getD, et]; rfl
    subst hvt
    have tup' := IsTup.ext tup F3.tab X'
    have etq : ts[q]? = some (ts.getD q Value.none) := by simp [List.getD, hts ▸ hqn]
    refine EvV.run (evItem (evYF F' rfl hT) (evTup (k := 1) (evX hns hx) evK tup' (by show 1 < 2; lia) (by lia) rfl).i (IsList.keeps hTg.isList F'.keep) (by lia) (by lia) (x := ts.getD q Value.none) (by simpa using etq)) fun tk5 => ?_
    exact hq _ _ _ (Ext.refl _) T' ⟨q, hqi, rfl⟩
  intro D4 f4 h4 tk5 ds vs4 sf4 F4 X4 hmu4 hD4 i1 i2 i3 i4 hDn4
  have bigL : ∀ b ∈ [L], 62 < b := fun b hb => by rw [List.mem_singleton] at hb; subst hb; exact X.big
  have up30 : ∀ b o, b ≠ 16 → b ≠ 23 → b < 63 → h.get? b = some o → h4.get? b = some o := fun b o p q r e => X4 b o p q (fun hm => absurd (bigL b hm) (Nat.not_lt.mpr (Nat.le_of_lt_succ r))) e
  have hds : ds = qs.map fun i => ts.getD i Value.none := by
    apply List.ext_getElem?
    intro i
    by_cases c : i < qs.length
    · obtain ⟨q, e1, e2⟩ := i4 i _ _ (List.getElem?_eq_getElem (by rw [i1]; simpa using c)) (List.getElem?_eq_getElem (by rw [i2]; simpa using c))
      rw [List.getElem?_eq_getElem (by rw [i2]; simpa using c), e2, List.getElem?_map, e1]; rfl
    · rw [List.getElem?_eq_none (by rw [i2]; simp; lia), List.getElem?_eq_none (by simp; lia)]
  obtain ⟨p30, e30⟩ := X.t30
  obtain ⟨p59, e59⟩ := X.t59
  refine next D4 qs f4 h4 tk5 sf4 ⟨F4, X.sub.trans sf4, X.st.keeps sf4, ⟨p30, up30 _ _ (by decide) (by decide) (by decide) e30⟩, ⟨p59, up30 _ _ (by decide) (by decide) (by decide) e59⟩, X.big⟩ X4 ?_ hst
  rw [← hds]; exact hD4.isList
end
end Mine

end
section
open PySem PySem.W PyProof.Rows PySem.Calls
set_option Elab.async false
set_option linter.unusedVariables false
set_option maxRecDepth 100000
set_option pp.deepTerms false
set_option pp.maxSteps 1500
namespace Mine
section
variable {w : World} {A : Around} {env : Env} {s₀ : Shared} {h : Heap} {E : Value → Shared → Prop} {tk : Nat} {Q : Value → Shared → Prop}
/-- a call of a built-in with one argument and one keyword -/
theorem callBK {id : String} {x kn : Str} {p pos kp : Pos} {e kv : Expr} {v vk : Value} (hn : EvV w A env s₀ h (.Name x p) (.builtin id)) (he : EvV w A env s₀ h e v) (hk : EvV w A env s₀ h kv vk)
    (hq : ∀ tk', wpAny (Md w) A (call (.builtin id) [v] [(kn, vk)]) Q E (St s₀ h tk'))
    (hs : backTo pos (starEach [e] env) = [(false, eval e env)] := by rfl) : wpAny (Md w) A (eval (.Call (.Name x p) [e] [⟨some kn, kv, kp⟩] pos) env) Q E (St s₀ h tk) := by
  refine wpAny_Call_Name_kw (hn tk _ E fun tk1 => callWith_kw ?_ hs (by rw [hs]; rfl) rfl rfl)
  rw [hs]
  refine spliced_cons (he tk1 _ E fun tk2 => spliced_nil ?_)
  exact kws_cons (hk tk2 _ E fun tk3 => kws_nil (hq tk3))
end
theorem Key.extB {P : Params} {h h' : Heap} {nn : Nat} {a N md mc f0 f1 f2 lam cw L : Addr} {mL : Str → Option Value} (x : Key P h nn a N md mc f0 f1 f2 lam cw) (T : Tab h) (nL : h.Ns L mL) (hN : N ≠ L) (e : ExtB [L] h h') : Key P h' nn a N md mc f0 f1 f2 lam cw := by
  obtain ⟨oL, esL, epL, eL, hdL, _⟩ := nL
  have ne : ∀ b o, (∀ es n, o.data ≠ .dict es n) → h.get? b = some o → b ∉ [L] := fun b o hd eb hm => by
    rw [List.mem_singleton] at hm; subst hm
    rw [eL] at eb; cases eb
    exact hd _ _ hdL
  have k1 : ∀ b o, kgood o → h.get? b = some o → h'.get? b = some o := fun b o g eb => e b o (T.good eb g).1 (T.good eb g).2 (ne b o (fun es n hd => by
    rcases g with ⟨_, g⟩ | ⟨_, g⟩ | ⟨_, _, _, g, _⟩ <;> rw [hd] at g <;> cases g) eb) eb
  have cl : ∀ {c : Addr} {v : Option Value}, h.IsCell c v → h'.IsCell c v := fun {c v} x => by
    obtain ⟨o, eb, hd⟩ := x
    exact ⟨o, e _ _ (T.t16.ne eb (by rw [hd]; intro vs h; cases h)) (T.t23.ne eb (by rw [hd]; intro vs h; cases h)) (ne _ _ (fun es n hd' => by rw [hd] at hd'; cases hd') eb) eb, hd⟩
  refine ⟨x.cls.move k1 (fun o eo => ?_) (fun o eo => ?_), cl x.cell, x.lamb.move k1, let ⟨t, c⟩ := x.wide; ⟨t, cl c⟩⟩
  · obtain ⟨m, ⟨oN, es, ep, gN, hd, _⟩, _⟩ := x.cls.ns
    rw [gN] at eo; cases eo
    exact e _ _ (T.t16.ne gN (by rw [hd]; intro vs h; cases h)) (T.t23.ne gN (by rw [hd]; intro vs h; cases h)) (by simpa using hN) gN
  · obtain ⟨tO, gm⟩ := x.cls.mem
    rw [gm] at eo; cases eo
    exact e _ _ (T.t16.md gm) (T.t23.md gm) (ne _ _ (fun es n h => by simp [mdObj] at h) gm) gm
theorem tells (ns : List Int) : Tells (wideOf ns) (np ns) (pt ns) (numf ns) := by
  have hw2 := (wide_eq ns).2
  have hm2 := (many_eq ns).2
  refine ⟨hw2.1, fun i j hi hj => ⟨by rw [pt_len hi, pt_len hj], by rw [pt_len hi]; lia, by rw [pt_len hi]; lia, fun k hk => ?_⟩, fun i j r hi hj ho => (ordv_sign hw2.1 (by rw [pt_len hi, pt_len hj]) ho).1, fun i j r hi hj ho => (ordv_sign hw2.1 (by rw [pt_len hi, pt_len hj]) ho).2⟩
  have lt : ∀ i, (pt ns i).getD k 0 < 2 ^ 5 := fun i => by
    rw [List.getD_eq_getElem?_getD]
    cases e : (pt ns i)[k]? with
    | none => simp
    | some a => have := pt_lt (List.mem_of_getElem? e); show a < 32; lia
  have := bits5 (a := (pt ns i).getD k 0 ^^^ (pt ns j).getD k 0) (Nat.xor_lt_two_pow (lt i) (lt j))
  lia
noncomputable def thingD (ns : List Int) (i : Nat) : PyData := .tuple [.list (((pt ns i).map Int.ofNat).map .int), .int i]
theorem thing_reads {h : Heap} {t : Addr} {ns : List Int} {i : Nat} (x : Thing h t (pt ns i) i) : ∃ as, Reads h (.ref t) (thingD ns i) as := by
  obtain ⟨p, u, ⟨o, e, hc, n, hd⟩, hl⟩ := x
  exact ⟨_, .tuple e hc hd (.cons hl.reads (.cons (.int i u) .nil))⟩
theorem things_reads {h : Heap} {ns : List Int} {n : Nat} {ts : List Value} (x : Things h n ts (pt ns)) : ∀ qs : List Nat, (∀ q ∈ qs, q < n) → ∃ as, ReadsAll h (qs.map fun i => ts.getD i Value.none) (qs.map (thingD ns)) as
  | [], _ => ⟨_, .nil⟩
  | q :: r, hq => by
    obtain ⟨as, ih⟩ := things_reads x r fun y hy => hq y (.tail _ hy)
    obtain ⟨t, et, th⟩ := x.at_ q (hq q (.head _))
    obtain ⟨bs, hr⟩ := thing_reads th
    have : ts.getD q Value.none = .ref t := by rw [List.getD_eq_getElem?_getD, et]; rfl
    rw [List.map_cons, List.map_cons, this]
    exact ⟨_, .cons hr ih⟩
theorem thing_can (ns : List Int) (i : Nat) : (thingD ns i).canLay0 = true := by
  unfold thingD
  simp only [PyData.canLay0, PyData.canLayAll0, canInts, Bool.and_self]
theorem thing_dep (ns : List Int) (i : Nat) : (thingD ns i).depth ≤ 2 := by
  unfold thingD
  simp only [PyData.depth, PyData.depthAll, depInts]
  lia
theorem things_can (ns : List Int) : ∀ qs : List Nat, PyData.canLayAll0 (qs.map (thingD ns)) = true
  | [] => rfl
  | q :: r => by simp [PyData.canLayAll0, thing_can, things_can ns r]
theorem things_dep (ns : List Int) : ∀ qs : List Nat, PyData.depthAll (qs.map (thingD ns)) ≤ 2
  | [] => by simp [PyData.depthAll]
  | q :: r => by
    have h1 := thing_dep ns q
    have h2 := things_dep ns r
    simp only [List.map_cons, PyData.depthAll]
    lia
theorem Things.ext {h h' : Heap} {n : Nat} {vs : List Value} {pts : Nat → List Nat} (x : Things h n vs pts) (T : Tab h) (e : Ext h h') : Things h' n vs pts := ⟨x.len, fun i hi => let ⟨t, et, r⟩ := x.at_ i hi; ⟨t, et, r.ext T e⟩⟩
theorem LY.ext {w : World} {G f h h' : Heap} {L : Addr} {m cm : Str → Option Value} (X : LY w G f L m cm h) (e : Ext h h') (T : Tab h') : LY w G f L m cm h' :=
  ⟨X.F.ext e T, X.sub, X.st, let ⟨p, q⟩ := X.t30; ⟨p, e _ _ (by decide) (by decide) q⟩, let ⟨p, q⟩ := X.t59; ⟨p, e _ _ (by decide) (by decide) q⟩, X.big⟩
section
variable {w : World} {s₀ : Shared} {A : Around} {G f h : Heap} {L : Addr} {m cm : Str → Option Value} {tk : Nat} {Q : Flow → Shared → Prop} {E : Value → Shared → Prop}
variable {ns : List Int} {Nm Tg Du : Addr} {us ts : List Value} {a N md mc f0 f1 f2 lam cw : Addr} {qs : List Nat}
set_option maxHeartbeats 1000000 in
theorem law10 (hh : A.handled = none) (hdep : A.depth + 150 < recursionLimit) (hu : A.units + 100 < cLine) (X : LY w G f L m cm h) (Kx : Key w.params h (wideOf ns) a N md mc f0 f1 f2 lam cw) (hT : cm "things" = some (.ref Tg)) (hk : m "told_key" = some (.ref a)) (hd : m "due" = some (.ref Du)) (hTg : f.PlainList Tg ts.toArray) (Th : Things f (np ns) ts (pt ns)) (hDu : f.IsList Du (qs.map fun i => ts.getD i Value.none).toArray) (hst : Stab (numf ns) (np ns) qs)
    (next : ∀ h' tk', LY w G f L m cm h' → Key w.params h' (wideOf ns) a N md mc f0 f1 f2 lam cw → wpAny (Md w) A (execs ((lawB w.params).drop 11) (lenv w.params L)) Q E (St s₀ h' tk')) :
    wpAny (Md w) A (execs ((lawB w.params).drop 10) (lenv w.params L)) Q E (St s₀ h tk) := by
  have hb := np_bounds ns
  have Th1 := Th.keeps X.F.keep
  refine wpAny_execs_cons (wpAny_If (wpAny_isTrue_Compare1 ?_))
  refine callBK (evB X.stat (gl_sorted _)) (evC X.F rfl hT) (evL X.F hk) fun tk1 => ?_
  refine sortedK (by lia) hh (by lia) X.stat.frozen (Wk.freeze X.F.tab) (Kx.ext X.F.tab (ext_frozen h)) (Th1.ext X.F.tab (ext_frozen h)) (tells ns) hb.1 (by lia) (IsList.keeps hTg.isList X.F.keep) fun D ps h2 tk2 hps W2 nD hD => ?_
  have e2 : Ext h h2 := Ext.of_frozen W2.sub
  have X2 := X.ext e2 W2.tab
  refine EvV.run (evL X2.F hd) fun tk3 => ?_
  have epq := hps.unique hst
  subst epq
  obtain ⟨as, ra⟩ := things_reads (Th.keeps X2.F.keep) ps hps.lt
  obtain ⟨o1, g1, c1, n1, d1⟩ := hD
  obtain ⟨o2, g2, c2, n2, d2⟩ := IsList.keeps hDu X2.F.keep
  refine ne_same (.list g1 c1 d1 (by simpa using ra)) (.list g2 c2 d2 (by simpa using ra)) (things_can ns ps) (by show PyData.depthAll _ + 1 ≤ 10; have := things_dep ns ps; lia) (by lia) ?_
  refine wpAny_truthy_bool ?_
  exact wpAny_execs_nil (next h2 _ X2 (Kx.ext X.F.tab e2))
end
end Mine

end
section
open PySem PySem.W PyProof.Rows PySem.Calls
set_option Elab.async false
set_option linter.unusedVariables false
set_option maxRecDepth 100000
set_option pp.deepTerms false
set_option pp.maxSteps 1500
namespace Mine
theorem idx_first {l : List Int} {i : Nat} {M : Int} (hi : l[i]? = some M) (hf : ∀ j, j < i → l[j]? ≠ some M) : l.idxOf M = i := by
  have hM : M ∈ l := List.mem_of_getElem? hi
  have hlt := List.idxOf_lt_length_iff.mpr hM
  have e : l[l.idxOf M]? = some M := by rw [List.getElem?_eq_getElem hlt, List.getElem_idxOf]
  rcases Nat.lt_trichotomy (l.idxOf M) i with c | c | c
  · exact absurd e (hf _ c)
  · exact c
  · have hil := (List.getElem?_eq_some_iff.mp hi).1
    have := ne_of_lt_idxOf (ns := l) c hil
    rw [List.getElem?_eq_getElem hil] at hi
    rw [Option.some.inj hi] at this
    simp at this
section
variable {w : World} {s₀ : Shared} {A : Around} {G f h : Heap} {L : Addr} {m cm : Str → Option Value} {tk : Nat} {E : Value → Shared → Prop}
variable {ns : List Int} {Nm Tg : Addr} {us ts : List Value} {a N md mc f0 f1 f2 lam cw : Addr}

/-- things[numbers.index(min(numbers))] -/
theorem itemmin {Q : Value → Shared → Prop} {i : Nat} (hh : A.handled = none) (X : LY w G f L m cm h) (hT : cm "things" = some (.ref Tg)) (hN : cm "numbers" = some (.ref Nm)) (hTg : f.PlainList Tg ts.toArray) (hts : ts.length = np ns) (hNm : f.PlainList Nm us.toArray) (hus : IntsAre us (nms ns)) (hi : i < np ns) (hbest : ∀ j, j < np ns → numf ns i ≤ numf ns j ∧ (j < i → numf ns i < numf ns j))
    (hq : ∀ h' tk', Sub h h' → LY w G f L m cm h' → Q (ts.getD i Value.none) (St s₀ h' tk')) :
    wpAny (Md w) A (eval (.Subscript (.Name "things" ⟨96, 36, 96, 42⟩) (.Call (.Attribute (.Name "numbers" ⟨96, 43, 96, 50⟩) "index" ⟨96, 43, 96, 56⟩) [.Call (.Name "min" ⟨96, 57, 96, 60⟩) [.Name "numbers" ⟨96, 61, 96, 68⟩] [] ⟨96, 57, 96, 69⟩] [] ⟨96, 43, 96, 70⟩) ⟨96, 36, 96, 71⟩) (lenv w.params L)) Q E (St s₀ h tk) := by
  have hb := np_bounds ns
  have hN1 : h.PlainList Nm us.toArray := hNm.at fun o e => X.F.keep _ _ e
  have hLI : LI h Nm (nms ns) := ⟨us, hN1.isList, hus⟩
  refine Subscript_ (EvV.run (evC X.F rfl hT) fun tk1 => ?_)
  refine MethodCall_ (EvV.run (evC X.F rfl hN) fun tk3 => getMethod_list_of PySem.F.slot_list_index PySem.F.type_list_index hN1.isList ?_ ?_) rfl
  · obtain ⟨n, e⟩ := hN1; exact ⟨_, e, rfl⟩
  refine callWith_builtin rfl (evalArgs_plain (spliced_evArgs [_] _ _ ?_))
  refine callB (evB X.stat (gl_min _)) fun tk4 => ?_
  refine EvV.run (evC X.F rfl hN) fun tk5 => ?_
  refine minLI hh hLI (by rw [nms_len]; lia) fun h3 M t6 tk6 s3 hM1 hM2 => ?_
  refine indexLI (hLI.keeps s3) (by rw [nms_len]; lia) hM1 ?_
  have X3 := X.ext (Ext.of_keeps s3) (X.F.tab.keeps fun b o _ _ e => s3 b o e)
  have gi : (nms ns)[i]? = some (numf ns i) := nms_get hi
  have hMi : M = numf ns i := by
    obtain ⟨j, hj⟩ := List.mem_iff_getElem?.mp hM1
    have hjn : j < np ns := by have := (List.getElem?_eq_some_iff.mp hj).1; rwa [nms_len] at this
    rw [nms_get hjn] at hj
    have e1 : M = numf ns j := (Option.some.inj hj).symm
    have h1 := (hbest j hjn).1
    have h2 := hM2 _ (List.mem_of_getElem? gi)
    lia
  have hidx : (nms ns).idxOf M = i := by
    rw [hMi]
    refine idx_first gi fun j hj e => ?_
    have hjn : j < np ns := by lia
    rw [nms_get hjn] at e
    have e1 : numf ns j = numf ns i := Option.some.inj e
    have := (hbest j hjn).2 hj
    lia
  rw [hidx]
  have hTl : h3.IsList Tg ts.toArray := IsList.keeps hTg.isList X3.F.keep
  have etq : ts[i]? = some (ts.getD i Value.none) := by simp [List.getD, hts ▸ hi]
  exact tail_any (s := St s₀ h3 (tk6 + 1)) (Heap.IsList.typeIs hTl) slot_list_getitem.lookup (wpAny_getItem_list hTl (by lia) (by lia) (by simpa using etq) (hq h3 _ s3 X3)) (by with_unfolding_all rfl)

/-- things[numbers.index(max(numbers))] -/
theorem itemmax {Q : Value → Shared → Prop} {i : Nat} (hh : A.handled = none) (X : LY w G f L m cm h) (hT : cm "things" = some (.ref Tg)) (hN : cm "numbers" = some (.ref Nm)) (hTg : f.PlainList Tg ts.toArray) (hts : ts.length = np ns) (hNm : f.PlainList Nm us.toArray) (hus : IntsAre us (nms ns)) (hi : i < np ns) (hbest : ∀ j, j < np ns → numf ns i ≥ numf ns j ∧ (j < i → numf ns i > numf ns j))
    (hq : ∀ h' tk', Sub h h' → LY w G f L m cm h' → Q (ts.getD i Value.none) (St s₀ h' tk')) :
    wpAny (Md w) A (eval (.Subscript (.Name "things" ⟨98, 40, 98, 46⟩) (.Call (.Attribute (.Name "numbers" ⟨98, 47, 98, 54⟩) "index" ⟨98, 47, 98, 60⟩) [.Call (.Name "max" ⟨98, 61, 98, 64⟩) [.Name "numbers" ⟨98, 65, 98, 72⟩] [] ⟨98, 61, 98, 73⟩] [] ⟨98, 47, 98, 74⟩) ⟨98, 40, 98, 75⟩) (lenv w.params L)) Q E (St s₀ h tk) := by
  have hb := np_bounds ns
  have hN1 : h.PlainList Nm us.toArray := hNm.at fun o e => X.F.keep _ _ e
  have hLI : LI h Nm (nms ns) := ⟨us, hN1.isList, hus⟩
  refine Subscript_ (EvV.run (evC X.F rfl hT) fun tk1 => ?_)
  refine MethodCall_ (EvV.run (evC X.F rfl hN) fun tk3 => getMethod_list_of PySem.F.slot_list_index PySem.F.type_list_index hN1.isList ?_ ?_) rfl
  · obtain ⟨n, e⟩ := hN1; exact ⟨_, e, rfl⟩
  refine callWith_builtin rfl (evalArgs_plain (spliced_evArgs [_] _ _ ?_))
  refine callB (evB X.stat (gl_max _)) fun tk4 => ?_
  refine EvV.run (evC X.F rfl hN) fun tk5 => ?_
  refine maxLI hh hLI (by rw [nms_len]; lia) fun h3 M t6 tk6 s3 hM1 hM2 => ?_
  refine indexLI (hLI.keeps s3) (by rw [nms_len]; lia) hM1 ?_
  have X3 := X.ext (Ext.of_keeps s3) (X.F.tab.keeps fun b o _ _ e => s3 b o e)
  have gi : (nms ns)[i]? = some (numf ns i) := nms_get hi
  have hMi : M = numf ns i := by
    obtain ⟨j, hj⟩ := List.mem_iff_getElem?.mp hM1
    have hjn : j < np ns := by have := (List.getElem?_eq_some_iff.mp hj).1; rwa [nms_len] at this
    rw [nms_get hjn] at hj
    have e1 : M = numf ns j := (Option.some.inj hj).symm
    have h1 := (hbest j hjn).1
    have h2 := hM2 _ (List.mem_of_getElem? gi)
    lia
  have hidx : (nms ns).idxOf M = i := by
    rw [hMi]
    refine idx_first gi fun j hj e => ?_
    have hjn : j < np ns := by lia
    rw [nms_get hjn] at e
    have e1 : numf ns j = numf ns i := Option.some.inj e
    have := (hbest j hjn).2 hj
    lia
  rw [hidx]
  have hTl : h3.IsList Tg ts.toArray := IsList.keeps hTg.isList X3.F.keep
  have etq : ts[i]? = some (ts.getD i Value.none) := by simp [List.getD, hts ▸ hi]
  exact tail_any (s := St s₀ h3 (tk6 + 1)) (Heap.IsList.typeIs hTl) slot_list_getitem.lookup (wpAny_getItem_list hTl (by lia) (by lia) (by simpa using etq) (hq h3 _ s3 X3)) (by with_unfolding_all rfl)

set_option maxHeartbeats 1000000 in
theorem law11 {Q : Flow → Shared → Prop} (hh : A.handled = none) (hdep : A.depth + 150 < recursionLimit) (hu : A.units + 100 < cLine) (X : LY w G f L m cm h) (Kx : Key w.params h (wideOf ns) a N md mc f0 f1 f2 lam cw) (hT : cm "things" = some (.ref Tg)) (hN : cm "numbers" = some (.ref Nm)) (hk : m "told_key" = some (.ref a)) (hTg : f.PlainList Tg ts.toArray) (Th : Things f (np ns) ts (pt ns)) (hNm : f.PlainList Nm us.toArray) (hus : IntsAre us (nms ns))
    (next : ∀ h' tk', LY w G f L m cm h' → Key w.params h' (wideOf ns) a N md mc f0 f1 f2 lam cw → wpAny (Md w) A (execs ((lawB w.params).drop 12) (lenv w.params L)) Q E (St s₀ h' tk')) :
    wpAny (Md w) A (execs ((lawB w.params).drop 11) (lenv w.params L)) Q E (St s₀ h tk) := by
  have hb := np_bounds ns
  have Th1 := Th.keeps X.F.keep
  refine wpAny_execs_cons (wpAny_If (wpAny_isTrue_Compare1 ?_))
  refine callBK (evB X.stat (gl_min _)) (evC X.F rfl hT) (evL X.F hk) fun tk1 => ?_
  refine minK (by lia) hh (by lia) X.stat.frozen (Wk.freeze X.F.tab) (Kx.ext X.F.tab (ext_frozen h)) (Th1.ext X.F.tab (ext_frozen h)) (tells ns) (IsList.ext (IsList.keeps hTg.isList X.F.keep) X.F.tab (ext_frozen h)) (by lia) (by lia) fun i v h2 tk2 hi hv hbest W2 => ?_
  have e2 : Ext h h2 := Ext.of_frozen W2.sub
  have X2 := X.ext e2 W2.tab
  refine itemmin hh X2 hT hN hTg Th.len hNm hus hi hbest fun h3 tk3 s3 X3 => ?_
  obtain ⟨t, et, th⟩ := (Th.keeps X3.F.keep).at_ i hi
  obtain ⟨as, ra⟩ := thing_reads th
  rw [et] at hv
  have hg : ts.getD i Value.none = .ref t := by rw [List.getD_eq_getElem?_getD, et]; rfl
  rw [← Option.some.inj hv, hg]
  refine ne_same ra ra (thing_can ns i) (by have := thing_dep ns i; lia) (by lia) ?_
  refine wpAny_truthy_bool ?_
  exact wpAny_execs_nil (next h3 _ X3 ((Kx.ext X.F.tab e2).keeps s3))
set_option maxHeartbeats 1000000 in
theorem law12 {Q : Flow → Shared → Prop} (hh : A.handled = none) (hdep : A.depth + 150 < recursionLimit) (hu : A.units + 100 < cLine) (X : LY w G f L m cm h) (Kx : Key w.params h (wideOf ns) a N md mc f0 f1 f2 lam cw) (hT : cm "things" = some (.ref Tg)) (hN : cm "numbers" = some (.ref Nm)) (hk : m "told_key" = some (.ref a)) (hTg : f.PlainList Tg ts.toArray) (Th : Things f (np ns) ts (pt ns)) (hNm : f.PlainList Nm us.toArray) (hus : IntsAre us (nms ns))
    (done : ∀ h' tk', LY w G f L m cm h' → Q (.ret (.bool true)) (St s₀ h' tk')) :
    wpAny (Md w) A (execs ((lawB w.params).drop 12) (lenv w.params L)) Q E (St s₀ h tk) := by
  have hb := np_bounds ns
  have Th1 := Th.keeps X.F.keep
  refine wpAny_execs_cons (wpAny_Return_some (wpAny_Compare1 ?_))
  refine callBK (evB X.stat (gl_max _)) (evC X.F rfl hT) (evL X.F hk) fun tk1 => ?_
  refine maxK (by lia) hh (by lia) X.stat.frozen (Wk.freeze X.F.tab) (Kx.ext X.F.tab (ext_frozen h)) (Th1.ext X.F.tab (ext_frozen h)) (tells ns) (IsList.ext (IsList.keeps hTg.isList X.F.keep) X.F.tab (ext_frozen h)) (by lia) (by lia) fun i v h2 tk2 hi hv hbest W2 => ?_
  have e2 : Ext h h2 := Ext.of_frozen W2.sub
  have X2 := X.ext e2 W2.tab
  refine itemmax hh X2 hT hN hTg Th.len hNm hus hi hbest fun h3 tk3 s3 X3 => ?_
  obtain ⟨t, et, th⟩ := (Th.keeps X3.F.keep).at_ i hi
  obtain ⟨as, ra⟩ := thing_reads th
  rw [et] at hv
  have hg : ts.getD i Value.none = .ref t := by rw [List.getD_eq_getElem?_getD, et]; rfl
  rw [← Option.some.inj hv, hg]
  refine eq_same ra ra (thing_can ns i) (by have := thing_dep ns i; lia) (by lia) ?_
  exact done h3 _ X3
end
end Mine

end
section
open PySem PySem.W PyProof.Rows PySem.Calls
set_option Elab.async false
set_option linter.unusedVariables false
set_option maxRecDepth 100000
set_option pp.deepTerms false
set_option pp.maxSteps 1500
namespace Mine
set_option maxHeartbeats 4000000 in
theorem law_all {w : World} {s₀ : Shared} {A : Around} {h : Heap} {tk : Nat} {Q : Value → Shared → Prop} {E : Value → Shared → Prop} {sc : Addr} {vs : List Value} {ns : List Int} (hh : A.handled = none) (hdep : A.depth + 160 < recursionLimit) (hu : A.units + 110 < cLine) (S : Stat w h) (T : Tab h)
    (t30 : h.get? 30 = some (tabObj #[])) (t59 : h.get? 59 = some (tabObj #[])) (hsm : In sysModules h) (hl : h.IsList sc vs.toArray) (hi : IntsAre vs ns) (hb : ns.length ≤ 63)
    (hQ : ∀ h' tk', Sub (hideAll h [16, 23, 30, 59]) h' → Tab h' → (∃ ps, h'.get? 30 = some (tabObj ps)) → (∃ ps, h'.get? 59 = some (tabObj ps)) → Q (.bool true) (St s₀ h' tk')) :
    wpAny (Md w) A (call (.ref 62) [.ref sc]) Q E (St s₀ h tk) := by
  refine wpAny_call (enterC (binds := [("script", .ref sc)]) (m := upd (fun _ => none) "script" (.ref sc)) (cm := fun _ => none) (cs := lcs)
    (by lia) S T (S.1 62 _ rfl) rfl rfl (codeRec_of' S (by kernel_rfl)) rfl rfl (fun L => rfl) rfl rfl ?_)
  intro L h1 tk1 hk hL F
  have hG : Sub (hideAll h [16, 23, 30, 59]) (hideAll h [16, 23]) := fun b o e => by
    have hn : b ∉ ([16, 23, 30, 59] : List Addr) := fun hm => by rw [hideAll_none _ hm] at e; cases e
    simp only [List.mem_cons, List.not_mem_nil, or_false, not_or] at hn
    exact hideAll_get _ (of_hideAll _ e) (by simp [hn.1, hn.2.1])
  have big : 62 < L := Nat.lt_of_lt_of_le (Heap.lt_size (S.at 62 (by kernel_rfl))) hL
  have SG : Stat w (hideAll h [16, 23, 30, 59]) := by
    refine S.move fun a o x ea => hideAll_get _ ea ?_
    have := of_decide_eq_true (x.of (p := fun a => decide (a ≠ 16 ∧ a ≠ 23 ∧ a ≠ 30 ∧ a ≠ 59)) (by kernel_rfl))
    simp [this.1, this.2.1, this.2.2.1, this.2.2.2]
  have X : LX w (hideAll h [16, 23, 30, 59]) (hideAll h [16, 23, 30, 59]) L (upd (fun _ => none) "script" (.ref sc)) (fun _ => none) h1 :=
    ⟨F.down hG, Sub.refl _, SG, hk _ _ t30, hk _ _ t59, hideAll_none _ (by simp), hideAll_none _ (by simp), big⟩
  have hsmG : In sysModules (hideAll h [16, 23, 30, 59]) := let ⟨o, e⟩ := hsm.get; In.of (hideAll_get _ e (by decide))
  have hlG : (hideAll h [16, 23, 30, 59]).IsList sc vs.toArray := by
    obtain ⟨o, e, hc, n, hd⟩ := hl
    refine ⟨o, hideAll_get _ e ?_, hc, n, hd⟩
    simp only [List.mem_cons, List.not_mem_nil, or_false, not_or]
    refine ⟨T.t16.ne e (by rw [hd]; intro q h; cases h), T.t23.ne e (by rw [hd]; intro q h; cases h), ?_, ?_⟩
    · rintro rfl; rw [t30] at e; cases e; cases hd
    · rintro rfl; rw [t59] at e; cases e; cases hd
  have hhA : ∀ env, (A.deeper env).handled = none := fun _ => hh
  have hdA : ∀ env, (A.deeper env).depth + 150 < recursionLimit := fun env => by show A.depth + 1 + 150 < _; lia
  have huA : ∀ env, (A.deeper env).units + 100 < cLine := fun env => by show A.units + 3 + 100 < _; lia
  have hd9 : ∀ env, (A.deeper env).depth + 90 < recursionLimit := fun env => by have := hdA env; lia
  have hu9 : ∀ env, (A.deeper env).units + 10 < cLine := fun env => by have := huA env; lia
  refine law0 (hhA _) X rfl hlG hi hb fun tw h2 tk2 X2 => ?_
  refine law1 (hhA _) X2 rfl hlG hi hb fun tm h3 tk3 X3 => ?_
  refine law2 (hhA _) X3 rfl hlG hi hb fun V fv h4 tk4 s4 X4 hV => ?_
  refine law3 (tm := tm) (hhA _) X4 rfl rfl hV fun D ys fp h5 tk5 s5 X5 hD hR => ?_
  refine law4 (tw := tw) (hhA _) (hd9 _) X5 rfl rfl hD hR fun Nm us fn h6 tk6 s6 X6 hNm hus => ?_
  have hD6 := hD.at fun o e => s6 _ _ e
  have hR6 := hR.sub s6
  refine law5 (tw := tw) (hhA _) (hd9 _) (hu9 _) X6 rfl rfl rfl hD6 hR6 hNm hus fun f7 h7 tk7 s7 X7 => ?_
  have hD7 := hD6.at fun o e => s7 _ _ e
  have hR7 := hR6.sub s7
  have hNm7 := hNm.at fun o e => s7 _ _ e
  refine law6 (tw := tw) (tm := tm) (hhA _) (hd9 _) (hu9 _) X7 rfl rfl rfl rfl hD7 hR7 hNm7 hus fun f8 h8 tk8 s8 X8 => ?_
  have hD8 := hD7.at fun o e => s8 _ _ e
  have hR8 := hR7.sub s8
  have hNm8 := hNm7.at fun o e => s8 _ _ e
  refine law7 (hhA _) (hd9 _) X8 rfl hD8 hR8 fun Tg ts f9 h9 tk9 s9 X9 hTg Th => ?_
  have hNm9 := hNm8.at fun o e => s9 _ _ e
  refine law8 (tw := tw) (hhA _) (hd9 _) X9 rfl hsmG fun a N md mc f0 f1 f2 lam h10 tk10 X10 K10 NL => ?_
  refine law9 (hhA _) (hd9 _) X10 rfl rfl hNm9 hus hTg Th.len fun Du qs f11 h11 tk11 s11 X11 e11 hDu hst => ?_
  have K11 := K10.extB X10.F.tab X10.F.ns NL e11
  have hTg11 := hTg.at fun o e => s11 _ _ e
  have Th11 := Th.keeps s11
  have hNm11 := hNm9.at fun o e => s11 _ _ e
  refine law10 (hhA _) (hdA _) (huA _) X11 K11 rfl rfl rfl hTg11 Th11 hDu hst fun h12 tk12 X12 K12 => ?_
  refine law11 (hhA _) (hdA _) (huA _) X12 K12 rfl rfl rfl hTg11 Th11 hNm11 hus fun h13 tk13 X13 K13 => ?_
  refine law12 (hhA _) (hdA _) (huA _) X13 K13 rfl rfl rfl hTg11 Th11 hNm11 hus fun h14 tk14 X14 => ?_
  exact hQ h14 tk14 (X14.sub.trans X14.F.keep) X14.F.tab X14.t30 X14.t59
end Mine

end
section
open PySem PySem.W PyProof.Rows PySem.Calls
set_option Elab.async false
set_option linter.unusedVariables false
set_option maxRecDepth 100000
set_option pp.deepTerms false
set_option pp.maxSteps 1500
namespace Mine
/-- a table that has grown -/
theorem oldTab {h h' : Heap} {c P : Addr} {ps : Array Value} (C : CodeHd h c P) (e : h.get? P = some (tabObj #[])) (e' : h'.get? P = some (tabObj ps)) : asItWas h h' P (tabObj #[]) := by
  obtain ⟨o, vs, _, _, _, _, _, _, _, a1, a2, a3, a4, _⟩ := C
  exact .inr (.inl ⟨⟨c, o, vs, a1, a2, a3, a4⟩, rfl, #[], ps, rfl, by rw [e']; simp⟩)
theorem hd34 {w : World} {h : Heap} (S : Stat w h) : CodeHd h 34 30 := ⟨_, _, _, _, _, _, _, _, _, S.1 34 _ rfl, rfl, rfl, rfl, rfl, rfl, rfl, rfl, rfl, by decide⟩
theorem oldAll {w : World} {h h' : Heap} (S : Stat w h) (t16 : h.get? 16 = some (tabObj #[])) (t23 : h.get? 23 = some (tabObj #[])) (t30 : h.get? 30 = some (tabObj #[])) (t59 : h.get? 59 = some (tabObj #[]))
    (sub : Sub (hideAll h [16, 23, 30, 59]) h') (T : Tab h') (u30 : ∃ ps, h'.get? 30 = some (tabObj ps)) (u59 : ∃ ps, h'.get? 59 = some (tabObj ps)) : OldK h h' := by
  obtain ⟨p16, e16, _⟩ := T.t16
  obtain ⟨p23, e23, _⟩ := T.t23
  obtain ⟨p30, e30⟩ := u30
  obtain ⟨p59, e59⟩ := u59
  have key : ∀ b o, h.get? b = some o → asItWas h h' b o ∧ ∃ o', h'.get? b = some o' := by
    intro b o e
    by_cases c1 : b = 16
    · subst c1; rw [t16] at e; cases e; exact ⟨oldTab (hd20 S) t16 e16, _, e16⟩
    by_cases c2 : b = 23
    · subst c2; rw [t23] at e; cases e; exact ⟨oldTab (hd27 S) t23 e23, _, e23⟩
    by_cases c3 : b = 30
    · subst c3; rw [t30] at e; cases e; exact ⟨oldTab (hd34 S) t30 e30, _, e30⟩
    by_cases c4 : b = 59
    · subst c4; rw [t59] at e; cases e; exact ⟨oldTab (hd61 S) t59 e59, _, e59⟩
    have := sub b o (hideAll_get _ e (by simp [c1, c2, c3, c4]))
    exact ⟨.inl this, _, this⟩
  exact ⟨fun b o e => (key b o e).1, fun b o e => (key b o e).2⟩
theorem ns_unique {h : Heap} {a : Addr} {m m' : Str → Option Value} (x : h.Ns a m) (y : h.Ns a m') (s : Str) : m s = m' s := by
  obtain ⟨o, es, ep, e, hd, _, f⟩ := x
  obtain ⟨o', es', ep', e', hd', _, f'⟩ := y
  rw [e] at e'; cases e'
  rw [hd] at hd'; cases hd'
  rw [← f, ← f']
theorem gl_law (P : Params) : nsFind (es3 P) "law" = some (.ref 62) := by kernel_rfl
theorem gl_bi (P : Params) : nsFind (es3 P) "__builtins__" = some (.ref 4) := by kernel_rfl
end Mine
set_option maxHeartbeats 8000000 in
theorem PySem.Challenge.cw_mr0073_01_holds : PySem.Challenge.rw_mr0073_01.Holds := by
  refine Mine.hd ?_
  k_fill
  intro w s₀ s₁ mg mb G Y fa o pm cd doc dV kV ho hd hcd hD hmg hg args vals as hpre hlay hrd hwl hlo
  have KX := km_in_of Y
  have KT := km_tabs_of Y
  refine Ground.open G ?_
  intro T B D TE TW
  wrow_args hpre hlay hrd hwl hlo
  rename_i ns _ _ _ _ _ _ _ sc vs _ hL _ _ _ hI _ hlen _
  have S : Mine.Stat w s₁.heap := by
    obtain ⟨bm, ob, b1, b2, b3, b4, b5, b6⟩ := T.bmain
    have n3 : s₁.heap.Ns 3 (nsFind (Mine.es3 w.params)) := ⟨Mine.ob w.params 3, Mine.es3 w.params, 17, KX _ _ (by kernel_rfl), by kernel_rfl, Mine.strKeys_of (Mine.allStr3 _), fun _ => rfl⟩
    have e1 := Mine.ns_unique T.g n3 "__builtins__"
    rw [b1, Mine.gl_bi] at e1
    cases e1
    exact ⟨KX, ⟨mb, T.b, T.builtins⟩, ob, b3, b4, b5, b6⟩
  have efa : fa = 62 := by
    have e1 := Mine.ns_unique T.g S.ns3 "law"
    rw [Mine.gl_law] at e1
    have e2 := hmg.symm.trans e1
    exact Value.ref.inj (Option.some.inj e2)
  subst efa
  have t16 := KT 16 (by simp)
  have t23 := KT 23 (by simp)
  have t30 := KT 30 (by simp)
  have t59 := KT 59 (by simp)
  have Tb : Mine.Tab s₁.heap := ⟨⟨#[], t16, .inl rfl⟩, ⟨#[], t23, .inl rfl⟩⟩
  have hsm : Mine.In sysModules s₁.heap := by
    obtain ⟨mm, ⟨o, _, _, e, _⟩, _⟩ := (T.seer (by decide +kernel)).mods
    exact Mine.In.of e
  refine Mine.law_all (s₀ := s₁) (h := s₁.heap) (tk := s₁.toks) rfl (by decide) (by decide) S Tb t30 t59 hsm hL hI (by lia) fun h' tk' sub T' u30 u59 => ?_
  exact ⟨.inl ⟨_, _, [], rfl, fun _ => rfl, ReadsW.bool true, by first | rfl | wrow_post, fun _ => ⟨List.nodup_nil, fun _ hm => (nomatch hm)⟩⟩, Mine.oldAll S t16 t23 t30 t59 sub T' u30 u59, rfl, .of_eq hg⟩

end
